import Derived.Test.YtmlmiljgbaalgaaGreatDoorKm
import Derived.Test.YtmlmiljgbaalgaaGreatDoorKb
import Derived.Test.YtmlmiljgbaalgaaGreatDoorMw
set_option linter.unusedSimpArgs false
set_option linter.unusedVariables false
namespace Go.Sp
open Go.Km
set_option linter.unusedSimpArgs false
set_option linter.unusedVariables false
inductive Tr where
 | mk (n:Int) (s:Bs) (z:Bool) (l:List Tr) (u:Tg)
def Tr.n:Tr→Int | .mk n _ _ _ _=>n
def Tr.s:Tr→Bs | .mk _ s _ _ _=>s
def Tr.z:Tr→Bool | .mk _ _ z _ _=>z
def Tr.l:Tr→List Tr | .mk _ _ _ l _=>l
def Tr.u:Tr→Tg | .mk _ _ _ _ u=>u
def Tr.nil:Tr := .mk 0 [] false [] []
def Tr.at (t:Tr) (i:Nat):Tr:=t.l[i]?.getD .nil
inductive Fl where
 | nil
 | cons (kind frm to nul tag def' of:Int) (sub r:Fl)
def Fl.len:Fl→Nat
 | .nil=>0
 | .cons _ _ _ _ _ _ _ _ r=>r.len+1
def has (frm to ver:Int):Bool:=decide (frm≤ver) && (decide (to<0) || decide (ver≤to))
def can (nul ver:Int):Bool:=decide (0≤nul) && decide (nul≤ver)
def widthB (kind:Int):Nat:=if kind=1 then 1 else if kind=2∨kind=5 then 2 else if kind=3 then 4 else 8
def countB (flex null:Bool) (n size:Nat):Bs:=if null then wrNull flex size else wrLen flex size n
def tagAdd (k:Nat) (v:Bs):Tg→Tg
 | []=>[(k,v)]
 | (j,u)::r=>if k<j then (k,v)::(j,u)::r else if k=j then (j,u)::r else (j,u)::tagAdd k v r
def unkL (u:Tg):Tg:=(u.take 32767).foldl (fun acc p=>tagAdd (p.1%4294967296) p.2 acc) []
def tagLo (lo:Nat) (acc:Tg) (p:Nat×Bs):Tg:=if p.1%4294967296<lo then acc else tagAdd (p.1%4294967296) p.2 acc
def unkLn (lo:Nat) (u:Tg):Tg:=(u.take 32767).foldl (tagLo lo) []
theorem unkLn_zero (u:Tg):unkLn 0 u=unkL u:=by
 have:tagLo 0=fun acc p=>tagAdd (p.1%4294967296) p.2 acc:=by funext acc p;simp [tagLo]
 rw [unkLn,unkL,this]
def unkB (u:Tg):Tg:=(unkL u).map fun p=>(p.1,p.2.take 32767)
def octB (k:Nat) (flex null:Bool) (s:Bs):Bs:=
 countB flex null (if null then [] else s.take 32767).length k++(if null then [] else s.take 32767)
def valB (kind:Int) (pB:Tr→Bs) (null flex:Bool) (t:Tr):Bs:=
 if kind=0 then [if t.n%2=1 then 1 else 0]
 else if kind=7 then (t.s.take 16)++List.replicate (16 - t.s.length) 0
 else if kind=8 then octB 2 flex null t.s
 else if kind=9 then octB 4 flex null t.s
 else if kind=10 then pB t
 else wrI (widthB kind) t.n
def fieldB (kind nul of:Int) (pB:Tr→Bs) (ver:Int) (flex:Bool) (t:Tr):Bs:=
 if kind=11 then
  countB flex (t.z && can nul ver) (if t.z && can nul ver then [] else t.l.take 32767).length 4++((if t.z && can nul ver then [] else t.l.take 32767).map (valB of pB false flex)).flatten
 else if kind=10∧0≤nul then
  if t.z && can nul ver then [255] else 1::pB t
 else valB kind pB (t.z && can nul ver) flex t
def endB (flex:Bool) (t:Tr):Bs:=if flex then wrTags (unkB t.u) else []
def partFB (ver:Int) (flex:Bool):Fl→Tr→Nat→Bs
 | .nil,_,_=>[]
 | .cons kind frm to nul tag _ of sub r,t,i=>
  (if tag<0∧has frm to ver=true then fieldB kind nul of (fun t'=>partFB ver flex sub t' 0++endB flex t') ver flex (t.at i) else [])++partFB ver flex r t (i+1)
def partB (ver:Int) (flex:Bool) (fl:Fl) (t:Tr):Bs:=partFB ver flex fl t 0++endB flex t
def primK (flex:Bool) (kind:Int) (cn:Bool):Prim→Bool
 | .bool=>decide (kind=0) | .i8=>decide (kind=1) | .i16=>decide (kind=2) | .i32=>decide (kind=3) | .i64=>decide (kind=4) | .u16=>decide (kind=5) | .uuid=>decide (kind=7)
 | .str c=>decide (kind=8) && (c == flex) && !cn
 | .nstr c=>decide (kind=8) && (c == flex)
 | .byt c=>decide (kind=9) && (c == flex) && !cn
 | .nbyt c=>decide (kind=9) && (c == flex)
def fitE (flex:Bool) (of:Int) (g:Fs→Bool):Sh→Bool
 | .prim p=>primK flex of false p
 | .str fs=>decide (of=10) && g fs
 | _=>false
def fitS (ver:Int) (flex:Bool) (kind nul of:Int) (g:Fs→Bool):Sh→Bool
 | .prim p=>primK flex kind (can nul ver) p
 | .str fs=>decide (kind=10) && decide (nul<0) && g fs
 | .opt fs=>decide (kind=10) && decide (0≤nul) && g fs
 | .arr c _ e=>decide (kind=11) && (c == flex) && !(can nul ver) && fitE flex of g e
 | .narr c z _ e=>decide (kind=11) && (c == flex) && (!(can nul ver) || !z) && fitE flex of g e
def fitF (ver:Int) (flex:Bool):Fl→Fs→Bool
 | .nil,fs=>match fs with
  | .tags _=>flex
  | .nil => !flex
  | _=>false
 | .cons kind frm to nul tag _ of sub r,fs=>
  decide (tag<0) && (if has frm to ver then match fs with
   | .cons _ s fs'=>fitS ver flex kind nul of (fun fs''=>fitF ver flex sub fs'') s && fitF ver flex r fs'
   | _=>false
  else fitF ver flex r fs)
def convP (null:Bool) (t:Tr):Prim→PV
 | .bool => .b (decide (t.n%2=1))
 | .i8 => .i (sgn 8 (usn 8 t.n)) | .i16 => .i (sgn 16 (usn 16 t.n)) | .i32 => .i (sgn 32 (usn 32 t.n)) | .i64 => .i (sgn 64 (usn 64 t.n))
 | .u16 => .i (usn 16 t.n:Nat)
 | .uuid => .by ((t.s.take 16)++List.replicate (16 - t.s.length) 0)
 | .str _ | .byt _ => .by (t.s.take 32767)
 | .nstr _ | .nbyt _ => .o (if null then none else some (t.s.take 32767))
def convE (g:Fs→Tr→List Val) (t:Tr):Sh→Val
 | .prim p => .p (convP false t p)
 | .str fs => .l (g fs t)
 | _ => .l []
def convS (cn:Bool) (g:Fs→Tr→List Val) (t:Tr):Sh→Val
 | .prim p => .p (convP (t.z && cn) t p)
 | .str fs => .l (g fs t)
 | .opt fs => .n (if t.z && cn then none else some (g fs t))
 | .arr _ _ e => .l ((t.l.take 32767).map fun x=>convE g x e)
 | .narr _ _ _ e => .n (if t.z && cn then none else some ((t.l.take 32767).map fun x=>convE g x e))
def convF (ver:Int) (flex:Bool):Fl→Fs→Tr→Nat→List Val
 | .nil,fs,t,_=>match fs with
  | .tags _=>[.t (unkB t.u)]
  | _=>[]
 | .cons kind frm to nul tag _ of sub r,fs,t,i=>
  if has frm to ver then match fs with
   | .cons _ s fs'=>convS (can nul ver) (fun fs'' t'=>convF ver flex sub fs'' t' 0) (t.at i) s::convF ver flex r fs' t (i+1)
   | _=>[]
  else convF ver flex r fs t (i+1)
theorem tagAdd_mem {k:Nat} {v:Bs}:∀ {l:Tg} {p:Nat×Bs},p∈tagAdd k v l→p=(k,v)∨p∈l:=by
 intro l
 induction l with
 | nil=>intro p h;simp [tagAdd] at h;exact .inl h
 | cons x r ih=>
  intro p h
  obtain ⟨j,u⟩:=x
  simp only [tagAdd] at h
  split at h
  ·rcases List.mem_cons.1 h with h | h
   ·exact .inl h
   ·exact .inr h
  ·split at h
   ·exact .inr h
   ·rcases List.mem_cons.1 h with h | h
    ·exact .inr (by simp [h])
    ·rcases ih h with h | h
     ·exact .inl h
     ·exact .inr (by simp [h])
theorem tagAdd_sorted {k:Nat} {v:Bs}:∀ {l:Tg},l.Pairwise (·.1 < ·.1)→(tagAdd k v l).Pairwise (·.1 < ·.1):=by
 intro l
 induction l with
 | nil=>intro _;simp [tagAdd]
 | cons x r ih=>
  intro h
  obtain ⟨j,u⟩:=x
  rw [List.pairwise_cons] at h
  simp only [tagAdd]
  split
  ·rename_i hk
   rw [List.pairwise_cons,List.pairwise_cons]
   refine ⟨fun p hp => ?_,h.1,h.2⟩
   rcases List.mem_cons.1 hp with rfl | hp
   ·exact hk
   ·have:=h.1 p hp;(try dsimp only at *);omega
  ·split
   ·rw [List.pairwise_cons]
    exact ⟨h.1,h.2⟩
   ·rw [List.pairwise_cons]
    refine ⟨fun p hp => ?_,ih h.2⟩
    rcases tagAdd_mem hp with rfl | hp
    ·simp only;omega
    ·exact h.1 p hp
theorem tagAdd_length {k:Nat} {v:Bs}:∀ {l:Tg},(tagAdd k v l).length≤l.length+1:=by
 intro l
 induction l with
 | nil=>simp [tagAdd]
 | cons x r ih=>
  obtain ⟨j,u⟩:=x
  simp only [tagAdd]
  split
  ·simp
  ·split
   ·simp
   ·simp;exact ih
theorem foldAdd:∀ (u acc:Tg),acc.Pairwise (·.1 < ·.1)→(∀ p∈acc,p.1<4294967296) →
  ((u.foldl (fun acc p=>tagAdd (p.1%4294967296) p.2 acc) acc).Pairwise (·.1 < ·.1)∧(∀ p∈u.foldl (fun acc p=>tagAdd (p.1%4294967296) p.2 acc) acc,p.1<4294967296) ∧
    (u.foldl (fun acc p=>tagAdd (p.1%4294967296) p.2 acc) acc).length≤acc.length+u.length):=by
 intro u
 induction u with
 | nil=>intro acc h1 h2;exact ⟨h1,h2,by simp⟩
 | cons p u ih=>
  intro acc h1 h2
  have:=ih (tagAdd (p.1%4294967296) p.2 acc) (tagAdd_sorted h1) (fun q hq=>by
   rcases tagAdd_mem hq with rfl | hq
   ·exact Nat.mod_lt _ (by omega)
   ·exact h2 q hq)
  refine ⟨this.1,this.2.1,Nat.le_trans this.2.2 ?_⟩
  have := @tagAdd_length (p.1%4294967296) p.2 acc
  simp only [List.length_cons];omega
theorem unkL_ok (u:Tg):(unkL u).Pairwise (·.1 < ·.1)∧(∀ p∈unkL u,p.1<4294967296)∧(unkL u).length≤32767:=by
 have:=foldAdd (u.take 32767) [] (by simp) (by simp)
 refine ⟨this.1,this.2.1,Nat.le_trans this.2.2 ?_⟩
 simp only [List.length_nil,List.length_take];omega
theorem okTags_unkB (u:Tg):okTags (unkB u):=by
 obtain ⟨h1,h2,h3⟩:=unkL_ok u
 refine ⟨?_,?_,?_⟩
 ·unfold unkB
  rw [List.pairwise_map]
  exact h1.imp fun h=>h
 ·intro p hp
  unfold unkB at hp
  rw [List.mem_map] at hp
  obtain ⟨q,hq,rfl⟩:=hp
  refine ⟨h2 q hq,?_⟩
  simp only [List.length_take];omega
 ·unfold unkB
  rw [List.length_map];omega
theorem sgn_pow (k:Nat):(256:Nat)^k=2^(8*k):=by rw [show (256:Nat)=2^8 from rfl,← Nat.pow_mul]
theorem usn_lt (b:Nat) (i:Int):usn b i<2^b:=by
 unfold usn
 have hp:(0:Int)<2^b:=Int.pow_pos (by omega)
 have h:=Int.emod_lt_of_pos i hp
 have h0:=Int.emod_nonneg i (show (2:Int)^b≠0 by omega)
 have:((i%2^b).toNat:Int)<((2^b:Nat):Int):=by
  rw [Int.toNat_of_nonneg h0];simpa using h
 exact_mod_cast this
theorem usn_sgn (b:Nat) (i:Int):usn b (sgn b (usn b i))=usn b i:=by
 have hlt:=usn_lt b i
 have hp:((2^b:Nat):Int)=2^b:=by simp
 have hlt':(usn b i:Int)<2^b:=by rw [← hp];exact_mod_cast hlt
 have key:∀ n:Nat,(n:Int)<2^b→usn b (n:Int)=n:=by
  intro n hn
  unfold usn
  rw [Int.emod_eq_of_lt (by omega) hn];simp
 unfold sgn
 split
 ·exact key _ hlt'
 ·have:((usn b i:Int) - 2^b)%2^b=(usn b i:Int)%2^b:=by
   rw [Int.sub_emod,Int.emod_self,Int.sub_zero,Int.emod_emod]
  show ((((usn b i:Nat):Int) - 2^b)%2^b).toNat=usn b i
  rw [this]
  exact key _ hlt'
theorem wrI_sgn (k:Nat) (i:Int):wrI k (sgn (8*k) (usn (8*k) i))=wrI k i:=by
 unfold wrI
 rw [usn_sgn]
theorem sgn_ok (k:Nat) (hk:0<k) (i:Int) : -(2^(8*k - 1):Int)≤sgn (8*k) (usn (8*k) i)∧sgn (8*k) (usn (8*k) i)<2^(8*k - 1):=
 sgn_range k hk _ (by rw [sgn_pow];exact usn_lt _ _)
theorem valB_prim {flex null cn:Bool} {kind:Int} {p:Prim} (pB:Tr→Bs) (t:Tr) (h:primK flex kind cn p=true) (hn:null=true→cn=true) :
  valB kind pB null flex t=wrP p (convP null t p)∧okP p (convP null t p):=by
 cases p with
 | bool=>
  simp only [primK,decide_eq_true_eq] at h;subst h
  refine ⟨?_,trivial⟩
  simp only [valB,convP,wrP,if_true,decide_eq_true_eq]
 | i8=>
  simp only [primK,decide_eq_true_eq] at h;subst h
  refine ⟨?_,?_⟩
  ·simp only [valB,convP,wrP];exact (wrI_sgn 1 t.n).symm
  ·simpa [okP,convP] using sgn_ok 1 (by omega) t.n
 | i16=>
  simp only [primK,decide_eq_true_eq] at h;subst h
  refine ⟨?_,?_⟩
  ·simp only [valB,convP,wrP];exact (wrI_sgn 2 t.n).symm
  ·simpa [okP,convP] using sgn_ok 2 (by omega) t.n
 | i32=>
  simp only [primK,decide_eq_true_eq] at h;subst h
  refine ⟨?_,?_⟩
  ·simp only [valB,convP,wrP];exact (wrI_sgn 4 t.n).symm
  ·simpa [okP,convP] using sgn_ok 4 (by omega) t.n
 | i64=>
  simp only [primK,decide_eq_true_eq] at h;subst h
  refine ⟨?_,?_⟩
  ·simp only [valB,convP,wrP];exact (wrI_sgn 8 t.n).symm
  ·simpa [okP,convP] using sgn_ok 8 (by omega) t.n
 | u16=>
  simp only [primK,decide_eq_true_eq] at h;subst h
  refine ⟨?_,?_⟩
  ·simp only [valB,convP,wrP,Int.toNat_natCast];rfl
  ·have:=usn_lt 16 t.n
   simp only [okP,convP]
   omega
 | uuid=>
  simp only [primK,decide_eq_true_eq] at h;subst h
  refine ⟨?_,?_⟩
  ·simp [valB,convP,wrP]
  ·simp only [okP,convP,List.length_append,List.length_take,List.length_replicate];omega
 | str c=>
  simp only [primK,Bool.and_eq_true,decide_eq_true_eq,beq_iff_eq,Bool.not_eq_true'] at h
  obtain ⟨⟨rfl,rfl⟩,h3⟩:=h
  have hnull:null=false:=by
   cases null with
   | false=>rfl
   | true=>rw [hn rfl] at h3;cases h3
  subst hnull
  refine ⟨?_,?_⟩
  ·simp [valB,convP,wrP,octB,countB]
  ·simp only [okP,convP,List.length_take];omega
 | nstr c=>
  simp only [primK,Bool.and_eq_true,decide_eq_true_eq,beq_iff_eq] at h
  obtain ⟨rfl,rfl⟩:=h
  cases null with
  | true=>
   refine ⟨by simp [valB,convP,wrP,octB,countB],?_⟩
   simp only [okP,convP,if_true];intro l h;cases h
  | false=>
   refine ⟨by simp [valB,convP,wrP,octB,countB],?_⟩
   simp only [okP,convP,Bool.false_eq_true,if_false];intro l h;cases h
   simp only [List.length_take];omega
 | byt c=>
  simp only [primK,Bool.and_eq_true,decide_eq_true_eq,beq_iff_eq,Bool.not_eq_true'] at h
  obtain ⟨⟨rfl,rfl⟩,h3⟩:=h
  have hnull:null=false:=by
   cases null with
   | false=>rfl
   | true=>rw [hn rfl] at h3;cases h3
  subst hnull
  refine ⟨?_,?_⟩
  ·simp [valB,convP,wrP,octB,countB]
  ·simp only [okP,convP,List.length_take];omega
 | nbyt c=>
  simp only [primK,Bool.and_eq_true,decide_eq_true_eq,beq_iff_eq] at h
  obtain ⟨rfl,rfl⟩:=h
  cases null with
  | true=>
   refine ⟨by simp [valB,convP,wrP,octB,countB],?_⟩
   simp only [okP,convP,if_true];intro l h;cases h
  | false=>
   refine ⟨by simp [valB,convP,wrP,octB,countB],?_⟩
   simp only [okP,convP,Bool.false_eq_true,if_false];intro l h;cases h
   simp only [List.length_take];omega
theorem primK_kind {flex cn:Bool} {kind:Int} {p:Prim} (h:primK flex kind cn p=true):kind≠10∧kind≠11:=by
 cases p<;>simp only [primK,Bool.and_eq_true,decide_eq_true_eq] at h<;>omega
def PartIs (pB:Tr→Bs) (gF:Fs→Bool) (gC:Fs→Tr→List Val):Prop:=∀ fs t,gF fs=true→pB t=wrF fs (gC fs t)∧okF fs (gC fs t)
theorem fitE_ok {flex:Bool} {of:Int} {pB:Tr→Bs} {gF:Fs→Bool} {gC:Fs→Tr→List Val} (hp:PartIs pB gF gC) (e:Sh) (t:Tr) (h:fitE flex of gF e=true) :
  valB of pB false flex t=wr e (convE gC t e)∧ok e (convE gC t e):=by
 cases e with
 | prim p=>simpa only [wr,ok,convE] using valB_prim pB t h (fun h=>by cases h)
 | str fs=>
  simp only [fitE,Bool.and_eq_true,decide_eq_true_eq] at h
  obtain ⟨rfl,h⟩:=h
  simpa [valB,wr,ok,convE] using hp fs t h
 | arr c z e=>simp [fitE] at h
 | narr c z z' e=>simp [fitE] at h
 | opt fs=>simp [fitE] at h
theorem fitS_ok {ver:Int} {flex:Bool} {kind nul of:Int} {pB:Tr→Bs} {gF:Fs→Bool} {gC:Fs→Tr→List Val} (hp:PartIs pB gF gC) (s:Sh) (t:Tr) (h:fitS ver flex kind nul of gF s=true) :
  fieldB kind nul of pB ver flex t=wr s (convS (can nul ver) gC t s)∧ok s (convS (can nul ver) gC t s):=by
 have hlist:∀ (e:Sh),fitE flex of gF e=true→((t.l.take 32767).map (valB of pB false flex)).flatten=(((t.l.take 32767).map fun x=>convE gC x e).map (wr e)).flatten:=by
  intro e he
  congr 1
  rw [List.map_map]
  refine List.map_congr_left fun x _ => ?_
  exact (fitE_ok hp e x he).1
 cases s with
 | prim p=>
  have hk:=primK_kind h
  have:=valB_prim (null:=t.z && can nul ver) pB t h (fun h=>by simp only [Bool.and_eq_true] at h;exact h.2)
  simp only [wr,ok,convS]
  refine ⟨?_,this.2⟩
  rw [← this.1]
  unfold fieldB
  rw [if_neg hk.2,if_neg (fun h=>hk.1 h.1)]
 | str fs=>
  simp only [fitS,Bool.and_eq_true,decide_eq_true_eq] at h
  obtain ⟨⟨rfl,h1⟩,h⟩:=h
  have:=hp fs t h
  simp only [wr,ok,convS]
  refine ⟨?_,this.2⟩
  rw [← this.1]
  unfold fieldB
  rw [if_neg (by omega),if_neg (by omega)]
  simp [valB]
 | opt fs=>
  simp only [fitS,Bool.and_eq_true,decide_eq_true_eq] at h
  obtain ⟨⟨rfl,h1⟩,h⟩:=h
  have:=hp fs t h
  simp only [convS]
  unfold fieldB
  rw [if_neg (by omega),if_pos ⟨rfl,h1⟩]
  cases t.z && can nul ver with
  | true=>simp [wr,ok]
  | false=>simp [wr,ok,this.1,this.2]
 | arr c z e=>
  simp only [fitS,Bool.and_eq_true,decide_eq_true_eq,beq_iff_eq,Bool.not_eq_true'] at h
  obtain ⟨⟨⟨rfl,rfl⟩,h3⟩,h⟩:=h
  simp only [convS,wr,ok]
  unfold fieldB
  rw [if_pos rfl,h3,Bool.and_false]
  refine ⟨?_,?_,?_⟩
  ·rw [← hlist e h]
   simp [countB,wrCount]
  ·simp only [List.length_map,List.length_take];omega
  ·intro v hv
   rw [List.mem_map] at hv
   obtain ⟨x,_,rfl⟩:=hv
   exact (fitE_ok hp e x h).2
 | narr c z z' e=>
  simp only [fitS,Bool.and_eq_true,decide_eq_true_eq,beq_iff_eq,Bool.or_eq_true,Bool.not_eq_true'] at h
  obtain ⟨⟨⟨rfl,rfl⟩,h3⟩,h⟩:=h
  simp only [convS]
  unfold fieldB
  rw [if_pos rfl]
  cases hb:t.z && can nul ver with
  | true=>
   simp only [Bool.and_eq_true] at hb
   rcases h3 with h3 | h3
   ·rw [hb.2] at h3;cases h3
   ·simp [wr,ok,countB,h3]
  | false=>
   simp only [Bool.false_eq_true,if_false,wr,ok]
   refine ⟨?_,?_,?_⟩
   ·rw [← hlist e h]
    simp [countB,wrCount]
   ·simp only [List.length_map,List.length_take];omega
   ·intro v hv
    rw [List.mem_map] at hv
    obtain ⟨x,_,rfl⟩:=hv
    exact (fitE_ok hp e x h).2
theorem fitF_ok {ver:Int} {flex:Bool}:∀ (fl:Fl) (fs:Fs) (t:Tr) (i:Nat),fitF ver flex fl fs=true →
  partFB ver flex fl t i++endB flex t=wrF fs (convF ver flex fl fs t i)∧okF fs (convF ver flex fl fs t i):=by
 intro fl
 induction fl with
 | nil=>
  intro fs t i h
  cases fs with
  | nil=>simp only [fitF,Bool.not_eq_true'] at h;simp [partFB,endB,convF,wrF,okF,h]
  | tags o=>
   have h:flex=true:=h
   simp [partFB,endB,convF,wrF,okF,h,okTags_unkB]
  | cons o s r=>simp [fitF] at h
 | cons kind frm to nul tag def' of sub r ih1 ih2=>
  intro fs t i h
  simp only [fitF,Bool.and_eq_true,decide_eq_true_eq] at h
  obtain ⟨ht,h⟩:=h
  simp only [partFB,convF,ht,true_and]
  by_cases hh:has frm to ver=true
  ·simp only [hh,if_true] at h ⊢
   cases fs with
   | nil=>simp at h
   | tags o=>simp at h
   | cons o s fs'=>
    simp only [Bool.and_eq_true] at h
    have hp:PartIs (fun t'=>partFB ver flex sub t' 0++endB flex t') (fun fs''=>fitF ver flex sub fs'') (fun fs'' t'=>convF ver flex sub fs'' t' 0):=fun fs t h=>ih1 fs t 0 h
    have g:=fitS_ok hp s (t.at i) h.1
    have g2:=ih2 fs' t (i+1) h.2
    simp only [wrF,okF]
    refine ⟨?_,g.2,g2.2⟩
    rw [List.append_assoc,g2.1,g.1]
  ·simp only [hh,Bool.false_eq_true,if_false] at h ⊢
   rw [List.nil_append]
   exact ih2 fs t (i+1) h
theorem partB_wr {ver:Int} {flex:Bool} {fl:Fl} {fs:Fs} (h:fitF ver flex fl fs=true) (t:Tr):partB ver flex fl t=wrF fs (convF ver flex fl fs t 0)∧okF fs (convF ver flex fl fs t 0):=fitF_ok fl fs t 0 h
end Go.Sp
namespace Go.Sp
open Go.Lx Go.Nx
set_option linter.unusedVariables false
structure SI where
 e8:TypeId
 eT:TypeId
 atF:FuncId
 counted:FuncId
 fieldF:FuncId
 fixed:FuncId
 hasF:FuncId
 knownF:FuncId
 nullF:FuncId
 partF:FuncId
 things:FuncId
 unknown:FuncId
 usual:FuncId
 uvarint:FuncId
 valueF:FuncId
 whole:FuncId
 width:FuncId
 write:FuncId
 zzFits3:FuncId
 zzFits4:FuncId
def q_zzFits4 (I:SI):FnP:=⟨.op (.box 2) [.s 0] 1 <|
 .chk 1 <|
 .op .load [.q 1 1] 2 <|
 .op .len [.s 2] 3 <|
 .op (.bin .gtr) [.s 3,.k (.int .i64 2147483647)] 4 <|
 .ite (.s 4)
  (.ret [.k (.bool false)])
  (.nil) <|
 .ret [.k (.bool true)],[.direct]⟩
def q_zzFits3 (I:SI):FnP:=⟨.op .len [.s 0] 1 <|
 .op (.bin .gtr) [.s 1,.k (.int .i64 2147483647)] 2 <|
 .ite (.s 2)
  (.ret [.k (.bool false)])
  (.nil) <|
 .op .len [.s 0] 3 <|
 .set 4 (.k (.bool false)) <|
 .set 5 (.k (.int .i64 0)) <|
 .loop
  (.op (.bin .lss) [.s 5,.s 3] 6 <|
  .ite (.s 6)
   (.nil)
   (.exit) <|
  .op (.ia 2) [.s 0,.s 5] 7 <|
  .chk 7 <|
  .op (.loadN 2) [.q 7 0] 8 <|
  .op (.alloc [.int .u32 0,.slice none 0 0]) [] 9 <|
  .chk 9 <|
  .op (.store 2) [.q 9 0,.s 8] 10 <|
  .op (.loadN 2) [.q 9 0] 11 <|
  .op (.call I.zzFits4) [.s 11] 12 <|
  .op .not [.s 12] 13 <|
  .ite (.s 13)
   (.ret [.k (.bool false)])
   (.nil) <|
  .op (.bin .add) [.s 5,.k (.int .i64 1)] 14 <|
  .set 15 (.s 14) <|
  .set 5 (.s 15) <|
  .nil) <|
 .ret [.k (.bool true)],[.direct]⟩
def q_zzFits2 (I:SI):FnP:=⟨.op (.box 5) [.s 0] 1 <|
 .chk 1 <|
 .op .load [.q 1 1] 2 <|
 .op .len [.s 2] 3 <|
 .op (.bin .gtr) [.s 3,.k (.int .i64 2147483647)] 4 <|
 .ite (.s 4)
  (.ret [.k (.bool false)])
  (.nil) <|
 .op .load [.q 1 3] 5 <|
 .op .len [.s 5] 6 <|
 .op (.bin .gtr) [.s 6,.k (.int .i64 2147483647)] 7 <|
 .ite (.s 7)
  (.ret [.k (.bool false)])
  (.nil) <|
 .op .load [.q 1 4] 8 <|
 .op (.call I.zzFits3) [.s 8] 9 <|
 .op .not [.s 9] 10 <|
 .ite (.s 10)
  (.ret [.k (.bool false)])
  (.nil) <|
 .ret [.k (.bool true)],[.direct]⟩
def q_has (I:SI):FnP:=⟨.op (.box 8) [.s 0] 2 <|
 .chk 2 <|
 .op .load [.q 2 1] 3 <|
 .op (.bin .leq) [.s 3,.s 1] 4 <|
 .ite (.s 4)
  (.op .load [.q 2 2] 5 <|
  .op (.bin .lss) [.s 5,.k (.int .i64 0)] 6 <|
  .ite (.s 6)
   (.set 9 (.k (.bool true)) <|
   .set 10 (.k (.tuple #[])) <|
   .set 11 (.k (.tuple #[])) <|
   .set 12 (.k (.tuple #[])) <|
   .set 13 (.k (.tuple #[])) <|
   .set 14 (.k (.bool true)) <|
   .set 15 (.k (.bool true)) <|
   .set 16 (.k (.bool true)) <|
   .nil)
   (.op .load [.q 2 2] 7 <|
   .op (.bin .leq) [.s 1,.s 7] 8 <|
   .set 9 (.k (.bool false)) <|
   .set 10 (.s 1) <|
   .set 11 (.q 2 2) <|
   .set 12 (.s 7) <|
   .set 13 (.s 8) <|
   .set 14 (.s 8) <|
   .set 15 (.s 8) <|
   .set 16 (.s 8) <|
   .nil) <|
  .set 17 (.k (.bool true)) <|
  .set 18 (.q 2 2) <|
  .set 19 (.s 5) <|
  .set 20 (.s 6) <|
  .set 21 (.s 9) <|
  .set 22 (.s 10) <|
  .set 23 (.s 11) <|
  .set 24 (.s 12) <|
  .set 25 (.s 13) <|
  .set 26 (.s 14) <|
  .set 27 (.s 15) <|
  .set 28 (.s 16) <|
  .nil)
  (.set 17 (.k (.bool false)) <|
  .set 18 (.k (.tuple #[])) <|
  .set 19 (.k (.tuple #[])) <|
  .set 20 (.k (.tuple #[])) <|
  .set 21 (.k (.tuple #[])) <|
  .set 22 (.k (.tuple #[])) <|
  .set 23 (.k (.tuple #[])) <|
  .set 24 (.k (.tuple #[])) <|
  .set 25 (.k (.tuple #[])) <|
  .set 26 (.k (.tuple #[])) <|
  .set 27 (.k (.bool false)) <|
  .set 28 (.k (.bool false)) <|
  .nil) <|
 .ret [.s 28],[.direct]⟩
def q_null (I:SI):FnP:=⟨.op (.box 8) [.s 0] 3 <|
 .chk 3 <|
 .op (.box 5) [.s 2] 4 <|
 .chk 4 <|
 .op .load [.q 4 2] 5 <|
 .ite (.s 5)
  (.set 6 (.q 3 3) <|
  .nil)
  (.set 6 (.k (.tuple #[])) <|
  .nil) <|
 .ite (.s 5)
  (.op .load [.s 6] 7 <|
  .set 8 (.s 7) <|
  .nil)
  (.set 8 (.k (.tuple #[])) <|
  .nil) <|
 .ite (.s 5)
  (.op (.bin .geq) [.s 8,.k (.int .i64 0)] 9 <|
  .set 10 (.s 9) <|
  .nil)
  (.set 10 (.k (.tuple #[])) <|
  .nil) <|
 .ite (.s 5)
  (.set 11 (.s 10) <|
  .nil)
  (.set 11 (.k (.bool false)) <|
  .nil) <|
 .ite (.s 11)
  (.set 12 (.s 1) <|
  .nil)
  (.set 12 (.k (.tuple #[])) <|
  .nil) <|
 .ite (.s 11)
  (.set 13 (.q 3 3) <|
  .nil)
  (.set 13 (.k (.tuple #[])) <|
  .nil) <|
 .ite (.s 11)
  (.op .load [.s 13] 14 <|
  .set 15 (.s 14) <|
  .nil)
  (.set 15 (.k (.tuple #[])) <|
  .nil) <|
 .ite (.s 11)
  (.op (.bin .geq) [.s 12,.s 15] 16 <|
  .set 17 (.s 16) <|
  .nil)
  (.set 17 (.k (.tuple #[])) <|
  .nil) <|
 .ite (.s 11)
  (.set 18 (.s 17) <|
  .nil)
  (.set 18 (.k (.bool false)) <|
  .nil) <|
 .ret [.s 18],[.direct]⟩
def q_at (I:SI):FnP:=⟨.op (.box 5) [.s 0] 2 <|
 .chk 2 <|
 .op (.alloc [.int .i64 0,.slice none 0 0,.bool false,.slice none 0 0,.slice none 0 0]) [] 3 <|
 .chk 3 <|
 .op .load [.q 2 3] 4 <|
 .op .len [.s 4] 5 <|
 .op (.bin .lss) [.s 1,.s 5] 6 <|
 .ite (.s 6)
  (.op .load [.q 2 3] 7 <|
  .op (.ia 5) [.s 7,.s 1] 8 <|
  .chk 8 <|
  .op (.loadN 5) [.q 8 0] 9 <|
  .op (.store 5) [.q 3 0,.s 9] 10 <|
  .ret [.q 3 0])
  (.nil) <|
 .op (.lit [.int .i64 0,.slice none 0 0,.bool false,.slice none 0 0,.slice none 0 0] []) [] 11 <|
 .op (.store 5) [.q 3 0,.s 11] 12 <|
 .ret [.q 3 0],[.cells 5]⟩
def q_whole (I:SI):FnP:=⟨.op .len [.s 0] 1 <|
 .op (.mm false) [.s 1,.k (.int .i64 32767)] 2 <|
 .op (.sl 1 false true false) [.s 0,.s 2] 3 <|
 .ret [.s 3],[.direct]⟩
def q_things (I:SI):FnP:=⟨.op .len [.s 0] 1 <|
 .op (.mm false) [.s 1,.k (.int .i64 32767)] 2 <|
 .op (.sl 5 false true false) [.s 0,.s 2] 3 <|
 .ret [.s 3],[.direct]⟩
def q_width (I:SI):FnP:=⟨.op (.bin .eql) [.s 0,.k (.int .i64 1)] 1 <|
 .ite (.s 1)
  (.ret [.k (.int .i64 1)])
  (.op (.bin .eql) [.s 0,.k (.int .i64 2)] 2 <|
  .ite (.s 2)
   (.set 4 (.s 2) <|
   .nil)
   (.op (.bin .eql) [.s 0,.k (.int .i64 5)] 3 <|
   .set 4 (.s 3) <|
   .nil) <|
  .ite (.s 4)
   (.ret [.k (.int .i64 2)])
   (.op (.bin .eql) [.s 0,.k (.int .i64 3)] 5 <|
   .ite (.s 5)
    (.ret [.k (.int .i64 4)])
    (.nil) <|
   .nil) <|
  .nil) <|
 .ret [.k (.int .i64 8)],[.direct]⟩
def q_fixed (I:SI):FnP:=⟨.op (.bin .sub) [.s 1,.k (.int .i64 1)] 2 <|
 .set 3 (.k (.slice none 0 0)) <|
 .set 4 (.s 2) <|
 .loop
  (.op (.bin .geq) [.s 4,.k (.int .i64 0)] 5 <|
  .ite (.s 5)
   (.nil)
   (.exit) <|
  .op (.bin .mul) [.k (.int .i64 8),.s 4] 6 <|
  .op (.sh .shr) [.s 0,.s 6] 7 <|
  .op (.cv .u8) [.s 7] 8 <|
  .op (.bsl I.e8) [.s 8] 9 <|
  .op (.app I.e8) [.s 3,.s 9] 10 <|
  .op (.bin .sub) [.s 4,.k (.int .i64 1)] 11 <|
  .set 12 (.s 10) <|
  .set 13 (.s 11) <|
  .set 3 (.s 12) <|
  .set 4 (.s 13) <|
  .nil) <|
 .ret [.s 3],[.direct]⟩
def q_uvarint (I:SI):FnP:=⟨.set 1 (.k (.slice none 0 0)) <|
 .set 2 (.s 0) <|
 .loop
  (.op (.bin .gtr) [.s 2,.k (.int .u64 127)] 3 <|
  .ite (.s 3)
   (.nil)
   (.exit) <|
  .op (.bin .and) [.s 2,.k (.int .u64 127)] 4 <|
  .op (.cv .u8) [.s 4] 5 <|
  .op (.bin .or) [.s 5,.k (.int .u8 128)] 6 <|
  .op (.bsl I.e8) [.s 6] 7 <|
  .op (.app I.e8) [.s 1,.s 7] 8 <|
  .op (.sh .shr) [.s 2,.k (.int .u64 7)] 9 <|
  .set 10 (.s 8) <|
  .set 11 (.s 9) <|
  .set 1 (.s 10) <|
  .set 2 (.s 11) <|
  .nil) <|
 .op (.cv .u8) [.s 2] 12 <|
 .op (.bsl I.e8) [.s 12] 13 <|
 .op (.app I.e8) [.s 1,.s 13] 14 <|
 .ret [.s 14],[.direct]⟩
def q_counted (I:SI):FnP:=⟨.ite (.s 0)
  (.set 4 (.s 1) <|
  .nil)
  (.set 4 (.k (.tuple #[])) <|
  .nil) <|
 .ite (.s 0)
  (.set 5 (.s 4) <|
  .nil)
  (.set 5 (.k (.bool false)) <|
  .nil) <|
 .ite (.s 5)
  (.op (.bsl I.e8) [.k (.int .u8 0)] 6 <|
  .ret [.s 6])
  (.ite (.s 0)
   (.op (.cv .u64) [.s 2] 7 <|
   .op (.bin .add) [.s 7,.k (.int .u64 1)] 8 <|
   .op (.call I.uvarint) [.s 8] 9 <|
   .ret [.s 9])
   (.ite (.s 1)
    (.op (.call I.fixed) [.k (.int .i64 (-1)),.s 3] 10 <|
    .ret [.s 10])
    (.nil) <|
   .nil) <|
  .nil) <|
 .op (.call I.fixed) [.s 2,.s 3] 11 <|
 .ret [.s 11],[.direct]⟩
def q_known (I:SI):FnP:=⟨.op .len [.s 0] 1 <|
 .set 2 (.k (.int .u32 0)) <|
 .set 3 (.k (.int .i64 0)) <|
 .loop
  (.op (.bin .lss) [.s 3,.s 1] 4 <|
  .ite (.s 4)
   (.nil)
   (.exit) <|
  .op (.ia 8) [.s 0,.s 3] 5 <|
  .chk 5 <|
  .op (.loadN 8) [.q 5 0] 6 <|
  .op (.alloc [.int .i64 0,.int .i64 0,.int .i64 0,.int .i64 0,.int .i64 0,.int .i64 0,.int .i64 0,.slice none 0 0]) [] 7 <|
  .chk 7 <|
  .op (.store 8) [.q 7 0,.s 6] 8 <|
  .op .load [.q 7 4] 9 <|
  .op (.bin .geq) [.s 9,.k (.int .i64 0)] 10 <|
  .ite (.s 10)
   (.op .load [.q 7 4] 11 <|
   .op (.cv .u32) [.s 11] 12 <|
   .op (.bin .add) [.s 12,.k (.int .u32 1)] 13 <|
   .op (.mm true) [.s 2,.s 13] 14 <|
   .set 15 (.s 14) <|
   .nil)
   (.set 15 (.s 2) <|
   .nil) <|
  .op (.bin .add) [.s 3,.k (.int .i64 1)] 16 <|
  .set 17 (.s 15) <|
  .set 18 (.s 16) <|
  .set 2 (.s 17) <|
  .set 3 (.s 18) <|
  .nil) <|
 .ret [.s 2],[.direct]⟩
def q_unknown (I:SI):FnP:=⟨.op (.call I.knownF) [.s 0] 2 <|
 .op .len [.s 1] 3 <|
 .op (.mm false) [.s 3,.k (.int .i64 32767)] 4 <|
 .op (.sl 2 false true false) [.s 1,.s 4] 5 <|
 .op .len [.s 5] 6 <|
 .set 7 (.k (.slice none 0 0)) <|
 .set 8 (.k (.int .i64 0)) <|
 .loop
  (.op (.bin .lss) [.s 8,.s 6] 9 <|
  .ite (.s 9)
   (.nil)
   (.exit) <|
  .op (.ia 2) [.s 5,.s 8] 10 <|
  .chk 10 <|
  .op (.loadN 2) [.q 10 0] 11 <|
  .op (.alloc [.int .u32 0,.slice none 0 0]) [] 12 <|
  .chk 12 <|
  .op (.store 2) [.q 12 0,.s 11] 13 <|
  .set 14 (.k (.int .i64 0)) <|
  .loop
   (.draw <|
   .look .len [.s 7] 15 <|
   .look (.bin .lss) [.s 14,.s 15] 16 <|
   .ite (.s 16)
    (.look (.ia 2) [.s 7,.s 14] 17 <|
    .chk 17 <|
    .look .load [.q 17 0] 18 <|
    .look .load [.q 12 0] 19 <|
    .look (.bin .lss) [.s 18,.s 19] 20 <|
    .set 21 (.k (.bool true)) <|
    .set 22 (.s 7) <|
    .set 23 (.s 14) <|
    .set 24 (.q 17 0) <|
    .set 25 (.q 17 0) <|
    .set 26 (.s 18) <|
    .set 27 (.q 12 0) <|
    .set 28 (.s 19) <|
    .set 29 (.s 20) <|
    .set 30 (.s 20) <|
    .nil)
    (.set 21 (.k (.bool false)) <|
    .set 22 (.k (.tuple #[])) <|
    .set 23 (.k (.tuple #[])) <|
    .set 24 (.k (.tuple #[])) <|
    .set 25 (.k (.tuple #[])) <|
    .set 26 (.k (.tuple #[])) <|
    .set 27 (.k (.tuple #[])) <|
    .set 28 (.k (.tuple #[])) <|
    .set 29 (.k (.tuple #[])) <|
    .set 30 (.k (.bool false)) <|
    .nil) <|
   .ite (.s 30)
    (.nil)
    (.exit) <|
   .op (.bin .add) [.s 14,.k (.int .i64 1)] 31 <|
   .set 32 (.s 31) <|
   .set 14 (.s 32) <|
   .nil) <|
  .draw <|
  .look .load [.q 12 0] 33 <|
  .look (.bin .lss) [.s 33,.s 2] 34 <|
  .ite (.s 34)
   (.set 52 (.k (.bool true)) <|
   .set 53 (.k (.tuple #[])) <|
   .set 54 (.k (.tuple #[])) <|
   .set 55 (.k (.tuple #[])) <|
   .set 56 (.k (.tuple #[])) <|
   .set 57 (.k (.tuple #[])) <|
   .set 58 (.k (.tuple #[])) <|
   .set 59 (.k (.tuple #[])) <|
   .set 60 (.k (.tuple #[])) <|
   .set 61 (.k (.tuple #[])) <|
   .set 62 (.k (.tuple #[])) <|
   .set 63 (.k (.tuple #[])) <|
   .set 64 (.k (.tuple #[])) <|
   .set 65 (.k (.tuple #[])) <|
   .set 66 (.k (.tuple #[])) <|
   .set 67 (.k (.bool true)) <|
   .nil)
   (.look .len [.s 7] 35 <|
   .look (.bin .lss) [.s 14,.s 35] 36 <|
   .ite (.s 36)
    (.look (.ia 2) [.s 7,.s 14] 37 <|
    .chk 37 <|
    .look .load [.q 37 0] 38 <|
    .look .load [.q 12 0] 39 <|
    .look (.bin .eql) [.s 38,.s 39] 40 <|
    .set 41 (.k (.bool true)) <|
    .set 42 (.s 7) <|
    .set 43 (.s 14) <|
    .set 44 (.q 37 0) <|
    .set 45 (.q 37 0) <|
    .set 46 (.s 38) <|
    .set 47 (.q 12 0) <|
    .set 48 (.s 39) <|
    .set 49 (.s 40) <|
    .set 50 (.s 40) <|
    .set 51 (.s 40) <|
    .nil)
    (.set 41 (.k (.bool false)) <|
    .set 42 (.k (.tuple #[])) <|
    .set 43 (.k (.tuple #[])) <|
    .set 44 (.k (.tuple #[])) <|
    .set 45 (.k (.tuple #[])) <|
    .set 46 (.k (.tuple #[])) <|
    .set 47 (.k (.tuple #[])) <|
    .set 48 (.k (.tuple #[])) <|
    .set 49 (.k (.tuple #[])) <|
    .set 50 (.k (.bool false)) <|
    .set 51 (.k (.bool false)) <|
    .nil) <|
   .set 52 (.k (.bool false)) <|
   .set 53 (.s 14) <|
   .set 54 (.s 7) <|
   .set 55 (.s 35) <|
   .set 56 (.s 36) <|
   .set 57 (.s 41) <|
   .set 58 (.s 42) <|
   .set 59 (.s 43) <|
   .set 60 (.s 44) <|
   .set 61 (.s 45) <|
   .set 62 (.s 46) <|
   .set 63 (.s 47) <|
   .set 64 (.s 48) <|
   .set 65 (.s 49) <|
   .set 66 (.s 50) <|
   .set 67 (.s 51) <|
   .nil) <|
  .ite (.s 67)
   (.set 85 (.s 7) <|
   .nil)
   (.op (.lit [.int .u32 0,.slice none 0 0] []) [] 68 <|
   .op (.bslG 2) [.s 68] 69 <|
   .op (.appG I.eT 2) [.s 7,.s 69] 70 <|
   .op .len [.s 70] 71 <|
   .op (.bin .sub) [.s 71,.k (.int .i64 1)] 72 <|
   .set 73 (.s 72) <|
   .loop
    (.op (.bin .gtr) [.s 73,.s 14] 74 <|
    .ite (.s 74)
     (.nil)
     (.exit) <|
    .op (.bin .sub) [.s 73,.k (.int .i64 1)] 75 <|
    .op (.ia 2) [.s 70,.s 75] 76 <|
    .chk 76 <|
    .op (.loadN 2) [.q 76 0] 77 <|
    .op (.ia 2) [.s 70,.s 73] 78 <|
    .chk 78 <|
    .op (.store 2) [.q 78 0,.s 77] 79 <|
    .op (.bin .sub) [.s 73,.k (.int .i64 1)] 80 <|
    .set 81 (.s 80) <|
    .set 73 (.s 81) <|
    .nil) <|
   .op (.loadN 2) [.q 12 0] 82 <|
   .op (.ia 2) [.s 70,.s 14] 83 <|
   .chk 83 <|
   .op (.store 2) [.q 83 0,.s 82] 84 <|
   .set 85 (.s 70) <|
   .nil) <|
  .op (.bin .add) [.s 8,.k (.int .i64 1)] 86 <|
  .set 87 (.s 85) <|
  .set 88 (.s 86) <|
  .set 7 (.s 87) <|
  .set 8 (.s 88) <|
  .nil) <|
 .ret [.s 7],[.direct]⟩
def q_value (I:SI):FnP:=⟨.op (.box 5) [.s 5] 6 <|
 .chk 6 <|
 .op (.bin .eql) [.s 0,.k (.int .i64 0)] 7 <|
 .ite (.s 7)
  (.op .load [.q 6 0] 8 <|
  .op (.bin .and) [.s 8,.k (.int .i64 1)] 9 <|
  .op (.cv .u8) [.s 9] 10 <|
  .op (.bsl I.e8) [.s 10] 11 <|
  .ret [.s 11])
  (.op (.bin .eql) [.s 0,.k (.int .i64 7)] 12 <|
  .ite (.s 12)
   (.op (.mk I.e8 [.int .u8 0]) [.k (.int .i64 16),.k (.int .i64 16)] 13 <|
   .op .load [.q 6 1] 14 <|
   .op .cpy [.s 13,.s 14] 15 <|
   .ret [.s 13])
   (.op (.bin .eql) [.s 0,.k (.int .i64 8)] 16 <|
   .ite (.s 16)
    (.op .load [.q 6 1] 17 <|
    .op (.call I.whole) [.s 17] 18 <|
    .ite (.s 2)
     (.set 19 (.k (.slice none 0 0)) <|
     .nil)
     (.set 19 (.s 18) <|
     .nil) <|
    .op .len [.s 19] 20 <|
    .op (.call I.counted) [.s 4,.s 2,.s 20,.k (.int .i64 2)] 21 <|
    .op (.app I.e8) [.s 21,.s 19] 22 <|
    .ret [.s 22])
    (.op (.bin .eql) [.s 0,.k (.int .i64 9)] 23 <|
    .ite (.s 23)
     (.op .load [.q 6 1] 24 <|
     .op (.call I.whole) [.s 24] 25 <|
     .ite (.s 2)
      (.set 26 (.k (.slice none 0 0)) <|
      .nil)
      (.set 26 (.s 25) <|
      .nil) <|
     .op .len [.s 26] 27 <|
     .op (.call I.counted) [.s 4,.s 2,.s 27,.k (.int .i64 4)] 28 <|
     .op (.app I.e8) [.s 28,.s 26] 29 <|
     .ret [.s 29])
     (.op (.bin .eql) [.s 0,.k (.int .i64 10)] 30 <|
     .ite (.s 30)
      (.op (.loadN 5) [.q 6 0] 31 <|
      .op (.call I.partF) [.s 1,.s 3,.s 4,.s 31] 32 <|
      .ret [.s 32])
      (.nil) <|
     .nil) <|
    .nil) <|
   .nil) <|
  .nil) <|
 .draw <|
 .look .load [.q 6 0] 33 <|
 .op (.call I.width) [.s 0] 34 <|
 .keep .load [.q 6 0] 33 <|
 .op (.call I.fixed) [.s 33,.s 34] 35 <|
 .keep .load [.q 6 0] 33 <|
 .ret [.s 35],[.direct]⟩
def q_field (I:SI):FnP:=⟨.op (.box 8) [.s 0] 4 <|
 .chk 4 <|
 .op (.box 5) [.s 3] 5 <|
 .chk 5 <|
 .op (.loadN 8) [.q 4 0] 6 <|
 .op (.loadN 5) [.q 5 0] 7 <|
 .op (.call I.nullF) [.s 6,.s 1,.s 7] 8 <|
 .op .load [.q 4 0] 9 <|
 .op (.bin .eql) [.s 9,.k (.int .i64 11)] 10 <|
 .ite (.s 10)
  (.op .load [.q 5 3] 11 <|
  .op (.call I.things) [.s 11] 12 <|
  .ite (.s 8)
   (.set 13 (.k (.slice none 0 0)) <|
   .nil)
   (.set 13 (.s 12) <|
   .nil) <|
  .op .len [.s 13] 14 <|
  .op (.call I.counted) [.s 2,.s 8,.s 14,.k (.int .i64 4)] 15 <|
  .op .len [.s 13] 16 <|
  .set 17 (.s 15) <|
  .set 18 (.k (.int .i64 0)) <|
  .loop
   (.op (.bin .lss) [.s 18,.s 16] 19 <|
   .ite (.s 19)
    (.nil)
    (.exit) <|
   .draw <|
   .look .load [.q 4 6] 20 <|
   .look .load [.q 4 7] 21 <|
   .look (.ia 5) [.s 13,.s 18] 22 <|
   .chk 22 <|
   .look (.loadN 5) [.q 22 0] 23 <|
   .op (.call I.valueF) [.s 20,.s 21,.k (.bool false),.s 1,.s 2,.s 23] 24 <|
   .keep (.loadN 5) [.q 22 0] 23 <|
   .keep (.ia 5) [.s 13,.s 18] 22 <|
   .keep .load [.q 4 7] 21 <|
   .keep .load [.q 4 6] 20 <|
   .op (.app I.e8) [.s 17,.s 24] 25 <|
   .keep (.loadN 5) [.q 22 0] 23 <|
   .keep (.ia 5) [.s 13,.s 18] 22 <|
   .keep .load [.q 4 7] 21 <|
   .keep .load [.q 4 6] 20 <|
   .op (.bin .add) [.s 18,.k (.int .i64 1)] 26 <|
   .set 27 (.s 25) <|
   .set 28 (.s 26) <|
   .set 17 (.s 27) <|
   .set 18 (.s 28) <|
   .nil) <|
  .ret [.s 17])
  (.nil) <|
 .op .load [.q 4 0] 29 <|
 .op (.bin .eql) [.s 29,.k (.int .i64 10)] 30 <|
 .ite (.s 30)
  (.set 31 (.q 4 3) <|
  .nil)
  (.set 31 (.k (.tuple #[])) <|
  .nil) <|
 .ite (.s 30)
  (.op .load [.s 31] 32 <|
  .set 33 (.s 32) <|
  .nil)
  (.set 33 (.k (.tuple #[])) <|
  .nil) <|
 .ite (.s 30)
  (.op (.bin .geq) [.s 33,.k (.int .i64 0)] 34 <|
  .set 35 (.s 34) <|
  .nil)
  (.set 35 (.k (.tuple #[])) <|
  .nil) <|
 .ite (.s 30)
  (.set 36 (.s 35) <|
  .nil)
  (.set 36 (.k (.bool false)) <|
  .nil) <|
 .ite (.s 36)
  (.ite (.s 8)
   (.op (.call I.fixed) [.k (.int .i64 (-1)),.k (.int .i64 1)] 37 <|
   .ret [.s 37])
   (.nil) <|
  .draw <|
  .look .load [.q 4 7] 38 <|
  .look (.loadN 5) [.q 5 0] 39 <|
  .op (.call I.fixed) [.k (.int .i64 1),.k (.int .i64 1)] 40 <|
  .keep (.loadN 5) [.q 5 0] 39 <|
  .keep .load [.q 4 7] 38 <|
  .op (.call I.partF) [.s 38,.s 1,.s 2,.s 39] 41 <|
  .keep (.loadN 5) [.q 5 0] 39 <|
  .keep .load [.q 4 7] 38 <|
  .op (.app I.e8) [.s 40,.s 41] 42 <|
  .keep (.loadN 5) [.q 5 0] 39 <|
  .keep .load [.q 4 7] 38 <|
  .ret [.s 42])
  (.nil) <|
 .op .load [.q 4 0] 43 <|
 .op .load [.q 4 7] 44 <|
 .op (.loadN 5) [.q 5 0] 45 <|
 .op (.call I.valueF) [.s 43,.s 44,.s 8,.s 1,.s 2,.s 45] 46 <|
 .ret [.s 46],[.direct]⟩
def q_part (I:SI):FnP:=⟨.op (.box 5) [.s 3] 4 <|
 .chk 4 <|
 .op .len [.s 0] 5 <|
 .set 6 (.k (.slice none 0 0)) <|
 .set 7 (.k (.int .i64 0)) <|
 .loop
  (.op (.bin .lss) [.s 7,.s 5] 8 <|
  .ite (.s 8)
   (.nil)
   (.exit) <|
  .op (.ia 8) [.s 0,.s 7] 9 <|
  .chk 9 <|
  .op (.loadN 8) [.q 9 0] 10 <|
  .op (.alloc [.int .i64 0,.int .i64 0,.int .i64 0,.int .i64 0,.int .i64 0,.int .i64 0,.int .i64 0,.slice none 0 0]) [] 11 <|
  .chk 11 <|
  .op (.store 8) [.q 11 0,.s 10] 12 <|
  .op .load [.q 11 4] 13 <|
  .op (.bin .lss) [.s 13,.k (.int .i64 0)] 14 <|
  .ite (.s 14)
   (.op (.loadN 8) [.q 11 0] 15 <|
   .set 16 (.s 15) <|
   .nil)
   (.set 16 (.k (.tuple #[])) <|
   .nil) <|
  .ite (.s 14)
   (.set 17 (.s 1) <|
   .nil)
   (.set 17 (.k (.tuple #[])) <|
   .nil) <|
  .ite (.s 14)
   (.op (.call I.hasF) [.s 16,.s 17] 18 <|
   .set 19 (.s 18) <|
   .nil)
   (.set 19 (.k (.tuple #[])) <|
   .nil) <|
  .ite (.s 14)
   (.set 20 (.s 19) <|
   .nil)
   (.set 20 (.k (.bool false)) <|
   .nil) <|
  .ite (.s 20)
   (.draw <|
   .look (.loadN 8) [.q 11 0] 21 <|
   .look (.loadN 5) [.q 4 0] 22 <|
   .op (.call I.atF) [.s 22,.s 7] 23 <|
   .keep (.loadN 5) [.q 4 0] 22 <|
   .keep (.loadN 8) [.q 11 0] 21 <|
   .op (.call I.fieldF) [.s 21,.s 1,.s 2,.s 23] 24 <|
   .keep (.loadN 5) [.q 4 0] 22 <|
   .keep (.loadN 8) [.q 11 0] 21 <|
   .op (.app I.e8) [.s 6,.s 24] 25 <|
   .keep (.loadN 5) [.q 4 0] 22 <|
   .keep (.loadN 8) [.q 11 0] 21 <|
   .set 26 (.s 25) <|
   .nil)
   (.set 26 (.s 6) <|
   .nil) <|
  .op (.bin .add) [.s 7,.k (.int .i64 1)] 27 <|
  .set 28 (.s 26) <|
  .set 29 (.s 27) <|
  .set 6 (.s 28) <|
  .set 7 (.s 29) <|
  .nil) <|
 .op .not [.s 2] 30 <|
 .ite (.s 30)
  (.ret [.s 6])
  (.nil) <|
 .op (.call I.knownF) [.s 0] 31 <|
 .op (.cv .i64) [.s 31] 32 <|
 .set 33 (.k (.slice none 0 0)) <|
 .set 34 (.k (.int .i64 0)) <|
 .set 35 (.k (.int .i64 0)) <|
 .loop
  (.op (.bin .lss) [.s 35,.s 32] 36 <|
  .ite (.s 36)
   (.nil)
   (.exit) <|
  .op .len [.s 0] 37 <|
  .set 38 (.s 33) <|
  .set 39 (.s 34) <|
  .set 40 (.k (.int .i64 0)) <|
  .loop
   (.op (.bin .lss) [.s 40,.s 37] 41 <|
   .ite (.s 41)
    (.nil)
    (.exit) <|
   .op (.ia 8) [.s 0,.s 40] 42 <|
   .chk 42 <|
   .op (.loadN 8) [.q 42 0] 43 <|
   .op (.alloc [.int .i64 0,.int .i64 0,.int .i64 0,.int .i64 0,.int .i64 0,.int .i64 0,.int .i64 0,.slice none 0 0]) [] 44 <|
   .chk 44 <|
   .op (.store 8) [.q 44 0,.s 43] 45 <|
   .draw <|
   .look .load [.q 44 4] 46 <|
   .look (.bin .eql) [.s 46,.s 35] 47 <|
   .ite (.s 47)
    (.look (.loadN 8) [.q 44 0] 48 <|
    .look (.loadN 5) [.q 4 0] 49 <|
    .op (.call I.atF) [.s 49,.s 40] 50 <|
    .keep (.loadN 5) [.q 4 0] 49 <|
    .keep (.loadN 8) [.q 44 0] 48 <|
    .keep (.bin .eql) [.s 46,.s 35] 47 <|
    .keep .load [.q 44 4] 46 <|
    .op (.call I.usual) [.s 48,.s 50] 51 <|
    .keep (.loadN 5) [.q 4 0] 49 <|
    .keep (.loadN 8) [.q 44 0] 48 <|
    .keep (.bin .eql) [.s 46,.s 35] 47 <|
    .keep .load [.q 44 4] 46 <|
    .look .not [.s 51] 52 <|
    .set 53 (.k (.bool true)) <|
    .set 54 (.s 48) <|
    .set 55 (.s 49) <|
    .set 56 (.s 40) <|
    .set 57 (.s 50) <|
    .set 58 (.s 51) <|
    .set 59 (.s 52) <|
    .set 60 (.s 52) <|
    .nil)
    (.keep (.bin .eql) [.s 46,.s 35] 47 <|
    .keep .load [.q 44 4] 46 <|
    .keep (.bin .eql) [.s 46,.s 35] 47 <|
    .keep .load [.q 44 4] 46 <|
    .set 53 (.k (.bool false)) <|
    .set 54 (.k (.tuple #[])) <|
    .set 55 (.k (.tuple #[])) <|
    .set 56 (.k (.tuple #[])) <|
    .set 57 (.k (.tuple #[])) <|
    .set 58 (.k (.tuple #[])) <|
    .set 59 (.k (.tuple #[])) <|
    .set 60 (.k (.bool false)) <|
    .nil) <|
   .ite (.s 60)
    (.draw <|
    .look (.loadN 8) [.q 44 0] 61 <|
    .look (.loadN 5) [.q 4 0] 62 <|
    .op (.call I.atF) [.s 62,.s 40] 63 <|
    .keep (.loadN 5) [.q 4 0] 62 <|
    .keep (.loadN 8) [.q 44 0] 61 <|
    .op (.call I.fieldF) [.s 61,.s 1,.s 2,.s 63] 64 <|
    .keep (.loadN 5) [.q 4 0] 62 <|
    .keep (.loadN 8) [.q 44 0] 61 <|
    .op (.cv .u64) [.s 35] 65 <|
    .op (.call I.uvarint) [.s 65] 66 <|
    .op (.app I.e8) [.s 38,.s 66] 67 <|
    .op .len [.s 64] 68 <|
    .op (.cv .u64) [.s 68] 69 <|
    .op (.call I.uvarint) [.s 69] 70 <|
    .op (.app I.e8) [.s 67,.s 70] 71 <|
    .op (.app I.e8) [.s 71,.s 64] 72 <|
    .op (.bin .add) [.s 39,.k (.int .i64 1)] 73 <|
    .set 74 (.s 72) <|
    .set 75 (.s 73) <|
    .nil)
    (.set 74 (.s 38) <|
    .set 75 (.s 39) <|
    .nil) <|
   .op (.bin .add) [.s 40,.k (.int .i64 1)] 76 <|
   .set 77 (.s 74) <|
   .set 78 (.s 75) <|
   .set 79 (.s 76) <|
   .set 38 (.s 77) <|
   .set 39 (.s 78) <|
   .set 40 (.s 79) <|
   .nil) <|
  .op (.bin .add) [.s 35,.k (.int .i64 1)] 80 <|
  .set 81 (.s 38) <|
  .set 82 (.s 39) <|
  .set 83 (.s 80) <|
  .set 33 (.s 81) <|
  .set 34 (.s 82) <|
  .set 35 (.s 83) <|
  .nil) <|
 .op .load [.q 4 4] 84 <|
 .op (.call I.unknown) [.s 0,.s 84] 85 <|
 .op .len [.s 85] 86 <|
 .set 87 (.s 33) <|
 .set 88 (.s 34) <|
 .set 89 (.k (.int .i64 0)) <|
 .loop
  (.op (.bin .lss) [.s 89,.s 86] 90 <|
  .ite (.s 90)
   (.nil)
   (.exit) <|
  .op (.ia 2) [.s 85,.s 89] 91 <|
  .chk 91 <|
  .op (.loadN 2) [.q 91 0] 92 <|
  .op (.alloc [.int .u32 0,.slice none 0 0]) [] 93 <|
  .chk 93 <|
  .op (.store 2) [.q 93 0,.s 92] 94 <|
  .op .load [.q 93 1] 95 <|
  .op (.call I.whole) [.s 95] 96 <|
  .op .load [.q 93 0] 97 <|
  .op (.cv .u64) [.s 97] 98 <|
  .op (.call I.uvarint) [.s 98] 99 <|
  .op (.app I.e8) [.s 87,.s 99] 100 <|
  .op .len [.s 96] 101 <|
  .op (.cv .u64) [.s 101] 102 <|
  .op (.call I.uvarint) [.s 102] 103 <|
  .op (.app I.e8) [.s 100,.s 103] 104 <|
  .op (.app I.e8) [.s 104,.s 96] 105 <|
  .op (.bin .add) [.s 88,.k (.int .i64 1)] 106 <|
  .op (.bin .add) [.s 89,.k (.int .i64 1)] 107 <|
  .set 108 (.s 105) <|
  .set 109 (.s 106) <|
  .set 110 (.s 107) <|
  .set 87 (.s 108) <|
  .set 88 (.s 109) <|
  .set 89 (.s 110) <|
  .nil) <|
 .op (.cv .u64) [.s 88] 111 <|
 .op (.call I.uvarint) [.s 111] 112 <|
 .op (.app I.e8) [.s 6,.s 112] 113 <|
 .op (.app I.e8) [.s 113,.s 87] 114 <|
 .ret [.s 114],[.direct]⟩
def q_write (I:SI):FnP:=⟨.op (.box 2) [.s 0] 3 <|
 .chk 3 <|
 .op (.box 5) [.s 2] 4 <|
 .chk 4 <|
 .op .load [.q 3 0] 5 <|
 .op .load [.q 3 1] 6 <|
 .op (.bin .geq) [.s 6,.k (.int .i64 0)] 7 <|
 .ite (.s 7)
  (.set 8 (.s 1) <|
  .nil)
  (.set 8 (.k (.tuple #[])) <|
  .nil) <|
 .ite (.s 7)
  (.set 9 (.q 3 1) <|
  .nil)
  (.set 9 (.k (.tuple #[])) <|
  .nil) <|
 .ite (.s 7)
  (.op .load [.s 9] 10 <|
  .set 11 (.s 10) <|
  .nil)
  (.set 11 (.k (.tuple #[])) <|
  .nil) <|
 .ite (.s 7)
  (.op (.bin .geq) [.s 8,.s 11] 12 <|
  .set 13 (.s 12) <|
  .nil)
  (.set 13 (.k (.tuple #[])) <|
  .nil) <|
 .ite (.s 7)
  (.set 14 (.s 13) <|
  .nil)
  (.set 14 (.k (.bool false)) <|
  .nil) <|
 .op (.loadN 5) [.q 4 0] 15 <|
 .op (.call I.partF) [.s 5,.s 1,.s 14,.s 15] 16 <|
 .ret [.s 16],[.direct]⟩
def q_kept (I:SI):FnP:=⟨.op (.box 2) [.s 0] 3 <|
 .chk 3 <|
 .op (.box 5) [.s 2] 4 <|
 .chk 4 <|
 .draw <|
 .look (.loadN 2) [.q 3 0] 5 <|
 .look (.loadN 5) [.q 4 0] 6 <|
 .op (.call I.fixed) [.s 1,.k (.int .i64 2)] 7 <|
 .keep (.loadN 5) [.q 4 0] 6 <|
 .keep (.loadN 2) [.q 3 0] 5 <|
 .op (.call I.write) [.s 5,.s 1,.s 6] 8 <|
 .keep (.loadN 5) [.q 4 0] 6 <|
 .keep (.loadN 2) [.q 3 0] 5 <|
 .op (.app I.e8) [.s 7,.s 8] 9 <|
 .keep (.loadN 5) [.q 4 0] 6 <|
 .keep (.loadN 2) [.q 3 0] 5 <|
 .ret [.s 9],[.direct]⟩
end Go.Sp
namespace Go.Sp
open Go.Lx Go.Nx Go.Km Go.Mx Go.Kb Go.Mr
set_option linter.unusedSimpArgs false
set_option linter.unusedVariables false
abbrev i64 (n:Int):Value := .int .i64 n
abbrev ptrO (b o:Nat):Value := .pointer (some ⟨b,o,none⟩)
def fcells (kind frm to nul tag df of:Int) (v:Value):List Value:=[i64 kind,i64 frm,i64 to,i64 nul,i64 tag,i64 df,i64 of,v]
def tcells (n:Int) (vs:Value) (z:Bool) (vl vu:Value):List Value:=[i64 n,vs,.bool z,vl,vu]
def RepUo (ok:Nat→Prop) (w:World) (v:Value) (u:Tg):Prop:=∃ al c,v = .slice al u.length c∧u.length≤c∧(u=[]→al=none→c=0) ∧
 ∀ j p,u[j]?=some p→p.1<4294967296∧∃ b o vv,al=some ⟨b,o,none⟩∧w.rangeAt b (o+2*j) [.int .u32 (p.1:Int),vv]∧SlE ok w vv p.2
abbrev RepU (w:World) (v:Value) (u:Tg):Prop:=RepUo (fun _=>True) w v u
inductive RepTr (w:World):List Value→Tr→Prop where
 | mk (n:Int) (vs:Value) (s:Bs) (z:Bool) (al:Option Addr) (c:Nat) (l:List Tr) (vu:Value) (u:Tg) (cs:Nat→List Value)
  (hs:SlE (fun _=>True) w vs s) (hc:l.length≤c) (hnil:l=[]→al=none→c=0)
  (ha:∀ j,j<l.length→∃ b o,al=some ⟨b,o,none⟩∧w.rangeAt b (o+5*j) (cs j))
  (hl:∀ j t,l[j]?=some t→RepTr w (cs j) t) (hu:RepU w vu u) (hsl:s.length<9223372036854775808):RepTr w (tcells n vs z (.slice al l.length c) vu) (.mk n s z l u)
def RepF0 (w:World):Option Addr→Nat→Fl→Prop
 | _,_,.nil=>True
 | some ⟨b,o,none⟩,i,.cons kind frm to nul tag df of sub r=>
  (∃ v,w.rangeAt b (o+8*i) (fcells kind frm to nul tag df of v)∧(∃ al c,v = .slice al sub.len c∧sub.len≤c∧RepF0 w al 0 sub))∧RepF0 w (some ⟨b,o,none⟩) (i+1) r
 | _,_,.cons .. => False
def RepFl (w:World) (v:Value) (fl:Fl):Prop:=∃ al c,v = .slice al fl.len c∧fl.len≤c∧RepF0 w al 0 fl
theorem range_keep {w w':World} {b o:Nat} {cs:List Value} (h:w.rangeAt b o cs) (k:Keep [] w w'):w'.rangeAt b o cs:=fun j v hj=>by
 have:=h j v hj
 have hlt:=Kb.cell_lt this
 rw [World.cell?_of_block (k.block b hlt (by simp))];exact this
theorem slE_keep {ok:Nat→Prop} {w w':World} {v:Value} {bs:Bs} (h:SlE ok w v bs) (k:Keep [] w w'):SlE ok w' v bs:=h.same (k.same fun x hx=>by cases hx)
theorem RepU.keep {w w':World} {v:Value} {u:Tg} (h:RepU w v u) (k:Keep [] w w'):RepU w' v u:=by
 obtain ⟨al,c,h1,h2,h3,h4⟩:=h
 refine ⟨al,c,h1,h2,h3,fun j p hj => ?_⟩
 obtain ⟨h5,b,o,vv,h6,h7,h8⟩:=h4 j p hj
 exact ⟨h5,b,o,vv,h6,range_keep h7 k,slE_keep h8 k⟩
theorem RepTr.keep {w w':World} {cs:List Value} {t:Tr} (h:RepTr w cs t) (k:Keep [] w w'):RepTr w' cs t:=by
 induction h with
 | mk n vs s z al c l vu u cs hs hc hnil ha hl hu hsl ih=>
  refine .mk n vs s z al c l vu u cs (slE_keep hs k) hc hnil (fun j hj => ?_) ih (hu.keep k) hsl
  obtain ⟨b,o,h1,h2⟩:=ha j hj
  exact ⟨b,o,h1,range_keep h2 k⟩
theorem RepF0.keep {w w':World} (k:Keep [] w w'):∀ {fl:Fl} {al:Option Addr} {i:Nat},RepF0 w al i fl→RepF0 w' al i fl:=by
 intro fl
 induction fl with
 | nil=>intro al i _;cases al<;>trivial
 | cons kind frm to nul tag df of sub r ih1 ih2=>
  intro al i h
  match al,h with
  | some ⟨b,o,none⟩,⟨⟨v,h1,al',c,h2,h3,h4⟩,h5⟩=>exact ⟨⟨v,range_keep h1 k,al',c,h2,h3,ih1 h4⟩,ih2 h5⟩
theorem RepFl.keep {w w':World} {v:Value} {fl:Fl} (h:RepFl w v fl) (k:Keep [] w w'):RepFl w' v fl:=by
 obtain ⟨al,c,h1,h2,h3⟩:=h
 exact ⟨al,c,h1,h2,h3.keep k⟩
theorem RepTr.cells {w:World} {cs:List Value} {t:Tr} (h:RepTr w cs t):∃ n vs z vl vu,cs=tcells n vs z vl vu:=by
 cases h;exact ⟨_,_,_,_,_,rfl⟩
theorem RepTr.nil (w:World):RepTr w (tcells 0 (.slice none 0 0) false (.slice none 0 0) (.slice none 0 0)) .nil:=
 .mk 0 _ [] false none 0 [] _ [] (fun _=>[]) (.inl (.inl ⟨rfl,rfl⟩)) (by simp) (fun _ _=>rfl) (fun j hj=>by simp at hj) (fun j t hj=>by simp at hj)
  ⟨none,0,rfl,by simp,fun _ _=>rfl,fun j p hj=>by simp at hj⟩ (by simp)
section
variable {P:Program}
theorem wp_box {w:World} {n:Nat} {cs:List Value} {K:Value→World→Prop} (hn:cs.length=n) (hk:∀ b w',Row w' b cs→w.heap.size≤b→Keep [] w w'→K (ptr b) w'):In.wp P (.box n) [.agg cs.toArray] w K:=by
 refine ⟨_,rfl,by simpa [Value.cells] using hn,fun e => ?_⟩
 obtain ⟨h1,h2⟩:=alloc_row (w:=w) cs e
 exact hk _ _ h1 (Nat.le_refl _) h2
theorem np_T {c:SV} {a b k:NP} {Q:Post} {η:Nat→Value} {w:World} (hc:c.val η = .bool true) (h:a.wp P (fun o η w=>match o with | .nrm=>k.wp P Q η w | o=>Q o η w) η w):(NP.ite c a b k).wp P Q η w:=
 ⟨true,hc,fun _=>h,fun h=>by cases h⟩
theorem np_F {c:SV} {a b k:NP} {Q:Post} {η:Nat→Value} {w:World} (hc:c.val η = .bool false) (h:b.wp P (fun o η w=>match o with | .nrm=>k.wp P Q η w | o=>Q o η w) η w):(NP.ite c a b k).wp P Q η w:=
 ⟨false,hc,fun h=>(by cases h),fun _=>h⟩
theorem np_sel {c:SV} {n:Nat} {x y:SV} {k:NP} {Q:Post} {η:Nat→Value} {w:World} (t:Bool) (hc:c.val η = .bool t) (h:k.wp P Q (upd η n (if t then x.val η else y.val η)) w):(NP.ite c (.set n x .nil) (.set n y .nil) k).wp P Q η w:=by
 cases t with
 | true=>exact np_T hc h
 | false=>exact np_F hc h
theorem has_ok (hn:Named P) {I:SI} {f:FuncId} (hf:fnP P f 2=some (q_has I)) {w:World} {kind frm to nul tag df of ver:Int} {v:Value} {K:Value→World→Prop} (hk:∀ w',Keep [] w w'→K (.bool (has frm to ver)) w') :
  In.wp P (.call f) [.agg (fcells kind frm to nul tag df of v).toArray,i64 ver] w K:=by
 refine calls_of_np hn (vs:=[.agg (fcells kind frm to nul tag df of v).toArray,i64 ver]) hf fun η hη => ?_
 have h0:η 0 = .agg (fcells kind frm to nul tag df of v).toArray:=hη 0 (by simp)
 have h1:η 1=i64 ver:=hη 1 (by simp)
 refine np_op (vs:=[.agg (fcells kind frm to nul tag df of v).toArray]) (by simp [SV.val,h0]) (wp_box rfl fun b w1 r1 hb k1 => ?_)
 refine ⟨⟨_,by simp only [upd];rfl⟩,?_⟩
 refine np_op (vs:=[ptrO b 1]) (by simp [SV.val,upd,Addr.add]) (wp_load r1 rfl ?_)
 refine np_op (vs:=[i64 frm,i64 ver]) (by simp [SV.val,upd,h1]) ⟨.i64,frm,ver,.bool (decide (frm≤ver)),rfl,rfl,?_⟩
 by_cases h4:frm≤ver
 ·refine np_T (by simp [SV.val,upd,h4]) ?_
  refine np_op (vs:=[ptrO b 2]) (by simp [SV.val,upd,Addr.add]) (wp_load r1 rfl ?_)
  refine np_op (vs:=[i64 to,i64 0]) (by simp [SV.val,upd]) ⟨.i64,to,0,.bool (decide (to<0)),rfl,rfl,?_⟩
  by_cases h10:to<0
  ·have hres:has frm to ver=true:=by simp [has,h4,h10]
   refine np_T (by simp [SV.val,upd,h10]) ?_
   show K (pack _) w1
   simpa [pack,SV.val,upd,hres] using hk w1 k1
  ·have hres:has frm to ver=decide (ver≤to):=by simp [has,h4,h10]
   refine np_F (by simp [SV.val,upd,h10]) ?_
   refine np_op (vs:=[ptrO b 2]) (by simp [SV.val,upd,Addr.add]) (wp_load r1 rfl ?_)
   refine np_op (vs:=[i64 ver,i64 to]) (by simp [SV.val,upd,h1]) ⟨.i64,ver,to,.bool (decide (ver≤to)),rfl,rfl,?_⟩
   show K (pack _) w1
   simpa [pack,SV.val,upd,hres] using hk w1 k1
 ·have hres:has frm to ver=false:=by simp [has,h4]
  refine np_F (by simp [SV.val,upd,h4]) ?_
  show K (pack _) w1
  simpa [pack,SV.val,upd,hres] using hk w1 k1
theorem null_ok (hn:Named P) {I:SI} {f:FuncId} (hf:fnP P f 3=some (q_null I)) {w:World} {kind frm to nul tag df of ver:Int} {v:Value} {cs:List Value} {t:Tr} (ht:RepTr w cs t) {K:Value→World→Prop} (hk:∀ w',Keep [] w w'→K (.bool (t.z && can nul ver)) w') :
  In.wp P (.call f) [.agg (fcells kind frm to nul tag df of v).toArray,i64 ver,.agg cs.toArray] w K:=by
 refine calls_of_np hn (vs:=[.agg (fcells kind frm to nul tag df of v).toArray,i64 ver,.agg cs.toArray]) hf fun η hη => ?_
 have h0:η 0 = .agg (fcells kind frm to nul tag df of v).toArray:=hη 0 (by simp)
 have h1:η 1=i64 ver:=hη 1 (by simp)
 have h2:η 2 = .agg cs.toArray:=hη 2 (by simp)
 obtain ⟨n,vs,z,vl,vu,rfl,hz⟩:∃ n vs z vl vu,cs=tcells n vs z vl vu∧t.z=z:=by cases ht;exact ⟨_,_,_,_,_,rfl,rfl⟩
 rw [hz] at hk
 refine np_op (vs:=[.agg (fcells kind frm to nul tag df of v).toArray]) (by simp [SV.val,h0]) (wp_box rfl fun b w1 r1 hb k1 => ?_)
 refine ⟨⟨_,by simp only [upd];rfl⟩,?_⟩
 refine np_op (vs:=[.agg (tcells n vs z vl vu).toArray]) (by simp [SV.val,upd,h2]) (wp_box rfl fun b2 w2 r2 hb2 k2 => ?_)
 refine ⟨⟨_,by simp only [upd];rfl⟩,?_⟩
 have r1':=r1.keep k2 (by simp)
 have kk:=k1.then k2
 refine np_op (vs:=[ptrO b2 2]) (by simp [SV.val,upd,Addr.add]) (wp_load r2 rfl ?_)
 cases z with
 | false=>
  refine np_F (by simp [SV.val,upd]) ?_
  refine np_F (by simp [SV.val,upd]) ?_
  refine np_F (by simp [SV.val,upd]) ?_
  refine np_F (by simp [SV.val,upd]) ?_
  refine np_F (by simp [SV.val,upd]) ?_
  refine np_F (by simp [SV.val,upd]) ?_
  refine np_F (by simp [SV.val,upd]) ?_
  refine np_F (by simp [SV.val,upd]) ?_
  refine np_F (by simp [SV.val,upd]) ?_
  show K (pack _) w2
  simpa [pack,SV.val,upd] using hk w2 kk
 | true=>
  refine np_T (by simp [SV.val,upd]) ?_
  refine np_T (by simp [SV.val,upd]) ?_
  refine np_op (vs:=[ptrO b 3]) (by simp [SV.val,upd,Addr.add]) (wp_load r1' rfl ?_)
  refine np_T (by simp [SV.val,upd]) ?_
  refine np_op (vs:=[i64 nul,i64 0]) (by simp [SV.val,upd]) ⟨.i64,nul,0,.bool (decide (nul≥0)),rfl,rfl,?_⟩
  refine np_T (by simp [SV.val,upd]) ?_
  by_cases hn0:0≤nul
  ·have hres:(true && can nul ver)=decide (ver≥nul):=by simp [can,hn0]
   rw [hres] at hk
   refine np_T (by simp [SV.val,upd,hn0]) ?_
   refine np_T (by simp [SV.val,upd,hn0]) ?_
   refine np_T (by simp [SV.val,upd,hn0]) ?_
   refine np_op (vs:=[ptrO b 3]) (by simp [SV.val,upd,Addr.add]) (wp_load r1' rfl ?_)
   refine np_T (by simp [SV.val,upd,hn0]) ?_
   refine np_op (vs:=[i64 ver,i64 nul]) (by simp [SV.val,upd,h1]) ⟨.i64,ver,nul,.bool (decide (ver≥nul)),rfl,rfl,?_⟩
   refine np_T (by simp [SV.val,upd,hn0]) ?_
   show K (pack _) w2
   simpa [pack,SV.val,upd] using hk w2 kk
  ·have hres:(true && can nul ver)=false:=by simp [can,hn0]
   rw [hres] at hk
   refine np_F (by simp [SV.val,upd,hn0];try omega) ?_
   refine np_F (by simp [SV.val,upd,hn0];try omega) ?_
   refine np_F (by simp [SV.val,upd,hn0];try omega) ?_
   refine np_F (by simp [SV.val,upd,hn0];try omega) ?_
   refine np_F (by simp [SV.val,upd,hn0];try omega) ?_
   show K (pack _) w2
   simpa [pack,SV.val,upd] using hk w2 kk
theorem rep_l {w:World} {cs:List Value} {t:Tr} (h:RepTr w cs t):∃ n vs z al c vu,cs=tcells n vs z (.slice al t.l.length c) vu∧n=t.n∧z=t.z∧SlE (fun _=>True) w vs t.s∧RepU w vu t.u∧t.l.length≤c∧(t.l=[]→al=none→c=0) ∧
  ∀ j x,t.l[j]?=some x→∃ b o cs',al=some ⟨b,o,none⟩∧w.rangeAt b (o+5*j) cs'∧RepTr w cs' x∧cs'.length=5:=by
 cases h with
 | mk n vs s z al c l vu u cs hs hc hnil ha hl hu hsl=>
  refine ⟨n,vs,z,al,c,vu,rfl,rfl,rfl,hs,hu,hc,hnil,fun j x hj => ?_⟩
  have hlt:j<l.length:=(List.getElem?_eq_some_iff.1 hj).1
  obtain ⟨b,o,h1,h2⟩:=ha j hlt
  have h3:=hl j x hj
  obtain ⟨n',vs',z',vl',vu',e⟩:=h3.cells
  exact ⟨b,o,_,h1,h2,h3,by rw [e];rfl⟩
theorem wp_ia {w:World} {b o len c i sz:Nat} {K:Value→World→Prop} (hi:i<len) (hk:K (ptrO b (o+sz*i)) w):In.wp P (.ia sz) [.slice (some ⟨b,o,none⟩) len c,i64 (i:Int)] w K:=
 ⟨_,_,_,.i64,i,rfl,hi,by rw [addr_at,Nat.mul_comm];exact hk⟩
theorem wp_lds {w:World} {b o n:Nat} {cs:List Value} {K:Value→World→Prop} (h:w.rangeAt b o cs) (hn:cs.length=n) (hk:K (.agg cs.toArray) w):In.wp P (.loadN n) [ptrO b o] w K:=
 ⟨b,o,cs,rfl,h,hn,hk⟩
theorem at_ok (hn:Named P) {I:SI} {f:FuncId} (hf:fnP P f 2=some (q_at I)) {w:World} {cs:List Value} {t:Tr} {i:Nat} (ht:RepTr w cs t) {K:Value→World→Prop} (hk:∀ cs' w',Keep [] w w'→RepTr w' cs' (t.at i)→K (.agg cs'.toArray) w') :
  In.wp P (.call f) [.agg cs.toArray,i64 (i:Int)] w K:=by
 refine calls_of_np hn (vs:=[.agg cs.toArray,i64 (i:Int)]) hf fun η hη => ?_
 have h0:η 0 = .agg cs.toArray:=hη 0 (by simp)
 have h1:η 1=i64 (i:Int):=hη 1 (by simp)
 obtain ⟨n,vs,z,al,c,vu,rfl,rfl,rfl,hs,hu,hc,_,hl⟩:=rep_l ht
 refine np_op (vs:=[.agg (tcells t.n vs t.z (.slice al t.l.length c) vu).toArray]) (by simp [SV.val,h0]) (wp_box rfl fun b w1 r1 hb k1 => ?_)
 refine ⟨⟨_,by simp only [upd];rfl⟩,?_⟩
 refine np_op (vs:=[]) rfl (wp_alloc fun b2 w2 r2 hb2 k2 => ?_)
 refine ⟨⟨_,by simp only [upd];rfl⟩,?_⟩
 have r1':=r1.keep k2 (by simp)
 have hb12:b<b2:=by have:=r1.lt;omega
 have kk:=k1.then k2
 refine np_op (vs:=[ptrO b 3]) (by simp [SV.val,upd,Addr.add]) (wp_load r1' rfl ?_)
 refine np_op (vs:=[.slice al t.l.length c]) (by simp [SV.val,upd]) ⟨_,_,_,rfl,?_⟩
 refine np_op (vs:=[i64 (i:Int),i64 (t.l.length:Int)]) (by simp [SV.val,upd,h1,goInt]) ⟨.i64,i,t.l.length,.bool (decide ((i:Int)<(t.l.length:Int))),rfl,rfl,?_⟩
 by_cases hi:i<t.l.length
 ·have hx:t.l[i]?=some t.l[i]:=List.getElem?_eq_getElem hi
  obtain ⟨bb,oo,cs',e1,e2,e3,e4⟩:=hl i _ hx
  subst e1
  refine np_T (by simp [SV.val,upd,hi]) ?_
  refine np_op (vs:=[ptrO b 3]) (by simp [SV.val,upd,Addr.add]) (wp_load r1' rfl ?_)
  refine np_op (vs:=[.slice (some ⟨bb,oo,none⟩) t.l.length c,i64 (i:Int)]) (by simp [SV.val,upd,h1]) (wp_ia hi ?_)
  refine ⟨⟨_,by simp only [upd];rfl⟩,?_⟩
  refine np_op (vs:=[ptrO bb (oo+5*i)]) (by simp [SV.val,upd,Addr.add]) (wp_lds (range_keep e2 kk) e4 ?_)
  have hone:cs'.toArray.all (·.oneCell')=true:=by
   obtain ⟨n',vs',z',al',c',vu',rfl,_,_,hs',hu',_⟩:=rep_l e3
   obtain ⟨a',c2,hv⟩:=hs'.slice
   obtain ⟨a3,c3,hv3,_⟩:=hu'
   simp [tcells,hv,hv3,Value.oneCell']
  refine np_op (vs:=[ptr b2,.agg cs'.toArray]) (by simp [SV.val,upd,Addr.add]) (wp_store r2 ⟨by simpa [Value.cells] using e4,by simpa [Value.cells] using hone⟩ (by simp) fun w3 r3 k3 => ?_)
  have r3':Row w3 b2 cs':=by
   have:put [i64 0,.slice none 0 0,.bool false,.slice none 0 0,.slice none 0 0] 0 cs'=cs':=by
    simp [put,e4]
   simpa [Value.cells,this] using r3
  have kk3:Keep [] w w3:=kk.trans k3 fun x hx hlt=>by rw [List.mem_singleton.1 hx] at hlt;have:=k1.size;omega
  refine ⟨b2,0,cs',by simp [SV.val,upd,Addr.add],by have h:=r3'.range 0 5;rw [List.drop_zero,List.take_of_length_le (by omega)] at h;exact h,e4,?_⟩
  have:t.at i=t.l[i]:=by simp [Tr.at,hx]
  exact hk cs' w3 kk3 (by rw [this];exact e3.keep kk3)
 ·refine np_F (by simp [SV.val,upd];omega) ?_
  refine np_op (vs:=[]) rfl ⟨rfl,by simp,?_⟩
  refine np_op (vs:=[ptr b2,.agg (tcells 0 (.slice none 0 0) false (.slice none 0 0) (.slice none 0 0)).toArray]) (by simp [SV.val,upd,Addr.add,putAll,tcells]) (wp_store r2 ⟨by simp [Value.cells,tcells],by simp [Value.cells,tcells,Value.oneCell']⟩ (by simp) fun w3 r3 k3 => ?_)
  have kk3:Keep [] w w3:=kk.trans k3 fun x hx hlt=>by rw [List.mem_singleton.1 hx] at hlt;have:=k1.size;omega
  have r3':Row w3 b2 (tcells 0 (.slice none 0 0) false (.slice none 0 0) (.slice none 0 0)):=by simpa [Value.cells,put,tcells] using r3
  refine ⟨b2,0,tcells 0 (.slice none 0 0) false (.slice none 0 0) (.slice none 0 0),by simp [SV.val,upd,Addr.add],by simpa [tcells] using r3'.range 0 5,rfl,?_⟩
  have:t.at i = .nil:=by simp [Tr.at,List.getElem?_eq_none (Nat.le_of_not_lt hi)]
  exact hk _ w3 kk3 (by rw [this];exact RepTr.nil w3)
end
end Go.Sp
namespace Go.Sp
open Go.Lx Go.Nx Go.Km Go.Mx Go.Kb Go.Mr
set_option linter.unusedSimpArgs false
set_option linter.unusedVariables false
section
variable {P:Program}
theorem add_zero' (a:Option Addr):a.map (·.add 0)=a:=by cases a<;>simp [Addr.add]
theorem wp_sl0 {w:World} {a:Option Addr} {n c h sz:Nat} {k:IntKind} {K:Value→World→Prop} (hc:h≤c) (hk:K (.slice a h c) w):In.wp P (.sl sz false true false) [.slice a n c,.int k (h:Int)] w K:=by
 refine ⟨a,n,c,[.int k (h:Int)],rfl,?_⟩
 show bnd false 0 _ _
 unfold bnd
 simp only [Bool.false_eq_true,if_false,if_true]
 refine ⟨k,h,[],rfl,rfl,Nat.zero_le _,hc,Nat.le_refl _,?_⟩
 simp only [Nat.zero_mul,add_zero',ite_self,Nat.sub_zero]
 exact hk
theorem slE_take {ok:Nat→Prop} {w:World} {v:Value} {bs:Bs} (h:SlE ok w v bs) (n:Nat):∃ a c,v = .slice a bs.length c∧bs.length≤c∧SlE ok w (.slice a (min n bs.length) c) (bs.take n):=by
 rcases h with (⟨rfl,rfl⟩ | ⟨a,c,rfl,h1,h2⟩) | ⟨rfl,a,c,rfl⟩
 ·exact ⟨none,0,rfl,Nat.le_refl _,by simpa using (show SlE ok w (.slice none 0 0) [] from .inl (.inl ⟨rfl,rfl⟩))⟩
 ·refine ⟨some a,c,rfl,h1,?_⟩
  refine .inl (.inr ⟨a,c,?_,?_,h2.take n⟩)
  ·rw [List.length_take]
  ·rw [List.length_take];omega
 ·exact ⟨some a,c,rfl,by simp,.inr ⟨by simp,a,c,by simp⟩⟩
theorem whole_ok {ok:Nat→Prop} (hn:Named P) {I:SI} {f:FuncId} (hf:fnP P f 1=some (q_whole I)) {w:World} {v:Value} {bs:Bs} (h:SlE ok w v bs) {K:Value→World→Prop} (hk:∀ v',SlE ok w v' (bs.take 32767)→K v' w):In.wp P (.call f) [v] w K:=by
 refine calls_of_np hn (vs:=[v]) hf fun η hη => ?_
 have h0:η 0=v:=hη 0 (by simp)
 obtain ⟨a,c,rfl,hc,h'⟩:=slE_take h 32767
 refine np_op (vs:=[.slice a bs.length c]) (by simp [SV.val,h0]) ⟨_,_,_,rfl,?_⟩
 refine np_op (vs:=[i64 (bs.length:Int),i64 32767]) (by simp [SV.val,upd,goInt]) ⟨.i64,bs.length,32767,rfl,?_⟩
 have hm:min (bs.length:Int) 32767=((min 32767 bs.length:Nat):Int):=by omega
 simp only [Bool.false_eq_true,if_false,hm]
 refine np_op (vs:=[.slice a bs.length c,i64 ((min 32767 bs.length:Nat):Int)]) (by simp [SV.val,upd,h0]) (wp_sl0 (by omega) ?_)
 show K (pack _) w
 simpa [pack,SV.val,upd] using hk _ h'
theorem things_ok (hn:Named P) {I:SI} {f:FuncId} (hf:fnP P f 1=some (q_things I)) {w:World} {a:Option Addr} {n c:Nat} (hc:n≤c) {K:Value→World→Prop} (hk:K (.slice a (min 32767 n) c) w):In.wp P (.call f) [.slice a n c] w K:=by
 refine calls_of_np hn (vs:=[.slice a n c]) hf fun η hη => ?_
 have h0:η 0 = .slice a n c:=hη 0 (by simp)
 refine np_op (vs:=[.slice a n c]) (by simp [SV.val,h0]) ⟨_,_,_,rfl,?_⟩
 refine np_op (vs:=[i64 (n:Int),i64 32767]) (by simp [SV.val,upd,goInt]) ⟨.i64,n,32767,rfl,?_⟩
 have hm:min (n:Int) 32767=((min 32767 n:Nat):Int):=by omega
 simp only [Bool.false_eq_true,if_false,hm]
 refine np_op (vs:=[.slice a n c,i64 ((min 32767 n:Nat):Int)]) (by simp [SV.val,upd,h0]) (wp_sl0 (by omega) ?_)
 show K (pack _) w
 simpa [pack,SV.val,upd] using hk
theorem np_eq {a c:Int} {x:SV} {i:Nat} {η:Nat→Value} {w:World} {k:NP} {Q:Post} (hx:x.val η=i64 a) (h:k.wp P Q (upd η i (.bool (decide (a=c)))) w):(NP.op (.bin .eql) [x,.k (.int .i64 c)] i k).wp P Q η w:=by
 refine np_op (vs:=[i64 a,i64 c]) (by simp [SV.val] at hx ⊢;exact hx) ⟨.i64,a,c,.bool (decide (a=c)),rfl,?_,h⟩
 simp only [binV]
 congr 2
theorem width_ok (hn:Named P) {I:SI} {f:FuncId} (hf:fnP P f 1=some (q_width I)) {w:World} {kind:Int} {K:Value→World→Prop} (hk:K (i64 (widthB kind:Int)) w):In.wp P (.call f) [i64 kind] w K:=by
 refine calls_of_np hn (vs:=[i64 kind]) hf fun η hη => ?_
 have h0:η 0=i64 kind:=hη 0 (by simp)
 refine np_eq (a:=kind) (by simp [SV.val,h0]) ?_
 by_cases h1:kind=1
 ·refine np_T (by simp [SV.val,upd,h1]) ?_
  show K (i64 1) w
  simpa [widthB,h1] using hk
 refine np_F (by simp [SV.val,upd,h1]) ?_
 refine np_eq (a:=kind) (by simp [SV.val,upd,h0]) ?_
 by_cases h2:kind=2
 ·refine np_T (by simp [SV.val,upd,h2]) ?_
  refine np_T (by simp [SV.val,upd,h2]) ?_
  show K (i64 2) w
  simpa [widthB,h1,h2] using hk
 refine np_F (by simp [SV.val,upd,h2]) ?_
 refine np_eq (a:=kind) (by simp [SV.val,upd,h0]) ?_
 by_cases h5:kind=5
 ·refine np_T (by simp [SV.val,upd,h5]) ?_
  show K (i64 2) w
  simpa [widthB,h1,h5] using hk
 refine np_F (by simp [SV.val,upd,h5]) ?_
 refine np_eq (a:=kind) (by simp [SV.val,upd,h0]) ?_
 by_cases h3:kind=3
 ·refine np_T (by simp [SV.val,upd,h3]) ?_
  show K (i64 4) w
  simpa [widthB,h3] using hk
 refine np_F (by simp [SV.val,upd,h3]) ?_
 show K (i64 8) w
 simpa [widthB,h1,h2,h3,h5] using hk
theorem np_one {w:World} {B:Nat} {e:TypeId} {d:Value} {out:Bs} {b:UInt8} {x y:SV} {n m:Nat} {k:NP} {Q:Post} {η:Nat→Value} (ho:Own w B e d out) (hx:x.val η=u8 b) (hy:y.val (upd η n (.slice (some ⟨w.heap.size,0,none⟩) 1 1))=d) (hl:out.length+1≤lim)
  (h:∀ b' d' w',Own w' B e d' (out++[b])→RowKit.Below B w w'→k.wp P Q (upd (upd η n (.slice (some ⟨b',0,none⟩) 1 1)) m d') w') :
  (NP.op (.bsl e) [x] n <| .op (.app e) [y,.s n] m k).wp P Q η w:=by
 refine np_op (vs:=[b].map u8) (by simp [hx]) ?_
 refine ⟨fun v hv=>⟨(b.toNat:Int),List.mem_singleton.1 (show v∈[u8 b] from hv)⟩,?_⟩
 obtain ⟨r1,k1⟩:=alloc_row (w:=w) ([b].map u8) e
 have hB:=ho.2
 have o1:Own (w.alloc (.cells ([b].map u8).toArray e)) B e d out:=ho.keep k1 (fun _ _ h=>by cases h)
 have hb1:RowKit.Below B w (w.alloc (.cells ([b].map u8).toArray e)):=k1.below (fun x hx=>by cases hx) hB
 refine np_op (vs:=[d,.slice (some ⟨w.heap.size,0,none⟩) 1 1]) (by simp [SV.val,upd] at hy ⊢;exact hy) (wp_app (bs:=[b]) o1 (.inr ⟨_,_,rfl,(row_bytes (ok:=fun _=>True) r1 trivial).2.2⟩) hl fun d' w2 o2 k2 => ?_)
 exact h _ d' w2 o2 (hb1.trans k2)
def fixBody (I:SI):NP := .op (.bin .geq) [.s 4,.k (.int .i64 0)] 5 <|
  .ite (.s 5)
   (.nil)
   (.exit) <|
  .op (.bin .mul) [.k (.int .i64 8),.s 4] 6 <|
  .op (.sh .shr) [.s 0,.s 6] 7 <|
  .op (.cv .u8) [.s 7] 8 <|
  .op (.bsl I.e8) [.s 8] 9 <|
  .op (.app I.e8) [.s 3,.s 9] 10 <|
  .op (.bin .sub) [.s 4,.k (.int .i64 1)] 11 <|
  .set 12 (.s 10) <|
  .set 13 (.s 11) <|
  .set 3 (.s 12) <|
  .set 4 (.s 13) <|
  .nil
theorem q_fixed_eq (I:SI):q_fixed I=⟨.op (.bin .sub) [.s 1,.k (.int .i64 1)] 2 <| .set 3 (.k (.slice none 0 0)) <| .set 4 (.s 2) <| .loop (fixBody I) <| .ret [.s 3],[.direct]⟩:=rfl
theorem fix_byte (n:Int) (size i:Nat) (hi:i<size):IntKind.u8.wrap (n.fdiv (2^(8*i)))=((usn (8*size) n / 256^i%256:Nat):Int):=by
 have hA:(0:Int)<2^(8*i):=Int.pow_pos (by omega)
 have hw:∀ x:Int,IntKind.u8.wrap x=x%256:=fun x=>by simp [IntKind.wrap,IntKind.bits,IntKind.signed]
 rw [hw,Int.fdiv_eq_ediv_of_nonneg _ (Int.le_of_lt hA)]
 have hs:(2:Int)^(8*size)=2^(8*i)*(256*2^(8*(size - i - 1))):=by
  rw [show (256:Int)=2^8 from rfl,← Int.pow_add,← Int.pow_add];congr 1;omega
 have hM:(0:Int)<2^(8*size):=Int.pow_pos (by omega)
 have hr0:=Int.emod_nonneg n (show (2:Int)^(8*size)≠0 by omega)
 have hn:n=n%2^(8*size)+2^(8*i)*((256*2^(8*(size - i - 1)))*(n / 2^(8*size))):=by
  have h:=Int.emod_add_mul_ediv n (2^(8*size))
  rw [← Int.mul_assoc,← hs];exact h.symm
 have h1:n / 2^(8*i)=(n%2^(8*size)) / 2^(8*i)+(256*2^(8*(size - i - 1)))*(n / 2^(8*size)):=by
  conv=>lhs;rw [hn]
  rw [Int.add_mul_ediv_left _ _ (by omega)]
 rw [h1,Int.mul_assoc,Int.add_mul_emod_self_left]
 unfold usn
 have h2:(((n%2^(8*size)).toNat:Nat):Int)=n%2^(8*size):=Int.toNat_of_nonneg hr0
 rw [show (256:Nat)^i=2^(8*i) by rw [show (256:Nat)=2^8 from rfl,← Nat.pow_mul]]
 rw [Int.natCast_emod,Int.natCast_ediv,h2,Int.natCast_pow]
 rfl
theorem fixed_ok (hn:Named P) {I:SI} {f:FuncId} (hf:fnP P f 2=some (q_fixed I)) {w:World} {n:Int} {size:Nat} (hs:size≤8) {K:Value→World→Prop} (hk:∀ d w',Own w' w.heap.size I.e8 d (wrI size n)→Keep [] w w'→K d w'):In.wp P (.call f) [i64 n,i64 (size:Int)] w K:=by
 rw [q_fixed_eq] at hf
 refine calls_of_np hn (vs:=[i64 n,i64 (size:Int)]) hf fun η hη => ?_
 have h0:η 0=i64 n:=hη 0 (by simp)
 have h1:η 1=i64 (size:Int):=hη 1 (by simp)
 refine np_op (vs:=[i64 (size:Int),i64 1]) (by simp [SV.val,h1]) ⟨.i64,size,1,_,rfl,rfl,?_⟩
 rw [wrap64 _ (by omega) (by omega)]
 show ∃ m,roundsP _ _ m _ w
 refine ⟨size+1,?_⟩
 have key:∀ (k:Nat) (η:Nat→Value) (w1:World) (d:Value) (out:Bs),k≤size→η 0=i64 n→η 3=d→η 4=i64 ((k:Int) - 1)→Own w1 w.heap.size I.e8 d out→RowKit.Below w.heap.size w w1→out++be k (usn (8*size) n)=wrI size n →
   roundsP ((fixBody I).wp P) (fun o η w=>match o with | .ext=>(NP.ret [.s 3]).wp P (postP [.direct] K) η w | o=>postP [.direct] K o η w) (k+1) η w1:=by
  intro k
  induction k with
  | zero=>
   intro η w1 d out _ e0 e3 e4 ho hb hout
   show NP.wp P (fixBody I) _ η w1
   refine np_op (vs:=[i64 ((0:Nat) - 1:Int),i64 0]) (by simp [SV.val,e4]) ⟨.i64,_,0,.bool false,rfl,by simp [binV],?_⟩
   refine np_F (by simp [SV.val,upd]) ?_
   show K (pack _) w1
   simp only [be,List.append_nil] at hout
   rw [hout] at ho
   simpa [pack,SV.val,upd,e3] using hk d w1 ho (Keep.of_below hb)
  | succ k ih=>
   intro η w1 d out hks e0 e3 e4 ho hb hout
   have hkn:((k+1:Nat):Int) - 1=(k:Int):=by omega
   rw [hkn] at e4
   show NP.wp P (fixBody I) _ η w1
   refine np_op (vs:=[i64 (k:Int),i64 0]) (by simp [SV.val,e4]) ⟨.i64,_,0,.bool true,rfl,by simp [binV],?_⟩
   refine np_T (by simp [SV.val,upd]) ?_
   refine np_op (vs:=[i64 8,i64 (k:Int)]) (by simp [SV.val,upd,e4]) ⟨.i64,8,k,_,rfl,rfl,?_⟩
   rw [wrap64 _ (by omega) (by omega)]
   refine np_op (vs:=[i64 n,i64 ((8*k:Nat):Int)]) (by simp [SV.val,upd,e0]) ⟨.i64,n,.i64,8*k,_,rfl,rfl,?_⟩
   rw [show min (8*k) IntKind.i64.bits=8*k by simp [IntKind.bits];omega]
   refine np_op (vs:=[i64 (n.fdiv (2^(8*k)))]) (by simp [SV.val,upd]) ⟨.i64,_,rfl,?_⟩
   rw [fix_byte n size k (by omega)]
   have hlen:out.length+(k+1)=size:=by
    have:=congrArg List.length hout
    rw [List.length_append,be_length,wrI,be_length] at this;exact this
   refine np_one (b:=UInt8.ofNat (usn (8*size) n / 256^k%256)) ho (by simp [SV.val,upd,u8]) (by simp [SV.val,upd,e3]) (by unfold lim;omega) fun b' d' w2 o2 k2 => ?_
   refine np_op (vs:=[i64 (k:Int),i64 1]) (by simp [SV.val,upd,e4]) ⟨.i64,k,1,_,rfl,rfl,?_⟩
   rw [wrap64 _ (by omega) (by omega)]
   show roundsP _ _ _ _ _
   refine ih _ w2 d' (out++[UInt8.ofNat (usn (8*size) n / 256^k%256)]) (by omega) (by simp [upd,e0]) (by simp [upd,SV.val]) (by simp [upd,SV.val]) o2 (hb.trans k2) ?_
   rw [List.append_assoc];exact hout
 exact key size _ w (.slice none 0 0) [] (Nat.le_refl _) (by simp [upd,h0]) (by simp [upd,SV.val]) (by simp [upd,SV.val]) (own_nil w) (RowKit.Below.refl _ _) (by simp [wrI])
def uvBody (I:SI):NP := .op (.bin .gtr) [.s 2,.k (.int .u64 127)] 3 <|
  .ite (.s 3)
   (.nil)
   (.exit) <|
  .op (.bin .and) [.s 2,.k (.int .u64 127)] 4 <|
  .op (.cv .u8) [.s 4] 5 <|
  .op (.bin .or) [.s 5,.k (.int .u8 128)] 6 <|
  .op (.bsl I.e8) [.s 6] 7 <|
  .op (.app I.e8) [.s 1,.s 7] 8 <|
  .op (.sh .shr) [.s 2,.k (.int .u64 7)] 9 <|
  .set 10 (.s 8) <|
  .set 11 (.s 9) <|
  .set 1 (.s 10) <|
  .set 2 (.s 11) <|
  .nil
def uvTail (I:SI):NP := .op (.cv .u8) [.s 2] 12 <|
 .op (.bsl I.e8) [.s 12] 13 <|
 .op (.app I.e8) [.s 1,.s 13] 14 <|
 .ret [.s 14]
theorem q_uvarint_eq (I:SI):q_uvarint I=⟨.set 1 (.k (.slice none 0 0)) <| .set 2 (.s 0) <| .loop (uvBody I) (uvTail I),[.direct]⟩:=rfl
theorem uvarint_ok (hn:Named P) {I:SI} {f:FuncId} (hf:fnP P f 1=some (q_uvarint I)) {w:World} {n:Nat} (h32:n<2^32) {K:Value→World→Prop} (hk:∀ d w',Own w' w.heap.size I.e8 d (wrUv n)→Keep [] w w'→K d w'):In.wp P (.call f) [.int .u64 (n:Int)] w K:=by
 rw [q_uvarint_eq] at hf
 refine calls_of_np hn (vs:=[.int .u64 (n:Int)]) hf fun η hη => ?_
 have h0:η 0 = .int .u64 (n:Int):=hη 0 (by simp)
 show ∃ m,roundsP _ _ m _ w
 refine ⟨5,?_⟩
 have wrap8:∀ x:Nat,IntKind.u8.wrap (x:Int)=((x%256:Nat):Int):=fun x=>by simp [IntKind.wrap,IntKind.bits,IntKind.signed]
 have key:∀ (k m:Nat) (η:Nat→Value) (w1:World) (d:Value) (out:Bs),m<16*128^k→out.length+k≤4→η 1=d→η 2 = .int .u64 (m:Int)→Own w1 w.heap.size I.e8 d out→RowKit.Below w.heap.size w w1→out++wrV k m=wrUv n →
   roundsP ((uvBody I).wp P) (fun o η w=>match o with | .ext=>(uvTail I).wp P (postP [.direct] K) η w | o=>postP [.direct] K o η w) (k+1) η w1:=by
  intro k
  have stop:∀ (r m:Nat) (η:Nat→Value) (w1:World) (d:Value) (out:Bs),m<128→out.length≤4→η 1=d→η 2 = .int .u64 (m:Int)→Own w1 w.heap.size I.e8 d out→RowKit.Below w.heap.size w w1→out++[UInt8.ofNat m]=wrUv n →
    roundsP ((uvBody I).wp P) (fun o η w=>match o with | .ext=>(uvTail I).wp P (postP [.direct] K) η w | o=>postP [.direct] K o η w) (r+1) η w1:=by
   intro r m η w1 d out hm hl e1 e2 ho hb hout
   show NP.wp P (uvBody I) _ η w1
   refine np_op (vs:=[.int .u64 (m:Int),.int .u64 127]) (by simp [SV.val,e2]) ⟨.u64,m,127,.bool false,rfl,by simp [binV];omega,?_⟩
   refine np_F (by simp [SV.val,upd]) ?_
   show NP.wp P (uvTail I) _ _ w1
   refine np_op (vs:=[.int .u64 (m:Int)]) (by simp [SV.val,upd,e2]) ⟨.u64,m,rfl,?_⟩
   rw [wrap8]
   have hu:u8 (UInt8.ofNat m) = .int .u8 ((m%256:Nat):Int):=by simp [u8]
   refine np_one (b:=UInt8.ofNat m) ho (by simp only [SV.val,upd,hu,if_true]) (by simp [SV.val,upd,e1]) (by unfold lim;omega) fun b' d' w2 o2 k2 => ?_
   show K (pack _) w2
   rw [hout] at o2
   simpa [pack,SV.val,upd] using hk d' w2 o2 (Keep.of_below (hb.trans k2))
  induction k with
  | zero=>
   intro m η w1 d out hm hl e1 e2 ho hb hout
   exact stop 0 m η w1 d out (by simp at hm;omega) (by omega) e1 e2 ho hb (by simpa [wrV] using hout)
  | succ k ih=>
   intro m η w1 d out hm hl e1 e2 ho hb hout
   by_cases h128:m<128
   ·exact stop _ m η w1 d out h128 (by omega) e1 e2 ho hb (by simpa [wrV,h128] using hout)
   have hmm:m<2^64:=by
    have:128^(k+1)≤128^4:=Nat.pow_le_pow_right (by omega) (by omega)
    omega
   show NP.wp P (uvBody I) _ η w1
   refine np_op (vs:=[.int .u64 (m:Int),.int .u64 127]) (by simp [SV.val,e2]) ⟨.u64,m,127,.bool true,rfl,by simp [binV];omega,?_⟩
   refine np_T (by simp [SV.val,upd]) ?_
   refine np_op (vs:=[.int .u64 (m:Int),.int .u64 127]) (by simp [SV.val,upd,e2]) ⟨.u64,m,127,.int .u64 ((m%128:Nat):Int),rfl,?_,?_⟩
   ·have:=and_nat .u64 rfl m 127 hmm (by decide)
    rw [show (127:Nat)=2^7 - 1 from rfl,Nat.and_two_pow_sub_one_eq_mod] at this
    exact this
   refine np_op (vs:=[.int .u64 ((m%128:Nat):Int)]) (by simp [SV.val,upd]) ⟨.u64,_,rfl,?_⟩
   rw [wrap8,Nat.mod_eq_of_lt (show m%128<256 by omega)]
   refine np_op (vs:=[.int .u8 ((m%128:Nat):Int),.int .u8 128]) (by simp [SV.val,upd]) ⟨.u8,_,128,.int .u8 ((m%128+128:Nat):Int),rfl,?_,?_⟩
   ·have:=or_nat .u8 rfl (m%128) 128 (by show m%128<256;omega) (by decide)
    rw [or128 _ (Nat.mod_lt _ (by omega))] at this
    exact this
   have hu:u8 (UInt8.ofNat (m%128+128)) = .int .u8 ((m%128+128:Nat):Int):=by
    simp [u8];omega
   refine np_one (b:=UInt8.ofNat (m%128+128)) ho (by simp only [SV.val,upd,hu,if_true]) (by simp [SV.val,upd,e1]) (by unfold lim;omega) fun b' d' w2 o2 k2 => ?_
   refine np_op (vs:=[.int .u64 (m:Int),.int .u64 ((7:Nat):Int)]) (by simp [SV.val,upd,e2]) ⟨.u64,m,.u64,7,_,rfl,shr_nat .u64 m 7 (by decide),?_⟩
   show roundsP _ _ _ _ _
   refine ih (m / 2^7) _ w2 d' (out++[UInt8.ofNat (m%128+128)]) ?_ (by simp;omega) (by simp [upd,SV.val]) (by simp [upd,SV.val]) o2 (hb.trans k2) ?_
   ·rw [Nat.pow_succ] at hm
    exact Nat.div_lt_of_lt_mul (by rw [Nat.mul_comm];rw [← Nat.mul_assoc] at hm;exact hm)
   ·rw [List.append_assoc]
    simpa [wrV,h128] using hout
 exact key 4 n _ w (.slice none 0 0) [] (by simpa using h32) (by simp) (by simp [upd,SV.val]) (by simp [upd,SV.val,h0]) (own_nil w) (RowKit.Below.refl _ _) (by simp [wrUv])
theorem counted_ok (hn:Named P) {I:SI} {f:FuncId} (hf:fnP P f 4=some (q_counted I)) (hu:fnP P I.uvarint 1=some (q_uvarint I)) (hx:fnP P I.fixed 2=some (q_fixed I)) {w:World} {flex null:Bool} {n size:Nat} (hs:size≤8) (h32:n<65536) {K:Value→World→Prop}
  (hk:∀ d w',Own w' w.heap.size I.e8 d (countB flex null n size)→Keep [] w w'→K d w'):In.wp P (.call f) [.bool flex,.bool null,i64 (n:Int),i64 (size:Int)] w K:=by
 refine calls_of_np hn (vs:=[.bool flex,.bool null,i64 (n:Int),i64 (size:Int)]) hf fun η hη => ?_
 have h0:η 0 = .bool flex:=hη 0 (by simp)
 have h1:η 1 = .bool null:=hη 1 (by simp)
 have h2:η 2=i64 (n:Int):=hη 2 (by simp)
 have h3:η 3=i64 (size:Int):=hη 3 (by simp)
 cases flex with
 | true=>
  refine np_T (by simp [SV.val,h0]) ?_
  refine np_T (by simp [SV.val,upd,h0]) ?_
  cases null with
  | true=>
   refine np_T (by simp [SV.val,upd,h1]) ?_
   refine np_op (vs:=[(0:UInt8)].map u8) (by simp [SV.val,u8]) ⟨fun v hv=>⟨(0:Int),List.mem_singleton.1 (show v∈[Value.int .u8 0] from hv)⟩,?_⟩
   obtain ⟨r1,k1⟩:=alloc_row (w:=w) ([(0:UInt8)].map u8) I.e8
   show K _ _
   refine hk _ _ ⟨⟨by simp [countB,wrNull,wrUv,wrV],.inr ⟨w.heap.size,1,(([(0:UInt8)].map u8).toArray),rfl,Nat.le_refl _,heap_alloc_new w _,?_,?_,?_,?_⟩⟩,k1.size⟩ k1
   ·simp [countB,wrNull,wrUv,wrV]
   ·decide
   ·simp
   ·simp [countB,wrNull,wrUv,wrV]
  | false=>
   refine np_F (by simp [SV.val,upd,h1]) ?_
   refine np_T (by simp [SV.val,upd,h0]) ?_
   refine np_op (vs:=[i64 (n:Int)]) (by simp [SV.val,upd,h2]) ⟨.i64,n,rfl,?_⟩
   rw [wrap_nat .u64 rfl n (by show n<2^64;omega)]
   refine np_op (vs:=[.int .u64 (n:Int),.int .u64 1]) (by simp [SV.val,upd]) ⟨.u64,n,1,_,rfl,rfl,?_⟩
   rw [show ((n:Int)+1)=((n+1:Nat):Int) by omega,wrap_nat .u64 rfl (n+1) (by show n+1<2^64;omega)]
   refine np_op (vs:=[.int .u64 ((n+1:Nat):Int)]) (by simp [SV.val,upd]) (uvarint_ok hn hu (by omega) fun d w' o k => ?_)
   show K (pack _) w'
   simpa [pack,SV.val,upd] using hk d w' (by simpa [countB,wrLen] using o) k
 | false=>
  refine np_F (by simp [SV.val,h0]) ?_
  refine np_F (by simp [SV.val,upd,h0]) ?_
  refine np_F (by simp [SV.val,upd,h0]) ?_
  refine np_F (by simp [SV.val,upd,h0]) ?_
  cases null with
  | true=>
   refine np_T (by simp [SV.val,upd,h1]) ?_
   refine np_op (vs:=[i64 (-1),i64 (size:Int)]) (by simp [SV.val,upd,h3]) (fixed_ok hn hx hs fun d w' o k => ?_)
   show K (pack _) w'
   simpa [pack,SV.val,upd] using hk d w' (by simpa [countB,wrNull] using o) k
  | false=>
   refine np_F (by simp [SV.val,upd,h1]) ?_
   show NP.wp P (.op (.call I.fixed) [.s 2,.s 3] 11 <| .ret [.s 11]) _ _ w
   refine np_op (vs:=[i64 (n:Int),i64 (size:Int)]) (by simp [SV.val,upd,h2,h3]) (fixed_ok hn hx hs fun d w' o k => ?_)
   show K (pack _) w'
   simpa [pack,SV.val,upd] using hk d w' (by simpa [countB,wrLen] using o) k
end
end Go.Sp
namespace Go.Sp
open Go.Lx Go.Nx Go.Km Go.Mx Go.Kb Go.Mr
set_option linter.unusedSimpArgs false
set_option linter.unusedVariables false
def unkIn:NP := .draw <|
   .look .len [.s 7] 15 <|
   .look (.bin .lss) [.s 14,.s 15] 16 <|
   .ite (.s 16)
    (.look (.ia 2) [.s 7,.s 14] 17 <|
    .chk 17 <|
    .look .load [.q 17 0] 18 <|
    .look .load [.q 12 0] 19 <|
    .look (.bin .lss) [.s 18,.s 19] 20 <|
    .set 21 (.k (.bool true)) <|
    .set 22 (.s 7) <|
    .set 23 (.s 14) <|
    .set 24 (.q 17 0) <|
    .set 25 (.q 17 0) <|
    .set 26 (.s 18) <|
    .set 27 (.q 12 0) <|
    .set 28 (.s 19) <|
    .set 29 (.s 20) <|
    .set 30 (.s 20) <|
    .nil)
    (.set 21 (.k (.bool false)) <|
    .set 22 (.k (.tuple #[])) <|
    .set 23 (.k (.tuple #[])) <|
    .set 24 (.k (.tuple #[])) <|
    .set 25 (.k (.tuple #[])) <|
    .set 26 (.k (.tuple #[])) <|
    .set 27 (.k (.tuple #[])) <|
    .set 28 (.k (.tuple #[])) <|
    .set 29 (.k (.tuple #[])) <|
    .set 30 (.k (.bool false)) <|
    .nil) <|
   .ite (.s 30)
    (.nil)
    (.exit) <|
   .op (.bin .add) [.s 14,.k (.int .i64 1)] 31 <|
   .set 32 (.s 31) <|
   .set 14 (.s 32) <|
   .nil
def unkSh:NP := .op (.bin .gtr) [.s 73,.s 14] 74 <|
    .ite (.s 74)
     (.nil)
     (.exit) <|
    .op (.bin .sub) [.s 73,.k (.int .i64 1)] 75 <|
    .op (.ia 2) [.s 70,.s 75] 76 <|
    .chk 76 <|
    .op (.loadN 2) [.q 76 0] 77 <|
    .op (.ia 2) [.s 70,.s 73] 78 <|
    .chk 78 <|
    .op (.store 2) [.q 78 0,.s 77] 79 <|
    .op (.bin .sub) [.s 73,.k (.int .i64 1)] 80 <|
    .set 81 (.s 80) <|
    .set 73 (.s 81) <|
    .nil
def unkLast (I:SI):NP := .ite (.s 67)
   (.set 85 (.s 7) <|
   .nil)
   (.op (.lit [.int .u32 0,.slice none 0 0] []) [] 68 <|
   .op (.bslG 2) [.s 68] 69 <|
   .op (.appG I.eT 2) [.s 7,.s 69] 70 <|
   .op .len [.s 70] 71 <|
   .op (.bin .sub) [.s 71,.k (.int .i64 1)] 72 <|
   .set 73 (.s 72) <|
   .loop
    unkSh <|
   .op (.loadN 2) [.q 12 0] 82 <|
   .op (.ia 2) [.s 70,.s 14] 83 <|
   .chk 83 <|
   .op (.store 2) [.q 83 0,.s 82] 84 <|
   .set 85 (.s 70) <|
   .nil) <|
  .op (.bin .add) [.s 8,.k (.int .i64 1)] 86 <|
  .set 87 (.s 85) <|
  .set 88 (.s 86) <|
  .set 7 (.s 87) <|
  .set 8 (.s 88) <|
  .nil
def unkMid (I:SI):NP := .draw <|
  .look .load [.q 12 0] 33 <|
  .look (.bin .lss) [.s 33,.s 2] 34 <|
  .ite (.s 34)
   (.set 52 (.k (.bool true)) <|
   .set 53 (.k (.tuple #[])) <|
   .set 54 (.k (.tuple #[])) <|
   .set 55 (.k (.tuple #[])) <|
   .set 56 (.k (.tuple #[])) <|
   .set 57 (.k (.tuple #[])) <|
   .set 58 (.k (.tuple #[])) <|
   .set 59 (.k (.tuple #[])) <|
   .set 60 (.k (.tuple #[])) <|
   .set 61 (.k (.tuple #[])) <|
   .set 62 (.k (.tuple #[])) <|
   .set 63 (.k (.tuple #[])) <|
   .set 64 (.k (.tuple #[])) <|
   .set 65 (.k (.tuple #[])) <|
   .set 66 (.k (.tuple #[])) <|
   .set 67 (.k (.bool true)) <|
   .nil)
   (.look .len [.s 7] 35 <|
   .look (.bin .lss) [.s 14,.s 35] 36 <|
   .ite (.s 36)
    (.look (.ia 2) [.s 7,.s 14] 37 <|
    .chk 37 <|
    .look .load [.q 37 0] 38 <|
    .look .load [.q 12 0] 39 <|
    .look (.bin .eql) [.s 38,.s 39] 40 <|
    .set 41 (.k (.bool true)) <|
    .set 42 (.s 7) <|
    .set 43 (.s 14) <|
    .set 44 (.q 37 0) <|
    .set 45 (.q 37 0) <|
    .set 46 (.s 38) <|
    .set 47 (.q 12 0) <|
    .set 48 (.s 39) <|
    .set 49 (.s 40) <|
    .set 50 (.s 40) <|
    .set 51 (.s 40) <|
    .nil)
    (.set 41 (.k (.bool false)) <|
    .set 42 (.k (.tuple #[])) <|
    .set 43 (.k (.tuple #[])) <|
    .set 44 (.k (.tuple #[])) <|
    .set 45 (.k (.tuple #[])) <|
    .set 46 (.k (.tuple #[])) <|
    .set 47 (.k (.tuple #[])) <|
    .set 48 (.k (.tuple #[])) <|
    .set 49 (.k (.tuple #[])) <|
    .set 50 (.k (.bool false)) <|
    .set 51 (.k (.bool false)) <|
    .nil) <|
   .set 52 (.k (.bool false)) <|
   .set 53 (.s 14) <|
   .set 54 (.s 7) <|
   .set 55 (.s 35) <|
   .set 56 (.s 36) <|
   .set 57 (.s 41) <|
   .set 58 (.s 42) <|
   .set 59 (.s 43) <|
   .set 60 (.s 44) <|
   .set 61 (.s 45) <|
   .set 62 (.s 46) <|
   .set 63 (.s 47) <|
   .set 64 (.s 48) <|
   .set 65 (.s 49) <|
   .set 66 (.s 50) <|
   .set 67 (.s 51) <|
   .nil)<|unkLast I
def unkBody (I:SI):NP := .op (.bin .lss) [.s 8,.s 6] 9 <|
  .ite (.s 9)
   (.nil)
   (.exit) <|
  .op (.ia 2) [.s 5,.s 8] 10 <|
  .chk 10 <|
  .op (.loadN 2) [.q 10 0] 11 <|
  .op (.alloc [.int .u32 0,.slice none 0 0]) [] 12 <|
  .chk 12 <|
  .op (.store 2) [.q 12 0,.s 11] 13 <|
  .set 14 (.k (.int .i64 0)) <|
  .loop
   unkIn<|unkMid I
theorem q_unknown_eq (I:SI):q_unknown I=⟨.op (.call I.knownF) [.s 0] 2 <|
 .op .len [.s 1] 3 <|
 .op (.mm false) [.s 3,.k (.int .i64 32767)] 4 <|
 .op (.sl 2 false true false) [.s 1,.s 4] 5 <|
 .op .len [.s 5] 6 <|
 .set 7 (.k (.slice none 0 0)) <|
 .set 8 (.k (.int .i64 0)) <|
 .loop (unkBody I) <|
 .ret [.s 7],[.direct]⟩:=rfl
section
variable {P:Program}
theorem row_at {w:World} {B n sz j:Nat} {e:TypeId} {d:Value} {xs:List Value} (h:w.ownsRow B e sz d n xs) (hj:j<n):∃ g cap,d = .slice (some ⟨g,0,none⟩) n cap∧B≤g∧n≤cap∧w.rangeAt g (0+sz*j) ((xs.drop (sz*j)).take sz):=by
 rcases h.2 with ⟨_,h2⟩ | ⟨g,cap,cur,h1,h2,h3,h4,h5,h6,h7⟩
 ·omega
 refine ⟨g,cap,h1,h2,h4,?_⟩
 have hr:Row w g cur.toList:=⟨e,by rw [h3]⟩
 intro i v hi
 rw [Nat.zero_add]
 refine hr.cell ?_
 rw [List.getElem?_take] at hi
 split at hi
 ·rename_i hlt
  rw [List.getElem?_drop,← h7,List.getElem?_take] at hi
  split at hi
  ·exact hi
  ·cases hi
 ·cases hi
theorem wp_storeRow {w:World} {B n sz j:Nat} {e:TypeId} {xs:List Value} {g cap:Nat} {v:Value} {K:Value→World→Prop} (h:w.ownsRow B e sz (.slice (some ⟨g,0,none⟩) n cap) n xs) (hj:j<n) (hf:Fit sz v)
  (hk:∀ w',w'.ownsRow B e sz (.slice (some ⟨g,0,none⟩) n cap) n (put xs (sz*j) v.cells.toList)→Keep [g] w w'→K undef w'):In.wp P (.store sz) [ptrO g (0+sz*j),v] w K:=by
 rcases h.2 with ⟨h1,_⟩ | ⟨g',cap',cur,h1,h2,h3,h4,h5,h6,h7⟩
 ·cases h1
 cases h1
 have hle:sz*j+sz≤n*sz:=by
  have:(j+1)*sz≤n*sz:=Nat.mul_le_mul_right _ hj
  rw [Nat.mul_comm sz j];rw [Nat.add_mul] at this;omega
 have hnc:n*sz≤cap*sz:=Nat.mul_le_mul_right _ h4
 have hcs:cur.toList.length=cap*sz:=by simpa using h6
 have hvl:v.cells.toList.length=sz:=by simpa using hf.1
 refine ⟨g,0+sz*j,cur.toList,e,v,rfl,by rw [h3],hf.1,hf.2,by omega,?_⟩
 have e1:cur.toList.take (0+sz*j)++v.cells.toList++cur.toList.drop (0+sz*j+sz)=put cur.toList (sz*j) v.cells.toList:=by unfold put;rw [hvl,Nat.zero_add]
 rw [e1]
 have hr:=setRow_row (w:=w) (b:=g) (cs:=cur.toList) (ds:=put cur.toList (sz*j) v.cells.toList) ⟨e,by rw [h3]⟩
 refine hk _ ⟨?_,.inr ⟨g,cap,(put cur.toList (sz*j) v.cells.toList).toArray,rfl,h2,setRow_heap w g _ _ e (0,0) h3,h4,h5,?_,?_⟩⟩ hr.2
 ·rw [put_length _ _ _ (by rw [hvl,h.1];omega)];exact h.1
 ·simp only [List.size_toArray];rw [put_length _ _ _ (by rw [hvl];omega)];exact hcs
 ·rw [← h7]
  refine List.ext_getElem? fun i => ?_
  by_cases hi:i<n*sz
  ·rw [List.getElem?_take,if_pos hi]
   by_cases h8:i<sz*j∨sz*j+sz≤i
   ·rw [put_out _ _ _ (by rw [hvl];omega) i (by rw [hvl];exact h8),put_out _ _ _ (by rw [hvl,List.length_take];omega) i (by rw [hvl];exact h8),List.getElem?_take,if_pos hi]
   ·obtain ⟨q,rfl⟩:∃ q,i=sz*j+q:=⟨i - sz*j,by omega⟩
    rw [put_in _ _ _ (by rw [hvl];omega) q (by rw [hvl];omega),put_in _ _ _ (by rw [hvl,List.length_take];omega) q (by rw [hvl];omega)]
  ·rw [List.getElem?_take,if_neg hi,List.getElem?_eq_none]
   rw [put_length _ _ _ (by rw [hvl,List.length_take];omega),List.length_take];omega
theorem np_local {z cs:List Value} {sz n m j:Nat} {k:NP} {Q:Post} {η:Nat→Value} {w:World} (hz:z.length=sz) (hcs:cs.length=sz) (hone:cs.all (·.oneCell')=true) (hm:η m = .agg cs.toArray) (hne:m≠n)
  (h:∀ b w',Row w' b cs→w.heap.size≤b→Keep [] w w'→k.wp P Q (upd (upd η n (ptr b)) j undef) w'):(NP.op (.alloc z) [] n <| .chk n <| .op (.store sz) [.q n 0,.s m] j k).wp P Q η w:=by
 refine np_op (vs:=[]) rfl (wp_alloc fun b w1 r1 hb k1 => ?_)
 refine ⟨⟨_,by simp only [upd];rfl⟩,?_⟩
 refine np_op (vs:=[ptr b,.agg cs.toArray]) (by simp [SV.val,upd,Addr.add,hne,hm]) (wp_store r1 ⟨by simpa [Value.cells] using hcs,by simpa [Value.cells] using hone⟩ (by omega) fun w2 r2 k2 => ?_)
 refine h b w2 ?_ hb (k1.trans k2 fun x hx hlt=>by rw [List.mem_singleton.1 hx] at hlt;omega)
 have:put z 0 cs=cs:=by simp [put,hz,hcs]
 simpa [Value.cells,this] using r2
end
abbrev Ent:=Nat×(Value×Bs)
def eAdd (k:Nat) (v:Value×Bs):List Ent→List Ent
 | []=>[(k,v)]
 | (j,u)::r=>if k<j then (k,v)::(j,u)::r else if k=j then (j,u)::r else (j,u)::eAdd k v r
def epos (k:Nat):List Ent→Nat
 | []=>0
 | (j,_)::r=>if j<k then epos k r+1 else 0
def ecells (E:List Ent):List Value:=E.flatMap fun x=>[.int .u32 (x.1:Int),x.2.1]
def etg (E:List Ent):Tg:=E.map fun x=>(x.1,x.2.2)
theorem etg_add (k:Nat) (v:Value×Bs):∀ E,etg (eAdd k v E)=tagAdd k v.2 (etg E):=by
 intro E
 induction E with
 | nil=>rfl
 | cons x r ih=>
  obtain ⟨j,u⟩:=x
  simp only [eAdd,etg,List.map_cons,tagAdd]
  split
  ·rfl
  ·split
   ·rfl
   ·simp only [List.map_cons];unfold etg at ih;rw [ih]
theorem epos_le (k:Nat):∀ E,epos k E≤E.length:=by
 intro E
 induction E with
 | nil=>simp [epos]
 | cons x r ih=>obtain ⟨j,u⟩:=x;simp only [epos];split<;>simp;exact ih
theorem epos_lt (k:Nat):∀ (E:List Ent) (i:Nat) (h:i<epos k E),∃ h':i<E.length,E[i].1<k:=by
 intro E
 induction E with
 | nil=>intro i h;simp [epos] at h
 | cons x r ih=>
  intro i h
  obtain ⟨j,u⟩:=x
  simp only [epos] at h
  split at h
  ·rename_i hj
   cases i with
   | zero=>exact ⟨by simp,hj⟩
   | succ i=>
    obtain ⟨h1,h2⟩:=ih i (by omega)
    exact ⟨by simpa using h1,by simpa using h2⟩
  ·omega
theorem epos_at (k:Nat):∀ (E:List Ent) (h:epos k E<E.length),¬ E[epos k E].1<k:=by
 intro E
 induction E with
 | nil=>intro h;simp at h
 | cons x r ih=>
  intro h
  obtain ⟨j,u⟩:=x
  by_cases hj:j<k
  ·have e:epos k ((j,u)::r)=epos k r+1:=by simp [epos,hj]
   have h':epos k r<r.length:=by rw [e] at h;simpa using h
   have:=ih h'
   simpa [e] using this
  ·have e:epos k ((j,u)::r)=0:=by simp [epos,hj]
   simpa [e] using hj
theorem eAdd_pos (k:Nat) (v:Value×Bs):∀ E:List Ent,eAdd k v E=if ∃ h:epos k E<E.length,E[epos k E].1=k then E else E.take (epos k E)++(k,v)::E.drop (epos k E):=by
 intro E
 induction E with
 | nil=>simp [eAdd,epos]
 | cons x r ih=>
  obtain ⟨j,u⟩:=x
  simp only [eAdd]
  by_cases h1:k<j
  ·have e:epos k ((j,u)::r)=0:=by simp [epos];omega
   rw [if_pos h1,if_neg,e]
   ·simp
   ·rintro ⟨h,h2⟩
    simp [e] at h2;omega
  ·rw [if_neg h1]
   by_cases h2:k=j
   ·subst h2
    have e:epos k ((k,u)::r)=0:=by simp [epos]
    rw [if_pos rfl,if_pos]
    exact ⟨by simp [e],by simp [e]⟩
   ·have e:epos k ((j,u)::r)=epos k r+1:=by simp [epos];omega
    rw [if_neg h2,ih]
    by_cases h3:∃ h:epos k r<r.length,r[epos k r].1=k
    ·rw [if_pos h3,if_pos]
     obtain ⟨h4,h5⟩:=h3
     exact ⟨by simp [e];exact h4,by simpa [e] using h5⟩
    ·rw [if_neg h3,if_neg]
     ·simp [e]
     ·rintro ⟨h4,h5⟩
      exact h3 ⟨by simpa [e] using h4,by simpa [e] using h5⟩
theorem ecells_length (E:List Ent):(ecells E).length=E.length*2:=by
 induction E with
 | nil=>rfl
 | cons x r ih=>simp only [ecells,List.flatMap_cons,List.length_append,List.length_cons,List.length_nil] at ih ⊢;omega
theorem ecells_at:∀ (E:List Ent) (j:Nat) (h:j<E.length),((ecells E).drop (2*j)).take 2=[.int .u32 (E[j].1:Int),E[j].2.1]:=by
 intro E
 induction E with
 | nil=>intro j h;simp at h
 | cons x r ih=>
  intro j h
  cases j with
  | zero=>rfl
  | succ j=>
   have:=ih j (by simpa using h)
   rw [Nat.mul_add]
   simpa [ecells,List.flatMap_cons] using this
theorem ecells_app (E F:List Ent):ecells (E++F)=ecells E++ecells F:=by simp [ecells,List.flatMap_append]
structure OwnE (ok:Nat→Prop) (w0 w:World) (e:TypeId) (d:Value) (E:List Ent):Prop where
 row:w.ownsRow w0.heap.size e 2 d E.length (ecells E)
 keep:Keep [] w0 w
 ent:∀ x∈E,x.1<4294967296∧SlE ok w0 x.2.1 x.2.2
theorem row_next {w w':World} {B n sz:Nat} {e:TypeId} {d:Value} {xs:List Value} (h:w.ownsRow B e sz d n xs) {A:List Nat} (k:Keep A w w') (hA:∀ g,d.ownBlock=some g→g∉A):w'.ownsRow B e sz d n xs:=by
 refine ⟨h.1,?_⟩
 rcases h.2 with h2 | ⟨g,cap,cur,h1,h2,h3,h4⟩
 ·exact .inl h2
 ·refine .inr ⟨g,cap,cur,h1,h2,?_,h4⟩
  rw [k.block g (Array.getElem?_eq_some_iff.1 h3).1 (hA g (by rw [h1];rfl))];exact h3
theorem row_own {w:World} {B n sz:Nat} {e:TypeId} {d:Value} {xs:List Value} (h:w.ownsRow B e sz d n xs):(∃ a c,d = .slice a n c)∧∀ g,d.ownBlock=some g→B≤g∧g<w.heap.size:=by
 rcases h.2 with ⟨rfl,rfl⟩ | ⟨g,cap,cur,rfl,h2,h3,h4⟩
 ·exact ⟨⟨_,_,rfl⟩,fun g hg=>by cases hg⟩
 ·refine ⟨⟨_,_,rfl⟩,fun g' hg => ?_⟩
  simp only [Value.ownBlock,Option.some.injEq] at hg
  subst hg
  exact ⟨h2,(Array.getElem?_eq_some_iff.1 h3).1⟩
theorem OwnE.next {ok:Nat→Prop} {w0 w w':World} {e:TypeId} {d:Value} {E:List Ent} (h:OwnE ok w0 w e d E) (k:Keep [] w w'):OwnE ok w0 w' e d E:=⟨row_next h.row k (fun _ _ h=>by cases h),h.keep.then k,h.ent⟩
section
variable {P:Program}
theorem wp_ldc {w:World} {b o:Nat} {cs:List Value} {v:Value} {j:Nat} {K:Value→World→Prop} (h:w.rangeAt b o cs) (hv:cs[j]?=some v) (hk:K v w):In.wp P .load [ptrO b (o+j)] w K:=⟨_,v,rfl,h j v hv,hk⟩
theorem unkIn_ok {ok:Nat→Prop} {w0 w:World} {e:TypeId} {d vv:Value} {E:List Ent} {k b12:Nat} (hE:OwnE ok w0 w e d E) (hb:Row w b12 [.int .u32 (k:Int),vv]) (hlen:E.length≤32767) {Q:Post} {η:Nat→Value} (h7:η 7=d) (h12:η 12=ptr b12) (h14:η 14=i64 0)
  (hR:∀ η' w',Keep [] w w'→(∀ n,n<14→η' n=η n)→η' 14=i64 (epos k E:Int)→Q .ext η' w'):∃ n,roundsP (unkIn.wp P) Q n η w:=by
 have key:∀ (m i:Nat) (η1:Nat→Value) (w1:World),epos k E - i=m→i≤epos k E→(∀ n,n<14→η1 n=η n)→η1 14=i64 (i:Int)→Keep [] w w1→roundsP (unkIn.wp P) Q (m+1) η1 w1:=by
  intro m
  induction m with
  | zero=>
   intro i η1 w1 hm hi hag e14 kw
   have hie:i=epos k E:=by omega
   subst hie
   have kw2:=kw.then (keep_drawn w1)
   have hE2:=hE.next kw2
   have hb2:=hb.keep kw2 (by simp)
   obtain ⟨⟨a,c,hd⟩,_⟩:=row_own hE2.row
   show NP.wp P unkIn _ η1 w1
   refine np_draw ?_
   refine np_look (vs:=[.slice a E.length c]) (by simp [SV.val,hag 7 (by omega),h7,hd]) ⟨_,_,_,rfl,rfl,?_⟩
   refine np_look (vs:=[i64 (epos k E:Int),i64 (E.length:Int)]) (by simp [SV.val,upd,e14,goInt]) ⟨.i64,_,_,.bool (decide ((epos k E:Int)<(E.length:Int))),rfl,rfl,rfl,?_⟩
   by_cases hlt:epos k E<E.length
   ·obtain ⟨g,cap,hd',hg1,hg2,hg3⟩:=row_at hE2.row hlt
    rw [ecells_at E _ hlt] at hg3
    refine np_T (by simp [SV.val,upd,hlt]) ?_
    refine np_look (vs:=[.slice (some ⟨g,0,none⟩) E.length cap,i64 (epos k E:Int)]) (by simp [SV.val,upd,hag 7 (by omega),h7,hd',e14]) (wp_ia hlt ⟨rfl,?_⟩)
    refine ⟨⟨_,by simp only [upd];rfl⟩,?_⟩
    refine np_look (vs:=[ptrO g (0+2*epos k E+0)]) (by simp [SV.val,upd,Addr.add]) (wp_ldc hg3 rfl ⟨rfl,?_⟩)
    refine np_look (vs:=[ptrO b12 0]) (by simp [SV.val,upd,hag 12 (by omega),h12,Addr.add]) (wp_load hb2 rfl ⟨rfl,?_⟩)
    refine np_look (vs:=[.int .u32 (E[epos k E].1:Int),.int .u32 (k:Int)]) (by simp [SV.val,upd]) ⟨.u32,_,_,.bool (decide ((E[epos k E].1:Int)<(k:Int))),rfl,rfl,rfl,?_⟩
    have hge:=epos_at k E hlt
    refine np_F (by simp [SV.val,upd];omega) ?_
    refine hR _ _ kw2 (fun n hn => ?_) (by simp [upd,e14])
    simp only [upd]
    repeat rw [if_neg (by omega)]
    exact hag n hn
   ·refine np_F (by simp [SV.val,upd];omega) ?_
    refine np_F (by simp [SV.val,upd]) ?_
    refine hR _ _ kw2 (fun n hn => ?_) (by simp [upd,e14])
    simp only [upd]
    repeat rw [if_neg (by omega)]
    exact hag n hn
  | succ m ih=>
   intro i η1 w1 hm hi hag e14 kw
   have hlt':i<epos k E:=by omega
   obtain ⟨hlt,hlk⟩:=epos_lt k E i hlt'
   have kw2:=kw.then (keep_drawn w1)
   have hE2:=hE.next kw2
   have hb2:=hb.keep kw2 (by simp)
   obtain ⟨g,cap,hd',hg1,hg2,hg3⟩:=row_at hE2.row hlt
   rw [ecells_at E _ hlt] at hg3
   show NP.wp P unkIn _ η1 w1
   refine np_draw ?_
   refine np_look (vs:=[.slice (some ⟨g,0,none⟩) E.length cap]) (by simp [SV.val,hag 7 (by omega),h7,hd']) ⟨_,_,_,rfl,rfl,?_⟩
   refine np_look (vs:=[i64 (i:Int),i64 (E.length:Int)]) (by simp [SV.val,upd,e14,goInt]) ⟨.i64,_,_,.bool (decide ((i:Int)<(E.length:Int))),rfl,rfl,rfl,?_⟩
   refine np_T (by simp [SV.val,upd,hlt]) ?_
   refine np_look (vs:=[.slice (some ⟨g,0,none⟩) E.length cap,i64 (i:Int)]) (by simp [SV.val,upd,hag 7 (by omega),h7,hd',e14]) (wp_ia hlt ⟨rfl,?_⟩)
   refine ⟨⟨_,by simp only [upd];rfl⟩,?_⟩
   refine np_look (vs:=[ptrO g (0+2*i+0)]) (by simp [SV.val,upd,Addr.add]) (wp_ldc hg3 rfl ⟨rfl,?_⟩)
   refine np_look (vs:=[ptrO b12 0]) (by simp [SV.val,upd,hag 12 (by omega),h12,Addr.add]) (wp_load hb2 rfl ⟨rfl,?_⟩)
   refine np_look (vs:=[.int .u32 (E[i].1:Int),.int .u32 (k:Int)]) (by simp [SV.val,upd]) ⟨.u32,_,_,.bool (decide ((E[i].1:Int)<(k:Int))),rfl,rfl,rfl,?_⟩
   refine np_T (by simp [SV.val,upd,hlk]) ?_
   refine np_op (vs:=[i64 (i:Int),i64 1]) (by simp [SV.val,upd,e14]) ⟨.i64,i,1,_,rfl,rfl,?_⟩
   rw [wrap64 _ (by omega) (by omega)]
   show roundsP _ _ _ _ _
   refine ih (i+1) _ _ (by omega) (by omega) (fun n hn => ?_) (by simp [upd,SV.val]) kw2
   simp only [upd]
   repeat rw [if_neg (by omega)]
   exact hag n hn
 exact ⟨_,key _ 0 η w rfl (Nat.zero_le _) (fun n _=>rfl) (by simpa using h14) (Keep.refl _ _)⟩
theorem put_mid (A R:List Value) (a b x y:Value):put (A++a::b::R) A.length [x,y]=A++x::y::R:=by
 unfold put
 rw [List.take_left' rfl,show A.length+[x,y].length=(A++[a,b]).length by simp,show A++a::b::R=(A++[a,b])++R by simp,List.drop_left]
 simp
theorem unkSh_ok {w:World} {B:Nat} {e:TypeId} {g cap i:Nat} {E:List Ent} {Q:Post} {η:Nat→Value} {a b:Value} (h70:η 70 = .slice (some ⟨g,0,none⟩) (E.length+1) cap) (h14:η 14=i64 (i:Int)) (hi:i≤E.length) (hlen:E.length≤32767) (h73:η 73=i64 (E.length:Int))
  (hone:∀ x∈E,x.2.1.cells = #[x.2.1]∧x.2.1.oneCell'=true)
  (hrow:w.ownsRow B e 2 (.slice (some ⟨g,0,none⟩) (E.length+1) cap) (E.length+1) (ecells E++[a,b]))
  (hR:∀ η' w' a b,Keep [g] w w'→(∀ n,n<73→η' n=η n)→w'.ownsRow B e 2 (.slice (some ⟨g,0,none⟩) (E.length+1) cap) (E.length+1) (ecells (E.take i)++a::b::ecells (E.drop i))→Q .ext η' w'):∃ n,roundsP (unkSh.wp P) Q n η w:=by
 have key:∀ (m j:Nat) (η1:Nat→Value) (w1:World) (a b:Value),j - i=m→i≤j→j≤E.length→(∀ n,n<73→η1 n=η n)→η1 73=i64 (j:Int)→Keep [g] w w1→w1.ownsRow B e 2 (.slice (some ⟨g,0,none⟩) (E.length+1) cap) (E.length+1) (ecells (E.take j)++a::b::ecells (E.drop j))→roundsP (unkSh.wp P) Q (m+1) η1 w1:=by
  intro m
  induction m with
  | zero=>
   intro j η1 w1 a b hm hij hj hag e73 kw hr
   have hie:j=i:=by omega
   subst hie
   show NP.wp P unkSh _ η1 w1
   refine np_op (vs:=[i64 (j:Int),i64 (j:Int)]) (by simp [SV.val,e73,hag 14 (by omega),h14]) ⟨.i64,_,_,.bool false,rfl,by simp [binV],?_⟩
   refine np_F (by simp [SV.val,upd]) ?_
   refine hR _ _ a b kw (fun n hn => ?_) hr
   simp only [upd]
   repeat rw [if_neg (by omega)]
   exact hag n hn
  | succ m ih=>
   intro j η1 w1 a b hm hij hj hag e73 kw hr
   obtain ⟨q,rfl⟩:∃ q,j=q+1:=⟨j - 1,by omega⟩
   have hq:q<E.length:=by omega
   have htake:ecells (E.take (q+1))=ecells (E.take q)++[.int .u32 (E[q].1:Int),E[q].2.1]:=by
    rw [List.take_succ_eq_append_getElem hq,ecells_app];rfl
   have hdrop:ecells (E.drop q) = .int .u32 (E[q].1:Int)::E[q].2.1::ecells (E.drop (q+1)):=by
    rw [List.drop_eq_getElem_cons hq];rfl
   have hlA:(ecells (E.take q)).length=2*q:=by rw [ecells_length,List.length_take];omega
   show NP.wp P unkSh _ η1 w1
   refine np_op (vs:=[i64 ((q+1:Nat):Int),i64 (i:Int)]) (by simp [SV.val,e73,hag 14 (by omega),h14]) ⟨.i64,_,_,.bool true,rfl,by simp [binV];omega,?_⟩
   refine np_T (by simp [SV.val,upd]) ?_
   refine np_op (vs:=[i64 ((q+1:Nat):Int),i64 1]) (by simp [SV.val,upd,e73]) ⟨.i64,_,1,_,rfl,rfl,?_⟩
   rw [show (((q+1:Nat):Int) - 1)=(q:Int) by omega,wrap64 _ (by omega) (by omega)]
   refine np_op (vs:=[.slice (some ⟨g,0,none⟩) (E.length+1) cap,i64 (q:Int)]) (by simp [SV.val,upd,hag 70 (by omega),h70]) (wp_ia (by omega) ?_)
   refine ⟨⟨_,by simp only [upd];rfl⟩,?_⟩
   obtain ⟨g',cap',hd',_,_,hg3⟩:=row_at hr (show q<E.length+1 by omega)
   cases hd'
   have hx:((ecells (E.take (q+1))++a::b::ecells (E.drop (q+1))).drop (2*q)).take 2=[.int .u32 (E[q].1:Int),E[q].2.1]:=by
    rw [htake,← hlA,List.append_assoc,List.drop_left];rfl
   rw [hx] at hg3
   refine np_op (vs:=[ptrO g (0+2*q)]) (by simp [SV.val,upd,Addr.add]) (wp_lds hg3 rfl ?_)
   refine np_op (vs:=[.slice (some ⟨g,0,none⟩) (E.length+1) cap,i64 ((q+1:Nat):Int)]) (by simp [SV.val,upd,hag 70 (by omega),h70,e73]) (wp_ia (by omega) ?_)
   refine ⟨⟨_,by simp only [upd];rfl⟩,?_⟩
   have ho:=hone E[q] (List.getElem_mem hq)
   refine np_op (vs:=[ptrO g (0+2*(q+1)),.agg [.int .u32 (E[q].1:Int),E[q].2.1].toArray]) (by simp [SV.val,upd,Addr.add]) (wp_storeRow hr (show q+1<E.length+1 by omega) ⟨by simp [Value.cells],by simp [Value.cells,ho.2,show (Value.int .u32 (E[q].1:Int)).oneCell'=true from rfl]⟩ fun w2 r2 k2 => ?_)
   refine np_op (vs:=[i64 ((q+1:Nat):Int),i64 1]) (by simp [SV.val,upd,e73]) ⟨.i64,_,1,_,rfl,rfl,?_⟩
   rw [show (((q+1:Nat):Int) - 1)=(q:Int) by omega,wrap64 _ (by omega) (by omega)]
   show roundsP _ _ _ _ _
   refine ih q _ w2 (.int .u32 (E[q].1:Int)) E[q].2.1 (by omega) (by omega) (by omega) (fun n hn => ?_) (by simp [upd,SV.val]) (kw.then k2) ?_
   ·simp only [upd]
    repeat rw [if_neg (by omega)]
    exact hag n hn
   ·have hl2:(ecells (E.take (q+1))).length=2*(q+1):=by rw [ecells_length,List.length_take];omega
    have e1:=put_mid (ecells (E.take (q+1))) (ecells (E.drop (q+1))) a b (.int .u32 (E[q].1:Int)) E[q].2.1
    rw [hl2] at e1
    have e2:(Value.agg [.int .u32 (E[q].1:Int),E[q].2.1].toArray).cells.toList=[.int .u32 (E[q].1:Int),E[q].2.1]:=by simp [Value.cells]
    rw [e2,e1,htake] at r2
    rw [hdrop]
    simpa using r2
 refine ⟨_,key _ E.length η w a b rfl hi (Nat.le_refl _) (fun n _=>rfl) h73 (Keep.refl _ _) ?_⟩
 simpa [ecells] using hrow
end
section
variable {P:Program}
theorem slE_one {ok:Nat→Prop} {w:World} {v:Value} {bs:Bs} (h:SlE ok w v bs):v.cells = #[v]∧v.oneCell'=true:=by
 obtain ⟨a,c,rfl⟩:=h.slice
 exact ⟨rfl,rfl⟩
theorem gr_row {w w':World} {d d':Value} (g:Gr w d w' d') {b:Nat} {cs:List Value} (r:Row w b cs) (hb:∀ x,d.ownBlock=some x→x≠b):Row w' b cs∧∀ x,d'.ownBlock=some x→x≠b:=by
 have hlt:=r.lt
 constructor
 ·obtain ⟨e,r⟩:=r
  exact ⟨e,by rw [g.1.block b hlt (fun h=>hb b h.symm rfl)];exact r⟩
 ·intro x hx
  rcases g.2 with h | h
  ·exact hb x (by rw [← h];exact hx)
  ·have:=h x hx;omega
theorem unkMid_ok {I:SI} {ok:Nat→Prop} {w0 w:World} {d vv:Value} {bs:Bs} {E:List Ent} {k b12 i8 lo:Nat} (hE:OwnE ok w0 w I.eT d E) (hb:Row w b12 [.int .u32 (k:Int),vv]) (hbd:∀ x,d.ownBlock=some x→x≠b12) (hb0:w0.heap.size≤b12) (hlen:E.length≤32767) (hk32:k<4294967296) (hvv:SlE ok w0 vv bs) {Q:Post} {η:Nat→Value} (h7:η 7=d) (h12:η 12=ptr b12) (h2:η 2 = .int .u32 (lo:Int)) (h14:η 14=i64 (epos k E:Int)) (h8:η 8=i64 (i8:Int)) (hi8:i8<32767)
  (hR:∀ η' w' d',(∀ n,n<7→η' n=η n)→η' 7=d'→η' 8=i64 ((i8+1:Nat):Int)→OwnE ok w0 w' I.eT d' (if k<lo then E else eAdd k (vv,bs) E)→Q .nrm η' w'):(unkMid I).wp P Q η w:=by
 by_cases hlo:k<lo
 ·rw [if_pos hlo] at hR
  have kd:=keep_drawn w
  have hE2:=hE.next kd
  have hb2:=hb.keep kd (by simp)
  refine np_draw ?_
  refine np_look (vs:=[ptrO b12 0]) (by simp [SV.val,h12,Addr.add]) (wp_load hb2 rfl ⟨rfl,?_⟩)
  refine np_look (vs:=[.int .u32 (k:Int),.int .u32 (lo:Int)]) (by simp [SV.val,upd,h2]) ⟨.u32,_,_,.bool true,rfl,by simp [binV];omega,rfl,?_⟩
  refine np_T (by simp [SV.val,upd]) ?_
  show NP.wp P (unkLast I) _ _ _
  refine np_T (by simp [SV.val,upd]) ?_
  show NP.wp P (.op (.bin .add) [.s 8,.k (.int .i64 1)] 86 _) _ _ _
  refine np_op (vs:=[i64 (i8:Int),i64 1]) (by simp [SV.val,upd,h8]) ⟨.i64,i8,1,_,rfl,rfl,?_⟩
  rw [show ((i8:Int)+1)=((i8+1:Nat):Int) by omega,wrap64 _ (by omega) (by omega)]
  refine hR _ _ d (fun n hn => ?_) (by simp [upd,SV.val,h7]) (by simp [upd,SV.val]) hE2
  simp only [upd]
  repeat rw [if_neg (by omega)]
 rw [if_neg hlo] at hR
 have kd:=keep_drawn w
 have hE2:=hE.next kd
 have hb2:=hb.keep kd (by simp)
 obtain ⟨⟨a,c,hd⟩,hown⟩:=row_own hE2.row
 have hpos:=epos_le k E
 have fin:∀ (η':Nat→Value) (w':World) (d':Value),η' 85=d'→η' 8=i64 (i8:Int)→(∀ n,n<7→η' n=η n)→OwnE ok w0 w' I.eT d' (eAdd k (vv,bs) E) →
   NP.wp P (.op (.bin .add) [.s 8,.k (.int .i64 1)] 86 <| .set 87 (.s 85) <| .set 88 (.s 86) <| .set 7 (.s 87) <| .set 8 (.s 88) <| .nil) Q η' w':=by
  intro η' w' d' h85 h8' hag ho
  refine np_op (vs:=[i64 (i8:Int),i64 1]) (by simp [SV.val,h8']) ⟨.i64,i8,1,_,rfl,rfl,?_⟩
  rw [show ((i8:Int)+1)=((i8+1:Nat):Int) by omega,wrap64 _ (by omega) (by omega)]
  refine hR _ w' d' (fun n hn => ?_) (by simp [upd,SV.val,h85]) (by simp [upd,SV.val]) ho
  simp only [upd]
  repeat rw [if_neg (by omega)]
  exact hag n hn
 have ins:∀ (η':Nat→Value) (w1:World),OwnE ok w0 w1 I.eT d E→Row w1 b12 [.int .u32 (k:Int),vv]→(∀ n,n<15→η' n=η n)→η' 67 = .bool false→(¬ ∃ h:epos k E<E.length,E[epos k E].1=k)→NP.wp P (unkLast I) Q η' w1:=by
  intro η' w1 hE1 hb1 hag h67 hnew
  refine np_F (by simp [SV.val,h67]) ?_
  refine np_op (vs:=[]) rfl ⟨rfl,by simp,?_⟩
  refine np_op (vs:=[.agg [.int .u32 0,.slice none 0 0].toArray]) (by simp [SV.val,upd,putAll]) ⟨fun v hv=>by rw [List.mem_singleton.1 hv];rfl,fun e' => ?_⟩
  have hcc:(([Value.agg [Value.int IntKind.u32 0,Value.slice none 0 0].toArray].map (·.cells.toList)).flatten)=[.int .u32 0,.slice none 0 0]:=rfl
  rw [hcc]
  obtain ⟨r2,k2⟩:=alloc_row (w:=w1) [.int .u32 0,.slice none 0 0] e'
  generalize hw2:w1.alloc (.cells [Value.int IntKind.u32 0,Value.slice none 0 0].toArray e')=w2 at r2 k2
  have hE3:=hE1.next k2
  have hb3:=hb1.keep k2 (by simp)
  have hB2:w0.heap.size≤w2.heap.size:=hE3.keep.size
  refine np_op (vs:=[d,.slice (some ⟨w1.heap.size,0,none⟩) 1 1]) (by simp [SV.val,upd,hag 7 (by omega),h7]) ⟨w0.heap.size,d,E.length,ecells E,_,1,1,[.int .u32 0,.slice none 0 0],rfl,hE3.row,hB2,rfl,?_,?_,by omega,fun d3 w3 o3 b3 g3 => ?_⟩
  ·intro j u hj
   have:=r2.cell hj
   rw [addr_at,Nat.zero_add];exact this
  ·intro u hu
   simp only [List.mem_cons,List.not_mem_nil,or_false] at hu
   rcases hu with rfl | rfl<;>rfl
  obtain ⟨hb4,hbd3⟩:=gr_row g3 hb3 hbd
  obtain ⟨⟨a3,c3,hd3⟩,_⟩:=row_own o3
  obtain ⟨g,cap,hd3',hg1,hg2,_⟩:=row_at o3 (show 0<E.length+1 by omega)
  subst hd3'
  refine np_op (vs:=[.slice (some ⟨g,0,none⟩) (E.length+1) cap]) (by simp [SV.val,upd]) ⟨_,_,_,rfl,?_⟩
  refine np_op (vs:=[i64 ((E.length+1:Nat):Int),i64 1]) (by simp [SV.val,upd,goInt]) ⟨.i64,_,1,_,rfl,rfl,?_⟩
  rw [show (((E.length+1:Nat):Int) - 1)=(E.length:Int) by omega,wrap64 _ (by omega) (by omega)]
  have hone:∀ x∈E,x.2.1.cells = #[x.2.1]∧x.2.1.oneCell'=true:=fun x hx=>slE_one (hE.ent x hx).2
  refine unkSh_ok (i:=epos k E) (E:=E) (by simp [upd,SV.val]) (by simp [upd,SV.val,hag 14 (by omega),h14]) hpos hlen (by simp [upd,SV.val]) hone o3 fun η4 w4 a4 b4' k4 hag4 o4 => ?_
  have hgb:g≠b12:=hbd3 g rfl
  have hb5:=hb4.keep k4 (by simpa using Ne.symm hgb)
  have hbase:∀ n,n<15→η4 n=η n:=fun n hn=>by
   rw [hag4 n (by omega)]
   simp only [upd]
   repeat rw [if_neg (by omega)]
   exact hag n hn
  have h70:η4 70 = .slice (some ⟨g,0,none⟩) (E.length+1) cap:=by rw [hag4 70 (by omega)];simp [upd,SV.val]
  show NP.wp P (.op (.loadN 2) [.q 12 0] 82 _) _ η4 w4
  refine np_op (vs:=[ptrO b12 0]) (by simp [SV.val,hbase 12 (by omega),h12,Addr.add]) (wp_lds (by simpa using hb5.range 0 2) rfl ?_)
  refine np_op (vs:=[.slice (some ⟨g,0,none⟩) (E.length+1) cap,i64 (epos k E:Int)]) (by simp [SV.val,upd,h70,hbase 14 (by omega),h14]) (wp_ia (by omega) ?_)
  refine ⟨⟨_,by simp only [upd];rfl⟩,?_⟩
  have hvo:=slE_one hvv
  refine np_op (vs:=[ptrO g (0+2*epos k E),.agg [.int .u32 (k:Int),vv].toArray]) (by simp [SV.val,upd,Addr.add]) (wp_storeRow o4 (show epos k E<E.length+1 by omega) ⟨by simp [Value.cells],by simp [Value.cells,hvo.2,show (Value.int .u32 (k:Int)).oneCell'=true from rfl]⟩ fun w5 r5 k5 => ?_)
  have hl2:(ecells (E.take (epos k E))).length=2*epos k E:=by rw [ecells_length,List.length_take];omega
  have e1:=put_mid (ecells (E.take (epos k E))) (ecells (E.drop (epos k E))) a4 b4' (.int .u32 (k:Int)) vv
  rw [hl2] at e1
  have e2:(Value.agg [.int .u32 (k:Int),vv].toArray).cells.toList=[.int .u32 (k:Int),vv]:=by simp [Value.cells]
  rw [e2,e1] at r5
  have hadd:eAdd k (vv,bs) E=E.take (epos k E)++(k,(vv,bs))::E.drop (epos k E):=by rw [eAdd_pos,if_neg hnew]
  have hcells:ecells (eAdd k (vv,bs) E)=ecells (E.take (epos k E)) ++ .int .u32 (k:Int)::vv::ecells (E.drop (epos k E)):=by rw [hadd,ecells_app];rfl
  have hlen':(eAdd k (vv,bs) E).length=E.length+1:=by rw [hadd];simp;omega
  have hgB:w0.heap.size≤g:=hg1
  have kk:Keep [] w0 w5:=by
   refine Keep.of_below ((hE3.keep.below (fun x hx=>by cases hx) (Nat.le_refl _)).trans (b3.trans ((k4.then k5).below (fun x hx=>by rw [List.mem_singleton.1 hx];exact hgB) (Nat.le_trans hB2 b3.size))))
  refine fin _ w5 (.slice (some ⟨g,0,none⟩) (E.length+1) cap) (by simp [upd,SV.val,h70]) (by simp [upd,hbase 8 (by omega),h8]) (fun n hn => ?_) ⟨by rw [hlen',hcells];exact r5,kk,?_⟩
  ·simp only [upd]
   repeat rw [if_neg (by omega)]
   exact hbase n (by omega)
  ·intro x hx
   rw [hadd] at hx
   rcases List.mem_append.1 hx with h | h
   ·exact hE.ent x (List.mem_of_mem_take h)
   ·rcases List.mem_cons.1 h with rfl | h
    ·exact ⟨hk32,hvv⟩
    ·exact hE.ent x (List.mem_of_mem_drop h)
 refine np_draw ?_
 refine np_look (vs:=[ptrO b12 0]) (by simp [SV.val,h12,Addr.add]) (wp_load hb2 rfl ⟨rfl,?_⟩)
 refine np_look (vs:=[.int .u32 (k:Int),.int .u32 (lo:Int)]) (by simp [SV.val,upd,h2]) ⟨.u32,_,_,.bool false,rfl,by simp [binV];omega,rfl,?_⟩
 refine np_F (by simp [SV.val,upd]) ?_
 refine np_look (vs:=[.slice a E.length c]) (by simp [SV.val,upd,h7,hd]) ⟨_,_,_,rfl,rfl,?_⟩
 refine np_look (vs:=[i64 (epos k E:Int),i64 (E.length:Int)]) (by simp [SV.val,upd,h14,goInt]) ⟨.i64,_,_,.bool (decide ((epos k E:Int)<(E.length:Int))),rfl,rfl,rfl,?_⟩
 by_cases hlt:epos k E<E.length
 ·obtain ⟨g,cap,hd',hg1,hg2,hg3⟩:=row_at hE2.row hlt
  rw [ecells_at E _ hlt] at hg3
  refine np_T (by simp [SV.val,upd,hlt]) ?_
  refine np_look (vs:=[.slice (some ⟨g,0,none⟩) E.length cap,i64 (epos k E:Int)]) (by simp [SV.val,upd,h7,hd',h14]) (wp_ia hlt ⟨rfl,?_⟩)
  refine ⟨⟨_,by simp only [upd];rfl⟩,?_⟩
  refine np_look (vs:=[ptrO g (0+2*epos k E+0)]) (by simp [SV.val,upd,Addr.add]) (wp_ldc hg3 rfl ⟨rfl,?_⟩)
  refine np_look (vs:=[ptrO b12 0]) (by simp [SV.val,upd,h12,Addr.add]) (wp_load hb2 rfl ⟨rfl,?_⟩)
  refine np_look (vs:=[.int .u32 (E[epos k E].1:Int),.int .u32 (k:Int)]) (by simp [SV.val,upd]) ⟨.u32,_,_,.bool ((E[epos k E].1:Int) == (k:Int)),rfl,rfl,rfl,?_⟩
  by_cases hk:E[epos k E].1=k
  ·show NP.wp P (unkLast I) _ _ _
   refine np_T (by simp [SV.val,upd,hk]) ?_
   have hadd:eAdd k (vv,bs) E=E:=by rw [eAdd_pos,if_pos ⟨hlt,hk⟩]
   refine fin _ _ d (by simp [upd,SV.val,h7]) (by simp [upd,h8]) (fun n hn => ?_) (by rw [hadd];exact hE2)
   simp only [upd]
   repeat rw [if_neg (by omega)]
  ·show NP.wp P (unkLast I) _ _ _
   refine ins _ _ hE2 hb2 (fun n hn => ?_) (by simp [upd,SV.val];omega) (fun h=>hk h.2)
   simp only [upd]
   repeat rw [if_neg (by omega)]
 ·refine np_F (by simp [SV.val,upd];omega) ?_
  show NP.wp P (unkLast I) _ _ _
  refine ins _ _ hE2 hb2 (fun n hn => ?_) (by simp [upd,SV.val]) (fun h=>hlt h.1)
  simp only [upd]
  repeat rw [if_neg (by omega)]
theorem zcons_one {ok:Nat→Prop} {v:Value} {bs:Bs} {w:World} {k:Nat} (h:SlE ok w v bs):([.int .u32 (k:Int),v]:List Value).all (·.oneCell')=true:=by
 simp [(slE_one h).2,show (Value.int .u32 (k:Int)).oneCell'=true from rfl]
theorem unkBody_ok {I:SI} {ok:Nat→Prop} {lo:Nat} {w0:World} {vu:Value} {u:Tg} (hu:RepUo ok w0 vu u) (hlen:u.length≤32767) {Q:Post} {η:Nat→Value} {w:World} (h2:η 2 = .int .u32 (lo:Int)) (h5:η 5=vu) (h6:η 6=i64 (u.length:Int)) (h7:η 7 = .slice none 0 0) (h8:η 8=i64 0) (hw:Keep [] w0 w)
  (hR:∀ η' w' d E,η' 7=d→OwnE ok w0 w' I.eT d E→etg E=u.foldl (tagLo lo) []→Q .ext η' w'):∃ n,roundsP ((unkBody I).wp P) Q n η w:=by
 obtain ⟨al,c,rfl,hc,_,hat⟩:=hu
 have key:∀ (m i:Nat) (η1:Nat→Value) (w1:World) (d:Value) (E:List Ent),u.length - i=m→i≤u.length→(∀ n,n<7→η1 n=η n)→η1 7=d→η1 8=i64 (i:Int)→OwnE ok w0 w1 I.eT d E→E.length≤i →
   (u.drop i).foldl (tagLo lo) (etg E)=u.foldl (tagLo lo) []→roundsP ((unkBody I).wp P) Q (m+1) η1 w1:=by
  intro m
  induction m with
  | zero=>
   intro i η1 w1 d E hm hi hag e7 e8 hE hl hf
   have hie:i=u.length:=by omega
   subst hie
   show NP.wp P (unkBody I) _ η1 w1
   refine np_op (vs:=[i64 (u.length:Int),i64 (u.length:Int)]) (by simp [SV.val,e8,hag 6 (by omega),h6]) ⟨.i64,_,_,.bool false,rfl,by simp [binV],?_⟩
   refine np_F (by simp [SV.val,upd]) ?_
   refine hR _ _ d E (by simp [upd,e7]) hE ?_
   simpa using hf
  | succ m ih=>
   intro i η1 w1 d E hm hi hag e7 e8 hE hl hf
   have hlt:i<u.length:=by omega
   have hget:u[i]?=some u[i]:=List.getElem?_eq_getElem hlt
   obtain ⟨hk,b,o,vv,rfl,hr,hsl⟩:=hat i _ hget
   show NP.wp P (unkBody I) _ η1 w1
   refine np_op (vs:=[i64 (i:Int),i64 (u.length:Int)]) (by simp [SV.val,e8,hag 6 (by omega),h6]) ⟨.i64,_,_,.bool true,rfl,by simp [binV];omega,?_⟩
   refine np_T (by simp [SV.val,upd]) ?_
   refine np_op (vs:=[.slice (some ⟨b,o,none⟩) u.length c,i64 (i:Int)]) (by simp [SV.val,upd,hag 5 (by omega),h5,e8]) (wp_ia hlt ?_)
   refine ⟨⟨_,by simp only [upd];rfl⟩,?_⟩
   refine np_op (vs:=[ptrO b (o+2*i)]) (by simp [SV.val,upd,Addr.add]) (wp_lds (range_keep hr hE.keep) rfl ?_)
   refine np_local (sz:=2) (cs:=[.int .u32 (u[i].1:Int),vv]) rfl rfl (zcons_one hsl) (by simp [upd]) (by omega) fun b12 w2 r2 hb2 k2 => ?_
   obtain ⟨_,hown⟩:=row_own hE.row
   have hE2:=hE.next k2
   refine unkIn_ok (E:=E) (k:=u[i].1) (vv:=vv) hE2 r2 (by omega) (d:=d) (by simp [upd,SV.val,e7]) (by simp [upd,SV.val]) (by simp [upd,SV.val]) fun η3 w3 k3 hag3 e14 => ?_
   have hbase:∀ n,n<9→η3 n=η1 n:=fun n hn=>by
    rw [hag3 n (by omega)]
    simp only [upd]
    repeat rw [if_neg (by omega)]
   refine unkMid_ok (I:=I) (w0:=w0) (d:=d) (vv:=vv) (bs:=u[i].2) (E:=E) (k:=u[i].1) (b12:=b12) (i8:=i) (hE2.next k3) (r2.keep k3 (by simp)) (fun x hx=>by have:=hown x hx;omega) (by have:=hE.keep.size;omega) (by omega) hk hsl (by rw [hbase 7 (by omega),e7]) (by rw [hag3 12 (by omega)];simp [upd]) (by rw [hbase 2 (by omega),hag 2 (by omega),h2]) e14 (by rw [hbase 8 (by omega),e8]) (by omega) fun η4 w4 d4 hag4 e47 e48 hE4 => ?_
   show roundsP _ _ _ _ _
   refine ih (i+1) η4 w4 d4 _ (by omega) (by omega) (fun n hn => ?_) e47 e48 hE4 ?_ ?_
   ·rw [hag4 n hn,hbase n (by omega),hag n hn]
   ·by_cases hlo:u[i].1<lo
    ·rw [if_pos hlo];omega
    rw [if_neg hlo]
    have e:=congrArg List.length (etg_add u[i].1 (vv,u[i].2) E)
    have h1 := @tagAdd_length u[i].1 u[i].2 (etg E)
    simp only [etg,List.length_map] at e h1
    rw [e]
    have:(tagAdd u[i].1 u[i].2 (List.map (fun x=>(x.1,x.2.2)) E)).length≤E.length+1:=h1
    omega
   ·rw [← hf,List.drop_eq_getElem_cons hlt,List.foldl_cons]
    congr 1
    unfold tagLo
    rw [Nat.mod_eq_of_lt hk]
    split
    ·rfl
    ·rw [etg_add]
 exact ⟨_,key _ 0 η w (.slice none 0 0) [] rfl (Nat.zero_le _) (fun n _=>rfl) h7 h8 ⟨⟨rfl,.inl ⟨rfl,rfl⟩⟩,hw,fun x hx=>by cases hx⟩ (by simp) (by simp [etg])⟩
theorem RepU.take {ok:Nat→Prop} {w:World} {v:Value} {u:Tg} (h:RepUo ok w v u) (n:Nat):∃ a c,v = .slice a u.length c∧u.length≤c∧RepUo ok w (.slice a (min n u.length) c) (u.take n):=by
 obtain ⟨al,c,rfl,h1,h2,h3⟩:=h
 refine ⟨al,c,rfl,h1,al,c,by rw [List.length_take],by rw [List.length_take];omega,fun h0 ha => ?_,fun j p hj => ?_⟩
 ·subst ha
  cases u with
  | nil=>exact h2 rfl rfl
  | cons x r=>
   obtain ⟨_,b,o,vv,h,_⟩:=h3 0 x rfl
   cases h
 ·rw [List.getElem?_take] at hj
  split at hj
  ·exact h3 j p hj
  ·cases hj
def negT:Fl→Bool
 | .nil=>true
 | .cons _ _ _ _ tag _ _ _ r=>decide (tag<0) && negT r
def zF:List Value:=[.int .i64 0,.int .i64 0,.int .i64 0,.int .i64 0,.int .i64 0,.int .i64 0,.int .i64 0,.slice none 0 0]
def knBody:NP := .op (.bin .lss) [.s 3,.s 1] 4 <|
  .ite (.s 4)
   (.nil)
   (.exit) <|
  .op (.ia 8) [.s 0,.s 3] 5 <|
  .chk 5 <|
  .op (.loadN 8) [.q 5 0] 6 <|
  .op (.alloc zF) [] 7 <|
  .chk 7 <|
  .op (.store 8) [.q 7 0,.s 6] 8 <|
  .op .load [.q 7 4] 9 <|
  .op (.bin .geq) [.s 9,.k (.int .i64 0)] 10 <|
  .ite (.s 10)
   (.op .load [.q 7 4] 11 <|
   .op (.cv .u32) [.s 11] 12 <|
   .op (.bin .add) [.s 12,.k (.int .u32 1)] 13 <|
   .op (.mm true) [.s 2,.s 13] 14 <|
   .set 15 (.s 14) <|
   .nil)
   (.set 15 (.s 2) <|
   .nil) <|
  .op (.bin .add) [.s 3,.k (.int .i64 1)] 16 <|
  .set 17 (.s 15) <|
  .set 18 (.s 16) <|
  .set 2 (.s 17) <|
  .set 3 (.s 18) <|
  .nil
theorem q_known_eq (I:SI):q_known I=⟨.op .len [.s 0] 1 <| .set 2 (.k (.int .u32 0)) <| .set 3 (.k (.int .i64 0)) <| .loop knBody <| .ret [.s 2],[.direct]⟩:=rfl
theorem fcells_one {kind frm to nul tag df of:Int} {al:Option Addr} {n c:Nat}:(fcells kind frm to nul tag df of (.slice al n c)).all (·.oneCell')=true:=by
 simp [fcells,Value.oneCell']
theorem known_ok (hn:Named P) {I:SI} {f:FuncId} (hf:fnP P f 1=some (q_known I)) {w:World} {v:Value} {fl:Fl} (h:RepFl w v fl) (hneg:negT fl=true) (hlen:fl.len≤32767) {K:Value→World→Prop} (hk:∀ w',Keep [] w w'→K (.int .u32 0) w'):In.wp P (.call f) [v] w K:=by
 rw [q_known_eq] at hf
 refine calls_of_np hn (vs:=[v]) hf fun η hη => ?_
 have h0:η 0=v:=hη 0 (by simp)
 obtain ⟨al,c,rfl,hc,hrep⟩:=h
 refine np_op (vs:=[.slice al fl.len c]) (by simp [SV.val,h0]) ⟨_,_,_,rfl,?_⟩
 show ∃ m,roundsP _ _ m _ w
 refine ⟨fl.len+1,?_⟩
 have key:∀ (g:Fl) (i:Nat) (η1:Nat→Value) (w1:World),i+g.len=fl.len→negT g=true→RepF0 w1 al i g→η1 0 = .slice al fl.len c→η1 1=i64 (fl.len:Int)→η1 2 = .int .u32 0→η1 3=i64 (i:Int)→Keep [] w w1 →
   roundsP (knBody.wp P) (fun o η w=>match o with | .ext=>(NP.ret [.s 2]).wp P (postP [.direct] K) η w | o=>postP [.direct] K o η w) (g.len+1) η1 w1:=by
  intro g
  induction g with
  | nil=>
   intro i η1 w1 hi _ _ e0 e1 e2 e3 kw
   have hie:i=fl.len:=by simpa [Fl.len] using hi
   subst hie
   show NP.wp P knBody _ η1 w1
   refine np_op (vs:=[i64 (fl.len:Int),i64 (fl.len:Int)]) (by simp [SV.val,e3,e1]) ⟨.i64,_,_,.bool false,rfl,by simp [binV],?_⟩
   refine np_F (by simp [SV.val,upd]) ?_
   show K (pack _) w1
   simpa [pack,SV.val,upd,e2] using hk w1 kw
  | cons kind frm to nul tag df of sub r _ ih=>
   intro i η1 w1 hi hng hr e0 e1 e2 e3 kw
   simp only [Fl.len] at hi
   simp only [negT,Bool.and_eq_true,decide_eq_true_eq] at hng
   have hlt:i<fl.len:=by omega
   match al,hr,e0 with
   | some ⟨b,o,none⟩,⟨⟨v',h1,al',c',hv',h3,h4⟩,h5⟩,e0=>
    subst hv'
    show NP.wp P knBody _ η1 w1
    refine np_op (vs:=[i64 (i:Int),i64 (fl.len:Int)]) (by simp [SV.val,e3,e1]) ⟨.i64,_,_,.bool true,rfl,by simp [binV];omega,?_⟩
    refine np_T (by simp [SV.val,upd]) ?_
    refine np_op (vs:=[.slice (some ⟨b,o,none⟩) fl.len c,i64 (i:Int)]) (by simp [SV.val,upd,e0,e3]) (wp_ia hlt ?_)
    refine ⟨⟨_,by simp only [upd];rfl⟩,?_⟩
    refine np_op (vs:=[ptrO b (o+8*i)]) (by simp [SV.val,upd,Addr.add]) (wp_lds h1 rfl ?_)
    refine np_local (sz:=8) (cs:=fcells kind frm to nul tag df of (.slice al' sub.len c')) rfl rfl fcells_one (by simp [upd]) (by omega) fun b7 w2 r2 hb2 k2 => ?_
    refine np_op (vs:=[ptrO b7 4]) (by simp [SV.val,upd,Addr.add]) (wp_load r2 rfl ?_)
    refine np_op (vs:=[i64 tag,i64 0]) (by simp [SV.val,upd]) ⟨.i64,tag,0,.bool false,rfl,by simp [binV];omega,?_⟩
    refine np_F (by simp [SV.val,upd]) ?_
    show NP.wp P (.op (.bin .add) [.s 3,.k (.int .i64 1)] 16 _) _ _ _
    refine np_op (vs:=[i64 (i:Int),i64 1]) (by simp [SV.val,upd,e3]) ⟨.i64,_,1,_,rfl,rfl,?_⟩
    rw [show ((i:Int)+1)=((i+1:Nat):Int) by omega,wrap64 _ (by omega) (by omega)]
    show roundsP _ _ _ _ _
    refine ih (i+1) _ w2 (by omega) hng.2 (RepF0.keep k2 h5) (by simp [upd,e0]) (by simp [upd,e1]) (by simp [upd,SV.val,e2]) (by simp [upd,SV.val]) (kw.then k2)
 exact key fl 0 _ w (by omega) hneg hrep (by simp [upd,h0]) (by simp [upd,goInt]) (by simp [upd,SV.val]) (by simp [upd,SV.val]) (Keep.refl _ _)
theorem unknown_okG (hn:Named P) {I:SI} {f:FuncId} (hf:fnP P f 2=some (q_unknown I)) {ok:Nat→Prop} {lo:Nat} {w:World} {v vu:Value} {u:Tg} (hkn:∀ K:Value→World→Prop,(∀ w',Keep [] w w'→K (.int .u32 (lo:Int)) w')→In.wp P (.call I.knownF) [v] w K) (hu:RepUo ok w vu u) {K:Value→World→Prop}
  (hk:∀ v' w',Keep [] w w'→RepUo ok w' v' (unkLn lo u)→(∀ g,v'.ownBlock=some g→w.heap.size≤g)→K v' w'):In.wp P (.call f) [v,vu] w K:=by
 rw [q_unknown_eq] at hf
 refine calls_of_np hn (vs:=[v,vu]) hf fun η hη => ?_
 have h0:η 0=v:=hη 0 (by simp)
 have h1:η 1=vu:=hη 1 (by simp)
 obtain ⟨a,c,rfl,hc,hu'⟩:=RepU.take hu 32767
 refine np_op (vs:=[v]) (by simp [SV.val,h0]) (hkn _ fun w1 k1 => ?_)
 refine np_op (vs:=[.slice a u.length c]) (by simp [SV.val,upd,h1]) ⟨_,_,_,rfl,?_⟩
 refine np_op (vs:=[i64 (u.length:Int),i64 32767]) (by simp [SV.val,upd,goInt]) ⟨.i64,u.length,32767,rfl,?_⟩
 have hm:min (u.length:Int) 32767=((min 32767 u.length:Nat):Int):=by omega
 simp only [Bool.false_eq_true,if_false,hm]
 refine np_op (vs:=[.slice a u.length c,i64 ((min 32767 u.length:Nat):Int)]) (by simp [SV.val,upd,h1]) (wp_sl0 (by omega) ?_)
 refine np_op (vs:=[.slice a (min 32767 u.length) c]) (by simp [SV.val,upd]) ⟨_,_,_,rfl,?_⟩
 refine unkBody_ok (I:=I) (lo:=lo) (w0:=w) hu' (by rw [List.length_take];omega) (by simp [upd,SV.val]) (by simp [upd,SV.val]) (by simp [upd,SV.val,goInt]) (by simp [upd,SV.val]) (by simp [upd,SV.val]) k1 fun η2 w2 d E e7 hE hf => ?_
 show K (pack _) w2
 have hrep:RepUo ok w2 d (unkLn lo u):=by
  have hl:(unkLn lo u).length=E.length:=by unfold unkLn;rw [← hf];simp [etg]
  obtain ⟨⟨a2,c2,hd2⟩,_⟩:=row_own hE.row
  have hcc:E.length≤c2∧(E=[]→a2=none→c2=0):=by
   rcases hE.row.2 with ⟨h1,h2⟩ | ⟨g,cap,cur,h1,_,_,h4,_⟩
   ·rw [hd2,Value.slice.injEq] at h1;obtain ⟨rfl,h0,rfl⟩:=h1;exact ⟨by omega,fun _ _=>rfl⟩
   ·rw [hd2,Value.slice.injEq] at h1;obtain ⟨rfl,_,rfl⟩:=h1;exact ⟨h4,fun _ h=>by cases h⟩
  refine ⟨a2,c2,by rw [hl,hd2],by rw [hl];exact hcc.1,fun h0=>hcc.2 (List.length_eq_zero_iff.1 (by rw [← hl,h0];rfl)),fun j p hj => ?_⟩
  unfold unkLn at hj
  rw [← hf] at hj
  simp only [etg,List.getElem?_map,Option.map_eq_some_iff] at hj
  obtain ⟨x,hx,rfl⟩:=hj
  have hlt:j<E.length:=(List.getElem?_eq_some_iff.1 hx).1
  have hxe:x=E[j]:=by have:=List.getElem?_eq_getElem hlt;rw [this] at hx;cases hx;rfl
  obtain ⟨g,cap,hd',_,_,hr⟩:=row_at hE.row hlt
  rw [ecells_at E j hlt] at hr
  have hm:=hE.ent E[j] (List.getElem_mem hlt)
  subst hxe
  rw [hd2,Value.slice.injEq] at hd'
  exact ⟨hm.1,g,0,_,hd'.1,hr,slE_keep hm.2 hE.keep⟩
 simpa [pack,SV.val,e7] using hk d w2 hE.keep hrep (fun g hg=>((row_own hE.row).2 g hg).1)
theorem unknown_ok (hn:Named P) {I:SI} {f:FuncId} (hf:fnP P f 2=some (q_unknown I)) (hkn:fnP P I.knownF 1=some (q_known I)) {w:World} {v vu:Value} {fl:Fl} {u:Tg} (h:RepFl w v fl) (hneg:negT fl=true) (hlen:fl.len≤32767) (hu:RepU w vu u) {K:Value→World→Prop}
  (hk:∀ v' w',Keep [] w w'→RepU w' v' (unkL u)→K v' w'):In.wp P (.call f) [v,vu] w K:=
 unknown_okG hn hf (lo:=0) (fun K hK=>known_ok hn hkn h hneg hlen hK) hu fun v' w' k r _=>hk v' w' k (by rw [← unkLn_zero];exact r)
end
end Go.Sp
namespace Go.Sp
open Go.Lx Go.Nx Go.Km Go.Mx Go.Kb Go.Mr
set_option linter.unusedSimpArgs false
set_option linter.unusedVariables false
section
variable {P:Program}
abbrev New (w w':World) (v:Value) (bs:Bs):Prop:=Sl (fun k=>w.heap.size≤k) w' v bs
structure Fns (P:Program) (I:SI):Prop where
 named:Named P
 has:fnP P I.hasF 2=some (q_has I)
 null:fnP P I.nullF 3=some (q_null I)
 at':fnP P I.atF 2=some (q_at I)
 whole:fnP P I.whole 1=some (q_whole I)
 things:fnP P I.things 1=some (q_things I)
 width:fnP P I.width 1=some (q_width I)
 fixed:fnP P I.fixed 2=some (q_fixed I)
 uvarint:fnP P I.uvarint 1=some (q_uvarint I)
 counted:fnP P I.counted 4=some (q_counted I)
 known:fnP P I.knownF 1=some (q_known I)
 unknown:fnP P I.unknown 2=some (q_unknown I)
 value:fnP P I.valueF 6=some (q_value I)
 field:fnP P I.fieldF 4=some (q_field I)
 part:fnP P I.partF 4=some (q_part I)
 write:fnP P I.write 3=some (q_write I)
 zz3:fnP P I.zzFits3 1=some (q_zzFits3 I)
 zz4:fnP P I.zzFits4 1=some (q_zzFits4 I)
theorem and_one (n:Int):binV .and .i64 n 1=some (i64 (n%2)):=by
 have h:(BitVec.ofInt 64 n &&& BitVec.ofInt 64 1).toNat=(n%2).toNat:=by
  rw [BitVec.toNat_and]
  have e1:(BitVec.ofInt 64 1).toNat=2^1 - 1:=by decide
  rw [e1,Nat.and_two_pow_sub_one_eq_mod,BitVec.toNat_ofInt]
  omega
 simp only [binV]
 congr 2
 show IntKind.i64.wrap (((BitVec.ofInt 64 n &&& BitVec.ofInt 64 1).toNat:Nat):Int)=n%2
 rw [h,wrap64 _ (by omega) (by omega)]
 omega
def PartOk (P:Program) (I:SI) (fl:Fl):Prop:=∀ (w:World) (vF:Value) (cs:List Value) (t:Tr) (ver:Int) (flex:Bool) (K:Value→World→Prop),RepFl w vF fl→RepTr w cs t→(partB ver flex fl t).length≤lim →
 (∀ v w',New w w' v (partB ver flex fl t)→Keep [] w w'→K v w')→In.wp P (.call I.partF) [vF,i64 ver,.bool flex,.agg cs.toArray] w K
theorem new_row {w w':World} {b c:Nat} {bs:Bs} (hr:Row w' b (bs.map u8)) (hb:w.heap.size≤b) (hc:bs.length≤c):New w w' (.slice (some ⟨b,0,none⟩) bs.length c) bs:=
 .inr ⟨⟨b,0,none⟩,c,rfl,hc,row_bytes hr hb⟩
theorem Own.low {w':World} {B:Nat} {e:TypeId} {d:Value} {out:Bs} (h:Own w' B e d out) {w0:World} (hB:w0.heap.size≤B):New w0 w' d out:=(own_sl h).weak fun k _ hk=>Nat.le_trans hB hk
theorem oct_tail {I:SI} (F:Fns P I) {w w0:World} {k0:Keep [] w0 w} {flex null:Bool} {k:Nat} (hk8:k≤8) {v':Value} {s:Bs} (hs:SlE (fun _=>True) w v' (s.take 32767)) {n19 n20 n21 n22 n18:Nat} {η:Nat→Value} (h18:η n18=v') (h2:η 2 = .bool null) (h4:η 4 = .bool flex)
  (hne:n18≠n19∧n19≠n20∧n19≠n21∧n20≠n21∧4<n19∧4<n20∧4<n21) (hlim:(octB k flex null s).length≤lim) {K:Value→World→Prop} (hk:∀ v w',New w0 w' v (octB k flex null s)→Keep [] w0 w'→K v w') {Q:Post} (hQ:∀ η' v w',K v w'→Q (.ret [v]) η' w') :
  NP.wp P (.ite (.s 2)
     (.set n19 (.k (.slice none 0 0)) <|
     .nil)
     (.set n19 (.s n18) <|
     .nil) <|
    .op .len [.s n19] n20 <|
    .op (.call I.counted) [.s 4,.s 2,.s n20,.k (.int .i64 (k:Int))] n21 <|
    .op (.app I.e8) [.s n21,.s n19] n22 <|
    .ret [.s n22]) Q η w:=by
 obtain ⟨a1,a2,a3,a4,a5,a6,a7⟩:=hne
 have main:∀ (η1:Nat→Value) (v2:Value) (s2:Bs),SlE (fun _=>True) w v2 s2→s2.length≤32767→s2=(if null then [] else s.take 32767)→η1 n19=v2→η1 2 = .bool null→η1 4 = .bool flex→NP.wp P (.op .len [.s n19] n20 <| .op (.call I.counted) [.s 4,.s 2,.s n20,.k (.int .i64 (k:Int))] n21 <| .op (.app I.e8) [.s n21,.s n19] n22 <| .ret [.s n22]) Q η1 w:=by
  intro η1 v2 s2 hs2 hl2 hs2e e19 e2 e4
  obtain ⟨a,c,hv2⟩:=hs2.slice
  have hsb:octB k flex null s=countB flex null s2.length k++s2:=by unfold octB;rw [hs2e]
  rw [hsb] at hlim hk
  rw [List.length_append] at hlim
  refine np_op (vs:=[.slice a s2.length c]) (by simp [SV.val,e19,hv2]) ⟨_,_,_,rfl,?_⟩
  refine np_op (vs:=[.bool flex,.bool null,i64 (s2.length:Int),i64 (k:Int)]) (by simp [SV.val,upd,goInt,e2,e4,show (4:Nat)≠n20 by omega,show (2:Nat)≠n20 by omega]) (counted_ok F.named F.counted F.uvarint F.fixed hk8 (by omega) fun d w1 o1 k1 => ?_)
  refine np_op (vs:=[d,v2]) (by simp [SV.val,upd,e19,Ne.symm a3,a3,a2]) (wp_app o1 (slE_keep hs2 k1).sl0 (by omega) fun d2 w2 o2 k2 => ?_)
  have:=hk d2 w2 (Own.low o2 k0.size) (k0.then (Keep.of_below ((k1.below (fun x hx=>by cases hx) (Nat.le_refl _)).trans k2)))
  simp only [NP.wp,List.map,SV.val,upd,if_true]
  exact hQ _ _ _ this
 refine np_sel null (by simp [SV.val,h2]) ?_
 cases null with
 | true=>
  exact main _ _ [] (.inl (.inl ⟨rfl,rfl⟩)) (by simp) (by simp) (by simp [upd,SV.val]) (by simp [upd,h2,show (2:Nat)≠n19 by omega]) (by simp [upd,h4,show (4:Nat)≠n19 by omega])
 | false=>
  exact main _ _ (s.take 32767) hs (by rw [List.length_take];omega) (by simp) (by simp [upd,SV.val,h18]) (by simp [upd,h2,show (2:Nat)≠n19 by omega]) (by simp [upd,h4,show (4:Nat)≠n19 by omega])
theorem value_ok {I:SI} (F:Fns P I) {sub:Fl} (hp:PartOk P I sub) {w:World} {kind ver:Int} {vF:Value} {null flex:Bool} {cs:List Value} {t:Tr} (hF:RepFl w vF sub) (ht:RepTr w cs t) {K:Value→World→Prop} (hlim:(valB kind (partB ver flex sub) null flex t).length≤lim)
  (hk:∀ v w',New w w' v (valB kind (partB ver flex sub) null flex t)→Keep [] w w'→K v w'):In.wp P (.call I.valueF) [i64 kind,vF,.bool null,i64 ver,.bool flex,.agg cs.toArray] w K:=by
 refine calls_of_np F.named (vs:=[i64 kind,vF,.bool null,i64 ver,.bool flex,.agg cs.toArray]) F.value fun η hη => ?_
 have h0:η 0=i64 kind:=hη 0 (by simp)
 have h1:η 1=vF:=hη 1 (by simp)
 have h2:η 2 = .bool null:=hη 2 (by simp)
 have h3:η 3=i64 ver:=hη 3 (by simp)
 have h4:η 4 = .bool flex:=hη 4 (by simp)
 have h5:η 5 = .agg cs.toArray:=hη 5 (by simp)
 obtain ⟨n,vs,z,al,c,vu,hcs,hn,hz,hs,hu,hc,hnil,hl⟩:=rep_l ht
 refine np_op (vs:=[.agg cs.toArray]) (by simp [SV.val,h5]) (wp_box (by rw [hcs];rfl) fun b w1 r1 hb k1 => ?_)
 refine ⟨⟨_,by simp only [upd];rfl⟩,?_⟩
 have r1':=r1
 rw [hcs] at r1
 refine np_eq (a:=kind) (by simp [SV.val,upd,h0]) ?_
 by_cases hk0:kind=0
 ·refine np_T (by simp [SV.val,upd,hk0]) ?_
  refine np_op (vs:=[ptrO b 0]) (by simp [SV.val,upd,Addr.add]) (wp_load r1 rfl ?_)
  refine np_op (vs:=[i64 n,i64 1]) (by simp [SV.val,upd]) ⟨.i64,n,1,_,rfl,and_one n,?_⟩
  refine np_op (vs:=[i64 (n%2)]) (by simp [SV.val,upd]) ⟨.i64,_,rfl,?_⟩
  have hv:valB kind (partB ver flex sub) null flex t=[if n%2=1 then 1 else 0]:=by rw [valB,if_pos hk0,← hn]
  have hb8:Value.int .u8 (IntKind.u8.wrap (n%2))=u8 (if n%2=1 then 1 else 0):=by
   have:IntKind.u8.wrap (n%2)=n%2:=by simp [IntKind.wrap,IntKind.bits,IntKind.signed];omega
   rw [this]
   rcases Int.emod_two_eq n with h | h<;>rw [h]<;>simp [u8]
  refine np_op (vs:=([if n%2=1 then 1 else 0]:Bs).map u8) (by simp [SV.val,upd,hb8]) (wp_bsl fun b2 w2 hb2 k2 r2 => ?_)
  rw [hv] at hk
  show K (pack _) w2
  simpa [pack,SV.val,upd] using hk _ w2 (new_row (w:=w) r2 (by have:=k1.size;omega) (Nat.le_refl _)) (k1.then k2)
 refine np_F (by simp [SV.val,upd,hk0]) ?_
 refine np_eq (a:=kind) (by simp [SV.val,upd,h0]) ?_
 by_cases hk7:kind=7
 ·refine np_T (by simp [SV.val,upd,hk7]) ?_
  refine np_op (vs:=[i64 ((16:Nat):Int),i64 ((16:Nat):Int)]) (by simp [SV.val]) ⟨.i64,16,.i64,16,rfl,by omega,by omega,?_⟩
  obtain ⟨r2,k2⟩:=alloc_row (w:=w1) ((List.replicate 16 [Value.int .u8 0]).flatten) I.e8
  generalize hw2:w1.alloc (.cells ((List.replicate 16 [Value.int .u8 0]).flatten).toArray I.e8)=w2 at r2 k2
  have r1'':=r1.keep k2 (by simp)
  refine np_op (vs:=[ptrO b 1]) (by simp [SV.val,upd,Addr.add]) (wp_load r1'' rfl ?_)
  have hs2:=slE_keep hs (k1.then k2)
  obtain ⟨e2,r2'⟩:=r2
  refine np_op (vs:=[.slice (some ⟨w1.heap.size,0,none⟩) 16 16,vs]) (by simp [SV.val,upd]) ⟨_,0,_,e2,16,16,vs,t.s,rfl,r2',by simp,hs2.sl0,?_⟩
  have hrr:=setRow_row (w:=w2) (b:=w1.heap.size) (cs:=(List.replicate 16 [Value.int .u8 0]).flatten) (ds:=((t.s.take 16)++List.replicate (16 - t.s.length) (0:UInt8)).map u8) ⟨e2,r2'⟩
  have hds:(((List.replicate 16 [Value.int .u8 0]).flatten).take 0++(t.s.take 16).map u8++((List.replicate 16 [Value.int .u8 0]).flatten).drop (0+min t.s.length 16))=((t.s.take 16)++List.replicate (16 - t.s.length) (0:UInt8)).map u8:=by
   have e:(List.replicate 16 [Value.int .u8 0]).flatten=List.replicate 16 (Value.int .u8 0):=rfl
   rw [e,List.drop_replicate,List.map_append,List.map_replicate]
   simp only [List.take_zero,List.nil_append]
   congr 2
   omega
  rw [hds]
  have hv:valB kind (partB ver flex sub) null flex t=(t.s.take 16)++List.replicate (16 - t.s.length) 0:=by rw [valB,if_neg hk0,if_pos hk7]
  rw [hv] at hk
  have hlen16:((t.s.take 16)++List.replicate (16 - t.s.length) (0:UInt8)).length=16:=by simp;omega
  have hnew:=new_row (w:=w) (c:=16) hrr.1 (by have:=k1.size;omega) (by omega)
  rw [hlen16] at hnew
  show K (pack _) _
  have:=hk _ _ hnew ((k1.then k2).trans hrr.2 fun x hx hlt=>by rw [List.mem_singleton.1 hx] at hlt;have:=k1.size;omega)
  simpa [pack,SV.val,upd] using this
 refine np_F (by simp [SV.val,upd,hk7]) ?_
 refine np_eq (a:=kind) (by simp [SV.val,upd,h0]) ?_
 have hs1:=slE_keep hs k1
 by_cases hk8:kind=8
 ·have hv:valB kind (partB ver flex sub) null flex t=octB 2 flex null t.s:=by rw [valB,if_neg hk0,if_neg hk7,if_pos hk8]
  rw [hv] at hk hlim
  refine np_T (by simp [SV.val,upd,hk8]) ?_
  refine np_op (vs:=[ptrO b 1]) (by simp [SV.val,upd,Addr.add]) (wp_load r1 rfl ?_)
  refine np_op (vs:=[vs]) (by simp [SV.val,upd]) (whole_ok F.named F.whole hs1 fun v' hv' => ?_)
  refine oct_tail F (k0:=k1) (k:=2) (by omega) hv' (by simp [upd]) (by simp [upd,h2]) (by simp [upd,h4]) (by omega) hlim hk fun η' v w' h => ?_
  show K (pack _) w'
  simpa [pack] using h
 refine np_F (by simp [SV.val,upd,hk8]) ?_
 refine np_eq (a:=kind) (by simp [SV.val,upd,h0]) ?_
 by_cases hk9:kind=9
 ·have hv:valB kind (partB ver flex sub) null flex t=octB 4 flex null t.s:=by rw [valB,if_neg hk0,if_neg hk7,if_neg hk8,if_pos hk9]
  rw [hv] at hk hlim
  refine np_T (by simp [SV.val,upd,hk9]) ?_
  refine np_op (vs:=[ptrO b 1]) (by simp [SV.val,upd,Addr.add]) (wp_load r1 rfl ?_)
  refine np_op (vs:=[vs]) (by simp [SV.val,upd]) (whole_ok F.named F.whole hs1 fun v' hv' => ?_)
  refine oct_tail F (k0:=k1) (k:=4) (by omega) hv' (by simp [upd]) (by simp [upd,h2]) (by simp [upd,h4]) (by omega) hlim hk fun η' v w' h => ?_
  show K (pack _) w'
  simpa [pack] using h
 refine np_F (by simp [SV.val,upd,hk9]) ?_
 refine np_eq (a:=kind) (by simp [SV.val,upd,h0]) ?_
 by_cases hk10:kind=10
 ·have hv:valB kind (partB ver flex sub) null flex t=partB ver flex sub t:=by rw [valB,if_neg hk0,if_neg hk7,if_neg hk8,if_neg hk9,if_pos hk10]
  rw [hv] at hk hlim
  refine np_T (by simp [SV.val,upd,hk10]) ?_
  refine np_op (vs:=[ptrO b 0]) (by simp [SV.val,upd,Addr.add]) (wp_lds (by have h:=r1'.range 0 5;rw [List.drop_zero,List.take_of_length_le (by rw [hcs];simp [tcells])] at h;exact h) (by rw [hcs];rfl) ?_)
  refine np_op (vs:=[vF,i64 ver,.bool flex,.agg cs.toArray]) (by simp [SV.val,upd,h1,h3,h4]) (hp w1 vF cs t ver flex _ (hF.keep k1) (ht.keep k1) hlim fun v w2 hn2 k2 => ?_)
  show K (pack _) w2
  have:=hk v w2 (hn2.weak fun k _ hk=>Nat.le_trans k1.size hk) (k1.then k2)
  simpa [pack,SV.val,upd] using this
 refine np_F (by simp [SV.val,upd,hk10]) ?_
 have hv:valB kind (partB ver flex sub) null flex t=wrI (widthB kind) t.n:=by rw [valB,if_neg hk0,if_neg hk7,if_neg hk8,if_neg hk9,if_neg hk10]
 rw [hv] at hk
 have kd:=keep_drawn w1
 have r1d:=r1.keep kd (by simp)
 have hw8:widthB kind≤8:=by unfold widthB;split;omega;split;omega;split<;>omega
 show NP.wp P (.draw _) _ _ w1
 refine np_draw ?_
 refine np_look (vs:=[ptrO b 0]) (by simp [SV.val,upd,Addr.add]) (wp_load r1d rfl ⟨rfl,?_⟩)
 refine np_op (vs:=[i64 kind]) (by simp [SV.val,upd,h0]) (width_ok F.named F.width ?_)
 refine np_keep (vs:=[ptrO b 0]) (by simp [SV.val,upd,Addr.add]) (wp_load r1d rfl ⟨by simp [upd],rfl⟩) ?_
 refine np_op (vs:=[i64 n,i64 (widthB kind:Int)]) (by simp [SV.val,upd]) (fixed_ok F.named F.fixed hw8 fun d w2 o2 k2 => ?_)
 have r2d:=r1d.keep k2 (by simp)
 refine np_keep (vs:=[ptrO b 0]) (by simp [SV.val,upd,Addr.add]) (wp_load r2d rfl ⟨by simp [upd],rfl⟩) ?_
 show K (pack _) w2
 rw [hn] at o2
 have:=hk d w2 (Own.low o2 (k1.then kd).size) ((k1.then kd).then k2)
 simpa [pack,SV.val,upd] using this
end
end Go.Sp
namespace Go.Sp
open Go.Lx Go.Nx Go.Km Go.Mx Go.Kb Go.Mr
set_option linter.unusedSimpArgs false
set_option linter.unusedVariables false
theorem row_below {w w':World} {b B:Nat} {cs:List Value} (h:Row w b cs) (k:RowKit.Below B w w') (hb:b<B):Row w' b cs:=by
 obtain ⟨e,h⟩:=h
 exact ⟨e,by rw [k.block b hb];exact h⟩
def fldBody (I:SI):NP := .op (.bin .lss) [.s 18,.s 16] 19 <|
   .ite (.s 19)
    (.nil)
    (.exit) <|
   .draw <|
   .look .load [.q 4 6] 20 <|
   .look .load [.q 4 7] 21 <|
   .look (.ia 5) [.s 13,.s 18] 22 <|
   .chk 22 <|
   .look (.loadN 5) [.q 22 0] 23 <|
   .op (.call I.valueF) [.s 20,.s 21,.k (.bool false),.s 1,.s 2,.s 23] 24 <|
   .keep (.loadN 5) [.q 22 0] 23 <|
   .keep (.ia 5) [.s 13,.s 18] 22 <|
   .keep .load [.q 4 7] 21 <|
   .keep .load [.q 4 6] 20 <|
   .op (.app I.e8) [.s 17,.s 24] 25 <|
   .keep (.loadN 5) [.q 22 0] 23 <|
   .keep (.ia 5) [.s 13,.s 18] 22 <|
   .keep .load [.q 4 7] 21 <|
   .keep .load [.q 4 6] 20 <|
   .op (.bin .add) [.s 18,.k (.int .i64 1)] 26 <|
   .set 27 (.s 25) <|
   .set 28 (.s 26) <|
   .set 17 (.s 27) <|
   .set 18 (.s 28) <|
   .nil
def fldList (I:SI):NP := .op .len [.s 13] 14 <|
  .op (.call I.counted) [.s 2,.s 8,.s 14,.k (.int .i64 4)] 15 <|
  .op .len [.s 13] 16 <|
  .set 17 (.s 15) <|
  .set 18 (.k (.int .i64 0)) <|
  .loop (fldBody I) <|
  .ret [.s 17]
section
variable {P:Program}
theorem list_ok {I:SI} (F:Fns P I) {sub:Fl} (hp:PartOk P I sub) {w0 w:World} {b4:Nat} {kind frm to nul tag df of ver:Int} {vF:Value} {null flex:Bool} {l:List Tr} {al:Option Addr} {c:Nat}
  (hF:RepFl w0 vF sub) (k0:Keep [] w0 w) (hr4:Row w b4 (fcells kind frm to nul tag df of vF)) (hl:∀ j x,l[j]?=some x→∃ b o cs',al=some ⟨b,o,none⟩∧w0.rangeAt b (o+5*j) cs'∧RepTr w0 cs' x∧cs'.length=5) (hlen:l.length≤32767)
  {η:Nat→Value} (h1:η 1=i64 ver) (h2:η 2 = .bool flex) (h4:η 4=ptr b4) (h8:η 8 = .bool null) (h13:η 13 = .slice al l.length c)
  (hlim:(countB flex null l.length 4++(l.map (valB of (partB ver flex sub) false flex)).flatten).length≤lim) {K:Value→World→Prop} (hk:∀ v w',New w0 w' v (countB flex null l.length 4++(l.map (valB of (partB ver flex sub) false flex)).flatten)→Keep [] w0 w'→K v w') {Q:Post} (hQ:∀ η' v w',K v w'→Q (.ret [v]) η' w') :
  (fldList I).wp P Q η w:=by
 refine np_op (vs:=[.slice al l.length c]) (by simp [SV.val,h13]) ⟨_,_,_,rfl,?_⟩
 refine np_op (vs:=[.bool flex,.bool null,i64 (l.length:Int),i64 ((4:Nat):Int)]) (by simp [SV.val,upd,goInt,h2,h8]) (counted_ok F.named F.counted F.uvarint F.fixed (by omega) (by omega) fun d w1 o1 k1 => ?_)
 refine np_op (vs:=[.slice al l.length c]) (by simp [SV.val,upd,h13]) ⟨_,_,_,rfl,?_⟩
 show ∃ m,roundsP _ _ m _ w1
 refine ⟨l.length+1,?_⟩
 have hb4:b4<w.heap.size:=hr4.lt
 have key:∀ (m i:Nat) (η1:Nat→Value) (w2:World) (d:Value) (out:Bs),l.length - i=m→i≤l.length→(∀ n,n<14→η1 n=η n)→η1 16=i64 (l.length:Int)→η1 17=d→η1 18=i64 (i:Int)→Own w2 w.heap.size I.e8 d out→Keep [] w0 w2→Row w2 b4 (fcells kind frm to nul tag df of vF) →
   out++((l.drop i).map (valB of (partB ver flex sub) false flex)).flatten=countB flex null l.length 4++(l.map (valB of (partB ver flex sub) false flex)).flatten →
   roundsP ((fldBody I).wp P) (fun o η w=>match o with | .ext=>(NP.ret [.s 17]).wp P Q η w | o=>Q o η w) (m+1) η1 w2:=by
  intro m
  induction m with
  | zero=>
   intro i η1 w2 d out hm hi hag e16 e17 e18 ho kw hr hout
   have hie:i=l.length:=by omega
   subst hie
   show NP.wp P (fldBody I) _ η1 w2
   refine np_op (vs:=[i64 (l.length:Int),i64 (l.length:Int)]) (by simp [SV.val,e18,e16]) ⟨.i64,_,_,.bool false,rfl,by simp [binV],?_⟩
   refine np_F (by simp [SV.val,upd]) ?_
   show Q (.ret [_]) _ w2
   rw [List.drop_length,List.map_nil,List.flatten_nil,List.append_nil] at hout
   rw [hout] at ho
   have:=hk d w2 (Own.low ho k0.size) kw
   simp only [SV.val,upd]
   rw [if_neg (by omega),e17]
   exact hQ _ _ _ this
  | succ m ih=>
   intro i η1 w2 d out hm hi hag e16 e17 e18 ho kw hr hout
   have hlt:i<l.length:=by omega
   have hget:l[i]?=some l[i]:=List.getElem?_eq_getElem hlt
   obtain ⟨bb,oo,cs',hal,hrange,hrep,hcl⟩:=hl i _ hget
   have hsplit:((l.drop i).map (valB of (partB ver flex sub) false flex)).flatten=valB of (partB ver flex sub) false flex l[i]++((l.drop (i+1)).map (valB of (partB ver flex sub) false flex)).flatten:=by
    rw [List.drop_eq_getElem_cons hlt,List.map_cons,List.flatten_cons]
   have hlout:out.length+(valB of (partB ver flex sub) false flex l[i]).length≤lim:=by
    have:=congrArg List.length hout
    rw [hsplit,List.length_append,List.length_append] at this
    omega
   show NP.wp P (fldBody I) _ η1 w2
   refine np_op (vs:=[i64 (i:Int),i64 (l.length:Int)]) (by simp [SV.val,e18,e16]) ⟨.i64,_,_,.bool true,rfl,by simp [binV];omega,?_⟩
   refine np_T (by simp [SV.val,upd]) ?_
   refine np_draw ?_
   have kd:=keep_drawn w2
   have hrd:=hr.keep kd (by simp)
   have kwd:=kw.then kd
   have h13':η1 13 = .slice (some ⟨bb,oo,none⟩) l.length c:=by rw [hag 13 (by omega),h13,hal]
   refine np_look (vs:=[ptrO b4 6]) (by simp [SV.val,upd,hag 4 (by omega),h4,Addr.add]) (wp_load hrd rfl ⟨rfl,?_⟩)
   refine np_look (vs:=[ptrO b4 7]) (by simp [SV.val,upd,hag 4 (by omega),h4,Addr.add]) (wp_load hrd rfl ⟨rfl,?_⟩)
   refine np_look (vs:=[.slice (some ⟨bb,oo,none⟩) l.length c,i64 (i:Int)]) (by simp [SV.val,upd,h13',e18]) (wp_ia hlt ⟨rfl,?_⟩)
   refine ⟨⟨_,by simp only [upd];rfl⟩,?_⟩
   refine np_look (vs:=[ptrO bb (oo+5*i)]) (by simp [SV.val,upd,Addr.add]) (wp_lds (range_keep hrange kwd) hcl ⟨rfl,?_⟩)
   refine np_op (vs:=[i64 of,vF,.bool false,i64 ver,.bool flex,.agg cs'.toArray]) (by simp [SV.val,upd,hag 1 (by omega),hag 2 (by omega),h1,h2]) (value_ok F hp (hF.keep kwd) (hrep.keep kwd) (by omega) fun v3 w3 n3 k3 => ?_)
   have hr3:=hrd.keep k3 (by simp)
   have kw3:=kwd.then k3
   refine np_keep (vs:=[ptrO bb (oo+5*i)]) (by simp [SV.val,upd,Addr.add]) (wp_lds (range_keep hrange kw3) hcl ⟨by simp [upd],rfl⟩) ?_
   refine np_keep (vs:=[.slice (some ⟨bb,oo,none⟩) l.length c,i64 (i:Int)]) (by simp [SV.val,upd,h13',e18]) (wp_ia hlt ⟨by simp [upd],rfl⟩) ?_
   refine np_keep (vs:=[ptrO b4 7]) (by simp [SV.val,upd,hag 4 (by omega),h4,Addr.add]) (wp_load hr3 rfl ⟨by simp [upd],rfl⟩) ?_
   refine np_keep (vs:=[ptrO b4 6]) (by simp [SV.val,upd,hag 4 (by omega),h4,Addr.add]) (wp_load hr3 rfl ⟨by simp [upd],rfl⟩) ?_
   have ho3:Own w3 w.heap.size I.e8 d out:=ho.keep (kd.then k3) (fun _ _ h=>by cases h)
   refine np_op (vs:=[d,v3]) (by simp [SV.val,upd,e17]) (wp_app ho3 n3.sl0 hlout fun d4 w4 o4 b4' => ?_)
   have hr4':=row_below hr3 b4' hb4
   have kw4:Keep [] w0 w4:=Keep.of_below ((kw3.below (fun x hx=>by cases hx) (Nat.le_refl _)).trans ⟨b4'.os,b4'.tape,b4'.output,b4'.size,fun k hk=>b4'.block k (Nat.lt_of_lt_of_le hk k0.size)⟩)
   refine np_keep (vs:=[ptrO bb (oo+5*i)]) (by simp [SV.val,upd,Addr.add]) (wp_lds (range_keep hrange kw4) hcl ⟨by simp [upd],rfl⟩) ?_
   refine np_keep (vs:=[.slice (some ⟨bb,oo,none⟩) l.length c,i64 (i:Int)]) (by simp [SV.val,upd,h13',e18]) (wp_ia hlt ⟨by simp [upd],rfl⟩) ?_
   refine np_keep (vs:=[ptrO b4 7]) (by simp [SV.val,upd,hag 4 (by omega),h4,Addr.add]) (wp_load hr4' rfl ⟨by simp [upd],rfl⟩) ?_
   refine np_keep (vs:=[ptrO b4 6]) (by simp [SV.val,upd,hag 4 (by omega),h4,Addr.add]) (wp_load hr4' rfl ⟨by simp [upd],rfl⟩) ?_
   refine np_op (vs:=[i64 (i:Int),i64 1]) (by simp [SV.val,upd,e18]) ⟨.i64,_,1,_,rfl,rfl,?_⟩
   rw [show ((i:Int)+1)=((i+1:Nat):Int) by omega,wrap64 _ (by omega) (by omega)]
   show roundsP _ _ _ _ _
   refine ih (i+1) _ w4 d4 (out++valB of (partB ver flex sub) false flex l[i]) (by omega) (by omega) (fun n hn => ?_) (by simp [upd,e16]) (by simp [upd,SV.val]) (by simp [upd,SV.val]) o4 kw4 hr4' (by rw [List.append_assoc,← hsplit];exact hout)
   simp only [upd]
   repeat rw [if_neg (by omega)]
   exact hag n hn
 refine key l.length 0 _ w1 d _ (by omega) (Nat.zero_le _) (fun n hn => ?_) (by simp [upd,goInt]) (by simp [upd,SV.val]) (by simp [upd,SV.val]) o1 (k0.then k1) (hr4.keep k1 (by simp)) (by simp)
 simp only [upd]
 repeat rw [if_neg (by omega)]
theorem field_ok {I:SI} (F:Fns P I) {sub:Fl} (hp:PartOk P I sub) {w:World} {kind frm to nul tag df of ver:Int} {vF:Value} {flex:Bool} {cs:List Value} {t:Tr} (hF:RepFl w vF sub) (ht:RepTr w cs t) {K:Value→World→Prop} (hlim:(fieldB kind nul of (partB ver flex sub) ver flex t).length≤lim)
  (hk:∀ v w',New w w' v (fieldB kind nul of (partB ver flex sub) ver flex t)→Keep [] w w'→K v w'):In.wp P (.call I.fieldF) [.agg (fcells kind frm to nul tag df of vF).toArray,i64 ver,.bool flex,.agg cs.toArray] w K:=by
 refine calls_of_np F.named (vs:=[.agg (fcells kind frm to nul tag df of vF).toArray,i64 ver,.bool flex,.agg cs.toArray]) F.field fun η hη => ?_
 have h0:η 0 = .agg (fcells kind frm to nul tag df of vF).toArray:=hη 0 (by simp)
 have h1:η 1=i64 ver:=hη 1 (by simp)
 have h2:η 2 = .bool flex:=hη 2 (by simp)
 have h3:η 3 = .agg cs.toArray:=hη 3 (by simp)
 obtain ⟨n,vs,z,al,c,vu,hcs,hn,hz,hs,hu,hc,hnil,hl⟩:=rep_l ht
 have hcl:cs.length=5:=by rw [hcs];rfl
 refine np_op (vs:=[.agg (fcells kind frm to nul tag df of vF).toArray]) (by simp [SV.val,h0]) (wp_box rfl fun b4 w1 r4 hb4 k1 => ?_)
 refine ⟨⟨_,by simp only [upd];rfl⟩,?_⟩
 refine np_op (vs:=[.agg cs.toArray]) (by simp [SV.val,upd,h3]) (wp_box hcl fun b5 w2 r5 hb5 k2 => ?_)
 refine ⟨⟨_,by simp only [upd];rfl⟩,?_⟩
 have r4':=r4.keep k2 (by simp)
 have k12:=k1.then k2
 refine np_op (vs:=[ptrO b4 0]) (by simp [SV.val,upd,Addr.add]) (wp_lds (cs:=fcells kind frm to nul tag df of vF) (r4'.range 0 8) rfl ?_)
 have r5all:w2.rangeAt b5 0 cs:=by have h:=r5.range 0 5;rw [List.drop_zero,List.take_of_length_le (by omega)] at h;exact h
 refine np_op (vs:=[ptrO b5 0]) (by simp [SV.val,upd,Addr.add]) (wp_lds r5all hcl ?_)
 refine np_op (vs:=[.agg (fcells kind frm to nul tag df of vF).toArray,i64 ver,.agg cs.toArray]) (by simp [SV.val,upd,h1]) (null_ok F.named F.null (ht.keep k12) fun w3 k3 => ?_)
 have r4'':=r4'.keep k3 (by simp)
 have r5':=r5.keep k3 (by simp)
 have k13:=k12.then k3
 have r5n:Row w3 b5 (tcells n vs z (.slice al t.l.length c) vu):=by rw [hcs] at r5';exact r5'
 refine np_op (vs:=[ptrO b4 0]) (by simp [SV.val,upd,Addr.add]) (wp_load r4'' rfl ?_)
 refine np_eq (a:=kind) (by simp [SV.val,upd]) ?_
 by_cases h11:kind=11
 ·have hf:fieldB kind nul of (partB ver flex sub) ver flex t=countB flex (t.z && can nul ver) (if t.z && can nul ver then [] else t.l.take 32767).length 4++((if t.z && can nul ver then [] else t.l.take 32767).map (valB of (partB ver flex sub) false flex)).flatten:=by rw [fieldB,if_pos h11]
  rw [hf] at hlim hk
  refine np_T (by simp [SV.val,upd,h11]) ?_
  refine np_op (vs:=[ptrO b5 3]) (by simp [SV.val,upd,Addr.add]) (wp_load r5n rfl ?_)
  refine np_op (vs:=[.slice al t.l.length c]) (by simp [SV.val,upd]) (things_ok F.named F.things hc ?_)
  refine np_sel (t.z && can nul ver) (by simp [SV.val,upd]) ?_
  show NP.wp P (fldList I) _ _ w3
  cases hnull:(t.z && can nul ver) with
  | true=>
   rw [hnull] at hlim hk
   simp only [if_true] at hlim hk ⊢
   refine list_ok (l:=[]) (al:=none) (c:=0) F hp hF k13 r4'' (fun j x hj=>by simp at hj) (by simp) (by simp [upd,h1]) (by simp [upd,h2]) (by simp [upd]) (by simp [upd]) (by simp [upd,SV.val]) hlim hk fun η' v w' h => ?_
   show K (pack _) w'
   simpa [pack] using h
  | false=>
   rw [hnull] at hlim hk
   simp only [Bool.false_eq_true,if_false] at hlim hk ⊢
   refine list_ok (l:=t.l.take 32767) (al:=al) (c:=c) F hp hF k13 r4'' (fun j x hj => ?_) (by rw [List.length_take];omega) (by simp [upd,h1]) (by simp [upd,h2]) (by simp [upd]) (by simp [upd]) (by simp [upd,SV.val,List.length_take]) hlim hk fun η' v w' h => ?_
   ·rw [List.getElem?_take] at hj
    split at hj
    ·exact hl j x hj
    ·cases hj
   ·show K (pack _) w'
    simpa [pack] using h
 refine np_F (by simp [SV.val,upd,h11]) ?_
 show NP.wp P (.op .load [.q 4 0] 29 _) _ _ w3
 refine np_op (vs:=[ptrO b4 0]) (by simp [SV.val,upd,Addr.add]) (wp_load r4'' rfl ?_)
 refine np_eq (a:=kind) (by simp [SV.val,upd]) ?_
 have hval:(kind=10∧0≤nul→False)→∀ (η1:Nat→Value),η1 1=i64 ver→η1 2 = .bool flex→η1 4=ptr b4→η1 5=ptr b5→η1 8 = .bool (t.z && can nul ver) →
   NP.wp P (.op .load [.q 4 0] 43 <| .op .load [.q 4 7] 44 <| .op (.loadN 5) [.q 5 0] 45 <| .op (.call I.valueF) [.s 43,.s 44,.s 8,.s 1,.s 2,.s 45] 46 <| .ret [.s 46]) (postP [.direct] K) η1 w3:=by
  intro hno η1 e1 e2 e4 e5 e8
  have hf:fieldB kind nul of (partB ver flex sub) ver flex t=valB kind (partB ver flex sub) (t.z && can nul ver) flex t:=by rw [fieldB,if_neg h11,if_neg hno]
  rw [hf] at hlim hk
  refine np_op (vs:=[ptrO b4 0]) (by simp [SV.val,e4,Addr.add]) (wp_load r4'' rfl ?_)
  refine np_op (vs:=[ptrO b4 7]) (by simp [SV.val,upd,e4,Addr.add]) (wp_load r4'' rfl ?_)
  refine np_op (vs:=[ptrO b5 0]) (by simp [SV.val,upd,e5,Addr.add]) (wp_lds (range_keep r5all k3) hcl ?_)
  refine np_op (vs:=[i64 kind,vF,.bool (t.z && can nul ver),i64 ver,.bool flex,.agg cs.toArray]) (by simp [SV.val,upd,e1,e2,e8]) (value_ok F hp (hF.keep k13) (ht.keep k13) hlim fun v w4 n4 k4 => ?_)
  show K (pack _) w4
  have:=hk v w4 (n4.weak fun k _ h=>Nat.le_trans k13.size h) (k13.then k4)
  simpa [pack,SV.val,upd] using this
 by_cases h10:kind=10
 ·refine np_T (by simp [SV.val,upd,h10]) ?_
  refine np_T (by simp [SV.val,upd,h10]) ?_
  refine np_op (vs:=[ptrO b4 3]) (by simp [SV.val,upd,Addr.add]) (wp_load r4'' rfl ?_)
  refine np_T (by simp [SV.val,upd,h10]) ?_
  refine np_op (vs:=[i64 nul,i64 0]) (by simp [SV.val,upd]) ⟨.i64,nul,0,.bool (decide (nul≥0)),rfl,rfl,?_⟩
  refine np_T (by simp [SV.val,upd,h10]) ?_
  by_cases hn0:0≤nul
  ·have hf:fieldB kind nul of (partB ver flex sub) ver flex t=if t.z && can nul ver then [255] else 1::partB ver flex sub t:=by rw [fieldB,if_neg h11,if_pos ⟨h10,hn0⟩]
   rw [hf] at hlim hk
   refine np_T (by simp [SV.val,upd,hn0]) ?_
   cases hnull:(t.z && can nul ver) with
   | true=>
    rw [hnull] at hlim hk
    simp only [if_true] at hlim hk
    refine np_T (by simp [SV.val,upd]) ?_
    refine np_op (vs:=[i64 (-1),i64 ((1:Nat):Int)]) (by simp [SV.val]) (fixed_ok F.named F.fixed (by omega) fun d w4 o4 k4 => ?_)
    show K (pack _) w4
    have:=hk d w4 (Own.low o4 k13.size) (k13.then k4)
    simpa [pack,SV.val,upd] using this
   | false=>
    rw [hnull] at hlim hk
    simp only [Bool.false_eq_true,if_false] at hlim hk
    refine np_F (by simp [SV.val,upd]) ?_
    show NP.wp P (.draw _) _ _ w3
    refine np_draw ?_
    have kd:=keep_drawn w3
    have r4d:=r4''.keep kd (by simp)
    have r5d:=range_keep (range_keep r5all k3) kd
    have k1d:=k13.then kd
    refine np_look (vs:=[ptrO b4 7]) (by simp [SV.val,upd,Addr.add]) (wp_load r4d rfl ⟨rfl,?_⟩)
    refine np_look (vs:=[ptrO b5 0]) (by simp [SV.val,upd,Addr.add]) (wp_lds r5d hcl ⟨rfl,?_⟩)
    refine np_op (vs:=[i64 1,i64 ((1:Nat):Int)]) (by simp [SV.val]) (fixed_ok F.named F.fixed (by omega) fun d w4 o4 k4 => ?_)
    have r4e:=r4d.keep k4 (by simp)
    have r5e:=range_keep r5d k4
    have k14:=k1d.then k4
    refine np_keep (vs:=[ptrO b5 0]) (by simp [SV.val,upd,Addr.add]) (wp_lds r5e hcl ⟨by simp [upd],rfl⟩) ?_
    refine np_keep (vs:=[ptrO b4 7]) (by simp [SV.val,upd,Addr.add]) (wp_load r4e rfl ⟨by simp [upd],rfl⟩) ?_
    have hl1:(partB ver flex sub t).length+1≤lim:=by simpa using hlim
    refine np_op (vs:=[vF,i64 ver,.bool flex,.agg cs.toArray]) (by simp [SV.val,upd,h1,h2]) (hp w4 vF cs t ver flex _ (hF.keep k14) (ht.keep k14) (by omega) fun v5 w5 n5 k5 => ?_)
    have r4f:=r4e.keep k5 (by simp)
    have r5f:=range_keep r5e k5
    refine np_keep (vs:=[ptrO b5 0]) (by simp [SV.val,upd,Addr.add]) (wp_lds r5f hcl ⟨by simp [upd],rfl⟩) ?_
    refine np_keep (vs:=[ptrO b4 7]) (by simp [SV.val,upd,Addr.add]) (wp_load r4f rfl ⟨by simp [upd],rfl⟩) ?_
    have o5:Own w5 w3.heap.size I.e8 d (wrI 1 1):=o4.keep k5 (fun _ _ h=>by cases h)
    have hw1:wrI 1 1=[1]:=rfl
    rw [hw1] at o5
    refine np_op (vs:=[d,v5]) (by simp [SV.val,upd]) (wp_app o5 n5.sl0 (by simp only [List.length_singleton];omega) fun d6 w6 o6 b6 => ?_)
    have hb4lt:b4<w3.heap.size:=r4''.lt
    have r4g:=row_below r4f b6 hb4lt
    have r5g:w6.rangeAt b5 0 cs:=fun j v hj=>by
     have:=r5f j v hj
     rw [World.cell?_of_block (b6.block b5 r5'.lt)];exact this
    refine np_keep (vs:=[ptrO b5 0]) (by simp [SV.val,upd,Addr.add]) (wp_lds r5g hcl ⟨by simp [upd],rfl⟩) ?_
    refine np_keep (vs:=[ptrO b4 7]) (by simp [SV.val,upd,Addr.add]) (wp_load r4g rfl ⟨by simp [upd],rfl⟩) ?_
    show K (pack _) w6
    have k6:Keep [] w w6:=Keep.of_below (((k14.then k5).below (fun x hx=>by cases hx) (Nat.le_refl _)).trans ⟨b6.os,b6.tape,b6.output,b6.size,fun k hk=>b6.block k (Nat.lt_of_lt_of_le hk k13.size)⟩)
    have:=hk d6 w6 (Own.low o6 k13.size) k6
    simpa [pack,SV.val,upd] using this
  ·refine np_F (by simp [SV.val,upd,hn0];try omega) ?_
   show NP.wp P (.op .load [.q 4 0] 43 _) _ _ w3
   exact hval (fun h=>hn0 h.2) _ (by simp [upd,h1]) (by simp [upd,h2]) (by simp [upd]) (by simp [upd]) (by simp [upd])
 ·refine np_F (by simp [SV.val,upd,h10]) ?_
  refine np_F (by simp [SV.val,upd,h10]) ?_
  refine np_F (by simp [SV.val,upd,h10]) ?_
  refine np_F (by simp [SV.val,upd,h10]) ?_
  refine np_F (by simp [SV.val,upd,h10]) ?_
  show NP.wp P (.op .load [.q 4 0] 43 _) _ _ w3
  exact hval (fun h=>h10 h.1) _ (by simp [upd,h1]) (by simp [upd,h2]) (by simp [upd]) (by simp [upd]) (by simp [upd])
end
end Go.Sp

