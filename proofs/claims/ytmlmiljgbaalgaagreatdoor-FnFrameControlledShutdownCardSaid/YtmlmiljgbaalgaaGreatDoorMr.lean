import Derived.Test.YtmlmiljgbaalgaaGreatDoorKb
set_option linter.unusedSimpArgs false
set_option linter.unusedVariables false
namespace Go.Mr
open Go.Lx Go.Nx Go.Km Go.Mx Go.Kb
open Go.CX (T deep)
set_option linter.unusedSimpArgs false
set_option linter.unusedVariables false
def app:NP→NP→NP
 | .nil,r=>r
 | .op i args n k,r => .op i args n (app k r)
 | .chk n k,r => .chk n (app k r)
 | .set n x k,r => .set n x (app k r)
 | .ite c a b k,r => .ite c a b (app k r)
 | .loop b k,r => .loop b (app k r)
 | .keep i args n k,r => .keep i args n (app k r)
 | .look i args n k,r => .look i args n (app k r)
 | .draw k,r => .draw (app k r)
 | .exit,_ => .exit
 | .ret xs,_ => .ret xs
def asg:NP→List Nat
 | .nil=>[]
 | .op _ _ n k=>n::asg k
 | .chk _ k=>asg k
 | .set n _ k=>n::asg k
 | .ite _ a b k=>asg a++asg b++asg k
 | .loop b k=>asg b++asg k
 | .keep _ _ _ k=>asg k
 | .look _ _ n k=>n::asg k
 | .draw k=>asg k
 | .exit=>[]
 | .ret _=>[]
section
variable {P:Program}
abbrev Post:=Out→(Nat→Value)→World→Prop
def thenN (P:Program) (r:NP) (Q:Post):Post:=fun o η w=>match o with
 | .nrm=>r.wp P Q η w
 | o=>Q o η w
theorem wp_app' (r:NP):∀ (p:NP) (Q:Post) (η:Nat→Value) (w:World),(app p r).wp P Q η w→p.wp P (thenN P r Q) η w:=by
 intro p
 induction p with
 | nil=>intro Q η w h;exact h
 | op i args n k ih=>intro Q η w h;exact In.wp_mono (fun v w hk=>ih Q _ _ hk) h
 | chk n k ih=>intro Q η w h;exact ⟨h.1,ih Q _ _ h.2⟩
 | set n x k ih=>intro Q η w h;exact ih Q _ _ h
 | ite c a b k _ _ ihk=>
  intro Q η w h
  obtain ⟨t,h1,h2,h3⟩:=h
  refine ⟨t,h1,fun ht=>NP.wp_mono _ _ _ _ _ ?_ (h2 ht),fun ht=>NP.wp_mono _ _ _ _ _ ?_ (h3 ht)⟩
  all_goals
   intro o η w ho
   cases o with
   | nrm=>exact ihk Q _ _ ho
   | ext=>exact ho
   | ret vs=>exact ho
 | loop b k _ ihk=>
  intro Q η w h
  obtain ⟨n,hn⟩:=h
  refine ⟨n,roundsP_mono (fun Q Q' η w hq hb=>NP.wp_mono b Q Q' η w hq hb) ?_ n η w hn⟩
  intro o η w hne ho
  cases o with
  | nrm=>exact (hne rfl).elim
  | ext=>exact ihk Q _ _ ho
  | ret vs=>exact ho
 | keep i args n k ih=>intro Q η w h;exact ⟨h.1,ih Q _ _ h.2⟩
 | look i args n k ih=>intro Q η w h;exact In.wp_mono (fun v w hk=>⟨hk.1,ih Q _ _ hk.2⟩) h
 | draw k ih=>intro Q η w h;exact ih Q _ _ h
 | exit=>intro Q η w h;exact h
 | ret xs=>intro Q η w h;exact h
theorem wp_frame:∀ (p:NP) (Q:Post) (η:Nat→Value) (w:World),p.wp P Q η w→p.wp P (fun o η' w'=>Q o η' w'∧∀ n,n∉asg p→η' n=η n) η w:=by
 intro p
 induction p with
 | nil=>intro Q η w h;exact ⟨h,fun _ _=>rfl⟩
 | op i args n k ih=>
  intro Q η w h
  refine In.wp_mono (fun v w hk=>NP.wp_mono _ _ _ _ _ ?_ (ih Q _ _ hk)) h
  rintro o η' w' ⟨h1,h2⟩
  refine ⟨h1,fun m hm => ?_⟩
  simp only [asg,List.mem_cons,not_or] at hm
  rw [h2 m hm.2];simp [upd,hm.1]
 | chk n k ih=>intro Q η w h;exact ⟨h.1,ih Q _ _ h.2⟩
 | set n x k ih=>
  intro Q η w h
  refine NP.wp_mono k _ _ _ _ ?_ (ih Q _ _ h)
  rintro o η' w' ⟨h1,h2⟩
  refine ⟨h1,fun m hm => ?_⟩
  simp only [asg,List.mem_cons,not_or] at hm
  rw [h2 m hm.2];simp [upd,hm.1]
 | ite c a b k iha ihb ihk=>
  intro Q η w h
  obtain ⟨t,h1,h2,h3⟩:=h
  refine ⟨t,h1,fun ht=>NP.wp_mono _ _ _ _ _ ?_ (iha _ _ _ (h2 ht)),fun ht=>NP.wp_mono _ _ _ _ _ ?_ (ihb _ _ _ (h3 ht))⟩
  all_goals
   rintro o η' w' ⟨ho,hf⟩
   cases o with
   | nrm=>
    refine NP.wp_mono _ _ _ _ _ ?_ (ihk _ _ _ ho)
    rintro o η2 w2 ⟨q1,q2⟩
    refine ⟨q1,fun m hm => ?_⟩
    simp only [asg,List.mem_append,not_or] at hm
    rw [q2 m hm.2]
    first | exact hf m hm.1.1 | exact hf m hm.1.2
   | ext=>exact ⟨ho,fun m hm=>by simp only [asg,List.mem_append,not_or] at hm;first | exact hf m hm.1.1 | exact hf m hm.1.2⟩
   | ret vs=>exact ⟨ho,fun m hm=>by simp only [asg,List.mem_append,not_or] at hm;first | exact hf m hm.1.1 | exact hf m hm.1.2⟩
 | loop b k ihb ihk=>
  intro Q η w h
  obtain ⟨n,hn⟩:=h
  refine ⟨n,?_⟩
  have key:∀ n η1 w,(∀ m,m∉asg b++asg k→η1 m=η m)→roundsP (b.wp P) (fun o η w=>match o with | .ext=>k.wp P Q η w | o=>Q o η w) n η1 w →
    roundsP (b.wp P) (fun o η' w=>match o with | .ext=>k.wp P (fun o η' w'=>Q o η' w'∧∀ n,n∉asg (NP.loop b k)→η' n=η n) η' w | o=>Q o η' w∧∀ n,n∉asg (NP.loop b k)→η' n=η n) n η1 w:=by
   intro n
   induction n with
   | zero=>intro η1 w _ h;exact h
   | succ n ihn=>
    intro η1 w h1 hb
    refine NP.wp_mono _ _ _ _ _ ?_ (ihb _ _ _ hb)
    rintro o η' w' ⟨ho,hf⟩
    have hf':∀ m,m∉asg b++asg k→η' m=η m:=fun m hm=>by
     rw [hf m (fun h=>hm (List.mem_append_left _ h))];exact h1 m hm
    cases o with
    | nrm=>exact ihn η' w' hf' ho
    | ext=>
     refine NP.wp_mono _ _ _ _ _ ?_ (ihk _ _ _ ho)
     rintro o η2 w2 ⟨q1,q2⟩
     exact ⟨q1,fun m hm=>by rw [q2 m (fun h=>hm (List.mem_append_right _ h))];exact hf' m hm⟩
    | ret vs=>exact ⟨ho,fun m hm=>hf' m hm⟩
  exact key n η w (fun _ _=>rfl) hn
 | keep i args n k ih=>intro Q η w h;exact ⟨h.1,ih Q _ _ h.2⟩
 | look i args n k ih=>
  intro Q η w h
  refine In.wp_mono (fun v w hk=>⟨hk.1,NP.wp_mono _ _ _ _ _ ?_ (ih Q _ _ hk.2)⟩) h
  rintro o η' w' ⟨h1,h2⟩
  refine ⟨h1,fun m hm => ?_⟩
  simp only [asg,List.mem_cons,not_or] at hm
  rw [h2 m hm.2];simp [upd,hm.1]
 | draw k ih=>intro Q η w h;exact ih Q _ _ h
 | exit=>intro Q η w h;exact ⟨h,fun _ _=>rfl⟩
 | ret xs=>intro Q η w h;exact ⟨h,fun _ _=>rfl⟩
end
inductive AV where
 | k (v:Value)
 | o (j off:Nat)
 deriving Inhabited
def addOff (v:Value) (off:Nat):Value:=match v with
 | .pointer (some a) => .pointer (some (a.add off))
 | v=>v
def AV.val (ρ:Nat→Value):AV→Value
 | .k v=>v
 | .o j off=>addOff (ρ j) off
def AV.lt (c:Nat):AV→Prop
 | .k _=>True
 | .o j _=>j<c
def AV.is (j off:Nat):AV→Bool
 | .o a b=>a == j && b == off
 | _=>false
def evalA (E:T AV):SV→Option AV
 | .k v=>some (.k v)
 | .s n=>E.get deep n
 | .q n off=>match E.get deep n with
  | some (.o j f)=>some (.o j (f+off))
  | some (.k v)=>some (.k (addOff v off))
  | none=>none
def isO (E:T AV) (x:SV) (j off:Nat):Bool:=match evalA E x with
 | some a=>a.is j off
 | none=>false
structure EnvOk (E:T AV) (c:Nat) (ρ η:Nat→Value):Prop where
 get:∀ n a,E.get deep n=some a→a.lt c∧η n=a.val ρ
theorem addOff_zero (v:Value):addOff v 0=v:=by
 unfold addOff
 split
 ·simp [Addr.add]
 ·rfl
theorem addOff_add (v:Value) (m n:Nat):addOff (addOff v m) n=addOff v (m+n):=by
 cases v with
 | pointer a=>
  cases a with
  | none=>rfl
  | some a=>simp only [addOff,add_add']
 | _=>rfl
theorem evalA_val {E:T AV} {c:Nat} {ρ η:Nat→Value} (h:EnvOk E c ρ η) {x:SV} {a:AV} (ha:evalA E x=some a):a.lt c∧x.val η=a.val ρ:=by
 cases x with
 | k v=>simp only [evalA,Option.some.injEq] at ha;subst ha;exact ⟨trivial,rfl⟩
 | s n=>exact h.get n a ha
 | q n off=>
  have hq:∀ v,η n=v→SV.val η (.q n off)=addOff v off:=fun v hv=>by
   simp only [SV.val,hv];rfl
  simp only [evalA] at ha
  split at ha
  ·rename_i j f hg
   cases ha
   obtain ⟨h1,h2⟩:=h.get n _ hg
   exact ⟨h1,by rw [hq _ h2];simp only [AV.val,addOff_add]⟩
  ·rename_i v hg
   cases ha
   obtain ⟨h1,h2⟩:=h.get n _ hg
   exact ⟨trivial,by rw [hq _ h2];rfl⟩
  ·cases ha
theorem isO_val {E:T AV} {c:Nat} {ρ η:Nat→Value} (h:EnvOk E c ρ η) {x:SV} {j off:Nat} (ha:isO E x j off=true):j<c∧x.val η=addOff (ρ j) off:=by
 unfold isO at ha
 split at ha
 ·rename_i a he
  obtain ⟨h1,h2⟩:=evalA_val h he
  unfold AV.is at ha
  split at ha
  ·simp only [Bool.and_eq_true,beq_iff_eq] at ha
   obtain ⟨rfl,rfl⟩:=ha
   exact ⟨h1,h2⟩
  ·cases ha
 ·cases ha
theorem EnvOk.set {E:T AV} {c:Nat} {ρ η:Nat→Value} (h:EnvOk E c ρ η) {n:Nat} {a:AV} {v:Value} (ha:a.lt c) (hv:v=a.val ρ):EnvOk (E.set deep n (some a)) c ρ (upd η n v):=by
 refine ⟨fun m b hb => ?_⟩
 rcases CX.T.get_set _ _ _ _ _ _ hb with ⟨rfl,h2⟩ | ⟨h1,h2⟩
 ·cases h2;exact ⟨ha,by simp [upd,hv]⟩
 ·obtain ⟨g1,g2⟩:=h.get m b h2
  exact ⟨g1,by simp only [upd,if_neg h1];exact g2⟩
theorem EnvOk.clear {E:T AV} {c:Nat} {ρ η:Nat→Value} (h:EnvOk E c ρ η) {n:Nat} {v:Value}:EnvOk (E.set deep n none) c ρ (upd η n v):=by
 refine ⟨fun m b hb => ?_⟩
 rcases CX.T.get_set _ _ _ _ _ _ hb with ⟨rfl,h2⟩ | ⟨h1,h2⟩
 ·cases h2
 ·obtain ⟨g1,g2⟩:=h.get m b h2
  exact ⟨g1,by simp only [upd,if_neg h1];exact g2⟩
theorem AV.val_lt {a:AV} {c:Nat} {ρ ρ':Nat→Value} (h:a.lt c) (hρ:∀ j,j<c→ρ' j=ρ j):a.val ρ'=a.val ρ:=by
 cases a with
 | k v=>rfl
 | o j off=>simp only [AV.val,hρ j h]
theorem AV.lt_le {a:AV} {c c':Nat} (h:a.lt c) (hc:c≤c'):a.lt c':=by
 cases a with
 | k v=>trivial
 | o j off=>exact Nat.lt_of_lt_of_le h hc
theorem EnvOk.more {E:T AV} {c c':Nat} {ρ ρ' η:Nat→Value} (h:EnvOk E c ρ η) (hc:c≤c') (hρ:∀ j,j<c→ρ' j=ρ j):EnvOk E c' ρ' η:=
 ⟨fun n a ha=>⟨AV.lt_le (h.get n a ha).1 hc,by rw [AV.val_lt (h.get n a ha).1 hρ];exact (h.get n a ha).2⟩⟩
theorem EnvOk.fresh {E:T AV} {c:Nat} {ρ η:Nat→Value} (h:EnvOk E c ρ η) (n:Nat) (v:Value):EnvOk (E.set deep n (some (.o c 0))) (c+1) (upd ρ c v) (upd η n v):=
 (h.more (Nat.le_succ c) (fun j hj=>by simp [upd,Nat.ne_of_lt hj])).set (Nat.lt_succ_self c) (by simp [AV.val,addOff_zero,upd])
structure St where
 env:T AV
 nj:Nat
 sj:Nat
 cells:List (Option Value)
def St.put (st:St) (n:Nat) (a:AV):St:={ st with env:=st.env.set deep n (some a) }
def isNilSl:Value→Bool
 | .slice none 0 0=>true
 | _=>false
def binK (op:BinOp) (a b:Option AV):Option Value:=
 match a,b with
 | some (.k (.int k x)),some (.k (.int k' y))=>if k=k' then binV op k x y else none
 | _,_=>none
def svU (n:Nat):SV→Bool
 | .k _=>false
 | .s m=>m == n
 | .q m _=>m == n
def usesN (n:Nat):NP→Bool
 | .nil=>false
 | .op _ args _ k=>args.any (svU n) || usesN n k
 | .chk m k=>m == n || usesN n k
 | .set _ x k=>svU n x || usesN n k
 | .ite c a b k=>svU n c || (usesN n a || (usesN n b || usesN n k))
 | .loop b k=>usesN n b || usesN n k
 | .keep _ args m k=>m == n || (args.any (svU n) || usesN n k)
 | .look _ args _ k=>args.any (svU n) || usesN n k
 | .draw k=>usesN n k
 | .exit=>false
 | .ret xs=>xs.any (svU n)
def stepS:NP→St→Option (NP×St)
 | .set n x k,st=>match evalA st.env x with
  | some a=>some (k,st.put n a)
  | none=>some (k,{ st with env:=st.env.set deep n none })
 | .op (.bin op) [x,y] n k,st=>(binK op (evalA st.env x) (evalA st.env y)).map fun v=>(k,st.put n (.k v))
 | .op .not [x] n k,st=>match evalA st.env x with
  | some (.k (.bool b))=>some (k,st.put n (.k (.bool (!b))))
  | _=>none
 | .op .load [x] n k,st=>match evalA st.env x with
  | some (.o j off)=>if j=st.sj then match st.cells[off]? with
    | some (some v)=>some (k,st.put n (.k v))
    | some none=>if usesN n k then none else some (k,{ st with env:=st.env.set deep n none })
    | none=>none
   else none
  | _=>none
 | .op (.sl _ false true false) [x,.k (.int _ 0)] n k,st=>match evalA st.env x with
  | some (.k v)=>if isNilSl v then some (k,st.put n (.k (.slice none 0 0))) else none
  | _=>none
 | .ite c a b k,st=>match evalA st.env c with
  | some (.k (.bool t))=>some (app (if t then a else b) k,st)
  | _=>none
 | .chk n k,st=>if isO st.env (.s n) st.sj 0 then some (k,st) else none
 | _,_=>none
def runS:Nat→NP→St→NP×St
 | 0,p,st=>(p,st)
 | f+1,p,st=>match stepS p st with
  | some (p',st')=>runS f p' st'
  | none=>(p,st)
section
variable {P:Program}
structure Cur (st:St) (ρ:Nat→Value) (w:World) (S base:Nat) (cs:List Value):Prop where
 ptr:ρ st.sj = .pointer (some ⟨S,base,none⟩)
 row:Row w S cs
 len:base+st.cells.length≤cs.length
 known:∀ j v,st.cells[j]?=some (some v)→cs[base+j]?=some v
theorem addr_at (S base off:Nat):(⟨S,base,none⟩:Addr).add off=⟨S,base+off,none⟩:=by
 unfold Addr.add
 split<;>simp_all
theorem stepS_ok {p p':NP} {st st':St} (h:stepS p st=some (p',st')):st'.nj=st.nj∧st'.sj=st.sj∧st'.cells=st.cells ∧
  ∀ {ρ η:Nat→Value} {w:World} {S base:Nat} {cs:List Value} {Q:Post},EnvOk st.env st.nj ρ η→Cur st ρ w S base cs→(∀ η',EnvOk st'.env st.nj ρ η'→p'.wp P Q η' w)→p.wp P Q η w:=by
 unfold stepS at h
 split at h
 ·rename_i n x k
  split at h
  ·rename_i a ha
   cases h
   refine ⟨rfl,rfl,rfl,fun {ρ η w S base cs Q} he hc hk => ?_⟩
   obtain ⟨h1,h2⟩:=evalA_val he ha
   exact hk _ (he.set h1 h2)
  ·cases h
   exact ⟨rfl,rfl,rfl,fun {ρ η w S base cs Q} he hc hk=>hk _ he.clear⟩
 ·rename_i op x y n k
  simp only [Option.map_eq_some_iff] at h
  obtain ⟨v,hv,h⟩:=h
  cases h
  refine ⟨rfl,rfl,rfl,fun {ρ η w S base cs Q} he hc hk => ?_⟩
  unfold binK at hv
  split at hv
  ·rename_i k1 a k2 b ha hb
   split at hv
   ·rename_i hkk
    subst hkk
    obtain ⟨_,h1⟩:=evalA_val he ha
    obtain ⟨_,h2⟩:=evalA_val he hb
    refine np_op (vs:=[.int k1 a,.int k1 b]) (by simp [h1,h2,AV.val]) ⟨k1,a,b,v,rfl,hv,?_⟩
    exact hk _ (he.set trivial rfl)
   ·cases hv
  ·cases hv
 ·rename_i x n k
  split at h
  ·rename_i b hb
   cases h
   refine ⟨rfl,rfl,rfl,fun {ρ η w S base cs Q} he hc hk => ?_⟩
   obtain ⟨_,h1⟩:=evalA_val he hb
   refine np_op (vs:=[.bool b]) (by simp [h1,AV.val]) ⟨b,rfl,?_⟩
   exact hk _ (he.set trivial rfl)
  ·cases h
 ·rename_i x n k
  split at h
  ·rename_i j off ha
   split at h
   ·rename_i hj
    subst hj
    split at h
    ·rename_i v hv
     cases h
     refine ⟨rfl,rfl,rfl,fun {ρ η w S base cs Q} he hc hk => ?_⟩
     obtain ⟨_,h1⟩:=evalA_val he ha
     simp only [AV.val,hc.ptr,addOff,addr_at] at h1
     refine np_op (vs:=[.pointer (some ⟨S,base+off,none⟩)]) (by simp [h1]) (wp_load hc.row (hc.known off v hv) ?_)
     exact hk _ (he.set trivial rfl)
    ·rename_i hv
     split at h
     ·cases h
     cases h
     refine ⟨rfl,rfl,rfl,fun {ρ η w S base cs Q} he hc hk => ?_⟩
     obtain ⟨_,h1⟩:=evalA_val he ha
     simp only [AV.val,hc.ptr,addOff,addr_at] at h1
     have hlt:=(List.getElem?_eq_some_iff.1 hv).1
     have hcl:=hc.len
     have hlt2:base+off<cs.length:=by omega
     refine np_op (vs:=[.pointer (some ⟨S,base+off,none⟩)]) (by simp [h1]) (wp_load hc.row (List.getElem?_eq_getElem hlt2) ?_)
     exact hk _ he.clear
    ·cases h
   ·cases h
  ·cases h
 ·rename_i sz x kk n k
  split at h
  ·rename_i v ha
   split at h
   ·rename_i hv
    cases h
    refine ⟨rfl,rfl,rfl,fun {ρ η w S base cs Q} he hc hk => ?_⟩
    obtain ⟨_,h1⟩:=evalA_val he ha
    have hv':v = .slice none 0 0:=by
     unfold isNilSl at hv
     split at hv
     ·rfl
     ·cases hv
    subst hv'
    refine np_op (vs:=[.slice none 0 0,.int kk 0]) (by simp only [List.map,h1,AV.val];rfl) ⟨none,0,0,[.int kk 0],rfl,?_⟩
    simp only [bnd,Bool.false_eq_true,if_false,if_true]
    refine ⟨kk,0,[],rfl,rfl,Nat.le_refl _,Nat.le_refl _,Nat.le_refl _,?_⟩
    simp only [if_true,Nat.sub_self]
    exact hk _ (he.set trivial rfl)
   ·cases h
  ·cases h
 ·rename_i c a b k
  split at h
  ·rename_i t hc
   cases h
   refine ⟨rfl,rfl,rfl,fun {ρ η w S base cs Q} he hcur hk => ?_⟩
   obtain ⟨_,h1⟩:=evalA_val he hc
   refine np_ite t h1 ?_
   have:=wp_app' (P:=P) k (if t then a else b) Q η w (hk η he)
   exact this
  ·cases h
 ·rename_i n k
  split at h
  ·rename_i hx
   cases h
   refine ⟨rfl,rfl,rfl,fun {ρ η w S base cs Q} he hcur hk => ?_⟩
   obtain ⟨_,h1⟩:=isO_val he hx
   rw [addOff_zero,hcur.ptr] at h1
   exact ⟨⟨_,h1⟩,hk η he⟩
  ·cases h
 ·cases h
theorem runS_ok:∀ (f:Nat) (p:NP) (st:St),(runS f p st).2.nj=st.nj∧(runS f p st).2.sj=st.sj∧(runS f p st).2.cells=st.cells ∧
  ∀ {ρ η:Nat→Value} {w:World} {S base:Nat} {cs:List Value} {Q:Post},EnvOk st.env st.nj ρ η→Cur st ρ w S base cs→(∀ η',EnvOk (runS f p st).2.env st.nj ρ η'→(runS f p st).1.wp P Q η' w)→p.wp P Q η w:=by
 intro f
 induction f with
 | zero=>intro p st;exact ⟨rfl,rfl,rfl,fun {ρ η w S base cs Q} he _ hk=>hk η he⟩
 | succ f ih=>
  intro p st
  simp only [runS]
  split
  ·rename_i p' st' hs
   obtain ⟨g1,g2,g3,g4⟩:=stepS_ok (P:=P) hs
   obtain ⟨k1,k2,k3,k4⟩:=ih p' st'
   refine ⟨k1.trans g1,k2.trans g2,k3.trans g3,fun {ρ η w S base cs Q} he hc hk => ?_⟩
   refine g4 he hc fun η' he'=>k4 (by rw [g1];exact he') ⟨by rw [g2];exact hc.ptr,hc.row,by rw [g3];exact hc.len,by rw [g3];exact hc.known⟩ fun η'' he''=>hk η'' (by rw [g1] at he'';exact he'')
  ·exact ⟨rfl,rfl,rfl,fun {ρ η w S base cs Q} he _ hk=>hk η he⟩
end
end Go.Mr
namespace Go.Mr
open Go.Lx Go.Nx Go.Km Go.Mx Go.Kb
open Go.CX (T deep)
set_option linter.unusedSimpArgs false
set_option linter.unusedVariables false
def Lst (ok:Nat→Prop) (w:World) (sz n:Nat) (rep:Nat→List Value→Prop) (u:Value):Prop:=
 (n=0∧∃ a c,u = .slice a 0 c)∨(0<n∧∃ A c acs,u = .slice (some ⟨A,0,none⟩) n c∧n≤c∧ok A∧Row w A acs∧n*sz≤acs.length∧∀ i,i<n→rep i (acs.drop (i*sz)))
mutual
def RepS (ok:Nat→Prop) (w:World):Sh→Val→List Value→Prop
 | .prim p,.p x,cs=>∃ u,u.cells.toList=cs.take (width p)∧RepP ok w p x u
 | .arr _ sz e,.l vs,cs=>∃ u,cs[0]?=some u∧Lst ok w sz vs.length (fun i ds=>∀ h:i<vs.length,RepS ok w e vs[i] ds) u
 | .narr _ _ _ _,.n none,cs=>cs[0]?=some (.slice none 0 0)
 | .narr _ _ sz e,.n (some vs),cs=>∃ u,cs[0]?=some u∧(∃ a n c,u = .slice (some a) n c)∧Lst ok w sz vs.length (fun i ds=>∀ h:i<vs.length,RepS ok w e vs[i] ds) u
 | .str fs,.l vs,cs=>RepF ok w fs vs cs
 | .opt _,.n none,cs=>cs[0]?=some (.pointer none)
 | .opt fs,.n (some vs),cs=>∃ b bcs,cs[0]?=some (.pointer (some ⟨b,0,none⟩))∧ok b∧Row w b bcs∧RepF ok w fs vs bcs
 | _,_,_=>False
def RepF (ok:Nat→Prop) (w:World):Fs→List Val→List Value→Prop
 | .nil,[],_=>True
 | .tags o,[.t l],cs=>∃ v,cs[o]?=some v∧RepT ok ok w l v∧(l=[]→v = .map none)
 | .cons o s r,v::vs,cs=>RepS ok w s v (cs.drop o)∧RepF ok w r vs cs
 | _,_,_=>False
end
theorem Lst.imp {ok ok':Nat→Prop} {w w':World} {sz n:Nat} {rep rep':Nat→List Value→Prop} {u:Value} (h:Lst ok w sz n rep u) (hrow:∀ A acs,ok A→Row w A acs→ok' A∧Row w' A acs) (hr:∀ i ds,i<n→rep i ds→rep' i ds):Lst ok' w' sz n rep' u:=by
 rcases h with h | ⟨h0,A,c,acs,h1,h2,h3,h4,h5,h6⟩
 ·exact .inl h
 ·obtain ⟨k1,k2⟩:=hrow A acs h3 h4
  exact .inr ⟨h0,A,c,acs,h1,h2,k1,k2,h5,fun i hi=>hr i _ hi (h6 i hi)⟩
theorem row_same {ok:Nat→Prop} {w w':World} {A:Nat} {cs:List Value} (h:Row w A cs) (hA:ok A) (k:Same ok w w'):Row w' A cs:=by
 have hlt:=h.lt
 obtain ⟨e,h⟩:=h
 exact ⟨e,by rw [k.2 A hlt hA];exact h⟩
theorem rept_same {ok:Nat→Prop} {w w':World} {l:Tg} {v:Value} (h:RepT ok ok w l v) (k:Same ok w w'):RepT ok ok w' l v:=by
 rcases h with h | ⟨r,es,h1,h2,h3⟩
 ·exact .inl h
 ·refine .inr ⟨r,es,h1,h2,by rw [k.2 r h3.lt h2];exact h3.at',h3.born,?_,h3.sorted⟩
  obtain ⟨m,hm,hp⟩:=h3.ents
  exact ⟨m,hm.imp fun e p he=>⟨he.1,he.2.same k⟩,hp⟩
theorem rept_weak {ok ok':Nat→Prop} {w:World} {l:Tg} {v:Value} (h:RepT ok ok w l v) (k:∀ b,b<w.heap.size→ok b→ok' b):RepT ok' ok' w l v:=by
 rcases h with h | ⟨r,es,h1,h2,h3⟩
 ·exact .inl h
 ·exact .inr ⟨r,es,h1,k r h3.lt h2,h3.weak k⟩
mutual
theorem RepS.same {ok:Nat→Prop} {w w':World} (k:Same ok w w'):∀ (s:Sh) (v:Val) (cs:List Value),RepS ok w s v cs→RepS ok w' s v cs
 | .prim p,.p x,cs,h=>by
  simp only [RepS] at h ⊢
  obtain ⟨u,h1,h2⟩:=h
  exact ⟨u,h1,h2.same k⟩
 | .arr c sz e,.l vs,cs,h=>by
  simp only [RepS] at h ⊢
  obtain ⟨u,h1,h2⟩:=h
  exact ⟨u,h1,h2.imp (fun A acs hA hr=>⟨hA,row_same hr hA k⟩) fun i ds hi hr hlt=>RepS.same k e _ _ (hr hlt)⟩
 | .narr c z sz e,.n none,cs,h=>by simp only [RepS] at h ⊢;exact h
 | .narr c z sz e,.n (some vs),cs,h=>by
  simp only [RepS] at h ⊢
  obtain ⟨u,h1,h0,h2⟩:=h
  exact ⟨u,h1,h0,h2.imp (fun A acs hA hr=>⟨hA,row_same hr hA k⟩) fun i ds hi hr hlt=>RepS.same k e _ _ (hr hlt)⟩
 | .str fs,.l vs,cs,h=>by simp only [RepS] at h ⊢;exact RepF.same k fs vs cs h
 | .opt fs,.n none,cs,h=>by simp only [RepS] at h ⊢;exact h
 | .opt fs,.n (some vs),cs,h=>by
  simp only [RepS] at h ⊢
  obtain ⟨b,bcs,h1,h2,h3,h4⟩:=h
  exact ⟨b,bcs,h1,h2,row_same h3 h2 k,RepF.same k fs vs bcs h4⟩
theorem RepF.same {ok:Nat→Prop} {w w':World} (k:Same ok w w'):∀ (fs:Fs) (vs:List Val) (cs:List Value),RepF ok w fs vs cs→RepF ok w' fs vs cs
 | .nil,[],cs,h=>by simp only [RepF]
 | .tags o,[.t l],cs,h=>by
  simp only [RepF] at h ⊢
  obtain ⟨v,h1,h2⟩:=h
  exact ⟨v,h1,rept_same h2.1 k,h2.2⟩
 | .cons o s r,v::vs,cs,h=>by
  simp only [RepF] at h ⊢
  exact ⟨RepS.same k s v _ h.1,RepF.same k r vs cs h.2⟩
end
mutual
theorem RepS.weak {ok ok':Nat→Prop} {w:World} (k:∀ b,b<w.heap.size→ok b→ok' b):∀ (s:Sh) (v:Val) (cs:List Value),RepS ok w s v cs→RepS ok' w s v cs
 | .prim p,.p x,cs,h=>by
  simp only [RepS] at h ⊢
  obtain ⟨u,h1,h2⟩:=h
  exact ⟨u,h1,h2.weak k⟩
 | .arr c sz e,.l vs,cs,h=>by
  simp only [RepS] at h ⊢
  obtain ⟨u,h1,h2⟩:=h
  exact ⟨u,h1,h2.imp (fun A acs hA hr=>⟨k A hr.lt hA,hr⟩) fun i ds hi hr hlt=>RepS.weak k e _ _ (hr hlt)⟩
 | .narr c z sz e,.n none,cs,h=>by simp only [RepS] at h ⊢;exact h
 | .narr c z sz e,.n (some vs),cs,h=>by
  simp only [RepS] at h ⊢
  obtain ⟨u,h1,h0,h2⟩:=h
  exact ⟨u,h1,h0,h2.imp (fun A acs hA hr=>⟨k A hr.lt hA,hr⟩) fun i ds hi hr hlt=>RepS.weak k e _ _ (hr hlt)⟩
 | .str fs,.l vs,cs,h=>by simp only [RepS] at h ⊢;exact RepF.weak k fs vs cs h
 | .opt fs,.n none,cs,h=>by simp only [RepS] at h ⊢;exact h
 | .opt fs,.n (some vs),cs,h=>by
  simp only [RepS] at h ⊢
  obtain ⟨b,bcs,h1,h2,h3,h4⟩:=h
  exact ⟨b,bcs,h1,k b h3.lt h2,h3,RepF.weak k fs vs bcs h4⟩
theorem RepF.weak {ok ok':Nat→Prop} {w:World} (k:∀ b,b<w.heap.size→ok b→ok' b):∀ (fs:Fs) (vs:List Val) (cs:List Value),RepF ok w fs vs cs→RepF ok' w fs vs cs
 | .nil,[],cs,h=>by simp only [RepF]
 | .tags o,[.t l],cs,h=>by
  simp only [RepF] at h ⊢
  obtain ⟨v,h1,h2⟩:=h
  exact ⟨v,h1,rept_weak h2.1 k,h2.2⟩
 | .cons o s r,v::vs,cs,h=>by
  simp only [RepF] at h ⊢
  exact ⟨RepS.weak k s v _ h.1,RepF.weak k r vs cs h.2⟩
end
mutual
def wS:Sh→Nat
 | .prim p=>width p
 | .str fs=>extF fs
 | _=>1
def extF:Fs→Nat
 | .nil=>0
 | .tags o=>o+1
 | .cons o s r=>max (o+wS s) (extF r)
end
theorem take_get {cs cs':List Value} {n:Nat} (h:cs'.take n=cs.take n) {j:Nat} (hj:j<n):cs'[j]?=cs[j]?:=by
 have:=congrArg (fun l=>l[j]?) h
 simpa [List.getElem?_take,hj] using this
theorem take_mono {cs cs':List Value} {n m:Nat} (h:cs'.take n=cs.take n) (hm:m≤n):cs'.take m=cs.take m:=by
 have:=congrArg (fun l=>l.take m) h
 simpa [List.take_take,Nat.min_eq_left hm] using this
theorem take_drop {cs cs':List Value} {n o m:Nat} (h:cs'.take n=cs.take n) (hm:o+m≤n):(cs'.drop o).take m=(cs.drop o).take m:=by
 apply List.ext_getElem?
 intro j
 simp only [List.getElem?_take,List.getElem?_drop]
 split
 ·exact take_get h (by omega)
 ·rfl
mutual
theorem RepS.cells {ok:Nat→Prop} {w:World}:∀ (s:Sh) (v:Val) (cs cs':List Value),cs'.take (wS s)=cs.take (wS s)→RepS ok w s v cs→RepS ok w s v cs'
 | .prim p,.p x,cs,cs',hc,h=>by
  simp only [RepS,wS] at h hc ⊢
  obtain ⟨u,h1,h2⟩:=h
  exact ⟨u,by rw [hc];exact h1,h2⟩
 | .arr c sz e,.l vs,cs,cs',hc,h=>by
  simp only [RepS] at h ⊢
  obtain ⟨u,h1,h2⟩:=h
  exact ⟨u,by rw [take_get hc (by simp [wS])];exact h1,h2⟩
 | .narr c z sz e,.n none,cs,cs',hc,h=>by simp only [RepS] at h ⊢;rw [take_get hc (by simp [wS])];exact h
 | .narr c z sz e,.n (some vs),cs,cs',hc,h=>by
  simp only [RepS] at h ⊢
  obtain ⟨u,h1,h2⟩:=h
  exact ⟨u,by rw [take_get hc (by simp [wS])];exact h1,h2⟩
 | .str fs,.l vs,cs,cs',hc,h=>by simp only [RepS,wS] at h hc ⊢;exact RepF.cells fs vs cs cs' hc h
 | .opt fs,.n none,cs,cs',hc,h=>by simp only [RepS] at h ⊢;rw [take_get hc (by simp [wS])];exact h
 | .opt fs,.n (some vs),cs,cs',hc,h=>by
  simp only [RepS] at h ⊢
  obtain ⟨b,bcs,h1,h2⟩:=h
  exact ⟨b,bcs,by rw [take_get hc (by simp [wS])];exact h1,h2⟩
theorem RepF.cells {ok:Nat→Prop} {w:World}:∀ (fs:Fs) (vs:List Val) (cs cs':List Value),cs'.take (extF fs)=cs.take (extF fs)→RepF ok w fs vs cs→RepF ok w fs vs cs'
 | .nil,[],cs,cs',hc,h=>by simp only [RepF]
 | .tags o,[.t l],cs,cs',hc,h=>by
  simp only [RepF] at h ⊢
  obtain ⟨v,h1,h2⟩:=h
  exact ⟨v,by rw [take_get hc (by simp [extF])];exact h1,h2⟩
 | .cons o s r,v::vs,cs,cs',hc,h=>by
  simp only [RepF,extF] at h hc ⊢
  exact ⟨RepS.cells s v _ _ (take_drop hc (Nat.le_max_left _ _)) h.1,RepF.cells r vs cs cs' (take_mono hc (Nat.le_max_right _ _)) h.2⟩
end
end Go.Mr
namespace Go.Mr
open Go.Lx Go.Nx Go.Km Go.Mx Go.Kb
open Go.CX (T deep)
set_option linter.unusedSimpArgs false
set_option linter.unusedVariables false
structure Tab where
 prim:FuncId→Option Prim
 cnt:FuncId→Option Bool
 tags:FuncId
 okF:Option FuncId
 compl:FuncId
 defs:FuncId→Option (List (Nat×Value))
def setD (o:Nat) (ds:List (Nat×Value)) (cs:List Value):List Value:=ds.foldl (fun cs p=>cs.set (o+p.1) p.2) cs
def DefOk (P:Program) (f:FuncId) (ds:List (Nat×Value)):Prop:=
 ∀ (w:World) (b o:Nat) (cs:List Value) (K:Value→World→Prop),Row w b cs→(∀ p∈ds,o+p.1<cs.length)→(∀ w',Row w' b (setD o ds cs)→Keep [b] w w'→K (.tuple #[]) w')→In.wp P (.call f) [.pointer (some ⟨b,o,none⟩)] w K
structure TabOk (P:Program) (T:Tab) (g:Nat):Prop where
 prim:∀ f p,T.prim f=some p→PrimOk P f p
 cnt:∀ f c,T.cnt f=some c→Counts P f c
 tags:TagsOk P T.tags
 okF:∀ f,T.okF=some f→OkFn P f
 compl:CompleteFn P T.compl g
 defs:∀ f ds,T.defs f=some ds→DefOk P f ds
def KF:Nat:=100000
def rdPrim (T:Tab) (p:Prim):NP→St→Option (NP×St×Nat)
 | .op (.call f) [x] n k,st=>if isO st.env x 0 0=true∧T.prim f=some p then some (k,{ st with env:=st.env.set deep n (some (.o st.nj 0)),nj:=st.nj+1 },st.nj) else none
 | _,_=>none
def copyU (j:Nat):NP→St→NP×St
 | .op (.alloc z) [] n1 (.chk n2 (.op (.store 16) [.q n3 0,x] n4 (.op (.loadN 16) [.q n5 0] n6 k))),st=>
  if n1=n2∧n1=n3∧n1=n5∧n1≠n4∧z.length=16∧isO (st.env.set deep n1 none) x j 0=true then (k,{ st with env:=((st.env.set deep n1 none).set deep n4 none).set deep n6 (some (.o j 0)) })
  else (.op (.alloc z) [] n1 (.chk n2 (.op (.store 16) [.q n3 0,x] n4 (.op (.loadN 16) [.q n5 0] n6 k))),st)
 | p,st=>(p,st)
def storeT (wd j tj toff:Nat):NP→St→Option (NP×St)
 | .op (.store w') [y,x] n k,st=>if w'=wd∧isO st.env y tj toff=true∧isO st.env x j 0=true then some (k,{ st with env:=st.env.set deep n none }) else none
 | _,_=>none
def markC (cells:List (Option Value)) (o w:Nat):List (Option Value):=cells.take o++List.replicate w none++cells.drop (o+w)
theorem markC_length (cells:List (Option Value)) (o w:Nat) (h:o+w≤cells.length):(markC cells o w).length=cells.length:=by simp [markC];omega
theorem markC_get (cells:List (Option Value)) (o w j:Nat) (v:Value) (h:(markC cells o w)[j]?=some (some v)) (hl:o+w≤cells.length):(j<o∨o+w≤j)∧cells[j]?=some (some v):=by
 unfold markC at h
 by_cases h1:j<o
 ·rw [List.append_assoc,List.getElem?_append_left (by simp;omega),List.getElem?_take,if_pos h1] at h
  exact ⟨.inl h1,h⟩
 ·by_cases h2:o+w≤j
  ·rw [List.getElem?_append_right (by simp;omega),List.getElem?_drop] at h
   have e:o+w+(j - (cells.take o++List.replicate w none).length)=j:=by simp;omega
   rw [e] at h
   exact ⟨.inr h2,h⟩
  ·rw [List.getElem?_append_left (by simp;omega),List.getElem?_append_right (by simp;omega),List.getElem?_replicate] at h
   split at h
   ·cases h
   ·cases h
section
variable {P:Program} {g:Nat}
structure Pre (g:Nat) (st:St) (ok:Nat→Prop) (R S base:Nat) (cs:List Value) (nn:Bool) (sb:Option Bs) (ρ η:Nat→Value) (w:World) (err:Value):Prop where
 env:EnvOk st.env st.nj ρ η
 cur:Cur st ρ w S base cs
 he:Env ok w R
 nS:¬ ok S
 SR:S≠R
 rd:Rd ok w R nn sb
 r0:ρ 0=ptr R
 err:w.cell? ⟨g,0,none⟩=some err
 gR:g≠R
 gS:g≠S
 nj:0<st.nj∧st.sj<st.nj
structure Nxt (st st':St) (R S base lo:Nat) (cs:List Value) (w:World) (ρ ρ' η':Nat→Value) (w':World) (cs':List Value):Prop where
 env:EnvOk st'.env st'.nj ρ' η'
 ρ:∀ j,j<st.nj→ρ' j=ρ j
 keep:Keep [R,S] w w'
 cur:Cur st' ρ' w' S base cs'
 len:cs'.length=cs.length
 low:∀ j,j<base+lo→cs'[j]?=cs[j]?
 high:∀ j,base+st.cells.length≤j→cs'[j]?=cs[j]?
structure Stt (st st':St):Prop where
 nj:st.nj≤st'.nj
 sj:st'.sj=st.sj
 len:st'.cells.length=st.cells.length
theorem Stt.refl (st:St):Stt st st:=⟨Nat.le_refl _,rfl,rfl⟩
theorem Stt.trans {a b c:St} (h:Stt a b) (k:Stt b c):Stt a c:=⟨Nat.le_trans h.nj k.nj,k.sj.trans h.sj,k.len.trans h.len⟩
theorem cell_keep {w w':World} {A:List Nat} {b o:Nat} {v:Value} (h:w.cell? ⟨b,o,none⟩=some v) (k:Keep A w w') (hb:b∉A):w'.cell? ⟨b,o,none⟩=some v:=by
 rw [World.cell?_of_block (w:=w) (w':=w') (k.block b (cell_lt h) hb)];exact h
theorem Pre.next {st st':St} {ok:Nat→Prop} {R S base lo:Nat} {cs cs':List Value} {nn nn':Bool} {sb sb':Option Bs} {ρ η ρ' η':Nat→Value} {w w':World} {err:Value} (h:Pre g st ok R S base cs nn sb ρ η w err)
  (n:Nxt st st' R S base lo cs w ρ ρ' η' w' cs') (hs:Stt st st') (hr:Rd ok w' R nn' sb'):Pre g st' ok R S base cs' nn' sb' ρ' η' w' err:=
 ⟨n.env,n.cur,h.he.keep n.keep,h.nS,h.SR,hr,by rw [n.ρ 0 h.nj.1];exact h.r0,cell_keep h.err n.keep (by simp only [List.mem_cons,List.not_mem_nil,or_false,not_or];exact ⟨h.gR,h.gS⟩),h.gR,h.gS,⟨Nat.lt_of_lt_of_le h.nj.1 hs.nj,by rw [hs.sj];exact Nat.lt_of_lt_of_le h.nj.2 hs.nj⟩⟩
def FEnd (ok:Nat→Prop) (R:Nat) {α:Type} (sb:Option Bs) (dec:Bs→Option (α×Bs)) (rep:(Nat→Prop)→World→α→List Value→Prop) (base:Nat) (cs':List Value) (w':World):Prop:=
 match sb.bind dec with
 | some (x,rest)=>(∃ nn,Rd ok w' R nn (some rest))∧rep ok w' x (cs'.drop base)
 | none=>Rd ok w' R false none
def Fld (P:Program) (g:Nat) (lo:Nat) {α:Type} (dec:Bs→Option (α×Bs)) (rep:(Nat→Prop)→World→α→List Value→Prop) (p p':NP) (st st':St):Prop:=
 Stt st st'∧∀ (ok:Nat→Prop) (R S base:Nat) (cs:List Value) (nn:Bool) (sb:Option Bs) (ρ η:Nat→Value) (w:World) (err:Value) (Q:Post),Pre g st ok R S base cs nn sb ρ η w err →
  (sb.bind dec=none→∀ η' w',Keep [R,S] w w'→Q (.ret [err]) η' w') →
  (∀ ρ' η' w' cs',Nxt st st' R S base lo cs w ρ ρ' η' w' cs'→FEnd ok R sb dec rep base cs' w'→p'.wp P Q η' w')→p.wp P Q η w
structure Mv (st st':St) (ρ ρ' η':Nat→Value):Prop where
 env:EnvOk st'.env st'.nj ρ' η'
 ρ:∀ j,j<st.nj→ρ' j=ρ j
theorem Cur.move {st st':St} {ρ ρ':Nat→Value} {w w':World} {S base:Nat} {cs:List Value} (h:Cur st ρ w S base cs) (hsj:st'.sj=st.sj) (hc:st'.cells=st.cells) (hlt:st.sj<st.nj) (hρ:∀ j,j<st.nj→ρ' j=ρ j) (hr:Row w' S cs):Cur st' ρ' w' S base cs:=
 ⟨by rw [hsj,hρ _ hlt];exact h.ptr,hr,by rw [hc];exact h.len,by rw [hc];exact h.known⟩
theorem run_pre {f:Nat} {p:NP} {st:St} {ok:Nat→Prop} {R S base:Nat} {cs:List Value} {nn:Bool} {sb:Option Bs} {ρ η:Nat→Value} {w:World} {err:Value} {Q:Post} (h:Pre g st ok R S base cs nn sb ρ η w err)
  (hk:∀ η',Pre g (runS f p st).2 ok R S base cs nn sb ρ η' w err→(runS f p st).1.wp P Q η' w):p.wp P Q η w:=by
 obtain ⟨g1,g2,g3,g4⟩:=runS_ok (P:=P) f p st
 refine g4 h.env h.cur fun η' he=>hk η' ⟨by rw [g1];exact he,h.cur.move g2 g3 h.nj.2 (fun _ _=>rfl) h.cur.row,h.he,h.nS,h.SR,h.rd,h.r0,h.err,h.gR,h.gS,by rw [g1,g2];exact h.nj⟩
theorem run_stt (P:Program) {f:Nat} {p:NP} {st:St}:Stt st (runS f p st).2∧(runS f p st).2.nj=st.nj∧(runS f p st).2.cells=st.cells:=by
 obtain ⟨g1,g2,g3,g4⟩:=runS_ok (P:=P) f p st
 exact ⟨⟨Nat.le_of_eq g1.symm,g2,by rw [g3]⟩,g1,g3⟩
theorem copyU_ok {j:Nat} {p:NP} {st:St}:(copyU j p st).2.nj=st.nj∧(copyU j p st).2.sj=st.sj∧(copyU j p st).2.cells=st.cells ∧
  ∀ {ρ η:Nat→Value} {w:World} {Q:Post},EnvOk st.env st.nj ρ η→Fit 16 (ρ j)∨(copyU j p st)=(p,st)→(∀ cs:List Value,(ρ j).cells.toList=cs→cs.length=16→ρ j = .agg cs.toArray)∨(copyU j p st)=(p,st) →
   (∀ η' w',EnvOk (copyU j p st).2.env st.nj ρ η'→Keep [] w w'→(copyU j p st).1.wp P Q η' w')→p.wp P Q η w:=by
 unfold copyU
 split
 ·rename_i z n1 n2 n3 x n4 n5 n6 k
  split
  ·rename_i hc
   obtain ⟨rfl,rfl,rfl,h4,hz,hx⟩:=hc
   refine ⟨rfl,rfl,rfl,fun {ρ η w Q} he hfit hagg hk => ?_⟩
   rcases hfit with hfit | hfit
   ·rcases hagg with hagg | hagg
    ·refine np_op (vs:=[]) rfl (wp_alloc fun b w1 r1 hb k1 => ?_)
     refine ⟨⟨_,by simp only [upd];rfl⟩,?_⟩
     have he1:=he.clear (n:=n1) (v := .pointer (some ⟨b,0,none⟩))
     obtain ⟨hj,hxv⟩:=isO_val he1 hx
     rw [addOff_zero] at hxv
     refine np_op (vs:=[ptr b,ρ j]) (by simp only [List.map,hxv];simp [SV.val,upd,Addr.add]) (wp_store r1 hfit (by omega) fun w2 r2 k2 => ?_)
     have hlen:(ρ j).cells.toList.length=16:=by simpa using hfit.1
     have hput:put z 0 (ρ j).cells.toList=(ρ j).cells.toList:=by
      simp [put,hlen,hz]
     rw [hput] at r2
     refine np_op (vs:=[ptr b]) (by simp [SV.val,upd,h4,Addr.add]) (wp_loadN r2 (by omega) ?_)
     have htk:(((ρ j).cells.toList.drop 0).take 16)=(ρ j).cells.toList:=by rw [List.drop_zero,List.take_of_length_le (by omega)]
     rw [htk,← hagg _ rfl hlen]
     have kk:Keep [] w w2:=by
      refine k1.trans k2 fun x hx hlt => ?_
      simp only [List.mem_singleton] at hx;omega
     exact hk _ w2 ((he1.clear).set hj (by simp [AV.val,addOff_zero])) kk
    ·exact absurd (congrArg (fun q=>q.1) hagg) (by
      intro e
      have:=congrArg asg e
      have h1:=congrArg List.length this
      simp [asg] at h1
      try omega)
   ·exact absurd (congrArg (fun q=>q.1) hfit) (by
     intro e
     have:=congrArg asg e
     have h1:=congrArg List.length this
     simp [asg] at h1
     try omega)
  ·exact ⟨rfl,rfl,rfl,fun {ρ η w Q} he _ _ hk=>hk η w he (Keep.refl _ _)⟩
 ·exact ⟨rfl,rfl,rfl,fun {ρ η w Q} he _ _ hk=>hk η w he (Keep.refl _ _)⟩
end
end Go.Mr
namespace Go.Mr
open Go.Lx Go.Nx Go.Km Go.Mx Go.Kb
open Go.CX (T deep)
set_option linter.unusedSimpArgs false
set_option linter.unusedVariables false
def St.new (st:St) (n:Nat):St:={ st with env:=st.env.set deep n (some (.o st.nj 0)),nj:=st.nj+1 }
def copyW (wd j:Nat) (p:NP) (st:St):NP×St:=if wd=16 then copyU j p st else (p,st)
def rdAt (T:Tab) (p:Prim) (off:Nat) (p0:NP) (st:St):Option (NP×St):=
 let r1:=runS KF p0 st
 (rdPrim T p r1.1 r1.2).bind fun r2=>
 let r3:=runS KF r2.1 r2.2.1
 let r4:=copyW (width p) r2.2.2 r3.1 r3.2
 (storeT (width p) r2.2.2 r4.2.sj off r4.1 r4.2).bind fun r5=>
 if off+width p≤r5.2.cells.length then some (r5.1,{ r5.2 with cells:=markC r5.2.cells off (width p) }) else none
section
variable {P:Program} {g:Nat}
theorem addOff_ptr (b o:Nat):addOff (ptr b) o = .pointer (some ⟨b,o,none⟩):=by simp [addOff,addr_at]
theorem rdPrim_some {T:Tab} {p:Prim} {q q':NP} {st st':St} {j:Nat} (h:rdPrim T p q st=some (q',st',j)) :
  ∃ f x n,q = .op (.call f) [x] n q'∧isO st.env x 0 0=true∧T.prim f=some p∧st'=st.new n∧j=st.nj:=by
 unfold rdPrim at h
 split at h
 ·split at h
  ·rename_i hc
   cases h
   exact ⟨_,_,_,rfl,hc.1,hc.2,rfl,rfl⟩
  ·cases h
 ·cases h
theorem storeT_some {wd j tj toff:Nat} {q q':NP} {st st':St} (h:storeT wd j tj toff q st=some (q',st')) :
  ∃ y x n,q = .op (.store wd) [y,x] n q'∧isO st.env y tj toff=true∧isO st.env x j 0=true∧st'={ st with env:=st.env.set deep n none }:=by
 unfold storeT at h
 split at h
 ·split at h
  ·rename_i hc
   obtain ⟨rfl,h1,h2⟩:=hc
   cases h
   exact ⟨_,_,_,rfl,h1,h2,rfl⟩
  ·cases h
 ·cases h
theorem store_ok {wd j off:Nat} {q q':NP} {st st':St} {tj:Nat} (h:storeT wd j tj off q st=some (q',st')):st'.nj=st.nj∧st'.sj=st.sj∧st'.cells=st.cells ∧
  ∀ {ρ η:Nat→Value} {w:World} {S base:Nat} {cs:List Value} {Q:Post},EnvOk st.env st.nj ρ η→ρ tj = .pointer (some ⟨S,base,none⟩)→Row w S cs→base+off+wd≤cs.length→Fit wd (ρ j) →
   (∀ η' w',EnvOk st'.env st.nj ρ η'→Row w' S (put cs (base+off) (ρ j).cells.toList)→Keep [S] w w'→q'.wp P Q η' w')→q.wp P Q η w:=by
 obtain ⟨y,x,n,rfl,hy,hx,rfl⟩:=storeT_some h
 refine ⟨rfl,rfl,rfl,fun {ρ η w S base cs Q} he hp hr hl hf hk => ?_⟩
 obtain ⟨_,h1⟩:=isO_val he hy
 obtain ⟨_,h2⟩:=isO_val he hx
 rw [hp] at h1
 simp only [addOff,addr_at] at h1
 rw [addOff_zero] at h2
 refine np_op (vs:=[.pointer (some ⟨S,base+off,none⟩),ρ j]) (by simp [h1,h2]) (wp_store hr hf hl fun w' r k => ?_)
 exact hk _ w' he.clear r k
theorem agg_of {v:Value} (h:v.cells.toList.length=16):v = .agg v.cells.toList.toArray:=by
 cases v<;>simp_all [Value.cells]
theorem copyW_ok {wd j:Nat} {p:NP} {st:St}:(copyW wd j p st).2.nj=st.nj∧(copyW wd j p st).2.sj=st.sj∧(copyW wd j p st).2.cells=st.cells ∧
  ∀ {ρ η:Nat→Value} {w:World} {Q:Post},EnvOk st.env st.nj ρ η→Fit wd (ρ j) →
   (∀ η' w',EnvOk (copyW wd j p st).2.env st.nj ρ η'→Keep [] w w'→(copyW wd j p st).1.wp P Q η' w')→p.wp P Q η w:=by
 unfold copyW
 split
 ·rename_i hw
  subst hw
  obtain ⟨c1,c2,c3,c4⟩:=copyU_ok (P:=P) (j:=j) (p:=p) (st:=st)
  refine ⟨c1,c2,c3,fun {ρ η w Q} he hf hk=>c4 he (.inl hf) (.inl fun cs h1 h2 => ?_) hk⟩
  subst h1
  exact agg_of h2
 ·exact ⟨rfl,rfl,rfl,fun {ρ η w Q} he hf hk=>hk η w he (Keep.refl _ _)⟩
theorem put_at {cs vs:List Value} {o:Nat} (h:o+vs.length≤cs.length):((put cs o vs).drop o).take vs.length=vs:=by
 have e:(cs.take o).length=o:=by simp;omega
 unfold put
 rw [List.append_assoc,List.drop_append_of_le_length (by omega),List.drop_of_length_le (by omega),List.nil_append,List.take_append_of_le_length (by omega),List.take_length]
theorem Pre.new {st:St} {ok:Nat→Prop} {R S base:Nat} {cs:List Value} {nn nn':Bool} {sb sb':Option Bs} {ρ η:Nat→Value} {w w':World} {err:Value} (h:Pre g st ok R S base cs nn sb ρ η w err) (n:Nat) (v:Value)
  (k:Keep [R] w w') (hr:Rd ok w' R nn' sb'):Pre g (st.new n) ok R S base cs nn' sb' (upd ρ st.nj v) (upd η n v) w' err:=by
 have hρ:∀ j,j<st.nj→upd ρ st.nj v j=ρ j:=fun j hj=>by simp [upd,Nat.ne_of_lt hj]
 have hS:Row w' S cs:=h.cur.row.keep k (by simp only [List.mem_singleton];exact h.SR)
 exact ⟨h.env.fresh n v,⟨by show upd ρ st.nj v st.sj=_;rw [hρ _ h.nj.2];exact h.cur.ptr,hS,h.cur.len,h.cur.known⟩,h.he.keep k,h.nS,h.SR,hr,by rw [hρ 0 h.nj.1];exact h.r0,cell_keep h.err k (by simp only [List.mem_singleton];exact h.gR),h.gR,h.gS,
  ⟨Nat.lt_succ_of_lt h.nj.1,Nat.lt_succ_of_lt h.nj.2⟩⟩
theorem Cur.put {st:St} {ρ:Nat→Value} {w w':World} {S base:Nat} {cs:List Value} (h:Cur st ρ w S base cs) {off:Nat} {vs:List Value} (hl:off+vs.length≤st.cells.length) (hr:Row w' S (put cs (base+off) vs)) {env:T AV} {nj:Nat} :
  Cur ⟨env,nj,st.sj,markC st.cells off vs.length⟩ ρ w' S base (put cs (base+off) vs):=by
 have hb:=h.len
 refine ⟨h.ptr,hr,?_,fun j v hj => ?_⟩
 ·show base+(markC st.cells off vs.length).length≤_
  rw [markC_length _ _ _ hl,put_length _ _ _ (by omega)];exact hb
 ·obtain ⟨h1,h2⟩:=markC_get _ _ _ _ _ hj hl
  rw [put_out _ _ _ (by omega) _ (by omega)]
  exact h.known j v h2
theorem rdAt_ok {T:Tab} (hT:TabOk P T g) {p:Prim} {off:Nat} {q q':NP} {st st':St} (h:rdAt T p off q st=some (q',st')) :
  Fld P g off (rd (.prim p)) (fun ok w x cs=>RepS ok w (.prim p) x (cs.drop off)) q q' st st':=by
 unfold rdAt at h
 simp only [Option.bind_eq_some_iff] at h
 obtain ⟨⟨q2,st2,j⟩,h2,⟨q5,st5⟩,h5,h6⟩:=h
 obtain ⟨f,x,n,e1,hx,hf,e2,e3⟩:=rdPrim_some h2
 dsimp only at h5 h6
 split at h6
 case isFalse=>cases h6
 rename_i hoff
 cases h6
 have R1:=run_stt P (f:=KF) (p:=q) (st:=st)
 have R3:=run_stt P (f:=KF) (p:=q2) (st:=st2)
 obtain ⟨c1,c2,c3,c4⟩:=copyW_ok (P:=P) (wd:=width p) (j:=j) (p:=(runS KF q2 st2).1) (st:=(runS KF q2 st2).2)
 obtain ⟨s1,s2,s3,s4⟩:=store_ok (P:=P) h5
 have hnj:st5.nj=st.nj+1:=by rw [s1,c1,R3.2.1,e2];show (runS KF q st).2.nj+1=_;rw [R1.2.1]
 have hsj:st5.sj=st.sj:=by rw [s2,c2,R3.1.sj,e2];exact R1.1.sj
 have hcl:st5.cells=st.cells:=by rw [s3,c3,R3.2.2,e2];exact R1.2.2
 have hj:j=st.nj:=by rw [e3,R1.2.1]
 refine ⟨⟨by show st.nj≤st5.nj;omega,hsj,by show (markC st5.cells _ _).length=_;rw [markC_length _ _ _ hoff,hcl]⟩,?_⟩
 intro ok R S base cs nn sb ρ η w err Q hpre hbad hk
 refine run_pre (f:=KF) hpre fun η1 hp1 => ?_
 obtain ⟨_,hxv⟩:=isO_val hp1.env hx
 rw [hp1.r0,addOff_ptr] at hxv
 rw [e1]
 refine np_op (vs:=[ptr R]) (by simp [hxv]) (hT.prim f p hf ok w R nn sb _ hp1.he hp1.rd fun v w2 k2 hend => ?_)
 have hv:Fit (width p) v∧∃ nn' sb',Rd ok w2 R nn' sb':=by
  unfold ReadEnd at hend
  split at hend
  ·exact ⟨RepP.fit hend.2,_,_,hend.1⟩
  ·exact ⟨hend.2,_,_,hend.1⟩
 obtain ⟨hfit,nn',sb',hrd2⟩:=hv
 have hp2:=hp1.new n v k2 hrd2
 rw [← e2] at hp2
 refine run_pre (f:=KF) hp2 fun η3 hp3 => ?_
 have hρj:upd ρ (runS KF q st).2.nj v j=v:=by simp [upd,e3]
 refine c4 hp3.env (by rw [hρj];exact hfit) fun η4 w4 he4 k4 => ?_
 have hsj2:(copyW (width p) j (runS KF q2 st2).1 (runS KF q2 st2).2).2.sj=(runS KF q2 st2).2.sj:=c2
 have hlen:=hp3.cur.len
 have hcl3:(runS KF q2 st2).2.cells=st.cells:=by rw [R3.2.2,e2];exact R1.2.2
 rw [hcl] at hoff
 refine s4 (by rw [c1];exact he4) (by rw [c2];exact hp3.cur.ptr) (hp3.cur.row.keep k4 (by simp)) (by rw [hcl3] at hlen;omega) (by rw [hρj];exact hfit) fun η5 w5 he5 r5 k5 => ?_
 rw [hρj] at r5
 have hvl:v.cells.toList.length=width p:=by rw [← hfit.1];simp
 have k25:Keep [S] w2 w5:=(k4.mono (A':=[S]) (fun x hx _=>by cases hx)).then k5
 have kk:Keep [R,S] w w5:=(k2.mono (A':=[R,S]) (fun x hx _=>by simp at hx ⊢;exact .inl hx)).then (k25.mono (fun x hx _=>by simp at hx ⊢;exact .inr hx))
 have hn1:(runS KF q st).2.nj=st.nj:=R1.2.1
 have hbl:base+off+width p≤cs.length:=by rw [hcl3] at hlen;omega
 have hρ:∀ i,i<st.nj→upd ρ (runS KF q st).2.nj v i=ρ i:=fun i hi=>by simp [upd,hn1,Nat.ne_of_lt hi]
 have hcur:Cur ⟨st5.env,st5.nj,st.sj,markC st.cells off v.cells.toList.length⟩ (upd ρ (runS KF q st).2.nj v) w5 S base (put cs (base+off) v.cells.toList):=
  (hpre.cur.move (st':=st) rfl rfl hpre.nj.2 hρ hpre.cur.row).put (by rw [hvl];exact hoff) r5
 rw [hvl] at hcur
 refine hk (upd ρ (runS KF q st).2.nj v) η5 w5 (put cs (base+off) v.cells.toList) ⟨?_,hρ,kk,?_,?_,?_,?_⟩ ?_
 ·rw [c1] at he5
  show EnvOk st5.env st5.nj _ _
  rw [s1,c1];exact he5
 ·rw [hsj,hcl];exact hcur
 ·rw [put_length _ _ _ (by rw [hvl];exact hbl)]
 ·intro i hi
  exact put_out _ _ _ (by rw [hvl];exact hbl) _ (.inl hi)
 ·intro i hi
  exact put_out _ _ _ (by rw [hvl];exact hbl) _ (.inr (by rw [hvl];omega))
 ·have hS2:∀ x∈[S],¬ ok x:=fun x hx=>by rw [List.mem_singleton.1 hx];exact hpre.nS
  have hR2:R∉[S]:=by rw [List.mem_singleton];exact fun e=>hpre.SR e.symm
  unfold FEnd
  simp only [rd]
  unfold ReadEnd at hend
  cases sb with
  | none=>simp only [Option.bind_none] at hend ⊢;exact hend.1.keep k25 hR2 hS2
  | some bs=>
   simp only [Option.bind_some] at hend ⊢
   cases hd:rdP p bs with
   | none=>rw [hd] at hend;simp only [Option.map_none];exact hend.1.keep k25 hR2 hS2
   | some z=>
    obtain ⟨x,r⟩:=z
    rw [hd] at hend
    simp only [Option.map_some]
    refine ⟨⟨_,hend.1.keep k25 hR2 hS2⟩,?_⟩
    simp only [RepS]
    refine ⟨v,?_,hend.2.same (k25.same hS2)⟩
    rw [List.drop_drop,← hvl,put_at (by rw [hvl];exact hbl)]
end
end Go.Mr
namespace Go.Mr
open Go.Lx Go.Nx Go.Km Go.Mx Go.Kb
open Go.CX (T deep)
set_option linter.unusedSimpArgs false
set_option linter.unusedVariables false
def rdTg (T:Tab):NP→St→Option (NP×St×Nat)
 | .op (.call f) [x] n k,st=>if isO st.env x 0 0=true∧f=T.tags then some (k,st.new n,st.nj) else none
 | _,_=>none
def tgAt (T:Tab) (off:Nat) (p0:NP) (st:St):Option (NP×St):=
 let r1:=runS KF p0 st
 (rdTg T r1.1 r1.2).bind fun r2=>
 let r3:=runS KF r2.1 r2.2.1
 (storeT 1 r2.2.2 r3.2.sj off r3.1 r3.2).bind fun r5=>
 if off+1≤r5.2.cells.length then some (r5.1,{ r5.2 with cells:=markC r5.2.cells off 1 }) else none
section
variable {P:Program} {g:Nat}
theorem rdTg_some {T:Tab} {q q':NP} {st st':St} {j:Nat} (h:rdTg T q st=some (q',st',j)) :
  ∃ x n,q = .op (.call T.tags) [x] n q'∧isO st.env x 0 0=true∧st'=st.new n∧j=st.nj:=by
 unfold rdTg at h
 split at h
 ·split at h
  ·rename_i hc
   obtain ⟨h1,rfl⟩:=hc
   cases h
   exact ⟨_,_,rfl,h1,rfl,rfl⟩
  ·cases h
 ·cases h
theorem tgAt_ok {T:Tab} (hT:TabOk P T g) {off:Nat} {q q':NP} {st st':St} (h:tgAt T off q st=some (q',st')) :
  Fld P g off (rdF (.tags off)) (fun ok w x cs=>RepF ok w (.tags off) x cs) q q' st st':=by
 unfold tgAt at h
 simp only [Option.bind_eq_some_iff] at h
 obtain ⟨⟨q2,st2,j⟩,h2,⟨q5,st5⟩,h5,h6⟩:=h
 obtain ⟨x,n,e1,hx,e2,e3⟩:=rdTg_some h2
 dsimp only at h5 h6
 split at h6
 case isFalse=>cases h6
 rename_i hoff
 cases h6
 have R1:=run_stt P (f:=KF) (p:=q) (st:=st)
 have R3:=run_stt P (f:=KF) (p:=q2) (st:=st2)
 obtain ⟨s1,s2,s3,s4⟩:=store_ok (P:=P) h5
 have hnj:st5.nj=st.nj+1:=by rw [s1,R3.2.1,e2];show (runS KF q st).2.nj+1=_;rw [R1.2.1]
 have hsj:st5.sj=st.sj:=by rw [s2,R3.1.sj,e2];exact R1.1.sj
 have hcl:st5.cells=st.cells:=by rw [s3,R3.2.2,e2];exact R1.2.2
 have hj:j=st.nj:=by rw [e3,R1.2.1]
 refine ⟨⟨by show st.nj≤st5.nj;omega,hsj,by show (markC st5.cells _ _).length=_;rw [markC_length _ _ _ hoff,hcl]⟩,?_⟩
 intro ok R S base cs nn sb ρ η w err Q hpre hbad hk
 refine run_pre (f:=KF) hpre fun η1 hp1 => ?_
 obtain ⟨_,hxv⟩:=isO_val hp1.env hx
 rw [hp1.r0,addOff_ptr] at hxv
 rw [e1]
 refine np_op (vs:=[ptr R]) (by simp [hxv]) (hT.tags ok w R nn sb _ hp1.he hp1.rd fun v w2 k2 hend => ?_)
 have hv:v.oneCell'=true∧∃ nn' sb',Rd ok w2 R nn' sb':=by
  unfold TagsEnd at hend
  split at hend
  ·refine ⟨?_,_,_,hend.1⟩
   rcases hend.2.1 with ⟨rfl,_⟩ | ⟨r,es,rfl,_⟩<;>rfl
  ·exact ⟨hend.2,_,_,hend.1⟩
 obtain ⟨hone,nn',sb',hrd2⟩:=hv
 have hfit:Fit 1 (.agg #[v]):=⟨by simp [Value.cells],by simp [Value.cells,hone]⟩
 have hp2:=hp1.new n (.agg #[v]) k2 hrd2
 rw [← e2] at hp2
 refine run_pre (f:=KF) hp2 fun η3 hp3 => ?_
 have hρj:upd ρ (runS KF q st).2.nj (.agg #[v]) j = .agg #[v]:=by simp [upd,e3]
 have hlen:=hp3.cur.len
 have hcl3:(runS KF q2 st2).2.cells=st.cells:=by rw [R3.2.2,e2];exact R1.2.2
 rw [hcl] at hoff
 have hbl:base+off+1≤cs.length:=by rw [hcl3] at hlen;omega
 refine s4 hp3.env hp3.cur.ptr hp3.cur.row hbl (by rw [hρj];exact hfit) fun η5 w5 he5 r5 k25 => ?_
 rw [hρj] at r5
 have hcv:(Value.agg #[v]).cells.toList=[v]:=rfl
 rw [hcv] at r5
 have kk:Keep [R,S] w w5:=(k2.mono (A':=[R,S]) (fun x hx _=>by simp at hx ⊢;exact .inl hx)).then (k25.mono (fun x hx _=>by simp at hx ⊢;exact .inr hx))
 have hn1:(runS KF q st).2.nj=st.nj:=R1.2.1
 have hρ:∀ i,i<st.nj→upd ρ (runS KF q st).2.nj (.agg #[v]) i=ρ i:=fun i hi=>by simp [upd,hn1,Nat.ne_of_lt hi]
 have hcur:Cur ⟨st5.env,st5.nj,st.sj,markC st.cells off [v].length⟩ (upd ρ (runS KF q st).2.nj (.agg #[v])) w5 S base (put cs (base+off) [v]):=
  (hpre.cur.move (st':=st) rfl rfl hpre.nj.2 hρ hpre.cur.row).put (by simpa using hoff) r5
 have hbl':base+off+[v].length≤cs.length:=hbl
 refine hk (upd ρ (runS KF q st).2.nj (.agg #[v])) η5 w5 (put cs (base+off) [v]) ⟨?_,hρ,kk,?_,?_,?_,?_⟩ ?_
 ·show EnvOk st5.env st5.nj _ _
  rw [s1];exact he5
 ·rw [hsj,hcl];exact hcur
 ·rw [put_length _ _ _ hbl']
 ·intro i hi
  exact put_out _ _ _ hbl' _ (.inl hi)
 ·intro i hi
  exact put_out _ _ _ hbl' _ (.inr (by simp;omega))
 ·have hS2:∀ x∈[S],¬ ok x:=fun x hx=>by rw [List.mem_singleton.1 hx];exact hpre.nS
  have hR2:R∉[S]:=by rw [List.mem_singleton];exact fun e=>hpre.SR e.symm
  unfold FEnd
  simp only [rdF]
  unfold TagsEnd at hend
  cases sb with
  | none=>simp only [Option.bind_none] at hend ⊢;exact hend.1.keep k25 hR2 hS2
  | some bs=>
   simp only [Option.bind_some] at hend ⊢
   cases hd:rdTags bs with
   | none=>rw [hd] at hend;simp only [Option.map_none];exact hend.1.keep k25 hR2 hS2
   | some z=>
    obtain ⟨x,r⟩:=z
    rw [hd] at hend
    simp only [Option.map_some]
    refine ⟨⟨_,hend.1.keep k25 hR2 hS2⟩,?_⟩
    simp only [RepF]
    refine ⟨v,?_,rept_same hend.2.1 (k25.same hS2),hend.2.2⟩
    rw [List.getElem?_drop]
    have:=put_in cs (base+off) [v] hbl' 0 (by simp)
    simpa using this
end
end Go.Mr
namespace Go.Mr
open Go.Lx Go.Nx Go.Km Go.Mx Go.Kb
open Go.CX (T deep)
set_option linter.unusedSimpArgs false
set_option linter.unusedVariables false
def clr (l:List Nat) (E:T AV):T AV:=l.foldl (fun E n=>E.set deep n none) E
theorem EnvOk.forget {E:T AV} {c:Nat} {ρ η:Nat→Value} (h:EnvOk E c ρ η) (n:Nat):EnvOk (E.set deep n none) c ρ η:=by
 refine ⟨fun m b hb => ?_⟩
 rcases CX.T.get_set _ _ _ _ _ _ hb with ⟨rfl,h2⟩ | ⟨h1,h2⟩
 ·cases h2
 ·exact h.get m b h2
theorem clr_get:∀ (l:List Nat) (E:T AV) (n:Nat) (a:AV),(clr l E).get deep n=some a→n∉l∧E.get deep n=some a:=by
 intro l
 induction l with
 | nil=>intro E n a h;exact ⟨by simp,h⟩
 | cons m l ih=>
  intro E n a h
  obtain ⟨h1,h2⟩:=ih _ n a h
  rcases CX.T.get_set _ _ _ _ _ _ h2 with ⟨_,h3⟩ | ⟨h3,h4⟩
  ·cases h3
  ·exact ⟨by simp only [List.mem_cons,not_or];exact ⟨h3,h1⟩,h4⟩
theorem EnvOk.clr {E:T AV} {c:Nat} {ρ η η':Nat→Value} {l:List Nat} (h:EnvOk E c ρ η) (hη:∀ n,n∉l→η' n=η n):EnvOk (clr l E) c ρ η':=by
 refine ⟨fun m b hb => ?_⟩
 obtain ⟨h1,h2⟩:=clr_get _ _ _ _ hb
 obtain ⟨g1,g2⟩:=h.get m b h2
 exact ⟨g1,by rw [hη m h1];exact g2⟩
def rdCnt (T:Tab) (c:Bool):NP→St→Option (NP×St×Nat)
 | .op (.call f) [x] n k,st=>if isO st.env x 0 0=true∧T.cnt f=some c then some (k,st.new n,st.nj) else none
 | _,_=>none
def okStep (T:Tab):NP→St→Option (NP×St)
 | .op (.call f) [x] n1 (.op .not [.s n2] n3 (.ite (.s n4) (.op (.call f2) [y] n5 (.ret [.s n6])) .nil k)),st=>
  if T.okF=some f∧f2=T.compl∧n1=n2∧n3=n4∧n5=n6∧isO st.env x 0 0=true∧isO ((st.env.set deep n1 none).set deep n3 none) y 0 0=true then some (k,{ st with env:=(st.env.set deep n1 none).set deep n3 none }) else none
 | _,_=>none
def nilA (E:T AV) (x:SV):Bool:=match evalA E x with
 | some (.k v)=>isNilSl v
 | _=>false
def growS (jl:Nat):NP→St→Option (NP×St×Nat×List Value)
 | .op (.bin .gtr) [x,.k (.int .i32 0)] n1 (.ite (.s n2) (.op (.appZ z) [a,y] n3 (.set n4 (.s n5) .nil)) (.set n6 a' .nil) k),st=>
  if n1=n2∧n3=n5∧n4=n6∧isO st.env x jl 0=true∧isO (st.env.set deep n1 none) y jl 0=true∧nilA (st.env.set deep n1 none) a=true∧nilA (st.env.set deep n1 none) a'=true
  then some (k,({ st with env:=(st.env.set deep n1 none).set deep n3 none }).new n4,st.nj,z) else none
 | _,_=>none
def tailS (i ji:Nat) (p:NP) (st:St):Bool:=
 let r:=runS KF p st
 match r.1 with
 | .op (.bin .add) [x,.k (.int .i32 1)] t k=>
  isO r.2.env x ji 0 && (let r2:=runS KF k (r.2.new t);match r2.1 with
   | .nil=>isO r2.2.env (.s i) r.2.nj 0
   | _=>false)
 | _=>false
section
variable {P:Program} {g:Nat}
theorem rdCnt_some {T:Tab} {c:Bool} {q q':NP} {st st':St} {j:Nat} (h:rdCnt T c q st=some (q',st',j)) :
  ∃ f x n,q = .op (.call f) [x] n q'∧isO st.env x 0 0=true∧T.cnt f=some c∧st'=st.new n∧j=st.nj:=by
 unfold rdCnt at h
 split at h
 ·split at h
  ·rename_i hc
   cases h
   exact ⟨_,_,_,rfl,hc.1,hc.2,rfl,rfl⟩
  ·cases h
 ·cases h
theorem Pre.env' {st:St} {ok:Nat→Prop} {R S base:Nat} {cs:List Value} {nn:Bool} {sb:Option Bs} {ρ η η':Nat→Value} {w:World} {err:Value} (h:Pre g st ok R S base cs nn sb ρ η w err) {E:T AV} (he:EnvOk E st.nj ρ η') :
  Pre g { st with env:=E } ok R S base cs nn sb ρ η' w err:=⟨he,⟨h.cur.ptr,h.cur.row,h.cur.len,h.cur.known⟩,h.he,h.nS,h.SR,h.rd,h.r0,h.err,h.gR,h.gS,h.nj⟩
theorem okStep_ok {T:Tab} (hT:TabOk P T g) {q q':NP} {st st':St} (h:okStep T q st=some (q',st')):(∃ E,st'={ st with env:=E }) ∧
  ∀ {ok:Nat→Prop} {R S base:Nat} {cs:List Value} {nn:Bool} {sb:Option Bs} {ρ η:Nat→Value} {w:World} {err:Value} {Q:Post},Pre g st ok R S base cs nn sb ρ η w err →
   (sb=none→∀ η',Q (.ret [err]) η' w)→(∀ η',sb.isSome=true→Pre g st' ok R S base cs nn sb ρ η' w err→q'.wp P Q η' w)→q.wp P Q η w:=by
 unfold okStep at h
 split at h
 case h_2=>cases h
 rename_i f x n1 n2 n3 n4 f2 y n5 n6 k
 split at h
 case isFalse=>cases h
 rename_i hc
 obtain ⟨hf,rfl,rfl,rfl,rfl,hx,hy⟩:=hc
 cases h
 refine ⟨⟨_,rfl⟩,fun {ok R S base cs nn sb ρ η w err Q} hp hbad hk => ?_⟩
 obtain ⟨_,hxv⟩:=isO_val hp.env hx
 rw [hp.r0,addOff_ptr] at hxv
 refine np_op (vs:=[ptr R]) (by simp [hxv]) (hT.okF f hf ok w R nn sb _ hp.rd ?_)
 refine np_op (vs:=[.bool sb.isSome]) (by simp [SV.val,upd]) ⟨_,rfl,?_⟩
 have he:=(hp.env.clear (n:=n1) (v := .bool sb.isSome)).clear (n:=n3) (v := .bool (!sb.isSome))
 refine np_ite (!sb.isSome) (by simp [SV.val,upd]) ?_
 cases sb with
 | none=>
  simp only [Option.isSome_none,Bool.not_false,if_true]
  obtain ⟨_,hyv⟩:=isO_val he hy
  rw [hp.r0,addOff_ptr] at hyv
  simp only [Option.isSome_none,Bool.not_false] at hyv
  refine np_op (vs:=[ptr R]) (by simp [hyv]) (hT.compl ok w R nn none _ err hp.rd hp.err ?_)
  simp only [Option.isSome_none,Bool.false_eq_true,if_false]
  show Q _ _ _
  have:=hbad rfl
  simpa [SV.val,upd] using this _
 | some bs=>
  simp only [Option.isSome_some,Bool.not_true,Bool.false_eq_true,if_false]
  exact hk _ rfl (hp.env' he)
theorem nilA_val {E:T AV} {c:Nat} {ρ η:Nat→Value} (h:EnvOk E c ρ η) {x:SV} (ha:nilA E x=true):x.val η = .slice none 0 0:=by
 unfold nilA at ha
 split at ha
 ·rename_i v he
  obtain ⟨_,h1⟩:=evalA_val h he
  unfold isNilSl at ha
  split at ha
  ·exact h1
  ·cases ha
 ·cases ha
def Grown (w w':World) (z:List Value) (n:Int) (u:Value):Prop:=
 (n≤0∧u = .slice none 0 0∧w'=w)∨∃ A cap,0<n∧w.heap.size≤A∧u = .slice (some ⟨A,0,none⟩) n.toNat cap∧n.toNat≤cap∧Row w' A (List.replicate cap z).flatten∧Keep [] w w'
theorem growS_ok {jl:Nat} {q q':NP} {st st':St} {ja:Nat} {z:List Value} (h:growS jl q st=some (q',st',ja,z)):(∃ E,st'={ st with env:=E,nj:=st.nj+1 })∧ja=st.nj ∧
  ∀ {ρ η:Nat→Value} {w:World} {n:Int} {Q:Post},EnvOk st.env st.nj ρ η→ρ jl = .int .i32 n→n<2147483648 →
   (∀ u η' w',Grown w w' z n u→EnvOk st'.env (st.nj+1) (upd ρ st.nj u) η'→q'.wp P Q η' w')→q.wp P Q η w:=by
 unfold growS at h
 split at h
 case h_2=>cases h
 rename_i x n1 n2 z a y n3 n4 n5 n6 a' k
 split at h
 case isFalse=>cases h
 rename_i hc
 obtain ⟨rfl,rfl,rfl,hx,hy,ha,ha'⟩:=hc
 cases h
 refine ⟨⟨_,rfl⟩,rfl,fun {ρ η w n Q} he hl hn hk => ?_⟩
 obtain ⟨_,hxv⟩:=isO_val he hx
 rw [addOff_zero,hl] at hxv
 refine np_op (vs:=[.int .i32 n,.int .i32 0]) (by simp only [List.map,hxv];rfl) ⟨.i32,n,0,.bool (decide (n > 0)),rfl,rfl,?_⟩
 have he1:=he.clear (n:=n1) (v := .bool (decide (n > 0)))
 refine np_ite (decide (n > 0)) (by simp [SV.val,upd]) ?_
 by_cases hpos:n > 0
 ·rw [if_pos (by simpa using hpos)]
  obtain ⟨_,hyv⟩:=isO_val he1 hy
  rw [addOff_zero,hl] at hyv
  have hav:=nilA_val he1 ha
  have hnn:(n.toNat:Int)=n:=by omega
  refine np_op (vs:=[.slice none 0 0,.int .i32 n]) (by simp only [List.map,hyv,hav]) ⟨.i32,n.toNat,by omega,by omega,.inl ⟨by rw [hnn],fun cap e hcap => ?_⟩⟩
  have hr:=(alloc_row (w:=w.drew) (List.replicate cap z).flatten e)
  have kd:Keep [] w w.drew:=⟨rfl,rfl,rfl,Nat.le_refl _,fun _ _ _=>rfl⟩
  have heq:w.drew.heap.size=w.heap.size:=rfl
  refine hk (.slice (some ⟨w.heap.size,0,none⟩) n.toNat cap) _ _ (.inr ⟨w.heap.size,cap,hpos,Nat.le_refl _,rfl,hcap,hr.1,kd.then hr.2⟩) ?_
  have:=(he1.clear (n:=n3) (v := .slice (some ⟨w.heap.size,0,none⟩) n.toNat cap)).fresh n4 (.slice (some ⟨w.heap.size,0,none⟩) n.toNat cap)
  simpa [St.new,SV.val,upd] using this
 ·rw [if_neg (by simpa using hpos)]
  have hav:=nilA_val he1 ha'
  refine hk (.slice none 0 0) _ w (.inl ⟨by omega,rfl,rfl⟩) ?_
  have:=(he1.forget n3).fresh n4 (.slice none 0 0)
  simp only [hav]
  exact this
theorem tailS_ok {i ji:Nat} {p:NP} {st:St} (h:tailS i ji p st=true) {ρ η:Nat→Value} {w:World} {S base:Nat} {cs:List Value} {Q:Post} {m:Nat} (he:EnvOk st.env st.nj ρ η) (hc:Cur st ρ w S base cs) (hsj:st.sj<st.nj)
  (hi:ρ ji = .int .i32 m) (hm:m+1<2147483648) (hk:∀ η',η' i = .int .i32 ((m+1:Nat):Int)→Q .nrm η' w):p.wp P Q η w:=by
 unfold tailS at h
 obtain ⟨g1,g2,g3,g4⟩:=runS_ok (P:=P) KF p st
 refine g4 he hc fun η1 he1 => ?_
 dsimp only at h
 split at h
 case h_2=>cases h
 rename_i x t k hp
 rw [hp]
 simp only [Bool.and_eq_true] at h
 obtain ⟨hx,h⟩:=h
 have he1':EnvOk (runS KF p st).2.env (runS KF p st).2.nj ρ η1:=by rw [g1];exact he1
 obtain ⟨_,hxv⟩:=isO_val he1' hx
 rw [addOff_zero,hi] at hxv
 have hw:IntKind.i32.wrap ((m:Int)+1)=((m+1:Nat):Int):=by
  simp only [IntKind.wrap,IntKind.bits,IntKind.signed]
  simp
  omega
 refine np_op (vs:=[.int .i32 m,.int .i32 1]) (by simp only [List.map,hxv];rfl) ⟨.i32,m,1,_,rfl,rfl,?_⟩
 rw [hw]
 obtain ⟨k1,k2,k3,k4⟩:=runS_ok (P:=P) KF k ((runS KF p st).2.new t)
 have he2:=he1'.fresh t (.int .i32 ((m+1:Nat):Int))
 refine k4 he2 ⟨?_,hc.row,by show base+(runS KF p st).2.cells.length≤_;rw [g3];exact hc.len,by show ∀ j v,(runS KF p st).2.cells[j]?=_→_;rw [g3];exact hc.known⟩ fun η2 he3 => ?_
 ·show upd ρ (runS KF p st).2.nj _ (runS KF p st).2.sj=_
  rw [g1,g2]
  simp only [upd]
  rw [if_neg (by omega)]
  exact hc.ptr
 ·split at h
  case h_2=>cases h
  rename_i hq
  rw [hq]
  obtain ⟨_,hv⟩:=isO_val he3 h
  rw [addOff_zero] at hv
  simp only [SV.val,upd,if_true] at hv
  exact hk η2 hv
end
end Go.Mr
namespace Go.Mr
open Go.Lx Go.Nx Go.Km Go.Mx Go.Kb
open Go.CX (T deep)
set_option linter.unusedSimpArgs false
set_option linter.unusedVariables false
def inSt (st:St) (m n:Nat) (cells:List (Option Value)):St:={ env:=(st.new m).env.set deep n none,nj:=st.nj+1,sj:=st.nj,cells:=cells }
def elStr (T:Tab) (sz ja ji:Nat) (z:List Value) (p:NP) (st:St):Option (NP×St):=
 let r:=runS KF p st
 match r.1 with
 | .op (.ia sz') [a,x] m (.chk m' (.op (.call f) [y] n k))=>
  if sz'=sz∧m=m'∧isO r.2.env a ja 0=true∧isO r.2.env x ji 0=true∧isO (r.2.new m).env y r.2.nj 0=true then
   match T.defs f with
   | some ds=>if ds.all (fun d=>decide (d.1<z.length))=true then some (k,inSt r.2 m n ((setD 0 ds z).map some)) else none
   | none=>none
  else none
 | _=>none
def elPrim (T:Tab) (pr:Prim) (sz ja ji:Nat) (p:NP) (st:St):Option (NP×St):=
 let r1:=runS KF p st
 (rdPrim T pr r1.1 r1.2).bind fun r2=>
 let r3:=runS KF r2.1 r2.2.1
 let r4:=copyW (width pr) r2.2.2 r3.1 r3.2
 match r4.1 with
 | .op (.ia sz') [a,x] m (.chk m' k)=>
  if sz'=sz∧m=m'∧isO r4.2.env a ja 0=true∧isO r4.2.env x ji 0=true then storeT (width pr) r2.2.2 r4.2.nj 0 k (r4.2.new m) else none
 | _=>none
section
variable {P:Program} {g:Nat}
def Elm (P:Program) (g:Nat) (ja ji:Nat) (z:List Value) {α:Type} (dec:Bs→Option (α×Bs)) (rep:(Nat→Prop)→World→α→List Value→Prop) (p p':NP) (st st':St):Prop:=
 st.nj≤st'.nj∧st'.sj<st'.nj∧∀ (ok:Nat→Prop) (R S base:Nat) (cs:List Value) (nn:Bool) (sb:Option Bs) (ρ η:Nat→Value) (w:World) (err:Value) (Q:Post) (A n cap i:Nat) (acs:List Value),
  Pre g st ok R S base cs nn sb ρ η w err→A≠R→A≠S→A≠g→¬ ok A→Row w A acs→i<n→ρ ja = .slice (some ⟨A,0,none⟩) n cap→ja<st.nj→ρ ji = .int .i32 i→ji<st.nj→(i+1)*z.length≤acs.length→(acs.drop (i*z.length)).take z.length=z →
  (sb.bind dec=none→∀ η' w',Keep [R,A] w w'→Q (.ret [err]) η' w') →
  (∀ ρ' η' w' acs' S' base' cs',EnvOk st'.env st'.nj ρ' η'→(∀ j,j<st.nj→ρ' j=ρ j)→Cur st' ρ' w' S' base' cs'→Keep [R,A] w w'→Row w' A acs'→acs'.length=acs.length →
   (∀ j,j<i*z.length∨(i+1)*z.length≤j→acs'[j]?=acs[j]?)→FEnd ok R sb dec rep (i*z.length) acs' w'→p'.wp P Q η' w')→p.wp P Q η w
theorem setD_length (o:Nat):∀ (ds:List (Nat×Value)) (cs:List Value),(setD o ds cs).length=cs.length:=by
 intro ds
 induction ds with
 | nil=>intro cs;rfl
 | cons d ds ih=>intro cs;unfold setD at ih ⊢;simp only [List.foldl_cons];rw [ih];simp
theorem setD_get (o:Nat) (n:Nat):∀ (ds:List (Nat×Value)) (cs zs:List Value),zs.length=n→(∀ d∈ds,d.1<n)→(cs.drop o).take n=zs→((setD o ds cs).drop o).take n=setD 0 ds zs∧∀ j,j<o∨o+n≤j→(setD o ds cs)[j]?=cs[j]?:=by
 intro ds
 induction ds with
 | nil=>intro cs zs _ _ h;exact ⟨h,fun _ _=>rfl⟩
 | cons d ds ih=>
  intro cs zs hn hd h
  have hd1:=hd d (by simp)
  have e1:(((cs.set (o+d.1) d.2).drop o).take n)=zs.set (0+d.1) d.2:=by
   rw [← h]
   apply List.ext_getElem?
   intro j
   simp only [List.getElem?_take,List.getElem?_drop,List.getElem?_set,List.length_take,List.length_drop]
   by_cases hj:j<n
   ·simp only [hj,if_true]
    by_cases hjd:d.1=j
    ·subst hjd
     simp only [if_true,Nat.zero_add]
     by_cases hl:o+d.1<cs.length
     ·rw [if_pos hl,if_pos (by omega)]
     ·rw [if_neg hl,if_neg (by omega)]
    ·rw [if_neg (by omega),if_neg (by omega)]
   ·simp only [hj,if_false]
    rw [if_neg (by omega)]
  obtain ⟨g1,g2⟩:=ih (cs.set (o+d.1) d.2) (zs.set (0+d.1) d.2) (by simpa using hn) (fun x hx=>hd x (by simp [hx])) e1
  refine ⟨?_,fun j hj => ?_⟩
  ·unfold setD at g1 ⊢;simp only [List.foldl_cons];exact g1
  ·have:=g2 j hj
   unfold setD at this ⊢
   simp only [List.foldl_cons]
   rw [this,List.getElem?_set,if_neg (by omega)]
theorem add_at (A o:Nat):(⟨A,0,none⟩:Addr).add o=⟨A,o,none⟩:=by rw [addr_at];simp
theorem elStr_ok {T:Tab} (hT:TabOk P T g) {sz ja ji:Nat} {z:List Value} (hsz:sz=z.length) {p q' p':NP} {st stE st':St} {α:Type} {dec:Bs→Option (α×Bs)} {rep:(Nat→Prop)→World→α→List Value→Prop}
  (h:elStr T sz ja ji z p st=some (q',stE)) (hF:Fld P g 0 dec rep q' p' stE st'):Elm P g ja ji z dec rep p p' st st':=by
 subst hsz
 unfold elStr at h
 have R1:=run_stt P (f:=KF) (p:=p) (st:=st)
 dsimp only at h
 split at h
 case h_2=>cases h
 rename_i sz' a x m m' f y n k hp
 split at h
 case isFalse=>cases h
 rename_i hc
 obtain ⟨rfl,rfl,ha,hx,hy⟩:=hc
 split at h
 case h_2=>cases h
 rename_i ds hds
 split at h
 case isFalse=>cases h
 rename_i hall
 cases h
 have hn1:=R1.2.1
 obtain ⟨hs1,hs2⟩:=hF
 refine ⟨Nat.le_trans (by show st.nj≤(runS KF p st).2.nj+1;omega) hs1.nj,?_,?_⟩
 ·rw [hs1.sj]
  exact Nat.lt_of_lt_of_le (Nat.lt_succ_self (runS KF p st).2.nj) hs1.nj
 intro ok R S base cs nn sb ρ η w err Q A nl cap i acs hpre hAR hAS hAg hAok hrow hin hja hjal hji hjil hlen hz hbad hk
 refine run_pre (f:=KF) hpre fun η1 hp1 => ?_
 rw [hp]
 obtain ⟨_,hav⟩:=isO_val hp1.env ha
 obtain ⟨_,hxv⟩:=isO_val hp1.env hx
 rw [addOff_zero] at hav hxv
 rw [hja] at hav
 rw [hji] at hxv
 refine np_op (vs:=[.slice (some ⟨A,0,none⟩) nl cap,.int .i32 i]) (by simp only [List.map,hav,hxv]) ⟨⟨A,0,none⟩,nl,cap,.i32,i,rfl,hin,?_⟩
 rw [add_at]
 refine ⟨⟨_,by simp only [upd];rfl⟩,?_⟩
 have he2:=hp1.env.fresh m (.pointer (some ⟨A,i*z.length,none⟩))
 obtain ⟨_,hyv⟩:=isO_val he2 hy
 simp only [upd,if_true,addOff_zero] at hyv
 have hdl:∀ d∈ds,d.1<z.length:=by simpa using hall
 have hdl':∀ d∈ds,i*z.length+d.1<acs.length:=fun d hd=>by have:=hdl d hd;rw [Nat.add_mul] at hlen;omega
 refine np_op (vs:=[.pointer (some ⟨A,i*z.length,none⟩)]) (by simp only [List.map];exact congrArg (fun v=>[v]) hyv) (hT.defs f ds hds w A (i*z.length) acs _ hrow hdl' fun w2 hrow2 k2 => ?_)
 obtain ⟨d1,d2⟩:=setD_get (i*z.length) z.length ds acs z rfl hdl hz
 have hlen2:=setD_length (i*z.length) ds acs
 have he3:=he2.clear (n:=n) (v := .tuple #[])
 have hρ:∀ j,j<st.nj→upd ρ (runS KF p st).2.nj (.pointer (some ⟨A,i*z.length,none⟩)) j=ρ j:=fun j hj=>by simp [upd,hn1,Nat.ne_of_lt hj]
 have hrd2:Rd ok w2 R nn sb:=hpre.rd.keep k2 (by simp;exact fun e=>hAR e.symm) (fun x hx=>by rw [List.mem_singleton.1 hx];exact hAok)
 have hpi:Pre g (inSt (runS KF p st).2 m n ((setD 0 ds z).map some)) ok R A (i*z.length) (setD (i*z.length) ds acs) nn sb (upd ρ (runS KF p st).2.nj (.pointer (some ⟨A,i*z.length,none⟩))) (upd (upd η1 m (.pointer (some ⟨A,i*z.length,none⟩))) n (.tuple #[])) w2 err:=by
  refine ⟨he3,⟨by simp [inSt,upd],hrow2,?_,?_⟩,hpre.he.keep k2,hAok,hAR,hrd2,?_,cell_keep hpre.err k2 (by simp;exact fun e=>hAg e.symm),hpre.gR,(fun e=>hAg e.symm),⟨Nat.succ_pos _,Nat.lt_succ_self _⟩⟩
  ·simp only [inSt,List.length_map,setD_length]
   rw [Nat.add_mul] at hlen;omega
  ·intro j v hj
   have hj':(setD 0 ds z)[j]?=some v:=by
    simp only [inSt,List.getElem?_map,Option.map_eq_some_iff] at hj
    obtain ⟨u,h1,h2⟩:=hj
    cases h2;exact h1
   have hjl:j<z.length:=by
    have:=(List.getElem?_eq_some_iff.1 hj').1
    rwa [setD_length] at this
   rw [← d1,List.getElem?_take,if_pos hjl,List.getElem?_drop] at hj'
   exact hj'
  ·show upd ρ _ _ 0=_
   rw [hρ 0 hpre.nj.1];exact hpre.r0
 refine hs2 ok R A (i*z.length) (setD (i*z.length) ds acs) nn sb _ _ w2 err Q hpi (fun hb η' w' kw=>hbad hb η' w' ((k2.mono (A':=[R,A]) (fun x hx _=>by simp at hx ⊢;exact .inr hx)).then kw)) fun ρ' η' w' acs' hn hend => ?_
 have hkk:Keep [R,A] w w':=(k2.mono (A':=[R,A]) (fun x hx _=>by simp at hx ⊢;exact .inr hx)).then hn.keep
 refine hk ρ' η' w' acs' A (i*z.length) acs' hn.env (fun j hj => ?_) hn.cur hkk hn.cur.row (by rw [hn.len,hlen2]) (fun j hj => ?_) hend
 ·rw [hn.ρ j (by show j<(runS KF p st).2.nj+1;omega)];exact hρ j hj
 ·have e2:=d2 j (by rw [Nat.add_mul,Nat.one_mul] at hj;exact hj)
  rw [← e2]
  rcases hj with hj | hj
  ·exact hn.low j (by omega)
  ·refine hn.high j ?_
   simp only [inSt,List.length_map,setD_length]
   rw [Nat.add_mul,Nat.one_mul] at hj;omega
theorem elPrim_ok {T:Tab} (hT:TabOk P T g) {pr:Prim} {sz ja ji:Nat} {z:List Value} (hsz:sz=z.length) (hw:width pr=z.length) {p p':NP} {st st':St}
  (h:elPrim T pr sz ja ji p st=some (p',st')) (hsj:st.sj<st.nj):Elm P g ja ji z (rd (.prim pr)) (fun ok w x cs=>RepS ok w (.prim pr) x cs) p p' st st':=by
 subst hsz
 unfold elPrim at h
 simp only [Option.bind_eq_some_iff] at h
 obtain ⟨⟨q2,st2,j⟩,h2,h⟩:=h
 obtain ⟨f,x,n,e1,hx,hf,e2,e3⟩:=rdPrim_some h2
 dsimp only at h
 have R1:=run_stt P (f:=KF) (p:=p) (st:=st)
 have R3:=run_stt P (f:=KF) (p:=q2) (st:=st2)
 obtain ⟨c1,c2,c3,c4⟩:=copyW_ok (P:=P) (wd:=width pr) (j:=j) (p:=(runS KF q2 st2).1) (st:=(runS KF q2 st2).2)
 split at h
 case h_2=>cases h
 rename_i sz' a xi m m' k hq
 split at h
 case isFalse=>cases h
 rename_i hc
 obtain ⟨rfl,rfl,ha,hxi⟩:=hc
 obtain ⟨s1,s2,s3,s4⟩:=store_ok (P:=P) h
 have hst2:st2.nj=st.nj+1:=by rw [e2];show (runS KF p st).2.nj+1=_;rw [R1.2.1]
 have hst4:(copyW (width pr) j (runS KF q2 st2).1 (runS KF q2 st2).2).2.nj=st.nj+1:=by rw [c1,R3.2.1,hst2]
 have hst4s:(copyW (width pr) j (runS KF q2 st2).1 (runS KF q2 st2).2).2.sj=st.sj:=by rw [c2,R3.1.sj,e2];exact R1.1.sj
 have hst4c:(copyW (width pr) j (runS KF q2 st2).1 (runS KF q2 st2).2).2.cells=st.cells:=by rw [c3,R3.2.2,e2];exact R1.2.2
 have hj:j=st.nj:=by rw [e3,R1.2.1]
 have hnj':st'.nj=st.nj+2:=by rw [s1];show (copyW (width pr) j (runS KF q2 st2).1 (runS KF q2 st2).2).2.nj+1=_;rw [hst4]
 have hsj':st'.sj=st.sj:=by rw [s2];exact hst4s
 have hcl':st'.cells=st.cells:=by rw [s3];exact hst4c
 refine ⟨by omega,by omega,?_⟩
 intro ok R S base cs nn sb ρ η w err Q A nl cap i acs hpre hAR hAS hAg hAok hrow hin hja hjal hji hjil hlen hz hbad hk
 refine run_pre (f:=KF) hpre fun η1 hp1 => ?_
 obtain ⟨_,hxv⟩:=isO_val hp1.env hx
 rw [hp1.r0,addOff_ptr] at hxv
 rw [e1]
 refine np_op (vs:=[ptr R]) (by simp [hxv]) (hT.prim f pr hf ok w R nn sb _ hp1.he hp1.rd fun v w2 k2 hend => ?_)
 have hv:Fit (width pr) v∧∃ nn' sb',Rd ok w2 R nn' sb':=by
  unfold ReadEnd at hend
  split at hend
  ·exact ⟨RepP.fit hend.2,_,_,hend.1⟩
  ·exact ⟨hend.2,_,_,hend.1⟩
 obtain ⟨hfit,nn',sb',hrd2⟩:=hv
 have hp2:=hp1.new n v k2 hrd2
 rw [← e2] at hp2
 refine run_pre (f:=KF) hp2 fun η3 hp3 => ?_
 have hn1:(runS KF p st).2.nj=st.nj:=R1.2.1
 have hρj:upd ρ (runS KF p st).2.nj v j=v:=by simp [upd,e3]
 have hρ:∀ i,i<st.nj→upd ρ (runS KF p st).2.nj v i=ρ i:=fun i hi=>by simp [upd,hn1,Nat.ne_of_lt hi]
 refine c4 hp3.env (by rw [hρj];exact hfit) fun η4 w4 he4 k4 => ?_
 rw [hq]
 obtain ⟨_,hav⟩:=isO_val he4 ha
 obtain ⟨_,hxv⟩:=isO_val he4 hxi
 rw [addOff_zero,hρ _ hjal,hja] at hav
 rw [addOff_zero,hρ _ hjil,hji] at hxv
 refine np_op (vs:=[.slice (some ⟨A,0,none⟩) nl cap,.int .i32 i]) (by simp only [List.map,hav,hxv]) ⟨⟨A,0,none⟩,nl,cap,.i32,i,rfl,hin,?_⟩
 rw [add_at]
 refine ⟨⟨_,by simp only [upd];rfl⟩,?_⟩
 have he4':EnvOk (copyW (width pr) j (runS KF q2 st2).1 (runS KF q2 st2).2).2.env (copyW (width pr) j (runS KF q2 st2).1 (runS KF q2 st2).2).2.nj (upd ρ (runS KF p st).2.nj v) η4:=by rw [c1];exact he4
 have he5:=he4'.fresh m (.pointer (some ⟨A,i*z.length,none⟩))
 have hρ2:∀ i',i'<st.nj+1→upd (upd ρ (runS KF p st).2.nj v) (copyW (width pr) j (runS KF q2 st2).1 (runS KF q2 st2).2).2.nj (.pointer (some ⟨A,i*z.length,none⟩)) i'=upd ρ (runS KF p st).2.nj v i':=fun i' hi=>by
  rw [hst4];simp only [upd];rw [if_neg (by omega)]
 have hrow4:Row w4 A acs:=(hrow.keep k2 (by simp;exact hAR)).keep k4 (by simp)
 have hbl:i*z.length+0+width pr≤acs.length:=by rw [hw];rw [Nat.add_mul] at hlen;omega
 refine s4 he5 (by simp [upd]) hrow4 hbl (by rw [hρ2 j (by omega),hρj];exact hfit) fun η6 w6 he6 r6 k6 => ?_
 rw [hρ2 j (by omega),hρj,Nat.add_zero] at r6
 have hvl:v.cells.toList.length=width pr:=by rw [← hfit.1];simp
 have hbl':i*z.length+v.cells.toList.length≤acs.length:=by rw [hvl];exact hbl
 have k26:Keep [A] w2 w6:=(k4.mono (A':=[A]) (fun x hx _=>by cases hx)).then k6
 have kk:Keep [R,A] w w6:=(k2.mono (A':=[R,A]) (fun x hx _=>by simp at hx ⊢;exact .inl hx)).then (k26.mono (fun x hx _=>by simp at hx ⊢;exact .inr hx))
 have hS6:Row w6 S cs:=hpre.cur.row.keep kk (by simp;exact ⟨hpre.SR,fun e=>hAS e.symm⟩)
 have hρ3:∀ i',i'<st.nj→upd (upd ρ (runS KF p st).2.nj v) (copyW (width pr) j (runS KF q2 st2).1 (runS KF q2 st2).2).2.nj (.pointer (some ⟨A,i*z.length,none⟩)) i'=ρ i':=fun i' hi=>by rw [hρ2 i' (by omega),hρ i' hi]
 refine hk _ η6 w6 (put acs (i*z.length) v.cells.toList) S base cs (by rw [s1];exact he6) hρ3 (hpre.cur.move hsj' hcl' hpre.nj.2 hρ3 hS6) kk r6 (put_length _ _ _ hbl') (fun j' hj' => ?_) ?_
 ·refine put_out _ _ _ hbl' _ ?_
  rw [hvl,hw]
  rw [Nat.add_mul,Nat.one_mul] at hj'
  exact hj'
 ·have hS2:∀ x∈[A],¬ ok x:=fun x hx=>by rw [List.mem_singleton.1 hx];exact hAok
  have hR2:R∉[A]:=by rw [List.mem_singleton];exact fun e=>hAR e.symm
  unfold FEnd
  simp only [rd]
  unfold ReadEnd at hend
  cases sb with
  | none=>simp only [Option.bind_none] at hend ⊢;exact hend.1.keep k26 hR2 hS2
  | some bs=>
   simp only [Option.bind_some] at hend ⊢
   cases hd:rdP pr bs with
   | none=>rw [hd] at hend;simp only [Option.map_none];exact hend.1.keep k26 hR2 hS2
   | some y=>
    obtain ⟨x,r⟩:=y
    rw [hd] at hend
    simp only [Option.map_some]
    refine ⟨⟨_,hend.1.keep k26 hR2 hS2⟩,?_⟩
    simp only [RepS]
    refine ⟨v,?_,hend.2.same (k26.same hS2)⟩
    rw [← hvl,put_at hbl']
end
end Go.Mr
namespace Go.Mr
open Go.Lx Go.Nx Go.Km Go.Mx Go.Kb
open Go.CX (T deep)
set_option linter.unusedSimpArgs false
set_option linter.unusedVariables false
def isZ (E:T AV) (x:SV):Bool:=match evalA E x with
 | some (.k (.int .i32 0))=>true
 | _=>false
def loopSt (l:List Nat) (i:Nat) (st:St):St:={ st with env:=(clr l st.env).set deep i (some (.o st.nj 0)),nj:=st.nj+1 }
def loopS (el:Nat→NP→St→Option (NP×St)) (jl:Nat):NP→St→Option (NP×St)
 | .loop (.op (.bin .lss) [.s i,y] n1 (.ite (.s n2) .nil .exit body)) k,st=>
  if n1=n2∧i≠n1∧isZ st.env (.s i)=true∧isO (clr (n1::asg body) st.env) y jl 0=true then
   match el st.nj body (loopSt (n1::asg body) i st) with
   | some (p',st')=>if tailS i st.nj p' st'=true then some (k,{ st with env:=clr (n1::asg body) st.env }) else none
   | none=>none
  else none
 | _,_=>none
section
variable {P:Program} {g:Nat}
theorem EnvOk.know {E:T AV} {c:Nat} {ρ η:Nat→Value} (h:EnvOk E c ρ η) {n:Nat} {a:AV} (ha:a.lt c) (hv:η n=a.val ρ):EnvOk (E.set deep n (some a)) c ρ η:=by
 refine ⟨fun m b hb => ?_⟩
 rcases CX.T.get_set _ _ _ _ _ _ hb with ⟨rfl,h2⟩ | ⟨h1,h2⟩
 ·cases h2;exact ⟨ha,hv⟩
 ·exact h.get m b h2
theorem EnvOk.off {E:T AV} {c:Nat} {ρ η η':Nat→Value} {l:List Nat} (h:EnvOk (Mr.clr l E) c ρ η) (hη:∀ n,n∉l→η' n=η n):EnvOk (Mr.clr l E) c ρ η':=by
 refine ⟨fun m b hb => ?_⟩
 obtain ⟨h1,_⟩:=clr_get _ _ _ _ hb
 obtain ⟨g1,g2⟩:=h.get m b hb
 exact ⟨g1,by rw [hη m h1];exact g2⟩
theorem isZ_val {E:T AV} {c:Nat} {ρ η:Nat→Value} (h:EnvOk E c ρ η) {x:SV} (ha:isZ E x=true):x.val η = .int .i32 0:=by
 unfold isZ at ha
 split at ha
 ·rename_i he
  exact (evalA_val h he).2
 ·cases ha
def Sofar {α:Type} (dec:Bs→Option (α×Bs)) (rep:(Nat→Prop)→World→α→List Value→Prop) (ok:Nat→Prop) (n sz:Nat) (r0:Bs) (acs:List Value) (w:World) (i:Nat):Option Bs→Prop
 | some r=>∃ acc,acc.length=i∧rdN dec n r0=(rdN dec (n - i) r).map (fun y=>(acc++y.1,y.2))∧∀ j (h:j<acc.length),rep ok w acc[j] (acs.drop (j*sz))
 | none=>rdN dec n r0=none
def LEnd {α:Type} (dec:Bs→Option (α×Bs)) (rep:(Nat→Prop)→World→α→List Value→Prop) (ok:Nat→Prop) (R n sz:Nat) (r0:Bs) (acs:List Value) (w:World):Prop:=
 match rdN dec n r0 with
 | some (vs,rest)=>(∃ nn,Rd ok w R nn (some rest))∧vs.length=n∧∀ j (h:j<vs.length),rep ok w vs[j] (acs.drop (j*sz))
 | none=>∃ nn,Rd ok w R nn none
theorem rep_at {z:List Value} (cap j:Nat) (hj:j<cap):(((List.replicate cap z).flatten).drop (j*z.length)).take z.length=z:=by
 have e:List.replicate cap z=List.replicate j z++z::List.replicate (cap - j - 1) z:=by
  rw [← List.replicate_succ,List.replicate_append_replicate]
  congr 1
  omega
 rw [e,List.flatten_append,List.flatten_cons,List.drop_append_of_le_length (by simp),List.drop_of_length_le (by simp),List.nil_append,List.take_append_of_le_length (Nat.le_refl _),List.take_length]
theorem loop_okG {el:Nat→NP→St→Option (NP×St)} {jl ja:Nat} {z:List Value} {α:Type} {dec:Bs→Option (α×Bs)} {rep:(Nat→Prop)→World→α→List Value→Prop} {p k:NP} {st stR:St}
  (hel:∀ ji body s p' st',s.sj<s.nj→el ji body s=some (p',st')→Elm P g ja ji z dec rep body p' s st')
  (hsame:∀ ok w w' x cs,rep ok w x cs→Same ok w w'→rep ok w' x cs) (hcells:∀ ok w x cs cs',cs'.take z.length=cs.take z.length→rep ok w x cs→rep ok w x cs')
  (h:loopS el jl p st=some (k,stR)):(∃ E,stR={ st with env:=E }) ∧
  ∀ {ok:Nat→Prop} {R S base:Nat} {cs:List Value} {nn:Bool} {r0:Bs} {ρ η:Nat→Value} {w:World} {err:Value} {Q:Post} {A cap n:Nat} {acs0:List Value},Pre g st ok R S base cs nn (some r0) ρ η w err →
   A≠R→A≠S→A≠g→¬ ok A→Row w A acs0→acs0.length=cap*z.length→(∀ j,j<n→(acs0.drop (j*z.length)).take z.length=z)→n≤cap→ρ ja = .slice (some ⟨A,0,none⟩) n cap→ja<st.nj→ρ jl = .int .i32 (n:Int)→n<2147483648 →
   (rdN dec n r0=none→∀ η' w',Keep [R,A] w w'→Q (.ret [err]) η' w') →
   (∀ η' w' acs,EnvOk stR.env st.nj ρ η'→Keep [R,A] w w'→Row w' A acs→acs.length=cap*z.length→LEnd dec rep ok R n z.length r0 acs w'→k.wp P Q η' w')→p.wp P Q η w:=by
 unfold loopS at h
 split at h
 case h_2=>cases h
 rename_i i y n1 n2 body k'
 split at h
 case isFalse=>cases h
 rename_i hc
 obtain ⟨rfl,hin1,hz0,hy⟩:=hc
 split at h
 case h_2=>cases h
 rename_i p' st' hels
 split at h
 case isFalse=>cases h
 rename_i htail
 cases h
 refine ⟨⟨_,rfl⟩,?_⟩
 intro ok R S base cs nn r0 ρ η w err Q A cap n acs0 hpre hAR hAS hAg hAok hrow hal0 hz7 hncap hja hjal hjl hn31 hbad hk
 have hsjL:(loopSt (n1::asg body) i st).sj<(loopSt (n1::asg body) i st).nj:=Nat.lt_succ_of_lt hpre.nj.2
 obtain ⟨e1,e2,e3⟩:=hel st.nj body _ p' st' hsjL hels
 have hE0:EnvOk (clr (n1::asg body) st.env) st.nj ρ η:=hpre.env.clr fun _ _=>rfl
 have key:∀ m i' (η1:Nat→Value) (w1:World) (acs:List Value) (t:Option Bs) (nn1:Bool),n - i'=m→i'≤n→EnvOk (clr (n1::asg body) st.env) st.nj ρ η1→η1 i = .int .i32 (i':Int)→Keep [R,A] w w1→Row w1 A acs→acs.length=cap*z.length →
   Rd ok w1 R nn1 t→Sofar dec rep ok n z.length r0 acs w1 i' t→(∀ j,i'≤j→j<n→(acs.drop (j*z.length)).take z.length=z) →
   roundsP ((NP.op (.bin .lss) [.s i,y] n1 (.ite (.s n1) .nil .exit body)).wp P) (fun o η w=>match o with | .ext=>k.wp P Q η w | o=>Q o η w) (m+1) η1 w1:=by
  intro m
  induction m with
  | zero=>
   intro i' η1 w1 acs t nn1 hm hle hE hi hkw hr hal hrd hsf hz
   have hin:i'=n:=by omega
   subst hin
   obtain ⟨_,hyv⟩:=isO_val hE hy
   rw [addOff_zero,hjl] at hyv
   refine np_op (vs:=[.int .i32 (i':Int),.int .i32 (i':Int)]) (by simp only [List.map,hyv];rw [show SV.val η1 (.s i)=η1 i from rfl,hi]) ⟨.i32,i',i',.bool false,rfl,by simp [binV],?_⟩
   refine np_ite false (by simp [SV.val,upd]) ?_
   simp only [Bool.false_eq_true,if_false]
   show k.wp P Q _ _
   refine hk _ _ acs (hE.off fun q hq=>by simp only [List.mem_cons,not_or] at hq;simp [upd,hq.1]) hkw hr hal ?_
   unfold LEnd
   cases t with
   | none=>unfold Sofar at hsf;rw [hsf];exact ⟨_,hrd⟩
   | some r=>
    obtain ⟨acc,ha1,ha2,ha3⟩:=hsf
    rw [Nat.sub_self] at ha2
    simp only [rdN,Option.map_some,List.append_nil] at ha2
    rw [ha2]
    exact ⟨⟨_,hrd⟩,ha1,ha3⟩
  | succ m ih=>
   intro i' η1 w1 acs t nn1 hm hle hE hi hkw hr hal hrd hsf hz
   have hin:i'<n:=by omega
   show NP.wp P _ _ η1 w1
   refine NP.wp_mono _ _ _ _ _ ?_ (wp_frame _ (fun o η' w'=>(∀ q,q∉n1::asg body→η' q=η1 q)→(match o with
    | .nrm=>roundsP ((NP.op (.bin .lss) [.s i,y] n1 (.ite (.s n1) .nil .exit body)).wp P) (fun o η w=>match o with | .ext=>k.wp P Q η w | o=>Q o η w) (m+1) η' w'
    | .ext=>k.wp P Q η' w'
    | .ret vs=>Q (.ret vs) η' w')) _ _ ?_)
   ·rintro o η' w' ⟨ho,hf⟩
    have:=ho hf
    cases o<;>exact this
   obtain ⟨_,hyv⟩:=isO_val hE hy
   rw [addOff_zero,hjl] at hyv
   refine np_op (vs:=[.int .i32 (i':Int),.int .i32 (n:Int)]) (by simp only [List.map,hyv];rw [show SV.val η1 (.s i)=η1 i from rfl,hi]) ⟨.i32,i',n,.bool true,rfl,by simp [binV,hin],?_⟩
   refine np_ite true (by simp [SV.val,upd]) ?_
   simp only [if_true]
   show body.wp P _ _ _
   have hE1:EnvOk (clr (n1::asg body) st.env) st.nj ρ (upd η1 n1 (.bool true)):=hE.off fun q hq=>by simp only [List.mem_cons,not_or] at hq;simp [upd,hq.1]
   have hρ:∀ j,j<st.nj→upd ρ st.nj (.int .i32 (i':Int)) j=ρ j:=fun j hj=>by simp [upd,Nat.ne_of_lt hj]
   have hE2:EnvOk (loopSt (n1::asg body) i st).env (loopSt (n1::asg body) i st).nj (upd ρ st.nj (.int .i32 (i':Int))) (upd η1 n1 (.bool true)):=by
    refine (hE1.more (Nat.le_succ _) hρ).know (Nat.lt_succ_self _) ?_
    simp [upd,AV.val,addOff_zero,hin1,hi]
   have hSR':S∉[R,A]:=by simp only [List.mem_cons,List.not_mem_nil,or_false,not_or];exact ⟨hpre.SR,fun e=>hAS e.symm⟩
   have hpreL:Pre g (loopSt (n1::asg body) i st) ok R S base cs nn1 t (upd ρ st.nj (.int .i32 (i':Int))) (upd η1 n1 (.bool true)) w1 err:=by
    refine ⟨hE2,hpre.cur.move (st:=st) rfl rfl hpre.nj.2 hρ (hpre.cur.row.keep hkw hSR'),hpre.he.keep hkw,hpre.nS,hpre.SR,hrd,by rw [hρ 0 hpre.nj.1];exact hpre.r0,cell_keep hpre.err hkw (by simp only [List.mem_cons,List.not_mem_nil,or_false,not_or];exact ⟨hpre.gR,fun e=>hAg e.symm⟩),hpre.gR,hpre.gS,Nat.lt_succ_of_lt hpre.nj.1,Nat.lt_succ_of_lt hpre.nj.2⟩
   have hlen:(i'+1)*z.length≤acs.length:=by rw [hal];exact Nat.mul_le_mul_right _ (by omega)
   have hsub:n - i'=(n - (i'+1))+1:=by omega
   refine e3 ok R S base cs nn1 t _ _ w1 err _ A n cap i' acs hpreL hAR hAS hAg hAok hr hin (by rw [hρ ja hjal];exact hja) (Nat.lt_succ_of_lt hjal) (by simp [upd]) (Nat.lt_succ_self _) hlen (hz i' (Nat.le_refl _) hin) ?_ ?_
   ·intro hb η' w' kw hfr
    refine hbad ?_ η' w' (hkw.then kw)
    cases t with
    | none=>exact hsf
    | some r=>
     obtain ⟨acc,_,ha2,_⟩:=hsf
     rw [ha2,hsub]
     simp only [Option.bind_some] at hb
     simp [rdN,hb]
   ·intro ρ' η' w' acs' S' base' cs' he' hρ' hcur' kw hr' hal' hout hend
    have hi31:i'+1<2147483648:=by omega
    refine tailS_ok htail he' hcur' e2 (m:=i') ?_ hi31 fun η2 hη2 => ?_
    ·rw [hρ' st.nj (Nat.lt_succ_self _)];simp [upd]
    intro hfr
    have hokA:∀ x∈[R,A],¬ ok x:=fun x hx=>by
     simp only [List.mem_cons,List.not_mem_nil,or_false] at hx
     rcases hx with rfl | rfl
     ·exact hpre.he.notR
     ·exact hAok
    have hsm:Same ok w1 w':=kw.same hokA
    have hz':∀ j,i'+1≤j→j<n→(acs'.drop (j*z.length)).take z.length=z:=by
     intro j hj1 hj2
     refine Eq.trans ?_ (hz j (by omega) hj2)
     apply List.ext_getElem?
     intro q
     simp only [List.getElem?_take,List.getElem?_drop]
     split
     ·have:=Nat.mul_le_mul_right z.length hj1
      exact hout _ (.inr (by omega))
     ·rfl
    have hrepl:∀ (acc:List α),acc.length=i'→(∀ j (h:j<acc.length),rep ok w1 acc[j] (acs.drop (j*z.length)))→∀ j (h:j<acc.length),rep ok w' acc[j] (acs'.drop (j*z.length)):=by
     intro acc hl ha j hj
     refine hcells ok w' _ _ _ ?_ (hsame ok w1 w' _ _ (ha j hj) hsm)
     apply List.ext_getElem?
     intro q
     simp only [List.getElem?_take,List.getElem?_drop]
     split
     ·have:=Nat.mul_le_mul_right z.length (show j+1≤i' by omega)
      rw [Nat.add_mul,Nat.one_mul] at this
      exact hout _ (.inl (by omega))
     ·rfl
    have hE':EnvOk (clr (n1::asg body) st.env) st.nj ρ η2:=hE.off hfr
    have hkw':Keep [R,A] w w':=hkw.then kw
    unfold FEnd at hend
    cases t with
    | none=>
     simp only [Option.bind_none] at hend
     exact ih (i'+1) η2 w' acs' none false (by omega) (by omega) hE' hη2 hkw' hr' (by rw [hal',hal]) hend hsf hz'
    | some r=>
     obtain ⟨acc,ha1,ha2,ha3⟩:=hsf
     simp only [Option.bind_some] at hend
     cases hd:dec r with
     | none=>
      rw [hd] at hend
      refine ih (i'+1) η2 w' acs' none false (by omega) (by omega) hE' hη2 hkw' hr' (by rw [hal',hal]) hend ?_ hz'
      show rdN dec n r0=none
      rw [ha2,hsub]
      simp [rdN,hd]
     | some yv=>
      obtain ⟨x,rest⟩:=yv
      rw [hd] at hend
      obtain ⟨⟨nn2,hrd2⟩,hrx⟩:=hend
      refine ih (i'+1) η2 w' acs' (some rest) nn2 (by omega) (by omega) hE' hη2 hkw' hr' (by rw [hal',hal]) hrd2 ⟨acc++[x],by simp [ha1],?_,?_⟩ hz'
      ·rw [ha2,hsub]
       simp only [rdN,hd,Option.bind_some,Option.map_map]
       congr 1
       funext yy
       simp
      ·intro j hj
       simp only [List.length_append,List.length_singleton] at hj
       by_cases hj2:j<acc.length
       ·rw [List.getElem_append_left hj2];exact hrepl acc ha1 ha3 j hj2
       ·have hji:j=acc.length:=by omega
        subst hji
        simp only [List.getElem_concat_length]
        rw [ha1];exact hrx
 refine ⟨n+1,?_⟩
 have hi0:=isZ_val hpre.env hz0
 exact key n 0 η w acs0 (some r0) nn (by omega) (Nat.zero_le _) hE0 hi0 (Keep.refl _ _) hrow hal0 hpre.rd ⟨[],rfl,by simp [Option.map_id'],by simp⟩ (fun j _ hj=>hz7 j hj)
theorem loop_ok {el:Nat→NP→St→Option (NP×St)} {jl ja:Nat} {z:List Value} {α:Type} {dec:Bs→Option (α×Bs)} {rep:(Nat→Prop)→World→α→List Value→Prop} {p k:NP} {st stR:St}
  (hel:∀ ji body s p' st',s.sj<s.nj→el ji body s=some (p',st')→Elm P g ja ji z dec rep body p' s st')
  (hsame:∀ ok w w' x cs,rep ok w x cs→Same ok w w'→rep ok w' x cs) (hcells:∀ ok w x cs cs',cs'.take z.length=cs.take z.length→rep ok w x cs→rep ok w x cs')
  (h:loopS el jl p st=some (k,stR)):(∃ E,stR={ st with env:=E }) ∧
  ∀ {ok:Nat→Prop} {R S base:Nat} {cs:List Value} {nn:Bool} {r0:Bs} {ρ η:Nat→Value} {w:World} {err:Value} {Q:Post} {A cap n:Nat},Pre g st ok R S base cs nn (some r0) ρ η w err →
   A≠R→A≠S→A≠g→¬ ok A→Row w A (List.replicate cap z).flatten→n≤cap→ρ ja = .slice (some ⟨A,0,none⟩) n cap→ja<st.nj→ρ jl = .int .i32 (n:Int)→n<2147483648 →
   (rdN dec n r0=none→∀ η' w',Keep [R,A] w w'→Q (.ret [err]) η' w') →
   (∀ η' w' acs,EnvOk stR.env st.nj ρ η'→Keep [R,A] w w'→Row w' A acs→acs.length=cap*z.length→LEnd dec rep ok R n z.length r0 acs w'→k.wp P Q η' w')→p.wp P Q η w:=by
 obtain ⟨hE,o⟩:=loop_okG hel hsame hcells h
 refine ⟨hE,?_⟩
 intro ok R S base cs nn r0 ρ η w err Q A cap n hpre hAR hAS hAg hAok hrow hncap hja hjal hjl hn31 hbad hk
 refine o hpre hAR hAS hAg hAok hrow (by simp) (fun j hj=>rep_at cap j (by omega)) hncap hja hjal hjl hn31 hbad hk
theorem loop_nil {el:Nat→NP→St→Option (NP×St)} {jl:Nat} {p k:NP} {st stR:St} (h:loopS el jl p st=some (k,stR)) :
  ∀ {ρ η:Nat→Value} {w:World} {Q:Post} {x:Int},EnvOk st.env st.nj ρ η→ρ jl = .int .i32 x→x≤0→(∀ η',EnvOk stR.env st.nj ρ η'→k.wp P Q η' w)→p.wp P Q η w:=by
 unfold loopS at h
 split at h
 case h_2=>cases h
 rename_i i y n1 n2 body k'
 split at h
 case isFalse=>cases h
 rename_i hc
 obtain ⟨rfl,hin1,hz0,hy⟩:=hc
 split at h
 case h_2=>cases h
 split at h
 case isFalse=>cases h
 cases h
 intro ρ η w Q x he hjl hx hk
 have hE0:EnvOk (clr (n1::asg body) st.env) st.nj ρ η:=he.clr fun _ _=>rfl
 obtain ⟨_,hyv⟩:=isO_val hE0 hy
 rw [addOff_zero,hjl] at hyv
 have hi0:=isZ_val he hz0
 refine ⟨1,?_⟩
 show NP.wp P _ _ η w
 refine np_op (vs:=[.int .i32 0,.int .i32 x]) (by simp only [List.map,hyv,hi0]) ⟨.i32,0,x,.bool false,rfl,by simp [binV];omega,?_⟩
 refine np_ite false (by simp [SV.val,upd]) ?_
 simp only [Bool.false_eq_true,if_false]
 show k.wp P Q _ _
 exact hk _ (hE0.off fun q hq=>by simp only [List.mem_cons,not_or] at hq;simp [upd,hq.1])
end
end Go.Mr
namespace Go.Mr
open Go.Lx Go.Nx Go.Km Go.Mx Go.Kb
open Go.CX (T deep)
set_option linter.unusedSimpArgs false
set_option linter.unusedVariables false
def storeAt (j off:Nat) (q:NP) (st:St):Option (NP×St):=
 let r:=runS KF q st
 (storeT 1 j r.2.sj off r.1 r.2).bind fun r5=>
 if off+1≤r5.2.cells.length then some (r5.1,{ r5.2 with cells:=markC r5.2.cells off 1 }) else none
def arrAt (T:Tab) (el:Nat→List Value→Nat→NP→St→Option (NP×St)) (c:Bool) (sz we off:Nat) (q:NP) (st:St):Option (NP×St):=
 let r1:=runS KF q st
 (rdCnt T c r1.1 r1.2).bind fun r2=>
 let r3:=runS KF r2.1 r2.2.1
 (okStep T r3.1 r3.2).bind fun r4=>
 let r5:=runS KF r4.1 r4.2
 (growS r2.2.2 r5.1 r5.2).bind fun r6=>
 if r6.2.2.2.length=sz∧we≤sz then
  let r7:=runS KF r6.1 r6.2.1
  (loopS (el r6.2.2.1 r6.2.2.2) r2.2.2 r7.1 r7.2).bind fun r8=>storeAt r6.2.2.1 off r8.1 r8.2
 else none
section
variable {P:Program} {g:Nat}
theorem storeAt_ok {j off:Nat} {q q':NP} {st st':St} (h:storeAt j off q st=some (q',st')):Stt st st'∧st'.nj=st.nj ∧
  ∀ {ok:Nat→Prop} {R S base:Nat} {cs:List Value} {nn:Bool} {sb:Option Bs} {ρ η:Nat→Value} {w:World} {err:Value} {Q:Post},Pre g st ok R S base cs nn sb ρ η w err→Fit 1 (ρ j)→(ρ j).cells.toList=[ρ j] →
   (∀ η' w',EnvOk st'.env st'.nj ρ η'→Keep [S] w w'→Cur st' ρ w' S base (put cs (base+off) [ρ j])→base+off+1≤cs.length→off+1≤st.cells.length→q'.wp P Q η' w')→q.wp P Q η w:=by
 unfold storeAt at h
 simp only [Option.bind_eq_some_iff] at h
 obtain ⟨⟨q5,st5⟩,h5,h6⟩:=h
 dsimp only at h5 h6
 split at h6
 case isFalse=>cases h6
 rename_i hoff
 cases h6
 have R1:=run_stt P (f:=KF) (p:=q) (st:=st)
 obtain ⟨s1,s2,s3,s4⟩:=store_ok (P:=P) h5
 have hnj:st5.nj=st.nj:=by rw [s1,R1.2.1]
 have hsj:st5.sj=st.sj:=by rw [s2];exact R1.1.sj
 have hcl:st5.cells=st.cells:=by rw [s3];exact R1.2.2
 refine ⟨⟨by show st.nj≤st5.nj;omega,hsj,by show (markC st5.cells _ _).length=_;rw [markC_length _ _ _ hoff,hcl]⟩,hnj,?_⟩
 intro ok R S base cs nn sb ρ η w err Q hpre hf hc1 hk
 refine run_pre (f:=KF) hpre fun η1 hp1 => ?_
 have hlen:=hp1.cur.len
 rw [R1.2.2] at hlen
 rw [hcl] at hoff
 refine s4 hp1.env hp1.cur.ptr hp1.cur.row (by omega) hf fun η5 w5 he5 r5 k5 => ?_
 rw [hc1] at r5
 have hcur:Cur ⟨st5.env,st5.nj,st.sj,markC st.cells off [ρ j].length⟩ ρ w5 S base (put cs (base+off) [ρ j]):=hpre.cur.put (by simpa using hoff) r5
 refine hk η5 w5 (by show EnvOk st5.env st5.nj _ _;rw [s1];exact he5) k5 ?_ (by omega) hoff
 rw [hsj,hcl];exact hcur
theorem rdCount_lt {c:Bool} {bs:Bs} {x:Int} {r:Bs} (h:rdCount c bs=some (x,r)):x<2147483648:=by
 unfold rdCount at h
 simp only [Option.bind_eq_some_iff] at h
 obtain ⟨⟨y,r1⟩,h1,h2⟩:=h
 split at h2
 ·cases h2
 cases h2
 split at h1
 ·simp only [Option.map_eq_some_iff] at h1
  obtain ⟨⟨m,r2⟩,h3,h4⟩:=h1
  cases h4
  have:=rdUv_some h3
  split
  ·omega
  ·have e:m<4294967296:=this.1
   simp only [sgn]
   split
   ·rename_i hs
    have hs':m<2147483648:=hs
    omega
   ·have h5:((2:Int)^32)=4294967296:=by decide
    rw [h5]
    omega
 ·have h5:x<2147483648:=(rdI_some (k:=4) (by omega) h1).1.2
  exact h5
theorem arrAt_ok {T:Tab} (hT:TabOk P T g) {el:Nat→List Value→Nat→NP→St→Option (NP×St)} {c:Bool} {sz off:Nat} {e:Sh} {q q':NP} {st st':St}
  (hel:∀ ja z ji body s p' st',z.length=sz→s.sj<s.nj→el ja z ji body s=some (p',st')→Elm P g ja ji z (rd e) (fun ok w x cs=>RepS ok w e x cs) body p' s st')
  (h:arrAt T el c sz (wS e) off q st=some (q',st')):Fld P g off (rd (.arr c sz e)) (fun ok w x cs=>RepS ok w (.arr c sz e) x (cs.drop off)) q q' st st':=by
 unfold arrAt at h
 simp only [Option.bind_eq_some_iff] at h
 obtain ⟨⟨q2,st2,jl⟩,h2,⟨q4,st4⟩,h4,⟨q6,st6,ja,z⟩,h6,h⟩:=h
 dsimp only at h4 h6 h
 split at h
 case isFalse=>cases h
 rename_i hzs
 obtain ⟨rfl,hwe⟩:=hzs
 simp only [Option.bind_eq_some_iff] at h
 obtain ⟨⟨q8,st8⟩,h8,h9⟩:=h
 obtain ⟨f,x,n,e1,hx,hf,e2,e3⟩:=rdCnt_some h2
 obtain ⟨⟨E4,e4⟩,o4⟩:=okStep_ok hT h4
 obtain ⟨⟨E6,e6⟩,eja,o6⟩:=growS_ok (P:=P) h6
 have R1:=run_stt P (f:=KF) (p:=q) (st:=st)
 have R3:=run_stt P (f:=KF) (p:=q2) (st:=st2)
 have R5:=run_stt P (f:=KF) (p:=q4) (st:=st4)
 have R7:=run_stt P (f:=KF) (p:=q6) (st:=st6)
 obtain ⟨t9,n9,o9⟩:=storeAt_ok (P:=P) (g:=g) (st:=st8) (q:=q8) h9
 obtain ⟨⟨E8,e8⟩,o8⟩:=loop_ok (P:=P) (g:=g) (ja:=ja) (z:=z) (dec:=rd e) (rep:=fun ok w x cs=>RepS ok w e x cs) (fun ji body s p' st' hs hh=>hel ja z ji body s p' st' rfl hs hh)
  (fun ok w w' x cs hr hs=>RepS.same hs e x cs hr) (fun ok w x cs cs' ht hr=>RepS.cells e x cs cs' (take_mono ht hwe) hr) h8
 have o8n := @loop_nil P _ _ _ _ _ _ h8
 have hn2:st2.nj=st.nj+1:=by rw [e2];show (runS KF q st).2.nj+1=_;rw [R1.2.1]
 have hn4:st4.nj=st.nj+1:=by rw [e4];show (runS KF q2 st2).2.nj=_;rw [R3.2.1,hn2]
 have hn5:(runS KF q4 st4).2.nj=st.nj+1:=by rw [R5.2.1,hn4]
 have hn6:st6.nj=st.nj+2:=by rw [e6];show (runS KF q4 st4).2.nj+1=_;rw [hn5]
 have hn7:(runS KF q6 st6).2.nj=st.nj+2:=by rw [R7.2.1,hn6]
 have hn8:st8.nj=st.nj+2:=by rw [e8];exact hn7
 have hs2:st2.sj=st.sj:=by rw [e2];exact R1.1.sj
 have hs4:st4.sj=st.sj:=by rw [e4];show (runS KF q2 st2).2.sj=_;rw [R3.1.sj,hs2]
 have hs6:st6.sj=st.sj:=by rw [e6];show (runS KF q4 st4).2.sj=_;rw [R5.1.sj,hs4]
 have hs8:st8.sj=st.sj:=by rw [e8];show (runS KF q6 st6).2.sj=_;rw [R7.1.sj,hs6]
 have hc2:st2.cells=st.cells:=by rw [e2];exact R1.2.2
 have hc4:st4.cells=st.cells:=by rw [e4];show (runS KF q2 st2).2.cells=_;rw [R3.2.2,hc2]
 have hc6:st6.cells=st.cells:=by rw [e6];show (runS KF q4 st4).2.cells=_;rw [R5.2.2,hc4]
 have hc8:st8.cells=st.cells:=by rw [e8];show (runS KF q6 st6).2.cells=_;rw [R7.2.2,hc6]
 have hjl:jl=st.nj:=by rw [e3,R1.2.1]
 have hja:ja=st.nj+1:=by rw [eja,hn5]
 refine ⟨⟨by have:=t9.nj;omega,by rw [t9.sj];exact hs8,by rw [t9.len,hc8]⟩,?_⟩
 intro ok R S base cs nn sb ρ η w err Q hpre hbad hk
 refine run_pre (f:=KF) hpre fun η1 hp1 => ?_
 obtain ⟨_,hxv⟩:=isO_val hp1.env hx
 rw [hp1.r0,addOff_ptr] at hxv
 rw [e1]
 refine np_op (vs:=[ptr R]) (by simp [hxv]) (hT.cnt f c hf ok w R nn sb _ hp1.he hp1.rd fun v w2 k2 hend => ?_)
 unfold CountEnd at hend
 have hlink:sb.bind (rd (.arr c z.length e))=(sb.bind (rdCount c)).bind fun x=>(rdN (rd e) x.1.toNat x.2).map fun y=>(.l y.1,y.2):=by
  cases sb<;>rfl
 cases hcnt:sb.bind (rdCount c) with
 | none=>
  rw [hcnt] at hend hlink
  simp only [Option.bind_none] at hlink
  obtain ⟨hrd2,_⟩:=hend
  have hp2:=hp1.new n v k2 hrd2
  rw [← e2] at hp2
  refine run_pre (f:=KF) hp2 fun η3 hp3 => ?_
  refine o4 hp3 (fun _ η'=>hbad hlink η' w2 (k2.mono fun x hx _=>by simp at hx ⊢;exact .inl hx)) fun η4 hs _ => ?_
  cases hs
 | some xr=>
  obtain ⟨x,r⟩:=xr
  rw [hcnt] at hend hlink
  simp only [Option.bind_some] at hlink
  obtain ⟨hrd2,rfl⟩:=hend
  have hx31:x<2147483648:=by
   cases sb with
   | none=>cases hcnt
   | some bs=>exact rdCount_lt hcnt
  have hp2:=hp1.new n (.int .i32 x) k2 hrd2
  rw [← e2] at hp2
  refine run_pre (f:=KF) hp2 fun η3 hp3 => ?_
  refine o4 hp3 (fun hh=>by cases hh) fun η4 _ hp4 => ?_
  refine run_pre (f:=KF) hp4 fun η5 hp5 => ?_
  have hn1:(runS KF q st).2.nj=st.nj:=R1.2.1
  generalize hρ2:upd ρ (runS KF q st).2.nj (.int .i32 x)=ρ2 at hp2 hp3 hp4 hp5
  have hρ2j:∀ j,j<st.nj→ρ2 j=ρ j:=fun j hj=>by rw [← hρ2];simp [upd,hn1,Nat.ne_of_lt hj]
  have hρ2l:ρ2 jl = .int .i32 x:=by rw [← hρ2,hjl,hn1];simp [upd]
  refine o6 hp5.env hρ2l hx31 fun u η6 w6 hgr he6 => ?_
  have hρ3:∀ j,j<st.nj+1→upd ρ2 (runS KF q4 st4).2.nj u j=ρ2 j:=fun j hj=>by rw [hn5];simp [upd,Nat.ne_of_lt hj]
  have hρ3a:upd ρ2 (runS KF q4 st4).2.nj u ja=u:=by rw [eja];simp [upd]
  have hk6:Keep [] w2 w6:=by
   rcases hgr with ⟨_,_,rfl⟩ | ⟨A,cap,_,_,_,_,_,k⟩
   ·exact Keep.refl _ _
   ·exact k
  have kRS:Keep [R,S] w w6:=(k2.mono (A':=[R,S]) (fun x hx _=>by simp at hx ⊢;exact .inl hx)).then (hk6.mono fun x hx _=>by cases hx)
  have hp6:∀ ok':Nat→Prop,(∀ k,ok' k→ok k)→(∀ k,k<w2.heap.size→ok k→ok' k)→(∀ k,w6.heap.size≤k→ok' k)→Pre g st6 ok' R S base cs true (some r) (upd ρ2 (runS KF q4 st4).2.nj u) η6 w6 err:=by
   intro ok' h1 h2' h3
   refine ⟨by rw [hn6,show st.nj+2=(runS KF q4 st4).2.nj+1 by omega];exact he6,?_,⟨h3,fun hh=>hp5.he.notR (h1 _ hh)⟩,fun hh=>hp5.nS (h1 _ hh),hp5.SR,(hrd2.weak h2').keep hk6 (by simp) (by simp),?_,cell_keep hp5.err hk6 (by simp),hp5.gR,hp5.gS,by have:=hpre.nj;rw [hn6,hs6];omega⟩
   ·exact hp5.cur.move (hs6.trans (R5.1.sj.trans hs4).symm) (hc6.trans (R5.2.2.trans hc4).symm) hp5.nj.2 (fun j hj=>by simp [upd,Nat.ne_of_lt hj]) (hp5.cur.row.keep hk6 (by simp))
   ·rw [hρ3 0 (by omega)];exact hp5.r0
  have fin:∀ (ok':Nat→Prop) (nn':Bool) (t:Option Bs) (η8:Nat→Value) (w8:World),(∀ k,ok' k→ok k)→Pre g st8 ok' R S base cs nn' t (upd ρ2 (runS KF q4 st4).2.nj u) η8 w8 err→Keep [R,S] w w8→Fit 1 u→u.cells.toList=[u] →
    (match sb.bind (rd (.arr c z.length e)) with
     | some (.l vs,rest)=>t=some rest∧∀ w9,Keep [S] w8 w9→Lst ok w9 z.length vs.length (fun i ds=>∀ h:i<vs.length,RepS ok w9 e vs[i] ds) u
     | some _=>False
     | none=>t=none)→q8.wp P Q η8 w8:=by
   intro ok' nn' t η8 w8 hsub hp8 hkk hfu hcu hres
   have huja:upd ρ2 (runS KF q4 st4).2.nj u ja=u:=hρ3a
   refine o9 hp8 (by rw [huja];exact hfu) (by rw [huja];exact hcu) fun η9 w9 he9 k9 hcur9 hbl hoffc => ?_
   rw [huja] at hcur9
   have hS2:∀ x∈[S],¬ ok x:=fun x hx=>by rw [List.mem_singleton.1 hx];exact hpre.nS
   have hS3:∀ x∈[S],¬ ok' x:=fun x hx hh=>hS2 x hx (hsub x hh)
   have hR2:R∉[S]:=by rw [List.mem_singleton];exact fun e=>hpre.SR e.symm
   have hbl':base+off+[u].length≤cs.length:=hbl
   rw [hc8] at hoffc
   refine hk _ η9 w9 _ ⟨he9,fun j hj => ?_,hkk.then (k9.mono fun x hx _=>by simp at hx ⊢;exact .inr hx),hcur9,put_length _ _ _ hbl',fun j hj=>put_out _ _ _ hbl' _ (.inl hj),fun j hj=>put_out _ _ _ hbl' _ (.inr (by simp;omega))⟩ ?_
   ·rw [hρ3 j (by omega),hρ2j j hj]
   ·have hrd9:=(hp8.rd.keep k9 hR2 hS3).weak (ok':=ok) fun b _ hb=>hsub b hb
    unfold FEnd
    split at hres
    ·rename_i vs rest hd
     rw [hd]
     obtain ⟨rfl,hl⟩:=hres
     refine ⟨⟨_,hrd9⟩,?_⟩
     simp only [RepS]
     refine ⟨u,?_,hl w9 k9⟩
     rw [List.drop_drop,List.getElem?_drop]
     have:=put_in cs (base+off) [u] hbl' 0 (by simp)
     simpa using this
    ·exact hres.elim
    ·rename_i hd
     rw [hd]
     subst hres
     have:Rd ok w9 R nn' none:=hrd9
     exact this
  rcases hgr with ⟨hx0,rfl,rfl⟩ | ⟨A,cap,hxp,hA,rfl,hcap,hrowA,hk6'⟩
  ·
   have hp:=hp6 ok (fun _ h=>h) (fun _ _ h=>h) (fun k hk=>hp5.he.new k hk)
   refine run_pre (f:=KF) hp fun η7 hp7 => ?_
   refine o8n hp7.env (by rw [hρ3 jl (by omega)];exact hρ2l) hx0 fun η8 he8 => ?_
   have hp8:Pre g st8 ok R S base cs true (some r) (upd ρ2 (runS KF q4 st4).2.nj (.slice none 0 0)) η8 w6 err:=by rw [e8] at he8 ⊢;exact hp7.env' he8
   refine fin ok true (some r) η8 w6 (fun _ h=>h) hp8 kRS (Fit.one rfl rfl) rfl ?_
   rw [hlink]
   have hx0':x.toNat=0:=by omega
   simp only [hx0',rdN,Option.map_some]
   exact ⟨trivial,fun w9 _ => .inl ⟨rfl,none,0,rfl⟩⟩
  ·have hwR:R<w2.heap.size:=rd_lt hrd2
   have hwS:S<w2.heap.size:=hp5.cur.row.lt
   have hwg:g<w2.heap.size:=cell_lt hp5.err
   have hAR:A≠R:=by omega
   have hAS:A≠S:=by omega
   have hAg:A≠g:=by omega
   have hp:=hp6 (fun k=>ok k∧k≠A) (fun _ h=>h.1) (fun k hk h=>⟨h,by omega⟩) (fun k hk=>⟨hp5.he.new k (Nat.le_trans hk6.size hk),by have:=hrowA.lt;omega⟩)
   refine run_pre (f:=KF) hp fun η7 hp7 => ?_
   have hnat:((x.toNat:Nat):Int)=x:=by omega
   have hokA:ok A:=hp5.he.new A hA
   refine o8 hp7 hAR hAS hAg (fun h=>h.2 rfl) hrowA hcap hρ3a (by omega) (by rw [hρ3 jl (by omega),hρ2l,hnat]) (by omega) ?_ ?_
   ·intro hb η' w' kw
    refine hbad ?_ η' w' (kRS.trans kw fun x hx hlt => ?_)
    ·rw [hlink];simp [hb]
    ·simp only [List.mem_cons,List.not_mem_nil,or_false] at hx ⊢
     rcases hx with rfl | rfl
     ·exact .inl rfl
     ·exact absurd hlt (by have:=k2.size;omega)
   ·intro η8 w8 acs he8 kw hr8 hl8 hlend
    have kk8:Keep [R,S] w w8:=kRS.trans kw fun x hx hlt=>by
     simp only [List.mem_cons,List.not_mem_nil,or_false] at hx ⊢
     rcases hx with rfl | rfl
     ·exact .inl rfl
     ·exact absurd hlt (by have:=k2.size;omega)
    have hSRA:S∉[R,A]:=by simp only [List.mem_cons,List.not_mem_nil,or_false,not_or];exact ⟨hpre.SR,fun e=>hAS e.symm⟩
    have hpre8:∀ nn' t,Rd (fun k=>ok k∧k≠A) w8 R nn' t→Pre g st8 (fun k=>ok k∧k≠A) R S base cs nn' t (upd ρ2 (runS KF q4 st4).2.nj (.slice (some ⟨A,0,none⟩) x.toNat cap)) η8 w8 err:=by
     intro nn' t hrd8
     have:=hp7.env' (E:=st8.env) he8
     refine ⟨by rw [hn8,← hn7];exact he8,?_,hp7.he.keep kw,hp7.nS,hp7.SR,hrd8,hp7.r0,cell_keep hp7.err kw (by simp only [List.mem_cons,List.not_mem_nil,or_false,not_or];exact ⟨hpre.gR,fun e=>hAg e.symm⟩),hp7.gR,hp7.gS,by have:=hpre.nj;rw [hn8,hs8];omega⟩
     exact hp7.cur.move (hs8.trans (R7.1.sj.trans hs6).symm) (hc8.trans (R7.2.2.trans hc6).symm) hp7.nj.2 (fun _ _=>rfl) (hp7.cur.row.keep kw hSRA)
    unfold LEnd at hlend
    cases hrn:rdN (rd e) x.toNat r with
    | none=>
     rw [hrn] at hlend
     obtain ⟨nn',hrd8⟩:=hlend
     refine fin _ nn' none η8 w8 (fun _ h=>h.1) (hpre8 nn' none hrd8) kk8 (Fit.one rfl rfl) rfl ?_
     rw [hlink,hrn]
     rfl
    | some y=>
     obtain ⟨vs,rest⟩:=y
     rw [hrn] at hlend
     obtain ⟨⟨nn',hrd8⟩,hvl,hreps⟩:=hlend
     refine fin _ nn' (some rest) η8 w8 (fun _ h=>h.1) (hpre8 nn' (some rest) hrd8) kk8 (Fit.one rfl rfl) rfl ?_
     rw [hlink,hrn]
     refine ⟨rfl,fun w9 k9 => ?_⟩
     have hS2:∀ x∈[S],¬ (ok x∧x≠A):=fun x hx hh=>by rw [List.mem_singleton.1 hx] at hh;exact hpre.nS hh.1
     refine .inr ⟨Nat.lt_of_lt_of_eq (show 0<x.toNat by omega) hvl.symm,A,cap,acs,by rw [hvl],Nat.le_trans (Nat.le_of_eq hvl) hcap,hokA,hr8.keep k9 (by simp;exact hAS),?_,fun i hi hlt => ?_⟩
     ·rw [hl8,hvl];exact Nat.mul_le_mul_right _ hcap
     ·exact RepS.weak (fun b _ hb=>hb.1) e _ _ (RepS.same (k9.same hS2) e _ _ (hreps i hlt))
end
end Go.Mr
namespace Go.Mr
open Go.Lx Go.Nx Go.Km Go.Mx Go.Kb
open Go.CX (T deep)
set_option linter.unusedSimpArgs false
set_option linter.unusedVariables false
def eqlS (jl:Nat):NP→St→Option (NP×St)
 | .op (.bin .eql) [x,.k (.int .i32 0)] n k,st=>if isO st.env x jl 0=true then some (k,st.new n) else none
 | _,_=>none
def nulS (jb:Nat):NP→St→Option (NP×St)
 | .ite c (.op (.bslG sz) [] m1 (.set t (.s m2) .nil)) (.set t2 a .nil) k,st=>
  if isO st.env c jb 0=true∧m1=m2∧t=t2∧nilA st.env a=true then some (k,({ st with env:=st.env.set deep m1 none }).new t) else none
 | _,_=>none
def slS (js:Nat):NP→St→Option (NP×St)
 | .op (.sl sz false true false) [y,.k (.int kk 0)] n k,st=>if isO st.env y js 0=true then some (k,st.new n) else none
 | _,_=>none
def growN (jl js:Nat):NP→St→Option (NP×St×List Value)
 | .op (.bin .gtr) [x,.k (.int .i32 0)] n1 (.ite (.s n2) (.op (.appZ z) [a,y] n3 (.set n4 (.s n5) .nil)) (.set n6 a' .nil) k),st=>
  if n1=n2∧n3=n5∧n4=n6∧isO st.env x jl 0=true∧isO (st.env.set deep n1 none) y jl 0=true∧isO (st.env.set deep n1 none) a js 0=true∧isO (st.env.set deep n1 none) a' js 0=true
  then some (k,({ st with env:=(st.env.set deep n1 none).set deep n3 none }).new n4,z) else none
 | _,_=>none
def narrAt (T:Tab) (el:Nat→List Value→Nat→NP→St→Option (NP×St)) (c:Bool) (sz we off:Nat) (q:NP) (st:St):Option (NP×St):=
 let r1:=runS KF q st
 (rdCnt T c r1.1 r1.2).bind fun r2=>
 let r3:=runS KF r2.1 r2.2.1
 (eqlS r2.2.2 r3.1 r3.2).bind fun r4=>
 let r5:=runS KF r4.1 r4.2
 (nulS r3.2.nj r5.1 r5.2).bind fun r6=>
 let r7:=runS KF r6.1 r6.2
 (okStep T r7.1 r7.2).bind fun r8=>
 let r9:=runS KF r8.1 r8.2
 (slS r5.2.nj r9.1 r9.2).bind fun r10=>
 let r11:=runS KF r10.1 r10.2
 (growN r2.2.2 r9.2.nj r11.1 r11.2).bind fun r12=>
 if r12.2.2.length=sz∧we≤sz then
  let r13:=runS KF r12.1 r12.2.1
  (loopS (el r11.2.nj r12.2.2) r2.2.2 r13.1 r13.2).bind fun r14=>storeAt r11.2.nj off r14.1 r14.2
 else none
section
variable {P:Program} {g:Nat}
theorem Pre.more {st:St} {ok:Nat→Prop} {R S base:Nat} {cs:List Value} {nn:Bool} {sb:Option Bs} {ρ η:Nat→Value} {w w':World} {err:Value} (h:Pre g st ok R S base cs nn sb ρ η w err) {E:T AV} {v:Value} {η':Nat→Value}
  (k:Keep [] w w') (he:EnvOk E (st.nj+1) (upd ρ st.nj v) η'):Pre g { st with env:=E,nj:=st.nj+1 } ok R S base cs nn sb (upd ρ st.nj v) η' w' err:=by
 have hρ:∀ j,j<st.nj→upd ρ st.nj v j=ρ j:=fun j hj=>by simp [upd,Nat.ne_of_lt hj]
 exact ⟨he,⟨by show upd ρ st.nj v st.sj=_;rw [hρ _ h.nj.2];exact h.cur.ptr,h.cur.row.keep k (by simp),h.cur.len,h.cur.known⟩,h.he.keep k,h.nS,h.SR,h.rd.keep k (by simp) (by simp),by rw [hρ 0 h.nj.1];exact h.r0,cell_keep h.err k (by simp),h.gR,h.gS,
  ⟨Nat.lt_succ_of_lt h.nj.1,Nat.lt_succ_of_lt h.nj.2⟩⟩
theorem eqlS_ok {jl:Nat} {q q':NP} {st st':St} (h:eqlS jl q st=some (q',st')):(∃ E,st'={ st with env:=E,nj:=st.nj+1 }) ∧
  ∀ {ok:Nat→Prop} {R S base:Nat} {cs:List Value} {nn:Bool} {sb:Option Bs} {ρ η:Nat→Value} {w:World} {err:Value} {n:Int} {Q:Post},Pre g st ok R S base cs nn sb ρ η w err→ρ jl = .int .i32 n →
   (∀ η',Pre g st' ok R S base cs nn sb (upd ρ st.nj (.bool (n == 0))) η' w err→q'.wp P Q η' w)→q.wp P Q η w:=by
 unfold eqlS at h
 split at h
 case h_2=>cases h
 rename_i x n1 k
 split at h
 case isFalse=>cases h
 rename_i hx
 cases h
 refine ⟨⟨_,rfl⟩,fun {ok R S base cs nn sb ρ η w err n Q} hp hl hk => ?_⟩
 obtain ⟨_,hxv⟩:=isO_val hp.env hx
 rw [addOff_zero,hl] at hxv
 refine np_op (vs:=[.int .i32 n,.int .i32 0]) (by simp only [List.map,hxv];rfl) ⟨.i32,n,0,.bool (n == 0),rfl,rfl,?_⟩
 exact hk _ (hp.more (Keep.refl _ _) (hp.env.fresh n1 _))
theorem nulS_ok {jb:Nat} {q q':NP} {st st':St} (h:nulS jb q st=some (q',st')):(∃ E,st'={ st with env:=E,nj:=st.nj+1 }) ∧
  ∀ {ok:Nat→Prop} {R S base:Nat} {cs:List Value} {nn:Bool} {sb:Option Bs} {ρ η:Nat→Value} {w:World} {err:Value} {b:Bool} {Q:Post},Pre g st ok R S base cs nn sb ρ η w err→ρ jb = .bool b →
   (∀ η' w' u,Keep [] w w'→(if b then ∃ E,u = .slice (some ⟨E,0,none⟩) 0 0 else u = .slice none 0 0)→Pre g st' ok R S base cs nn sb (upd ρ st.nj u) η' w' err→q'.wp P Q η' w')→q.wp P Q η w:=by
 unfold nulS at h
 split at h
 case h_2=>cases h
 rename_i c sz m1 t m2 t2 a k
 split at h
 case isFalse=>cases h
 rename_i hc
 obtain ⟨hb,rfl,rfl,ha⟩:=hc
 cases h
 refine ⟨⟨_,rfl⟩,fun {ok R S base cs nn sb ρ η w err b Q} hp hl hk => ?_⟩
 obtain ⟨_,hbv⟩:=isO_val hp.env hb
 rw [addOff_zero,hl] at hbv
 refine np_ite b hbv ?_
 cases b with
 | true=>
  simp only [if_true]
  refine np_op (vs:=[]) rfl ⟨fun v hv=>by simp at hv,fun e => ?_⟩
  have ka:=(alloc_row (w:=w) (([]:List Value).map (·.cells.toList)).flatten e).2
  refine hk _ _ (.slice (some ⟨w.heap.size,0,none⟩) 0 0) ka ⟨_,rfl⟩ (hp.more ka ?_)
  have:=(hp.env.clear (n:=m1) (v := .slice (some ⟨w.heap.size,0,none⟩) 0 0)).fresh t (.slice (some ⟨w.heap.size,0,none⟩) 0 0)
  simpa [St.new,SV.val,upd] using this
 | false=>
  simp only [Bool.false_eq_true,if_false]
  have hav:=nilA_val hp.env ha
  refine hk _ w (.slice none 0 0) (Keep.refl _ _) rfl (hp.more (Keep.refl _ _) ?_)
  have:=(hp.env.forget m1).fresh t (.slice none 0 0)
  simp only [hav]
  exact this
theorem slS_ok {js:Nat} {q q':NP} {st st':St} (h:slS js q st=some (q',st')):(∃ E,st'={ st with env:=E,nj:=st.nj+1 }) ∧
  ∀ {ok:Nat→Prop} {R S base:Nat} {cs:List Value} {nn:Bool} {sb:Option Bs} {ρ η:Nat→Value} {w:World} {err:Value} {a:Option Addr} {Q:Post},Pre g st ok R S base cs nn sb ρ η w err→ρ js = .slice a 0 0 →
   (∀ η',Pre g st' ok R S base cs nn sb (upd ρ st.nj (.slice a 0 0)) η' w err→q'.wp P Q η' w)→q.wp P Q η w:=by
 unfold slS at h
 split at h
 case h_2=>cases h
 rename_i sz y kk n k
 split at h
 case isFalse=>cases h
 rename_i hy
 cases h
 refine ⟨⟨_,rfl⟩,fun {ok R S base cs nn sb ρ η w err a Q} hp hl hk => ?_⟩
 obtain ⟨_,hyv⟩:=isO_val hp.env hy
 rw [addOff_zero,hl] at hyv
 refine np_op (vs:=[.slice a 0 0,.int kk 0]) (by simp only [List.map,hyv];rfl) ⟨a,0,0,[.int kk 0],rfl,?_⟩
 simp only [bnd,Bool.false_eq_true,if_false,if_true]
 refine ⟨kk,0,[],rfl,rfl,Nat.le_refl _,Nat.le_refl _,Nat.le_refl _,?_⟩
 simp only [if_true,Nat.sub_self]
 exact hk _ (hp.more (Keep.refl _ _) (hp.env.fresh n _))
def GrownN (w w':World) (z:List Value) (n:Int) (a:Option Addr) (u:Value):Prop:=
 (n≤0∧u = .slice a 0 0∧w'=w)∨∃ A cap,0<n∧w.heap.size≤A∧u = .slice (some ⟨A,0,none⟩) n.toNat cap∧n.toNat≤cap∧Row w' A (List.replicate cap z).flatten∧Keep [] w w'
theorem growN_ok {jl js:Nat} {q q':NP} {st st':St} {z:List Value} (h:growN jl js q st=some (q',st',z)):(∃ E,st'={ st with env:=E,nj:=st.nj+1 }) ∧
  ∀ {ρ η:Nat→Value} {w:World} {n:Int} {a:Option Addr} {Q:Post},EnvOk st.env st.nj ρ η→ρ jl = .int .i32 n→n<2147483648→ρ js = .slice a 0 0→(0<n→a=none) →
   (∀ u η' w',GrownN w w' z n a u→EnvOk st'.env (st.nj+1) (upd ρ st.nj u) η'→q'.wp P Q η' w')→q.wp P Q η w:=by
 unfold growN at h
 split at h
 case h_2=>cases h
 rename_i x n1 n2 z a y n3 n4 n5 n6 a' k
 split at h
 case isFalse=>cases h
 rename_i hc
 obtain ⟨rfl,rfl,rfl,hx,hy,ha,ha'⟩:=hc
 cases h
 refine ⟨⟨_,rfl⟩,fun {ρ η w n aa Q} he hl hn hjs haa hk => ?_⟩
 obtain ⟨_,hxv⟩:=isO_val he hx
 rw [addOff_zero,hl] at hxv
 refine np_op (vs:=[.int .i32 n,.int .i32 0]) (by simp only [List.map,hxv];rfl) ⟨.i32,n,0,.bool (decide (n > 0)),rfl,rfl,?_⟩
 have he1:=he.clear (n:=n1) (v := .bool (decide (n > 0)))
 refine np_ite (decide (n > 0)) (by simp [SV.val,upd]) ?_
 by_cases hpos:n > 0
 ·rw [if_pos (by simpa using hpos)]
  obtain ⟨_,hyv⟩:=isO_val he1 hy
  rw [addOff_zero,hl] at hyv
  obtain ⟨_,hav⟩:=isO_val he1 ha
  rw [addOff_zero,hjs,haa hpos] at hav
  have hnn:(n.toNat:Int)=n:=by omega
  refine np_op (vs:=[.slice none 0 0,.int .i32 n]) (by simp only [List.map,hyv,hav]) ⟨.i32,n.toNat,by omega,by omega,.inl ⟨by rw [hnn],fun cap e hcap => ?_⟩⟩
  have hr:=(alloc_row (w:=w.drew) (List.replicate cap z).flatten e)
  have kd:Keep [] w w.drew:=⟨rfl,rfl,rfl,Nat.le_refl _,fun _ _ _=>rfl⟩
  refine hk (.slice (some ⟨w.heap.size,0,none⟩) n.toNat cap) _ _ (.inr ⟨w.heap.size,cap,hpos,Nat.le_refl _,rfl,hcap,hr.1,kd.then hr.2⟩) ?_
  have:=(he1.clear (n:=n3) (v := .slice (some ⟨w.heap.size,0,none⟩) n.toNat cap)).fresh n4 (.slice (some ⟨w.heap.size,0,none⟩) n.toNat cap)
  simpa [St.new,SV.val,upd] using this
 ·rw [if_neg (by simpa using hpos)]
  obtain ⟨_,hav⟩:=isO_val he1 ha'
  rw [addOff_zero,hjs] at hav
  refine hk (.slice aa 0 0) _ w (.inl ⟨by omega,rfl,rfl⟩) ?_
  have:=(he1.forget n3).fresh n4 (.slice aa 0 0)
  simp only [hav]
  exact this
end
end Go.Mr
namespace Go.Mr
open Go.Lx Go.Nx Go.Km Go.Mx Go.Kb
open Go.CX (T deep)
set_option linter.unusedSimpArgs false
set_option linter.unusedVariables false
section
variable {P:Program} {g:Nat}
theorem narrAt_ok {T:Tab} (hT:TabOk P T g) {el:Nat→List Value→Nat→NP→St→Option (NP×St)} {c:Bool} {sz off:Nat} {e:Sh} {q q':NP} {st st':St}
  (hel:∀ ja z ji body s p' st',z.length=sz→s.sj<s.nj→el ja z ji body s=some (p',st')→Elm P g ja ji z (rd e) (fun ok w x cs=>RepS ok w e x cs) body p' s st')
  (h:narrAt T el c sz (wS e) off q st=some (q',st')):Fld P g off (rd (.narr c false sz e)) (fun ok w x cs=>RepS ok w (.narr c false sz e) x (cs.drop off)) q q' st st':=by
 unfold narrAt at h
 simp only [Option.bind_eq_some_iff] at h
 obtain ⟨⟨q2,st2,jl⟩,h2,⟨qe,ste⟩,he0,⟨qn,stn⟩,hn0,⟨q4,st4⟩,h4,⟨qs,sts⟩,hs0,⟨q6,st6,z⟩,h6,h⟩:=h
 dsimp only at he0 hn0 h4 hs0 h6 h
 split at h
 case isFalse=>cases h
 rename_i hzs
 obtain ⟨rfl,hwe⟩:=hzs
 simp only [Option.bind_eq_some_iff] at h
 obtain ⟨⟨q8,st8⟩,h8,h9⟩:=h
 obtain ⟨f,x,n,e1,hx,hf,e2,e3⟩:=rdCnt_some h2
 obtain ⟨⟨Ee,ee⟩,oe⟩:=eqlS_ok (P:=P) (g:=g) he0
 obtain ⟨⟨En,en⟩,on⟩:=nulS_ok (P:=P) (g:=g) hn0
 obtain ⟨⟨E4,e4⟩,o4⟩:=okStep_ok hT h4
 obtain ⟨⟨Es,es⟩,os⟩:=slS_ok (P:=P) (g:=g) hs0
 obtain ⟨⟨E6,e6⟩,o6⟩:=growN_ok (P:=P) h6
 have R1:=run_stt P (f:=KF) (p:=q) (st:=st)
 have R3:=run_stt P (f:=KF) (p:=q2) (st:=st2)
 have Re:=run_stt P (f:=KF) (p:=qe) (st:=ste)
 have Rn:=run_stt P (f:=KF) (p:=qn) (st:=stn)
 have R4:=run_stt P (f:=KF) (p:=q4) (st:=st4)
 have Rs:=run_stt P (f:=KF) (p:=qs) (st:=sts)
 have R7:=run_stt P (f:=KF) (p:=q6) (st:=st6)
 generalize hja0:(runS KF qs sts).2.nj=ja at *
 obtain ⟨t9,n9,o9⟩:=storeAt_ok (P:=P) (g:=g) (st:=st8) (q:=q8) h9
 obtain ⟨⟨E8,e8⟩,o8⟩:=loop_ok (P:=P) (g:=g) (ja:=ja) (z:=z) (dec:=rd e) (rep:=fun ok w x cs=>RepS ok w e x cs) (fun ji body s p' st' hs hh=>hel ja z ji body s p' st' rfl hs hh)
  (fun ok w w' x cs hr hs=>RepS.same hs e x cs hr) (fun ok w x cs cs' ht hr=>RepS.cells e x cs cs' (take_mono ht hwe) hr) h8
 have o8n := @loop_nil P _ _ _ _ _ _ h8
 have hn1:(runS KF q st).2.nj=st.nj:=R1.2.1
 have hn2:st2.nj=st.nj+1:=by rw [e2];show (runS KF q st).2.nj+1=_;rw [hn1]
 have hn3:(runS KF q2 st2).2.nj=st.nj+1:=by rw [R3.2.1,hn2]
 have hne:ste.nj=st.nj+2:=by rw [ee];show (runS KF q2 st2).2.nj+1=_;rw [hn3]
 have hne':(runS KF qe ste).2.nj=st.nj+2:=by rw [Re.2.1,hne]
 have hnn:stn.nj=st.nj+3:=by rw [en];show (runS KF qe ste).2.nj+1=_;rw [hne']
 have hnn':(runS KF qn stn).2.nj=st.nj+3:=by rw [Rn.2.1,hnn]
 have hn4:st4.nj=st.nj+3:=by rw [e4];exact hnn'
 have hn4':(runS KF q4 st4).2.nj=st.nj+3:=by rw [R4.2.1,hn4]
 have hns:sts.nj=st.nj+4:=by rw [es];show (runS KF q4 st4).2.nj+1=_;rw [hn4']
 have hja:ja=st.nj+4:=by rw [Rs.2.1,hns]
 have hn6:st6.nj=st.nj+5:=by rw [e6];show ja+1=_;rw [hja]
 have hn7:(runS KF q6 st6).2.nj=st.nj+5:=by rw [R7.2.1,hn6]
 have hn8:st8.nj=st.nj+5:=by rw [e8];exact hn7
 have hs2:st2.sj=st.sj:=by rw [e2];exact R1.1.sj
 have hse:ste.sj=st.sj:=by rw [ee];show (runS KF q2 st2).2.sj=_;rw [R3.1.sj,hs2]
 have hsn:stn.sj=st.sj:=by rw [en];show (runS KF qe ste).2.sj=_;rw [Re.1.sj,hse]
 have hs4:st4.sj=st.sj:=by rw [e4];show (runS KF qn stn).2.sj=_;rw [Rn.1.sj,hsn]
 have hss:sts.sj=st.sj:=by rw [es];show (runS KF q4 st4).2.sj=_;rw [R4.1.sj,hs4]
 have hs6:st6.sj=st.sj:=by rw [e6];show (runS KF qs sts).2.sj=_;rw [Rs.1.sj,hss]
 have hs8:st8.sj=st.sj:=by rw [e8];show (runS KF q6 st6).2.sj=_;rw [R7.1.sj,hs6]
 have hc2:st2.cells=st.cells:=by rw [e2];exact R1.2.2
 have hce:ste.cells=st.cells:=by rw [ee];show (runS KF q2 st2).2.cells=_;rw [R3.2.2,hc2]
 have hcn:stn.cells=st.cells:=by rw [en];show (runS KF qe ste).2.cells=_;rw [Re.2.2,hce]
 have hc4:st4.cells=st.cells:=by rw [e4];show (runS KF qn stn).2.cells=_;rw [Rn.2.2,hcn]
 have hcs:sts.cells=st.cells:=by rw [es];show (runS KF q4 st4).2.cells=_;rw [R4.2.2,hc4]
 have hc6:st6.cells=st.cells:=by rw [e6];show (runS KF qs sts).2.cells=_;rw [Rs.2.2,hcs]
 have hc8:st8.cells=st.cells:=by rw [e8];show (runS KF q6 st6).2.cells=_;rw [R7.2.2,hc6]
 have hjl:jl=st.nj:=by rw [e3,hn1]
 refine ⟨⟨by have:=t9.nj;omega,by rw [t9.sj];exact hs8,by rw [t9.len,hc8]⟩,?_⟩
 intro ok R S base cs nn sb ρ η w err Q hpre hbad hk
 refine run_pre (f:=KF) hpre fun η1 hp1 => ?_
 obtain ⟨_,hxv⟩:=isO_val hp1.env hx
 rw [hp1.r0,addOff_ptr] at hxv
 rw [e1]
 refine np_op (vs:=[ptr R]) (by simp [hxv]) (hT.cnt f c hf ok w R nn sb _ hp1.he hp1.rd fun v w2 k2 hend => ?_)
 have hcnt:∃ (x:Int) (nn2:Bool) (t2:Option Bs),v = .int .i32 x∧Rd ok w2 R nn2 t2∧(t2=none→sb.bind (rdCount c)=none)∧∀ r,t2=some r→sb.bind (rdCount c)=some (x,r):=by
  unfold CountEnd at hend
  cases hb:sb.bind (rdCount c) with
  | none=>
   rw [hb] at hend
   obtain ⟨h1,x0,rfl,_⟩:=hend
   exact ⟨x0,false,none,rfl,h1,fun _=>rfl,fun r h=>by cases h⟩
  | some y=>
   obtain ⟨x0,r⟩:=y
   rw [hb] at hend
   exact ⟨x0,true,some r,hend.2,hend.1,(fun h=>by cases h),fun r' h=>by cases h;rfl⟩
 obtain ⟨x,nn2,t2,rfl,hrd2,hcn0,hcs0⟩:=hcnt
 have hlink:sb.bind (rd (.narr c false z.length e))=(sb.bind (rdCount c)).bind fun x=>if x.1<0∧false=false then some (.n none,x.2) else (rdN (rd e) x.1.toNat x.2).map fun y=>(.n (some y.1),y.2):=by
  cases sb<;>rfl
 have hp2:=hp1.new n (.int .i32 x) k2 hrd2
 rw [← e2] at hp2
 refine run_pre (f:=KF) hp2 fun η3 hp3 => ?_
 generalize hρa:upd ρ (runS KF q st).2.nj (.int .i32 x)=ρa at hp2 hp3
 have hρal:ρa jl = .int .i32 x:=by rw [← hρa,hjl,hn1];simp [upd]
 have hρaj:∀ j,j<st.nj→ρa j=ρ j:=fun j hj=>by rw [← hρa];simp [upd,hn1,Nat.ne_of_lt hj]
 refine oe hp3 hρal fun ηe hpe => ?_
 refine run_pre (f:=KF) hpe fun ηe' hpe' => ?_
 generalize hρb:upd ρa (runS KF q2 st2).2.nj (.bool (x == 0))=ρb at hpe hpe'
 have hρbb:ρb (runS KF q2 st2).2.nj = .bool (x == 0):=by rw [← hρb];simp [upd]
 have hρbj:∀ j,j<st.nj+1→ρb j=ρa j:=fun j hj=>by rw [← hρb,hn3];simp [upd,Nat.ne_of_lt hj]
 refine on hpe' hρbb fun ηn w4 u0 k4 hu0 hpn => ?_
 refine run_pre (f:=KF) hpn fun ηn' hpn' => ?_
 generalize hρc:upd ρb (runS KF qe ste).2.nj u0=ρc at hpn hpn'
 have hρcu:ρc (runS KF qe ste).2.nj=u0:=by rw [← hρc];simp [upd]
 have hρcj:∀ j,j<st.nj+2→ρc j=ρb j:=fun j hj=>by rw [← hρc,hne'];simp [upd,Nat.ne_of_lt hj]
 have kk4:Keep [R] w w4:=k2.then (k4.mono fun x hx _=>by cases hx)
 refine o4 hpn' (fun ht η'=>hbad ?_ η' w4 (kk4.mono fun x hx _=>by simp at hx ⊢;exact .inl hx)) fun η4 hsome hp4 => ?_
 ·rw [hlink,hcn0 ht];rfl
 refine run_pre (f:=KF) hp4 fun η4' hp4' => ?_
 obtain ⟨r,rfl⟩:=Option.isSome_iff_exists.1 hsome
 have hcnt:=hcs0 r rfl
 rw [hcnt] at hlink
 simp only [Option.bind_some,and_true] at hlink
 have hx31:x<2147483648:=by
  cases sb with
  | none=>cases hcnt
  | some bs=>exact rdCount_lt hcnt
 have ha0:∃ a,u0 = .slice a 0 0∧(x=0→∃ E,a=some ⟨E,0,none⟩)∧(x≠0→a=none):=by
  by_cases hx0:x=0
  ·subst hx0
   simp only [beq_self_eq_true,if_true] at hu0
   obtain ⟨E,rfl⟩:=hu0
   exact ⟨_,rfl,fun _=>⟨E,rfl⟩,fun h=>absurd rfl h⟩
  ·have hf0:(x == 0)=false:=by simpa using hx0
   rw [hf0] at hu0
   simp only [Bool.false_eq_true,if_false] at hu0
   exact ⟨none,hu0,fun h=>absurd h hx0,fun _=>rfl⟩
 obtain ⟨a,rfl,ha1,ha2⟩:=ha0
 refine os hp4' hρcu fun ηs hps => ?_
 refine run_pre (f:=KF) hps fun ηs' hps' => ?_
 generalize hρd:upd ρc (runS KF q4 st4).2.nj (.slice a 0 0)=ρd at hps hps'
 have hρdu:ρd (runS KF q4 st4).2.nj = .slice a 0 0:=by rw [← hρd];simp [upd]
 have hρdj:∀ j,j<st.nj+3→ρd j=ρc j:=fun j hj=>by rw [← hρd,hn4'];simp [upd,Nat.ne_of_lt hj]
 have hρdl:ρd jl = .int .i32 x:=by rw [hρdj jl (by omega),hρcj jl (by omega),hρbj jl (by omega)];exact hρal
 have henv6:EnvOk (runS KF qs sts).2.env ja ρd ηs':=by rw [← hja0];exact hps'.env
 refine o6 henv6 hρdl hx31 hρdu (fun h=>ha2 (by omega)) fun u η6 w6 hgr he6 => ?_
 have hρ3:∀ j,j<st.nj+4→upd ρd ja u j=ρd j:=fun j hj=>by rw [hja];simp [upd,Nat.ne_of_lt hj]
 have hρ3a:upd ρd ja u ja=u:=by simp [upd]
 have hρ3j:∀ j,j<st.nj→upd ρd ja u j=ρ j:=fun j hj=>by rw [hρ3 j (by omega),hρdj j (by omega),hρcj j (by omega),hρbj j (by omega),hρaj j hj]
 have hk6:Keep [] w4 w6:=by
  rcases hgr with ⟨_,_,rfl⟩ | ⟨A,cap,_,_,_,_,_,k⟩
  ·exact Keep.refl _ _
  ·exact k
 have kRS:Keep [R,S] w w6:=(kk4.mono (A':=[R,S]) (fun x hx _=>by simp at hx ⊢;exact .inl hx)).then (hk6.mono fun x hx _=>by cases hx)
 have hp6:∀ ok':Nat→Prop,(∀ k,ok' k→ok k)→(∀ k,k<w4.heap.size→ok k→ok' k)→(∀ k,w6.heap.size≤k→ok' k)→Pre g st6 ok' R S base cs nn2 (some r) (upd ρd ja u) η6 w6 err:=by
  intro ok' h1 h2' h3
  refine ⟨by rw [hn6,show st.nj+5=ja+1 by omega];exact he6,?_,⟨h3,fun hh=>hps'.he.notR (h1 _ hh)⟩,fun hh=>hps'.nS (h1 _ hh),hps'.SR,(hps'.rd.weak h2').keep hk6 (by simp) (by simp),?_,cell_keep hps'.err hk6 (by simp),hps'.gR,hps'.gS,by have:=hpre.nj;rw [hn6,hs6];omega⟩
  ·refine hps'.cur.move (hs6.trans (Rs.1.sj.trans hss).symm) (hc6.trans (Rs.2.2.trans hcs).symm) hps'.nj.2 (fun j hj => ?_) (hps'.cur.row.keep hk6 (by simp))
   rw [hja0] at hj
   simp [upd,Nat.ne_of_lt hj]
  ·rw [hρ3 0 (by omega)];exact hps'.r0
 have fin:∀ (ok':Nat→Prop) (nn':Bool) (t:Option Bs) (η8:Nat→Value) (w8:World),(∀ k,ok' k→ok k)→Pre g st8 ok' R S base cs nn' t (upd ρd ja u) η8 w8 err→Keep [R,S] w w8→Fit 1 u→u.cells.toList=[u] →
   (match sb.bind (rd (.narr c false z.length e)) with
    | some (.n none,rest)=>t=some rest∧u = .slice none 0 0
    | some (.n (some vs),rest)=>t=some rest∧(∃ a n c,u = .slice (some a) n c)∧∀ w9,Keep [S] w8 w9→Lst ok w9 z.length vs.length (fun i ds=>∀ h:i<vs.length,RepS ok w9 e vs[i] ds) u
    | some _=>False
    | none=>t=none)→q8.wp P Q η8 w8:=by
  intro ok' nn' t η8 w8 hsub hp8 hkk hfu hcu hres
  refine o9 hp8 (by rw [hρ3a];exact hfu) (by rw [hρ3a];exact hcu) fun η9 w9 he9 k9 hcur9 hbl hoffc => ?_
  rw [hρ3a] at hcur9
  have hS2:∀ x∈[S],¬ ok x:=fun x hx=>by rw [List.mem_singleton.1 hx];exact hpre.nS
  have hS3:∀ x∈[S],¬ ok' x:=fun x hx hh=>hS2 x hx (hsub x hh)
  have hR2:R∉[S]:=by rw [List.mem_singleton];exact fun e=>hpre.SR e.symm
  have hbl':base+off+[u].length≤cs.length:=hbl
  rw [hc8] at hoffc
  refine hk _ η9 w9 _ ⟨he9,hρ3j,hkk.then (k9.mono fun x hx _=>by simp at hx ⊢;exact .inr hx),hcur9,put_length _ _ _ hbl',fun j hj=>put_out _ _ _ hbl' _ (.inl hj),fun j hj=>put_out _ _ _ hbl' _ (.inr (by simp;omega))⟩ ?_
  have hrd9:=(hp8.rd.keep k9 hR2 hS3).weak (ok':=ok) fun b _ hb=>hsub b hb
  have h0:(put cs (base+off) [u])[base+off]?=some u:=by
   have:=put_in cs (base+off) [u] hbl' 0 (by simp)
   simpa using this
  unfold FEnd
  split at hres
  ·rename_i rest hd
   rw [hd]
   obtain ⟨rfl,rfl⟩:=hres
   refine ⟨⟨_,hrd9⟩,?_⟩
   simp only [RepS]
   rw [List.drop_drop,List.getElem?_drop]
   exact h0
  ·rename_i vs rest hd
   rw [hd]
   obtain ⟨rfl,hsa,hl⟩:=hres
   refine ⟨⟨_,hrd9⟩,?_⟩
   simp only [RepS]
   refine ⟨u,?_,hsa,hl w9 k9⟩
   rw [List.drop_drop,List.getElem?_drop]
   exact h0
  ·exact hres.elim
  ·rename_i hd
   rw [hd]
   subst hres
   have:Rd ok w9 R nn' none:=hrd9
   exact this
 rcases hgr with ⟨hx0,rfl,rfl⟩ | ⟨A,cap,hxp,hA,rfl,hcap,hrowA,hk6'⟩
 ·have hp:=hp6 ok (fun _ h=>h) (fun _ _ h=>h) (fun k hk=>hps'.he.new k hk)
  refine run_pre (f:=KF) hp fun η7 hp7 => ?_
  refine o8n hp7.env (by rw [hρ3 jl (by omega)];exact hρdl) hx0 fun η8 he8 => ?_
  have hp8:Pre g st8 ok R S base cs nn2 (some r) (upd ρd ja (.slice a 0 0)) η8 w6 err:=by rw [e8] at he8 ⊢;exact hp7.env' he8
  refine fin ok nn2 (some r) η8 w6 (fun _ h=>h) hp8 kRS (Fit.one rfl rfl) rfl ?_
  rw [hlink]
  by_cases hxz:x=0
  ·obtain ⟨E,rfl⟩:=ha1 hxz
   rw [if_neg (by omega)]
   subst hxz
   simp only [Int.toNat_zero,rdN,Option.map_some]
   exact ⟨trivial,⟨_,_,_,rfl⟩,fun w9 _ => .inl ⟨rfl,_,0,rfl⟩⟩
  ·rw [if_pos (by omega)]
   rw [ha2 hxz]
   exact ⟨rfl,rfl⟩
 ·have hwR:R<w4.heap.size:=Nat.lt_of_lt_of_le (rd_lt hrd2) k4.size
  have hwS:S<w4.heap.size:=hps'.cur.row.lt
  have hwg:g<w4.heap.size:=cell_lt hps'.err
  have hAR:A≠R:=by omega
  have hAS:A≠S:=by omega
  have hAg:A≠g:=by omega
  have hp:=hp6 (fun k=>ok k∧k≠A) (fun _ h=>h.1) (fun k hk h=>⟨h,by omega⟩) (fun k hk=>⟨hps'.he.new k (Nat.le_trans hk6.size hk),by have:=hrowA.lt;omega⟩)
  refine run_pre (f:=KF) hp fun η7 hp7 => ?_
  have hnat:((x.toNat:Nat):Int)=x:=by omega
  have hokA:ok A:=hps'.he.new A hA
  have hw4:w.heap.size≤w4.heap.size:=kk4.size
  refine o8 hp7 hAR hAS hAg (fun h=>h.2 rfl) hrowA hcap hρ3a (by omega) (by rw [hρ3 jl (by omega),hρdl,hnat]) (by omega) ?_ ?_
  ·intro hb η' w' kw
   refine hbad ?_ η' w' (kRS.trans kw fun x hx hlt => ?_)
   ·rw [hlink,if_neg (by omega)];simp [hb]
   ·simp only [List.mem_cons,List.not_mem_nil,or_false] at hx ⊢
    rcases hx with rfl | rfl
    ·exact .inl rfl
    ·exact absurd hlt (by omega)
  ·intro η8 w8 acs he8 kw hr8 hl8 hlend
   have kk8:Keep [R,S] w w8:=kRS.trans kw fun x hx hlt=>by
    simp only [List.mem_cons,List.not_mem_nil,or_false] at hx ⊢
    rcases hx with rfl | rfl
    ·exact .inl rfl
    ·exact absurd hlt (by omega)
   have hSRA:S∉[R,A]:=by simp only [List.mem_cons,List.not_mem_nil,or_false,not_or];exact ⟨hpre.SR,fun e=>hAS e.symm⟩
   have hpre8:∀ nn' t,Rd (fun k=>ok k∧k≠A) w8 R nn' t→Pre g st8 (fun k=>ok k∧k≠A) R S base cs nn' t (upd ρd ja (.slice (some ⟨A,0,none⟩) x.toNat cap)) η8 w8 err:=by
    intro nn' t hrd8
    refine ⟨by rw [hn8,← hn7];exact he8,?_,hp7.he.keep kw,hp7.nS,hp7.SR,hrd8,hp7.r0,cell_keep hp7.err kw (by simp only [List.mem_cons,List.not_mem_nil,or_false,not_or];exact ⟨hpre.gR,fun e=>hAg e.symm⟩),hp7.gR,hp7.gS,by have:=hpre.nj;rw [hn8,hs8];omega⟩
    exact hp7.cur.move (hs8.trans (R7.1.sj.trans hs6).symm) (hc8.trans (R7.2.2.trans hc6).symm) hp7.nj.2 (fun _ _=>rfl) (hp7.cur.row.keep kw hSRA)
   unfold LEnd at hlend
   rw [if_neg (by omega)] at hlink
   cases hrn:rdN (rd e) x.toNat r with
   | none=>
    rw [hrn] at hlend
    obtain ⟨nn',hrd8⟩:=hlend
    refine fin _ nn' none η8 w8 (fun _ h=>h.1) (hpre8 nn' none hrd8) kk8 (Fit.one rfl rfl) rfl ?_
    rw [hlink,hrn]
    rfl
   | some y=>
    obtain ⟨vs,rest⟩:=y
    rw [hrn] at hlend
    obtain ⟨⟨nn',hrd8⟩,hvl,hreps⟩:=hlend
    refine fin _ nn' (some rest) η8 w8 (fun _ h=>h.1) (hpre8 nn' (some rest) hrd8) kk8 (Fit.one rfl rfl) rfl ?_
    rw [hlink,hrn]
    refine ⟨rfl,⟨_,_,_,rfl⟩,fun w9 k9 => ?_⟩
    have hS2:∀ x∈[S],¬ (ok x∧x≠A):=fun x hx hh=>by rw [List.mem_singleton.1 hx] at hh;exact hpre.nS hh.1
    refine .inr ⟨Nat.lt_of_lt_of_eq (show 0<x.toNat by omega) hvl.symm,A,cap,acs,by rw [hvl],Nat.le_trans (Nat.le_of_eq hvl) hcap,hokA,hr8.keep k9 (by simp;exact hAS),?_,fun i hi hlt => ?_⟩
    ·rw [hl8,hvl];exact Nat.mul_le_mul_right _ hcap
    ·exact RepS.weak (fun b _ hb=>hb.1) e _ _ (RepS.same (k9.same hS2) e _ _ (hreps i hlt))
end
end Go.Mr
namespace Go.Mr
open Go.Lx Go.Nx Go.Km Go.Mx Go.Kb
open Go.CX (T deep)
set_option linter.unusedSimpArgs false
set_option linter.unusedVariables false
def loF (lo:Nat):Fs→Bool
 | .nil=>true
 | .tags o=>decide (lo≤o)
 | .cons o _ r=>decide (lo≤o) && loF lo r
theorem loF_zero:∀ fs,loF 0 fs=true
 | .nil=>rfl
 | .tags _=>by simp [loF]
 | .cons _ _ r=>by simp [loF,loF_zero r]
def dsO (off:Nat) (ds:List (Nat×Value)) (cells:List (Option Value)):List (Option Value):=ds.foldl (fun c p=>c.set (off+p.1) (some p.2)) cells
def strIn (T:Tab) (off:Nat) (q:NP) (st:St):Option (NP×St):=
 match (runS KF q st).1 with
 | .op (.call df) [x] n k=>if isO (runS KF q st).2.env x (runS KF q st).2.sj off=true then match T.defs df with
   | some ds=>if ds.all (fun d=>decide (off+d.1<(runS KF q st).2.cells.length))=true then some (k,{ (runS KF q st).2 with env:=(runS KF q st).2.env.set deep n none,cells:=dsO off ds (runS KF q st).2.cells }) else none
   | none=>none
  else some (q,st)
 | _=>some (q,st)
mutual
def chkS (T:Tab):Sh→Nat→NP→St→Option (NP×St)
 | .prim p,off,q,st=>rdAt T p off q st
 | .arr c sz (.prim p),off,q,st=>if width p=sz then arrAt T (fun ja _ ji b s=>elPrim T p sz ja ji b s) c sz (width p) off q st else none
 | .arr c sz (.str fs),off,q,st=>arrAt T (fun ja z ji b s=>(elStr T sz ja ji z b s).bind fun r=>chkF T fs 0 r.1 r.2) c sz (extF fs) off q st
 | .narr c z sz (.prim p),off,q,st=>if z=false∧width p=sz then narrAt T (fun ja _ ji b s=>elPrim T p sz ja ji b s) c sz (width p) off q st else none
 | .narr c z sz (.str fs),off,q,st=>if z=false then narrAt T (fun ja z ji b s=>(elStr T sz ja ji z b s).bind fun r=>chkF T fs 0 r.1 r.2) c sz (extF fs) off q st else none
 | .str fs,off,q,st=>(strIn T off q st).bind fun r=>chkF T fs off r.1 r.2
 | _,_,_,_=>none
def chkF (T:Tab):Fs→Nat→NP→St→Option (NP×St)
 | .nil,_,q,st=>some (q,st)
 | .tags o,off,q,st=>tgAt T (off+o) q st
 | .cons o s r,off,q,st=>if loF (o+wS s) r=true then (chkS T s (off+o) q st).bind fun x=>chkF T r off x.1 x.2 else none
end
section
variable {P:Program} {g:Nat}
theorem Fld.low {lo lo':Nat} (hl:lo'≤lo) {α:Type} {dec:Bs→Option (α×Bs)} {rep:(Nat→Prop)→World→α→List Value→Prop} {p p':NP} {st st':St} (h:Fld P g lo dec rep p p' st st'):Fld P g lo' dec rep p p' st st':=
 ⟨h.1,fun ok R S base cs nn sb ρ η w err Q hp hb hk=>h.2 ok R S base cs nn sb ρ η w err Q hp hb fun ρ' η' w' cs' hn he=>hk ρ' η' w' cs' ⟨hn.env,hn.ρ,hn.keep,hn.cur,hn.len,fun j hj=>hn.low j (by omega),hn.high⟩ he⟩
theorem Fld.seq {lo lo2:Nat} (hl:lo≤lo2) {α β:Type} {dec1:Bs→Option (α×Bs)} {dec2:Bs→Option (β×Bs)} {γ:Type} {j:α→β→γ} {rep1:(Nat→Prop)→World→α→List Value→Prop} {rep2:(Nat→Prop)→World→β→List Value→Prop} {rep:(Nat→Prop)→World→γ→List Value→Prop}
  {p p1 p2:NP} {st st1 st2:St} (h1:Fld P g lo dec1 rep1 p p1 st st1) (h2:Fld P g lo2 dec2 rep2 p1 p2 st1 st2) (hst:∀ ok w w' x cs cs',rep1 ok w x cs→Same ok w w'→cs'.take lo2=cs.take lo2→rep1 ok w' x cs')
  (hj:∀ ok w x y cs,rep1 ok w x cs→rep2 ok w y cs→rep ok w (j x y) cs):Fld P g lo (fun bs=>(dec1 bs).bind fun x=>(dec2 x.2).map fun y=>(j x.1 y.1,y.2)) rep p p2 st st2:=by
 refine ⟨h1.1.trans h2.1,?_⟩
 intro ok R S base cs nn sb ρ η w err Q hpre hbad hk
 refine h1.2 ok R S base cs nn sb ρ η w err Q hpre (fun hb η' w' kw=>hbad ?_ η' w' kw) fun ρ1 η1 w1 cs1 hn1 he1 => ?_
 ·cases sb with
  | none=>rfl
  | some bs=>simp only [Option.bind_some] at hb ⊢;rw [hb];rfl
 obtain ⟨nn1,t1,hrd1⟩:∃ nn1 t1,Rd ok w1 R nn1 t1∧t1=(sb.bind dec1).map (·.2):=by
  unfold FEnd at he1
  cases hd:sb.bind dec1 with
  | none=>rw [hd] at he1;exact ⟨false,none,he1,rfl⟩
  | some x=>obtain ⟨x,r⟩:=x;rw [hd] at he1;obtain ⟨⟨nn',h⟩,_⟩:=he1;exact ⟨nn',some r,h,rfl⟩
 obtain ⟨hrd1,ht1⟩:=hrd1
 have hp1:=hpre.next hn1 h1.1 hrd1
 have hlink:sb.bind (fun bs=>(dec1 bs).bind fun x=>(dec2 x.2).map fun y=>(j x.1 y.1,y.2))=(sb.bind dec1).bind fun x=>(dec2 x.2).map fun y=>(j x.1 y.1,y.2):=by cases sb<;>rfl
 refine h2.2 ok R S base cs1 nn1 t1 ρ1 η1 w1 err Q hp1 (fun hb η' w' kw=>hbad ?_ η' w' (hn1.keep.then kw)) fun ρ2 η2 w2 cs2 hn2 he2 => ?_
 ·rw [hlink]
  subst ht1
  cases hd:sb.bind dec1 with
  | none=>rfl
  | some x=>rw [hd] at hb;simp only [Option.map_some,Option.bind_some] at hb ⊢;rw [hb];rfl
 refine hk ρ2 η2 w2 cs2 ⟨hn2.env,fun i hi=>(hn2.ρ i (Nat.lt_of_lt_of_le hi h1.1.nj)).trans (hn1.ρ i hi),hn1.keep.then hn2.keep,hn2.cur,hn2.len.trans hn1.len,fun i hi=>(hn2.low i (by omega)).trans (hn1.low i hi),fun i hi=>(hn2.high i (by rw [h1.1.len];exact hi)).trans (hn1.high i hi)⟩ ?_
 unfold FEnd at he1 he2 ⊢
 rw [hlink]
 subst ht1
 have hRS:∀ x∈[R,S],¬ ok x:=fun x hx=>by
  simp only [List.mem_cons,List.not_mem_nil,or_false] at hx
  rcases hx with rfl | rfl
  ·exact hpre.he.notR
  ·exact hpre.nS
 cases hd:sb.bind dec1 with
 | none=>rw [hd] at he2;simpa using he2
 | some x=>
  obtain ⟨x,r⟩:=x
  rw [hd] at he1 he2
  simp only [Option.map_some,Option.bind_some] at he2 ⊢
  cases hd2:dec2 r with
  | none=>rw [hd2] at he2;simpa using he2
  | some y=>
   obtain ⟨y,r2⟩:=y
   rw [hd2] at he2
   simp only [Option.map_some]
   refine ⟨he2.1,hj _ _ _ _ _ (hst ok w1 w2 x _ _ he1.2 (hn2.keep.same hRS) ?_) he2.2⟩
   apply List.ext_getElem?
   intro q
   simp only [List.getElem?_take,List.getElem?_drop]
   split
   ·exact hn2.low _ (by omega)
   ·rfl
theorem Fld.nil {lo:Nat} {α:Type} {x:α} {rep:(Nat→Prop)→World→α→List Value→Prop} (hr:∀ ok w cs,rep ok w x cs) {p:NP} {st:St}:Fld P g lo (fun bs=>some (x,bs)) rep p p st st:=by
 refine ⟨Stt.refl st,?_⟩
 intro ok R S base cs nn sb ρ η w err Q hpre hbad hk
 refine hk ρ η w cs ⟨hpre.env,fun _ _=>rfl,Keep.refl _ _,hpre.cur,rfl,fun _ _=>rfl,fun _ _=>rfl⟩ ?_
 unfold FEnd
 have:=hpre.rd
 cases sb with
 | none=>exact this
 | some bs=>exact ⟨⟨nn,this⟩,hr _ _ _⟩
theorem Fld.map {lo:Nat} {α β:Type} {dec:Bs→Option (α×Bs)} {dec':Bs→Option (β×Bs)} {f:α→β} {rep:(Nat→Prop)→World→α→List Value→Prop} {rep':(Nat→Prop)→World→β→List Value→Prop} {p p':NP} {st st':St} (h:Fld P g lo dec rep p p' st st')
  (hd:∀ bs,dec' bs=(dec bs).map fun x=>(f x.1,x.2)) (hr:∀ ok w x cs,rep ok w x cs→rep' ok w (f x) cs):Fld P g lo dec' rep' p p' st st':=by
 refine ⟨h.1,fun ok R S base cs nn sb ρ η w err Q hp hb hk=>h.2 ok R S base cs nn sb ρ η w err Q hp (fun h0=>hb ?_) fun ρ' η' w' cs' hn he=>hk ρ' η' w' cs' hn ?_⟩
 ·cases sb with
  | none=>rfl
  | some bs=>simp only [Option.bind_some] at h0 ⊢;rw [hd,h0];rfl
 ·unfold FEnd at he ⊢
  cases sb with
  | none=>exact he
  | some bs=>
   simp only [Option.bind_some] at he ⊢
   rw [hd]
   cases hx:dec bs with
   | none=>rw [hx] at he;exact he
   | some x=>rw [hx] at he;exact ⟨he.1,hr _ _ _ _ he.2⟩
theorem dsO_length (off:Nat):∀ (ds:List (Nat×Value)) (cells:List (Option Value)),(dsO off ds cells).length=cells.length:=by
 intro ds
 induction ds with
 | nil=>intro cells;rfl
 | cons d ds ih=>intro cells;unfold dsO at ih ⊢;simp only [List.foldl_cons];rw [ih];simp
theorem known_ds (off base:Nat):∀ (ds:List (Nat×Value)) (cells:List (Option Value)) (cs:List Value),base+cells.length≤cs.length→(∀ d∈ds,off+d.1<cells.length)→(∀ (j:Nat) (v:Value),cells[j]?=some (some v)→cs[base+j]?=some v) →
  (∀ (j:Nat) (v:Value),(dsO off ds cells)[j]?=some (some v)→(setD (base+off) ds cs)[base+j]?=some v)∧∀ j,j<base+off∨base+cells.length≤j→(setD (base+off) ds cs)[j]?=cs[j]?:=by
 intro ds
 induction ds with
 | nil=>intro cells cs _ _ h;exact ⟨h,fun _ _=>rfl⟩
 | cons d ds ih=>
  intro cells cs hl hd h
  have hd1:=hd d (by simp)
  obtain ⟨g1,g2⟩:=ih (cells.set (off+d.1) (some d.2)) (cs.set (base+off+d.1) d.2) (by simpa using hl) (fun x hx=>by simpa using hd x (by simp [hx])) (fun j v hj=>by
   rw [List.getElem?_set] at hj ⊢
   by_cases he:off+d.1=j
   ·subst he
    rw [if_pos rfl,if_pos hd1] at hj
    cases hj
    rw [if_pos (by omega),if_pos (by omega)]
   ·rw [if_neg he] at hj
    rw [if_neg (by omega)]
    exact h j v hj)
  refine ⟨fun j v hj => ?_,fun j hj => ?_⟩
  ·have:=g1 j v (by unfold dsO at hj ⊢;simpa using hj)
   unfold setD at this ⊢
   simpa using this
  ·have:=g2 j (by simpa using hj)
   unfold setD at this ⊢
   simp only [List.foldl_cons]
   rw [this,List.getElem?_set,if_neg (by omega)]
theorem strIn_ok {T:Tab} (hT:TabOk P T g) {off:Nat} {q q1 p':NP} {st st1 st':St} {α:Type} {dec:Bs→Option (α×Bs)} {rep:(Nat→Prop)→World→α→List Value→Prop} (h:strIn T off q st=some (q1,st1))
  (hF:Fld P g off dec rep q1 p' st1 st'):Fld P g off dec rep q p' st st':=by
 unfold strIn at h
 split at h
 ·rename_i df x n k hq
  split at h
  ·rename_i hx
   split at h
   ·rename_i ds hds
    split at h
    case isFalse=>cases h
    rename_i hall
    cases h
    have R1:=run_stt P (f:=KF) (p:=q) (st:=st)
    obtain ⟨f1,f2⟩:=hF
    have hall':∀ d∈ds,off+d.1<(runS KF q st).2.cells.length:=by simpa using hall
    have hlen1:=dsO_length off ds (runS KF q st).2.cells
    refine ⟨⟨Nat.le_trans R1.1.nj f1.nj,f1.sj.trans R1.1.sj,?_⟩,?_⟩
    ·rw [f1.len];show (dsO off ds (runS KF q st).2.cells).length=_;rw [hlen1,R1.2.2]
    intro ok R S base cs nn sb ρ η w err Q hpre hbad hk
    refine run_pre (f:=KF) hpre fun η1 hp1 => ?_
    rw [hq]
    obtain ⟨_,hxv⟩:=isO_val hp1.env hx
    rw [hp1.cur.ptr] at hxv
    simp only [addOff,addr_at] at hxv
    have hcl:=hp1.cur.len
    refine np_op (vs:=[.pointer (some ⟨S,base+off,none⟩)]) (by simp [hxv]) (hT.defs df ds hds w S (base+off) cs _ hp1.cur.row (fun d hd=>by have:=hall' d hd;omega) fun w2 r2 k2 => ?_)
    obtain ⟨g1,g2⟩:=known_ds off base ds (runS KF q st).2.cells cs hcl hall' hp1.cur.known
    have hnS:∀ x∈[S],¬ ok x:=fun x hx=>by rw [List.mem_singleton.1 hx];exact hpre.nS
    have hlcs:=setD_length (base+off) ds cs
    have hp2:Pre g { (runS KF q st).2 with env:=(runS KF q st).2.env.set deep n none,cells:=dsO off ds (runS KF q st).2.cells } ok R S base (setD (base+off) ds cs) nn sb ρ (upd η1 n (.tuple #[])) w2 err:=
     ⟨hp1.env.clear,⟨hp1.cur.ptr,r2,by show base+(dsO off ds (runS KF q st).2.cells).length≤_;rw [hlen1,hlcs];exact hcl,g1⟩,hp1.he.keep k2,hp1.nS,hp1.SR,hp1.rd.keep k2 (by simp;exact fun e=>hpre.SR e.symm) hnS,hp1.r0,cell_keep hp1.err k2 (by simp;exact hpre.gS),hp1.gR,hp1.gS,hp1.nj⟩
    have kRS:Keep [R,S] w w2:=k2.mono fun x hx _=>by simp at hx ⊢;exact .inr hx
    refine f2 ok R S base (setD (base+off) ds cs) nn sb ρ _ w2 err Q hp2 (fun hb η' w' kw=>hbad hb η' w' (kRS.then kw)) fun ρ' η' w' cs' hn he => ?_
    refine hk ρ' η' w' cs' ⟨hn.env,fun j hj=>hn.ρ j (Nat.lt_of_lt_of_le hj R1.1.nj),kRS.then hn.keep,hn.cur,hn.len.trans hlcs,fun j hj=>(hn.low j hj).trans (g2 j (.inl hj)),fun j hj=>(hn.high j ?_).trans (g2 j (.inr ?_))⟩ he
    ·show base+(dsO off ds (runS KF q st).2.cells).length≤j
     rw [hlen1,R1.2.2];exact hj
    ·rw [R1.2.2];exact hj
   ·cases h
  ·cases h;exact hF
 ·cases h;exact hF
mutual
theorem chkS_ok {T:Tab} (hT:TabOk P T g):∀ (s:Sh) (off:Nat) (q q':NP) (st st':St),chkS T s off q st=some (q',st')→Fld P g off (rd s) (fun ok w x cs=>RepS ok w s x (cs.drop off)) q q' st st'
 | .prim p,off,q,q',st,st',h=>rdAt_ok hT h
 | .arr c sz (.prim p),off,q,q',st,st',h=>by
  simp only [chkS] at h
  split at h
  ·rename_i hw
   refine arrAt_ok hT (e := .prim p) (fun ja z ji body s p' s' hz hs hh => ?_) h
   exact elPrim_ok hT (sz:=sz) hz.symm (by rw [hw,hz]) hh hs
  ·cases h
 | .arr c sz (.str fs),off,q,q',st,st',h=>by
  simp only [chkS] at h
  refine arrAt_ok hT (e := .str fs) (fun ja z ji body s p' s' hz hs hh => ?_) h
  simp only [Option.bind_eq_some_iff] at hh
  obtain ⟨⟨r1,r2⟩,hh1,hh2⟩:=hh
  refine elStr_ok hT hz.symm hh1 ?_
  have:=chkF_ok hT fs 0 0 r1 p' r2 s' (loF_zero _) hh2
  exact this.map (f := .l) (fun bs=>by simp only [rd]) fun ok w x cs hr=>by simpa [RepS] using hr
 | .str fs,off,q,q',st,st',h=>by
  simp only [chkS,Option.bind_eq_some_iff] at h
  obtain ⟨⟨q1,st1⟩,h1,h2⟩:=h
  have:=strIn_ok hT h1 (chkF_ok hT fs off 0 q1 q' st1 st' (loF_zero _) h2)
  exact this.map (f := .l) (fun bs=>by simp only [rd]) fun ok w x cs hr=>by simpa [RepS] using hr
 | .arr c sz (.arr _ _ _),off,q,q',st,st',h=>by simp only [chkS] at h;cases h
 | .arr c sz (.narr _ _ _ _),off,q,q',st,st',h=>by simp only [chkS] at h;cases h
 | .arr c sz (.opt _),off,q,q',st,st',h=>by simp only [chkS] at h;cases h
 | .narr c z sz (.prim p),off,q,q',st,st',h=>by
  simp only [chkS] at h
  split at h
  ·rename_i hw
   obtain ⟨rfl,hw⟩:=hw
   refine narrAt_ok hT (e := .prim p) (fun ja z ji body s p' s' hz hs hh => ?_) h
   exact elPrim_ok hT (sz:=sz) hz.symm (by rw [hw,hz]) hh hs
  ·cases h
 | .narr c z sz (.str fs),off,q,q',st,st',h=>by
  simp only [chkS] at h
  split at h
  ·rename_i hw
   subst hw
   refine narrAt_ok hT (e := .str fs) (fun ja z ji body s p' s' hz hs hh => ?_) h
   simp only [Option.bind_eq_some_iff] at hh
   obtain ⟨⟨r1,r2⟩,hh1,hh2⟩:=hh
   refine elStr_ok hT hz.symm hh1 ?_
   have:=chkF_ok hT fs 0 0 r1 p' r2 s' (loF_zero _) hh2
   exact this.map (f := .l) (fun bs=>by simp only [rd]) fun ok w x cs hr=>by simpa [RepS] using hr
  ·cases h
 | .narr c z sz (.arr _ _ _),off,q,q',st,st',h=>by simp only [chkS] at h;cases h
 | .narr c z sz (.narr _ _ _ _),off,q,q',st,st',h=>by simp only [chkS] at h;cases h
 | .narr c z sz (.opt _),off,q,q',st,st',h=>by simp only [chkS] at h;cases h
 | .opt _,off,q,q',st,st',h=>by simp only [chkS] at h;cases h
theorem chkF_ok {T:Tab} (hT:TabOk P T g):∀ (fs:Fs) (off lo:Nat) (q q':NP) (st st':St),loF lo fs=true→chkF T fs off q st=some (q',st')→Fld P g (off+lo) (rdF fs) (fun ok w x cs=>RepF ok w fs x (cs.drop off)) q q' st st'
 | .nil,off,lo,q,q',st,st',hl,h=>by
  simp only [chkF] at h
  cases h
  exact Fld.nil (x:=[]) fun ok w cs=>by simp [RepF]
 | .tags o,off,lo,q,q',st,st',hl,h=>by
  simp only [chkF] at h
  simp only [loF,decide_eq_true_eq] at hl
  have:=(tgAt_ok hT h).low (lo':=off+lo) (by omega)
  refine this.map (f:=id) (fun bs=>by simp only [rdF,Option.map_map];rfl) fun ok w x cs hr => ?_
  match x,hr with
  | [.t l],hr=>
   simp only [RepF] at hr ⊢
   obtain ⟨v,h1,h2⟩:=hr
   refine ⟨v,?_,h2⟩
   rw [List.getElem?_drop];exact h1
 | .cons o s r,off,lo,q,q',st,st',hl,h=>by
  simp only [chkF] at h
  split at h
  case isFalse=>cases h
  rename_i hr
  simp only [Option.bind_eq_some_iff] at h
  obtain ⟨⟨q1,st1⟩,h1,h2⟩:=h
  simp only [loF,Bool.and_eq_true,decide_eq_true_eq] at hl
  have F1:=(chkS_ok hT s (off+o) q q1 st st1 h1).low (lo':=off+lo) (by omega)
  have F2:=chkF_ok hT r off (o+wS s) q1 q' st1 st' hr h2
  have hlo:off+lo≤off+(o+wS s):=by omega
  refine (Fld.seq (j:=fun x y=>x::y) hlo F1 F2 (fun ok w w' x cs cs' hx hs ht => ?_) (fun ok w x y cs hx hy => ?_)).map (f:=id) (fun bs => ?_) fun ok w x cs hr=>hr
  ·exact RepS.same hs s x _ (RepS.cells s x _ _ (take_drop ht (by omega)) hx)
  ·show RepF ok w (.cons o s r) (x::y) (cs.drop off)
   simp only [RepF]
   exact ⟨by rw [List.drop_drop];exact hx,hy⟩
  ·simp [rdF,Option.map_id']
end
end
end Go.Mr

