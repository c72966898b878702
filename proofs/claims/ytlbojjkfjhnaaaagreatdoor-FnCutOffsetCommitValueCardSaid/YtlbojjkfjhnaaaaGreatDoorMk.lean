import Derived.Test.YtlbojjkfjhnaaaaGreatDoorKm
import Derived.Test.YtlbojjkfjhnaaaaGreatDoorKb
import Derived.Test.YtlbojjkfjhnaaaaGreatDoorMr
import Derived.Test.YtlbojjkfjhnaaaaGreatDoorMw
set_option linter.unusedSimpArgs false
set_option linter.unusedVariables false
namespace Go.Km
set_option linter.unusedSimpArgs false
set_option linter.unusedVariables false
structure KT where
 key:Nat
 off:Nat
 sh:Sh
 us:Val→Bool
def kIdx:List KT→Nat→Option (Nat×KT)
 | [],_=>none
 | k::r,n=>if k.key=n then some (0,k) else (kIdx r n).map fun p=>(p.1+1,p.2)
abbrev KV:=List (Option Val)
def stepK (ks:List KT) (s:KV×Tg) (p:Nat×Bs):Option (KV×Tg):=
 match kIdx ks p.1 with
 | some (j,k)=>(rd k.sh p.2).map fun x=>(s.1.set j (some x.1),s.2)
 | none=>some (s.1,tagSet p.1 p.2 s.2)
def rdK (ks:List KT):Nat→KV×Tg→Bs→Option ((KV×Tg)×Bs)
 | 0,s,bs=>some (s,bs)
 | n+1,s,bs=>(rdUv bs).bind fun k=>(rdUv k.2).bind fun l=>(cut l.1 l.2).bind fun v=>(stepK ks s (k.1,v.1)).bind fun s'=>rdK ks n s' v.2
def rdE (ks:List KT) (bs:Bs):Option ((KV×Tg)×Bs):=(rdUv bs).bind fun p=>rdK ks p.1 (List.replicate ks.length none,[]) p.2
def enc:List KT→KV→Tg
 | k::ks,v::vs=>(match v with | some x=>if k.us x then [] else [(k.key,wr k.sh x)] | none=>[])++enc ks vs
 | _,_=>[]
def wrE (ks:List KT) (s:KV×Tg):Bs:=wrUv (enc ks s.1++s.2).length++wrTagL (enc ks s.1++s.2)
def nrm:List KT→KV→KV
 | k::ks,v::vs=>(match v with | some x=>if k.us x then none else some x | none=>none)::nrm ks vs
 | _,_=>[]
theorem rdK_wr (ks:List KT):∀ (ps:Tg) (s:KV×Tg) (r:Bs),(∀ p∈ps,p.1<2^32∧p.2.length<2^32)→rdK ks ps.length s (wrTagL ps++r)=(ps.foldlM (stepK ks) s).map fun x=>(x,r):=by
 intro ps
 induction ps with
 | nil=>intro s r _;simp [rdK,wrTagL]
 | cons x t ih=>
  intro s r hk
  obtain ⟨k,v⟩:=x
  have h1:=hk (k,v) (by simp)
  have hw:wrTagL ((k,v)::t)++r=wrUv k++(wrUv v.length++(v++(wrTagL t++r))):=by simp [wrTagL,wrTag]
  rw [hw,List.length_cons]
  simp only [rdK]
  rw [rdUv_wrUv k h1.1]
  simp only [Option.bind_some]
  rw [rdUv_wrUv v.length h1.2]
  simp only [Option.bind_some,cut_append,List.foldlM_cons]
  cases hs:stepK ks s (k,v) with
  | none=>rfl
  | some s'=>simpa using ih s' r fun p hp=>hk p (by simp [hp])
def okK:List KT→KV→Prop
 | k::ks,v::vs=>(∀ x,v=some x→ok k.sh x)∧okK ks vs
 | [],[]=>True
 | _,_=>False
def keysK (ks:List KT):List Nat:=ks.map (·.key)
theorem kIdx_some {ks:List KT} {n j:Nat} {k:KT} (h:kIdx ks n=some (j,k)):ks[j]?=some k∧k.key=n:=by
 induction ks generalizing j with
 | nil=>cases h
 | cons a r ih=>
  simp only [kIdx] at h
  split at h
  ·rename_i ha;cases h;exact ⟨rfl,ha⟩
  ·simp only [Option.map_eq_some_iff] at h
   obtain ⟨⟨i,b⟩,hb,e⟩:=h
   cases e
   obtain ⟨h1,h2⟩:=ih hb
   exact ⟨by simpa using h1,h2⟩
theorem kIdx_none {ks:List KT} {n:Nat} (h:n∉keysK ks):kIdx ks n=none:=by
 induction ks with
 | nil=>rfl
 | cons a r ih=>
  simp only [keysK,List.map_cons,List.mem_cons,not_or] at h
  simp only [kIdx]
  rw [if_neg (fun e=>h.1 e.symm),ih h.2];rfl
theorem kIdx_at {pre post:List KT} {k:KT} (h:k.key∉keysK pre):kIdx (pre++k::post) k.key=some (pre.length,k):=by
 induction pre with
 | nil=>simp [kIdx]
 | cons a r ih=>
  simp only [keysK,List.map_cons,List.mem_cons,not_or] at h
  simp only [List.cons_append,kIdx]
  rw [if_neg (fun e=>h.1 e.symm),ih h.2];rfl
theorem fold_enc:∀ (post pre:List KT) (vs:KV) (us:KV) (acc:Tg),us.length=pre.length→vs.length=post.length→(keysK (pre++post)).Nodup→(∀ k∈post,wf k.sh=true)→okK post vs →
  (enc post vs).foldlM (stepK (pre++post)) (us++List.replicate post.length none,acc)=some (us++nrm post vs,acc):=by
 intro post
 induction post with
 | nil=>intro pre vs us acc hu hv hd hw hok;cases vs with
  | nil=>simp [enc,nrm]
  | cons v r=>simp at hv
 | cons k ks ih=>
  intro pre vs us acc hu hv hd hw hok
  cases vs with
  | nil=>simp at hv
  | cons v r=>
   have hkey:k.key∉keysK pre:=by
    simp only [keysK,List.map_append,List.map_cons] at hd
    have:=(List.nodup_append.1 hd).2.2
    intro hm
    exact this k.key hm k.key (by simp) rfl
   have happ:pre++k::ks=(pre++[k])++ks:=by simp
   have next:∀ y:Option Val,(enc ks r).foldlM (stepK (pre++k::ks)) (us++[y]++List.replicate ks.length none,acc)=some (us++[y]++nrm ks r,acc):=fun y=>by
    have:=ih (pre++[k]) r (us++[y]) acc (by simp [hu]) (by simpa using hv) (by rw [← happ];exact hd) (fun q hq=>hw q (by simp [hq])) hok.2
    rw [← happ] at this
    exact this
   have hrep:us++List.replicate (k::ks).length none=us++[none]++List.replicate ks.length (none:Option Val):=by
    rw [List.length_cons,List.replicate_succ];simp
   rw [hrep]
   cases v with
   | none=>
    simp only [enc,nrm,List.nil_append]
    rw [next none];simp
   | some x=>
    cases hux:k.us x with
    | true=>
     simp only [enc,nrm,hux,if_true,List.nil_append]
     rw [next none];simp
    | false=>
     simp only [enc,nrm,hux,Bool.false_eq_true,if_false,List.singleton_append,List.foldlM_cons]
     have hrd:=rd_wr k.sh x [] (hw k (by simp)) (hok.1 x rfl)
     rw [List.append_nil] at hrd
     have hset:(us++[none]++List.replicate ks.length (none:Option Val)).set pre.length (some x)=us++[some x]++List.replicate ks.length none:=by
      rw [← hu,List.append_assoc,List.set_append_right _ _ (Nat.le_refl _),Nat.sub_self]
      simp
     have hst:stepK (pre++k::ks) (us++[none]++List.replicate ks.length none,acc) (k.key,wr k.sh x)=some (us++[some x]++List.replicate ks.length none,acc):=by
      simp only [stepK,kIdx_at hkey,hrd,Option.map_some,hset]
     rw [hst]
     simp only [Option.bind_eq_bind,Option.bind_some]
     rw [next (some x)];simp
theorem fold_tags (ks:List KT) (vs:KV):∀ (l acc:Tg),(acc++l).Pairwise (·.1 < ·.1)→(∀ p∈l,p.1∉keysK ks)→l.foldlM (stepK ks) (vs,acc)=some (vs,acc++l):=by
 intro l
 induction l with
 | nil=>intro acc _ _;simp
 | cons x t ih=>
  intro acc hs hk
  obtain ⟨k,v⟩:=x
  have hlt:∀ p∈acc,p.1<k:=by
   intro p hp
   rw [List.pairwise_append] at hs
   exact hs.2.2 p hp (k,v) (by simp)
  rw [List.foldlM_cons]
  have hst:stepK ks (vs,acc) (k,v)=some (vs,acc++[(k,v)]):=by
   simp only [stepK,kIdx_none (hk (k,v) (by simp)),tagSet_last k v acc hlt]
  rw [hst]
  simp only [Option.bind_eq_bind,Option.bind_some]
  have:=ih (acc++[(k,v)]) (by simpa using hs) (fun p hp=>hk p (by simp [hp]))
  simpa using this
theorem rdE_wrE (ks:List KT) (hd:(keysK ks).Nodup) (hw:∀ k∈ks,wf k.sh=true∧k.key<2^32) {vs:KV} {acc:Tg} (hl:vs.length=ks.length) (hok:okK ks vs) (ha:acc.Pairwise (·.1 < ·.1)) (hu:∀ p∈acc,p.1∉keysK ks)
  (hsz:∀ p∈enc ks vs++acc,p.1<2^32∧p.2.length<2^32) (hm:(enc ks vs++acc).length<2^32) (r:Bs):rdE ks (wrE ks (vs,acc)++r)=some ((nrm ks vs,acc),r):=by
 unfold rdE wrE
 rw [List.append_assoc,rdUv_wrUv _ hm]
 simp only [Option.bind_some]
 rw [rdK_wr ks _ _ _ hsz,List.foldlM_append]
 have h1:=fold_enc ks [] vs [] [] rfl hl (by simpa using hd) (fun k hk=>(hw k hk).1) hok
 simp only [List.nil_append] at h1
 rw [h1]
 simp only [Option.bind_eq_bind,Option.bind_some]
 rw [fold_tags ks (nrm ks vs) acc [] (by simpa using ha) hu]
 simp
end Go.Km
namespace Go.Km
set_option linter.unusedSimpArgs false
set_option linter.unusedVariables false
theorem okK_set:∀ {ks:List KT} {vs:KV} {j:Nat} {k:KT} {x:Val},okK ks vs→ks[j]?=some k→ok k.sh x→okK ks (vs.set j (some x)):=by
 intro ks
 induction ks with
 | nil=>intro vs j k x h hj;simp at hj
 | cons a r ih=>
  intro vs j k x h hj hx
  cases vs with
  | nil=>exact h.elim
  | cons v vs=>
   cases j with
   | zero=>simp only [List.getElem?_cons_zero,Option.some.injEq] at hj;subst hj;exact ⟨fun y hy=>by cases hy;exact hx,h.2⟩
   | succ j=>simp only [List.getElem?_cons_succ] at hj;exact ⟨h.1,ih h.2 hj hx⟩
theorem okK_none:∀ (ks:List KT),okK ks (List.replicate ks.length none):=by
 intro ks
 induction ks with
 | nil=>trivial
 | cons a r ih=>exact ⟨fun x hx=>(by cases hx),ih⟩
theorem okK_length:∀ {ks:List KT} {vs:KV},okK ks vs→vs.length=ks.length:=by
 intro ks
 induction ks with
 | nil=>intro vs h;cases vs with
  | nil=>rfl
  | cons v r=>exact h.elim
 | cons a r ih=>intro vs h;cases vs with
  | nil=>exact h.elim
  | cons v vs=>simp [ih h.2]
def tl (l:Tg):Nat:=(wrTagL l).length
theorem tl_append (a b:Tg):tl (a++b)=tl a+tl b:=by simp [tl,wrTagL]
theorem tl_cons (p:Nat×Bs) (b:Tg):tl (p::b)=(wrTag p).length+tl b:=by simp [tl,wrTagL]
theorem tl_set (k:Nat) (v:Bs):∀ (l:Tg),tl (tagSet k v l)≤tl l+(wrTag (k,v)).length:=by
 intro l
 induction l with
 | nil=>simp [tagSet,tl_cons];omega
 | cons x r ih=>
  obtain ⟨j,u⟩:=x
  simp only [tagSet]
  split
  ·simp only [tl_cons];omega
  ·split
   ·simp only [tl_cons];omega
   ·simp only [tl_cons];omega
theorem wrUv_mono {a b:Nat} (h:a≤b):(wrUv a).length≤(wrUv b).length:=by
 have key:∀ f a b,a≤b→(wrV f a).length≤(wrV f b).length:=by
  intro f
  induction f with
  | zero=>intro a b h;simp [wrV]
  | succ f ih=>
   intro a b h
   simp only [wrV]
   split
   ·rename_i ha
    split
    ·simp
    ·simp
   ·rename_i ha
    rw [if_neg (by omega)]
    have:=ih (a / 128) (b / 128) (Nat.div_le_div_right h)
    simp;exact this
 exact key 4 a b h
theorem tl_enc_set:∀ (ks:List KT) (vs:KV) (j:Nat) (k:KT) (x:Val),ks[j]?=some k→tl (enc ks (vs.set j (some x)))≤tl (enc ks vs)+(wrTag (k.key,wr k.sh x)).length∧(enc ks (vs.set j (some x))).length≤(enc ks vs).length+1:=by
 intro ks
 induction ks with
 | nil=>intro vs j k x h;simp at h
 | cons a r ih=>
  intro vs j k x h
  cases vs with
  | nil=>simp [enc]
  | cons v vs=>
   cases j with
   | zero=>
    simp only [List.getElem?_cons_zero,Option.some.injEq] at h
    subst h
    simp only [List.set_cons_zero,enc,tl_append,List.length_append]
    split
    ·simp only [tl,wrTagL,List.map_nil,List.flatten_nil,List.length_nil];omega
    ·simp only [tl_cons,List.length_singleton]
     have:tl []=0:=rfl
     omega
   | succ j=>
    simp only [List.getElem?_cons_succ] at h
    obtain ⟨h1,h2⟩:=ih vs j k x h
    simp only [List.set_cons_succ,enc,tl_append,List.length_append]
    omega
theorem wrTag_len {k l n:Nat} {b1 b2 b3 bs v:Bs} {x:Bs} (h1:rdUv bs=some (k,b1)) (h2:rdUv b1=some (l,b2)) (h3:cut l b2=some (v,b3)) (hx:x.length≤v.length):(wrTag (k,x)).length+b3.length≤bs.length:=by
 have g1:=wrUv_rd h1
 have g2:=wrUv_rd h2
 obtain ⟨g3,g4⟩:=cut_len h3
 have g5:=wrUv_mono (show x.length≤l by omega)
 simp only [wrTag,List.length_append]
 omega
def szK (ks:List KT) (s:KV×Tg):Nat:=tl (enc ks s.1)+tl s.2
def ctK (ks:List KT) (s:KV×Tg):Nat:=(enc ks s.1).length+s.2.length
structure GoodK (ks:List KT) (s:KV×Tg):Prop where
 okk:okK ks s.1
 sorted:s.2.Pairwise (·.1 < ·.1)
 apart:∀ p∈s.2,p.1∉keysK ks
 keys:∀ p∈s.2,p.1<2^32∧p.2.length≤32767
theorem kIdx_none_iff {ks:List KT} {n:Nat} (h:kIdx ks n=none):n∉keysK ks:=by
 induction ks with
 | nil=>simp [keysK]
 | cons a r ih=>
  simp only [kIdx] at h
  split at h
  ·cases h
  ·rename_i ha
   simp only [Option.map_eq_none_iff] at h
   simp only [keysK,List.map_cons,List.mem_cons,not_or]
   exact ⟨fun e=>ha e.symm,ih h⟩
theorem rdK_good (ks:List KT):∀ (n:Nat) (s:KV×Tg) (bs:Bs) (s':KV×Tg) (r:Bs),rdK ks n s bs=some (s',r)→bs.length≤32767→GoodK ks s →
  GoodK ks s'∧szK ks s'+r.length≤szK ks s+bs.length∧ctK ks s'≤ctK ks s+n∧r.length≤bs.length:=by
 intro n
 induction n with
 | zero=>intro s bs s' r h hb hg;cases h;exact ⟨hg,Nat.le_refl _,Nat.le_refl _,Nat.le_refl _⟩
 | succ n ih=>
  intro s bs s' r h hb hg
  simp only [rdK,Option.bind_eq_some_iff] at h
  obtain ⟨⟨k,b1⟩,h1,⟨l,b2⟩,h2,⟨v,b3⟩,h3,s1,h4,h5⟩:=h
  have g1:=rdUv_some h1
  have g2:=rdUv_some h2
  obtain ⟨g3,g4⟩:=cut_len h3
  simp only at g1 g2 g3 g4 h4 h5
  have hb3:b3.length≤32767:=by omega
  have step:GoodK ks s1∧szK ks s1+b3.length≤szK ks s+bs.length∧ctK ks s1≤ctK ks s+1:=by
   unfold stepK at h4
   split at h4
   ·rename_i j kt hk
    dsimp only at hk
    simp only [Option.map_eq_some_iff] at h4
    obtain ⟨⟨x,rest⟩,hx,e⟩:=h4
    cases e
    obtain ⟨k1,k2⟩:=kIdx_some hk
    have hok:=rd_some kt.sh v x rest hx (by omega)
    have hwl:=wr_rd kt.sh v x rest hx
    obtain ⟨t1,t2⟩:=tl_enc_set ks s.1 j kt x k1
    refine ⟨⟨okK_set hg.okk k1 hok.1,hg.sorted,hg.apart,hg.keys⟩,?_,?_⟩
    ·have:=wrTag_len (n:=0) (x:=wr kt.sh x) h1 h2 h3 (by omega)
     rw [k2] at t1
     unfold szK
     dsimp only
     omega
    ·unfold ctK;dsimp only;omega
   ·rename_i hk
    cases h4
    refine ⟨⟨hg.okk,tagSet_sorted hg.sorted,fun p hp => ?_,fun p hp => ?_⟩,?_,?_⟩
    ·rcases tagSet_mem hp with rfl | hp
     ·exact kIdx_none_iff hk
     ·exact hg.apart p hp
    ·rcases tagSet_mem hp with rfl | hp
     ·exact ⟨g1.1,by dsimp only;omega⟩
     ·exact hg.keys p hp
    ·have:=wrTag_len (n:=0) (x:=v) h1 h2 h3 (Nat.le_refl _)
     have:=tl_set k v s.2
     unfold szK
     dsimp only at *
     omega
    ·have:=tagSet_length (k:=k) (v:=v) (l:=s.2)
     unfold ctK;dsimp only at *;omega
  obtain ⟨st1,st2,st3⟩:=step
  obtain ⟨i1,i2,i3,i4⟩:=ih s1 b3 s' r h5 hb3 st1
  exact ⟨i1,by omega,by omega,by omega⟩
theorem goodK_nil (ks:List KT):GoodK ks (List.replicate ks.length none,[]):=⟨okK_none ks,List.Pairwise.nil,fun p hp=>by simp at hp,fun p hp=>by simp at hp⟩
theorem enc_none:∀ (ks:List KT),enc ks (List.replicate ks.length none)=[]:=by
 intro ks
 induction ks with
 | nil=>rfl
 | cons a r ih=>simp only [List.length_cons,List.replicate_succ,enc,List.nil_append];exact ih
theorem rdE_good {ks:List KT} {bs r:Bs} {s:KV×Tg} (h:rdE ks bs=some (s,r)) (hb:bs.length≤32767):GoodK ks s∧(wrE ks s).length+r.length≤bs.length∧r.length<bs.length:=by
 simp only [rdE,Option.bind_eq_some_iff] at h
 obtain ⟨⟨n,b1⟩,h1,h2⟩:=h
 have g1:=rdUv_some h1
 have g2:=wrUv_rd h1
 dsimp only at g1 g2 h2
 obtain ⟨i1,i2,i3,i4⟩:=rdK_good ks n _ b1 s r h2 (by omega) (goodK_nil ks)
 have z1:szK ks (List.replicate ks.length none,[])=0:=by unfold szK;dsimp only;rw [enc_none];rfl
 have z2:ctK ks (List.replicate ks.length none,[])=0:=by unfold ctK;dsimp only;rw [enc_none];rfl
 rw [z1] at i2
 rw [z2] at i3
 refine ⟨i1,?_,by omega⟩
 have hl:(wrE ks s).length=(wrUv (ctK ks s)).length+szK ks s:=by
  unfold wrE szK ctK
  rw [List.length_append,List.length_append]
  have:=tl_append (enc ks s.1) s.2
  unfold tl at this ⊢
  omega
 have:=wrUv_mono (show ctK ks s≤n by omega)
 omega
theorem mono_rdK (ks:List KT):∀ (n:Nat) (s:KV×Tg),Mono (rdK ks n s):=by
 intro n
 induction n with
 | zero=>intro s;exact Mono.some s
 | succ n ih=>
  intro s bs y r x h
  simp only [rdK,Option.bind_eq_some_iff] at h ⊢
  obtain ⟨⟨k,b1⟩,h1,⟨l,b2⟩,h2,⟨v,b3⟩,h3,s',h4,h5⟩:=h
  exact ⟨(k,b1++x),mono_rdUv _ _ _ x h1,(l,b2++x),mono_rdUv _ _ _ x h2,(v,b3++x),mono_cut _ _ _ _ x h3,s',h4,ih s' b3 y r x h5⟩
theorem mono_rdE (ks:List KT):Mono (rdE ks):=mono_rdUv.bindv fun n=>mono_rdK ks n _
end Go.Km
namespace Go.Km
set_option linter.unusedSimpArgs false
set_option linter.unusedVariables false
abbrev MV:=List Val×(KV×Tg)
def rdM (fs:Fs) (ks:List KT) (bs:Bs):Option (MV×Bs):=(rdF fs bs).bind fun x=>(rdE ks x.2).map fun y=>((x.1,y.1),y.2)
def wrM (fs:Fs) (ks:List KT) (m:MV):Bs:=wrF fs m.1++wrE ks m.2
def nrmM (ks:List KT) (m:MV):MV:=(m.1,(nrm ks m.2.1,m.2.2))
def ksOk (ks:List KT):Bool:=decide ((keysK ks).Nodup) && ks.all fun k=>wf k.sh && decide (k.key<2^32)
theorem enc_small:∀ (ks:List KT) (vs:KV),(∀ k∈ks,k.key<2^32)→∀ p∈enc ks vs,p.1<2^32∧p.2.length≤tl (enc ks vs):=by
 intro ks
 induction ks with
 | nil=>intro vs hk p hp;cases vs<;>simp [enc] at hp
 | cons a r ih=>
  intro vs hk p hp
  cases vs with
  | nil=>simp [enc] at hp
  | cons v vs=>
   simp only [enc,tl_append] at hp ⊢
   rcases List.mem_append.1 hp with hp | hp
   ·cases v with
    | none=>simp at hp
    | some x=>
     dsimp only at hp ⊢
     split at hp
     ·simp at hp
     ·rename_i hu
      rw [List.mem_singleton] at hp
      subst hp
      refine ⟨hk a (by simp),?_⟩
      rw [if_neg hu]
      simp only [tl_cons,wrTag,List.length_append]
      omega
   ·obtain ⟨h1,h2⟩:=ih vs (fun k hk'=>hk k (by simp [hk'])) p hp
    exact ⟨h1,by omega⟩
theorem tl_ge (l:Tg):l.length≤tl l:=by
 unfold tl wrTagL
 exact flatten_ge wrTag l fun p _=>by
  unfold wrTag
  rw [List.length_append]
  have:=wrV_pos 4 p.1
  unfold wrUv;omega
theorem againM (fs:Fs) (ks:List KT) (hw:wfF fs=true) (hk:ksOk ks=true) {bs:Bs} {m:MV} {r:Bs} (h:rdM fs ks bs=some (m,r)) (hb:bs.length≤32767) :
  rdM fs ks (wrM fs ks m)=some (nrmM ks m,[])∧(wrM fs ks m).length≤bs.length∧okF fs m.1∧GoodK ks m.2:=by
 simp only [rdM,Option.bind_eq_some_iff,Option.map_eq_some_iff] at h
 obtain ⟨⟨vs,b1⟩,h1,⟨s,b2⟩,h2,e⟩:=h
 cases e
 dsimp only at h2
 have g1:=rdF_some fs bs vs b1 h1 hb
 have g2:=wrF_rd fs bs vs b1 h1
 obtain ⟨k1,k2,k3⟩:=rdE_good h2 (by omega)
 simp only [ksOk,Bool.and_eq_true,decide_eq_true_eq,List.all_eq_true] at hk
 have hkey:∀ k∈ks,k.key<2^32:=fun k hk'=>(hk.2 k hk').2
 have hlen:(wrE ks s).length=(wrUv (ctK ks s)).length+szK ks s:=by
  unfold wrE szK ctK
  rw [List.length_append,List.length_append]
  have:=tl_append (enc ks s.1) s.2
  unfold tl at this ⊢
  omega
 have hsz:szK ks s≤32767:=by omega
 refine ⟨?_,by simp only [wrM,List.length_append];omega,g1.1,k1⟩
 unfold rdM wrM
 dsimp only
 rw [rdF_wrF fs vs _ hw g1.1]
 simp only [Option.bind_some]
 have he:=rdE_wrE ks hk.1 (fun k hk'=>⟨(hk.2 k hk').1,hkey k hk'⟩) (vs:=s.1) (acc:=s.2) (okK_length k1.okk) k1.okk k1.sorted k1.apart (fun p hp=>by
   rcases List.mem_append.1 hp with hp | hp
   ·obtain ⟨q1,q2⟩:=enc_small ks s.1 hkey p hp
    unfold szK at hsz
    exact ⟨q1,by omega⟩
   ·have:=k1.keys p hp
    exact ⟨this.1,by omega⟩) (by
   have q1:=tl_ge (enc ks s.1)
   have q2:=tl_ge s.2
   unfold szK at hsz
   rw [List.length_append];omega) []
 rw [List.append_nil] at he
 rw [he]
 rfl
theorem mono_rdM (fs:Fs) (ks:List KT):Mono (rdM fs ks):=by
 intro bs v r x h
 simp only [rdM,Option.bind_eq_some_iff,Option.map_eq_some_iff] at h ⊢
 obtain ⟨⟨vs,b1⟩,h1,⟨s,b2⟩,h2,e⟩:=h
 cases e
 exact ⟨(vs,b1++x),mono_rdF fs _ _ _ x h1,(s,b2++x),mono_rdE ks _ _ _ x h2,rfl⟩
end Go.Km
namespace Go.Kb
open Go.Lx Go.Nx Go.Km Go.Mx
set_option linter.unusedSimpArgs false
set_option linter.unusedVariables false
section
variable {P:Program}
def SetAt (P:Program) (f:FuncId):Prop:=
 ∀ (ok:Nat→Prop) (w:World) (b o:Nat) (cs:List Value) (v:Value) (k:Nat) (bs:Bs) (val:Value) (l:Tg) (K:Value→World→Prop),Row w b cs→cs[o]?=some v→RepT (fun r=>¬ ok r∧r≠b) ok w l v→Sl ok w val bs→¬ ok b →
  (∀ v' w' r es,v' = .map (some r)→(v = .map none→w.heap.size≤r)→(∀ q,v = .map (some q)→r=q)→Keep [b,r] w w'→Row w' b (cs.set o v')→r≠b→Ents (fun k=>ok k∧k≠r) w' r es (tagSet k bs l)→K (.tuple #[]) w') →
  In.wp P (.call f) [.pointer (some ⟨b,o,none⟩),.int .u32 (k:Int),val] w K
theorem put_one {cs:List Value} {o:Nat} {v:Value} (h:o<cs.length):put cs o [v]=cs.set o v:=by
 rw [List.set_eq_take_append_cons_drop,if_pos h]
 simp [put]
theorem set_at (hn:Named P) {I:J} {f:FuncId} (hf:fnP P f 3=some (p_set I)):SetAt P f:=by
 intro ok w b o cs v k bs val l K hrow hcell hrep hsl hb hk
 have ho:=(List.getElem?_eq_some_iff.1 hcell).1
 have adr:∀ (ζ:Nat→Value),ζ 0 = .pointer (some ⟨b,o,none⟩)→SV.val ζ (.q 0 0) = .pointer (some ⟨b,o,none⟩):=fun ζ h=>by simp [SV.val,h,add0]
 refine calls_of_np hn (vs:=[.pointer (some ⟨b,o,none⟩),.int .u32 (k:Int),val]) hf fun η hη => ?_
 have h0:η 0 = .pointer (some ⟨b,o,none⟩):=hη 0 (by simp)
 have h1:η 1 = .int .u32 (k:Int):=hη 1 (by simp)
 have h2:η 2=val:=hη 2 (by simp)
 have last:∀ (η':Nat→Value) (w1:World) (r:Nat) (es:Array MapEntry) (ok1:Nat→Prop),η' 0 = .pointer (some ⟨b,o,none⟩)→η' 1 = .int .u32 (k:Int)→η' 2=val→Row w1 b (cs.set o (.map (some r)))→Ents ok1 w1 r es l→¬ ok1 r→Sl ok1 w1 val bs→r≠b→(∀ q,ok1 q→ok q∧q≠r) →
   (v = .map none→w.heap.size≤r)→(∀ q,v = .map (some q)→r=q)→Keep [b,r] w w1 →
   (NP.op .load [.q 0 0] 7 <| .op .mapSet [.s 7,.s 1,.s 2] 8 .nil).wp P (postP (p_set I).ks K) η' w1:=by
  intro η' w1 r es ok1 e0 e1 e2 hr1 hents hno hsl1 hrb hok1 hn1 hn2 hkp
  refine np_op (vs:=[.pointer (some ⟨b,o,none⟩)]) (by simp only [List.map,adr η' e0]) (wp_load hr1 (v := .map (some r)) (by rw [List.getElem?_set_self ho]) ?_)
  obtain ⟨es',g1,g2⟩:=hents.set k bs hsl1 hno
  refine np_op (vs:=[.map (some r),.int .u32 (k:Int),val]) (by simp [SV.val,upd,e1,e2]) ⟨r,es,es.size,.u32,_,_,rfl,hents.at',hents.keys,?_⟩
  rw [g1]
  refine ⟨rfl,?_⟩
  have kk:=setO_keep w1 r (.map es' es'.size)
  refine hk (.map (some r)) _ r es' rfl hn1 hn2 (hkp.trans kk fun x hx hlt=>by simp only [List.mem_singleton] at hx;subst hx;simp) (hr1.keep kk (by simpa using Ne.symm hrb)) hrb ?_
  exact g2.weak fun q _ hq=>hok1 q hq
 refine ⟨⟨_,h0⟩,?_⟩
 refine np_op (vs:=[.pointer (some ⟨b,o,none⟩)]) (by simp only [List.map,adr η h0]) (wp_load hrow hcell ?_)
 rcases hrep with ⟨rfl,rfl⟩ | ⟨r,es,rfl,⟨hrok,hrb⟩,hents⟩
 ·refine np_op (vs:=[.map none]) (by simp [SV.val,upd]) ⟨_,true,rfl,rfl,?_⟩
  refine np_ite true (by simp [SV.val,upd]) ?_
  simp only [if_true]
  refine np_op (vs:=[]) rfl ?_
  show NP.wp P _ _ _ _
  have hal:(w.alloc (.map #[] 0)).heap[w.heap.size]?=some (.map #[] 0):=heap_alloc_new w _
  have k1:Keep [] w (w.alloc (.map #[] 0)):=⟨rfl,rfl,rfl,by simp,fun q hq _=>heap_alloc_old w _ q hq⟩
  have hrow1:=hrow.keep k1 (by simp)
  have hbl:=hrow.lt
  refine np_op (vs:=[.pointer (some ⟨b,o,none⟩),.map (some w.heap.size)]) (by simp only [List.map,adr _ (show upd (upd (upd η 3 _) 4 _) 5 _ 0=_ by simp [upd,h0])];simp [SV.val,upd]) (wp_store hrow1 (Fit.one rfl rfl) (by omega) fun w2 r2 k2 => ?_)
  have r2':Row w2 b (cs.set o (.map (some w.heap.size))):=by
   have e:put cs o (Value.map (some w.heap.size)).cells.toList=cs.set o (.map (some w.heap.size)):=put_one ho
   rw [e] at r2;exact r2
  have hm2:w2.heap[w.heap.size]?=some (.map #[] 0):=by
   rw [k2.block w.heap.size (by simp) (by simp only [List.mem_singleton];omega)];exact hal
  have hkw:Keep [b] w w2:=(k1.mono fun x hx=>by simp at hx).then k2
  refine last _ w2 w.heap.size #[] (fun q=>ok q∧q≠w.heap.size) (by simp [upd,h0]) (by simp [upd,h1]) (by simp [upd,h2]) r2' (ents_new _ _ _ hm2) (fun h=>h.2 rfl) ?_ (by omega) (fun q h=>h) (fun _=>Nat.le_refl _) (fun q h=>by cases h) (hkw.mono fun x hx _=>by simp only [List.mem_singleton] at hx;simp [hx])
  exact (Sl.weak hsl (fun q hq hoq=>(⟨hoq,by omega⟩:ok q∧q≠w.heap.size))).same (hkw.same fun x hx h=>by simp only [List.mem_singleton] at hx;subst hx;exact hb h.1)
 ·refine np_op (vs:=[.map (some r)]) (by simp [SV.val,upd]) ⟨_,false,rfl,rfl,?_⟩
  refine np_ite false (by simp [SV.val,upd]) ?_
  simp only [Bool.false_eq_true,if_false]
  have hcs:cs.set o (.map (some r))=cs:=by
   apply List.ext_getElem?
   intro j
   rw [List.getElem?_set]
   split
   ·rename_i hj;subst hj;simp [hcell]
   ·rfl
  exact last _ w r es ok (by simp [upd,h0]) (by simp [upd,h1]) (by simp [upd,h2]) (by rw [hcs];exact hrow) hents hrok hsl hrb (fun q hq=>⟨hq,fun e=>hrok (e ▸ hq)⟩) (fun h=>by cases h) (fun q h=>by cases h;rfl) (Keep.refl _ _)
end
end Go.Kb
namespace Go.Mr
open Go.Lx Go.Nx Go.Km Go.Mx Go.Kb
open Go.CX (T deep)
set_option linter.unusedSimpArgs false
set_option linter.unusedVariables false
def notR:AV→Bool
 | .k _=>true
 | .o j _=>j != 0
def filtT:T AV→T AV
 | .nil => .nil
 | .node l v r => .node (filtT l) (match v with | some a=>if notR a then some a else none | none=>none) (filtT r)
theorem filtT_get:∀ (d:Nat) (t:T AV) (n:Nat) (a:AV),(filtT t).get d n=some a→t.get d n=some a∧notR a=true:=by
 intro d
 induction d with
 | zero=>intro t n a h;simp [CX.T.get] at h
 | succ d ih=>
  intro t n a h
  cases t with
  | nil=>simp [filtT,CX.T.get] at h
  | node l v r=>
   cases n with
   | zero=>
    simp only [filtT,CX.T.get] at h ⊢
    cases v with
    | none=>simp at h
    | some b=>
     dsimp only at h
     split at h
     ·rename_i hb;cases h;exact ⟨rfl,hb⟩
     ·cases h
   | succ m=>
    simp only [filtT,CX.T.get] at h ⊢
    split at h
    ·rename_i hm;rw [if_pos hm];exact ih l _ a h
    ·rename_i hm;rw [if_neg hm];exact ih r _ a h
theorem EnvOk.other {E:T AV} {c:Nat} {ρ η:Nat→Value} (h:EnvOk E c ρ η) (v:Value):EnvOk (filtT E) c (upd ρ 0 v) η:=by
 refine ⟨fun n a hn => ?_⟩
 obtain ⟨h1,h2⟩:=filtT_get _ _ _ _ hn
 obtain ⟨g1,g2⟩:=h.get n a h1
 refine ⟨g1,?_⟩
 cases a with
 | k w=>exact g2
 | o j off=>
  simp only [notR,bne_iff_ne,ne_eq] at h2
  rw [g2]
  simp only [AV.val,upd]
  rw [if_neg h2]
end Go.Mr
namespace Go.Mr
open Go.Lx Go.Nx Go.Km Go.Mx Go.Kb
open Go.CX (T deep)
set_option linter.unusedSimpArgs false
set_option linter.unusedVariables false
structure KTab where
 uv:FuncId
 span:FuncId
 set:FuncId
structure KTabOk (P:Program) (U:KTab):Prop where
 uv:Reads P U.uv rdUv (natRep .u32) (· = .int .u32 0)
 span:Spans P U.span
 set:SetAt P U.set
def rdVal (bs:Bs):Option (Bs×Bs):=(rdUv bs).bind fun l=>cut l.1 l.2
def spanS (U:KTab):NP→St→Option (NP×St×Nat)
 | .op (.call fu) [x] n1 (.op (.cv .i64) [.s n2] n3 (.op (.call fs) [y,.s n4] n5 k)),st=>
  if fu=U.uv∧fs=U.span∧n1=n2∧n3=n4∧isO st.env x 0 0=true∧isO ((st.env.set deep n1 none).set deep n3 none) y 0 0=true then
   some (k,{ st with env:=((st.env.set deep n1 none).set deep n3 none).set deep n5 none },n5)
  else none
 | _,_=>none
section
variable {P:Program} {g:Nat}
theorem spanS_ok {U:KTab} (hU:KTabOk P U) {q q':NP} {st st':St} {n:Nat} (h:spanS U q st=some (q',st',n)):(∃ E,st'={ st with env:=E }) ∧
  ∀ {ok:Nat→Prop} {R S base:Nat} {cs:List Value} {nn:Bool} {sb:Option Bs} {ρ η:Nat→Value} {w:World} {err:Value} {Q:Post},Pre g st ok R S base cs nn sb ρ η w err →
   (∀ nn' η' w' v,Keep [R] w w'→η' n=v→(match sb.bind rdVal with
    | some (b,r)=>Sl ok w' v b∧Pre g st' ok R S base cs nn' (some r) ρ η' w' err
    | none=>v = .slice none 0 0∧Pre g st' ok R S base cs nn' none ρ η' w' err)→q'.wp P Q η' w')→q.wp P Q η w:=by
 unfold spanS at h
 split at h
 case h_2=>cases h
 rename_i fu x n1 n2 n3 fs y n4 n5 k
 split at h
 case isFalse=>cases h
 rename_i hc
 obtain ⟨rfl,rfl,rfl,rfl,hx,hy⟩:=hc
 cases h
 refine ⟨⟨_,rfl⟩,?_⟩
 intro ok R S base cs nn sb ρ η w err Q hp hk
 obtain ⟨_,hxv⟩:=isO_val hp.env hx
 rw [hp.r0,addOff_ptr] at hxv
 refine np_op (vs:=[ptr R]) (by simp [hxv]) (hU.uv ok w R nn sb _ hp.he hp.rd fun v w1 k1 hend => ?_)
 have hz:∃ (l:Nat) (z:Option Bs) (nn1:Bool),v = .int .u32 (l:Int)∧l<4294967296∧Rd ok w1 R nn1 z∧sb.bind rdVal=z.bind (cut l):=by
  have e:sb.bind rdVal=(sb.bind rdUv).bind fun p=>cut p.1 p.2:=by cases sb<;>rfl
  rw [e]
  unfold ReadEnd at hend
  cases hs':sb.bind rdUv with
  | none=>
   rw [hs'] at hend
   exact ⟨0,none,_,hend.2,by decide,hend.1,rfl⟩
  | some p=>
   obtain ⟨l,r⟩:=p
   rw [hs'] at hend
   refine ⟨l,some r,_,hend.2,?_,hend.1,rfl⟩
   cases sb with
   | none=>cases hs'
   | some bs=>exact (rdUv_some hs').1
 obtain ⟨l,z,nn1,rfl,hl,hrd1,hlink⟩:=hz
 have hw:IntKind.i64.wrap (l:Int)=(l:Int):=by
  simp only [IntKind.wrap,IntKind.bits,IntKind.signed]
  simp
  omega
 refine np_op (vs:=[.int .u32 (l:Int)]) (by simp [SV.val,upd]) ⟨.u32,l,rfl,?_⟩
 rw [hw]
 have he1:=(hp.env.clear (n:=n1) (v := .int .u32 (l:Int))).clear (n:=n3) (v := .int .i64 (l:Int))
 obtain ⟨_,hyv⟩:=isO_val he1 hy
 rw [hp.r0,addOff_ptr] at hyv
 refine np_op (vs:=[ptr R,.int .i64 (l:Int)]) (by simp only [List.map,hyv];simp [SV.val,upd]) (hU.span ok w1 R nn1 z (l:Int) _ (hp.he.keep k1) hrd1 fun v w2 k2 hend2 => ?_)
 have kk:=k1.then k2
 have he2:=he1.clear (n:=n) (v:=v)
 have mk:∀ nn' t,Rd ok w2 R nn' t→Pre g { st with env:=((st.env.set deep n1 none).set deep n3 none).set deep n none } ok R S base cs nn' t ρ (upd (upd (upd η n1 (.int .u32 (l:Int))) n3 (.int .i64 (l:Int))) n v) w2 err:=fun nn' t hr=>
  ⟨he2,⟨hp.cur.ptr,hp.cur.row.keep kk (by simp only [List.mem_singleton];exact hp.SR),hp.cur.len,hp.cur.known⟩,hp.he.keep kk,hp.nS,hp.SR,hr,hp.r0,cell_keep hp.err kk (by simp only [List.mem_singleton];exact hp.gR),hp.gR,hp.gS,hp.nj⟩
 have hcut:z.bind (rdSpan (l:Int))=z.bind (cut l):=by
  cases z with
  | none=>rfl
  | some bs=>simp only [Option.bind_some,rdSpan];rw [if_pos (by omega),Int.toNat_natCast]
 unfold SpanEnd at hend2
 rw [hcut] at hend2
 cases hs2:z.bind (cut l) with
 | none=>
  rw [hs2] at hend2
  refine hk false _ w2 v kk (by simp [upd]) ?_
  rw [hlink,hs2]
  exact ⟨hend2.2,mk false none hend2.1⟩
 | some p=>
  obtain ⟨b,r⟩:=p
  rw [hs2] at hend2
  refine hk nn1 _ w2 v kk (by simp [upd]) ?_
  rw [hlink,hs2]
  exact ⟨hend2.2.1,mk nn1 (some r) hend2.1⟩
end
end Go.Mr
namespace Go.Mr
open Go.Lx Go.Nx Go.Km Go.Mx Go.Kb
open Go.CX (T deep)
set_option linter.unusedSimpArgs false
set_option linter.unusedVariables false
def endS (T:Tab) (q:NP) (st:St):Bool:=
 let r:=runS KF q st
 match r.1 with
 | .op (.call fc) [y] m1 (.op (.isNil 2 true) [.s m2] m3 (.ite (.s m4) (.ret [.s m5]) .nil .nil))=>fc == T.compl && (m1 == m2 && (m3 == m4 && (m1 == m5 && (m1 != m3 && isO r.2.env y 0 0))))
 | _=>false
def inSt2 (st:St) (b c m:Nat) (cells:List (Option Value)):St:=
 { env:=(filtT (((st.env.set deep b none).set deep c none).set deep m none)).set deep c (some (.o 0 0)),nj:=st.nj,sj:=st.sj,cells:=cells }
def knownS (T:Tab) (U:KTab) (k:KT) (cells:List (Option Value)) (p:NP) (st:St):Bool:=
 match spanS U p st with
 | some (.op (.lit [.slice none 0 0,.bool false] [0]) [.s a] b (.op (.alloc [.slice none 0 0,.bool false]) [] c (.chk d (.op (.store 2) [.q e 0,.s f] m body))),st1,n)=>
  if a=n∧c=d∧c=e∧b=f∧b≠c∧m≠c∧cells.length≤st.cells.length∧k.off+wS k.sh=cells.length∧(rd k.sh []).isNone=true then
   match chkS T k.sh k.off body (inSt2 st1 b c m cells) with
   | some (q,st')=>endS T q st'
   | none=>false
  else false
 | _=>false
section
variable {P:Program} {g:Nat}
def rdKn (k:KT) (bs:Bs):Option (Val×Bs):=(rdVal bs).bind fun p=>(rd k.sh p.1).map fun x=>(x.1,p.2)
theorem known_ok {T:Tab} (hT:TabOk P T g) {U:KTab} (hU:KTabOk P U) {k:KT} {cells:List (Option Value)} {p:NP} {st:St} (h:knownS T U k cells p st=true)
  {ok:Nat→Prop} {R S base:Nat} {cs:List Value} {nn:Bool} {sb:Option Bs} {ρ η:Nat→Value} {w:World} {et:TypeId} {ev:Value} {Q:Post} (hp:Pre g st ok R S base cs nn sb ρ η w (.iface et ev)) (hsj:st.sj≠0)
  (hkn:∀ (j:Nat) (v:Value),cells[j]?=some (some v)→cs[base+j]?=some v)
  (hbad:sb.bind (rdKn k)=none→∀ η' w',Keep [R,S] w w'→Q (.ret [.iface et ev]) η' w')
  (hgood:∀ x rest nn' η' w' cs',sb.bind (rdKn k)=some (x,rest)→Keep [R,S] w w'→Row w' S cs'→cs'.length=cs.length→(∀ j,j<base+k.off∨base+k.off+wS k.sh≤j→cs'[j]?=cs[j]?)→Rd ok w' R nn' (some rest)→RepS ok w' k.sh x (cs'.drop (base+k.off))→Q .nrm η' w'):p.wp P Q η w:=by
 unfold knownS at h
 split at h
 case h_2=>cases h
 rename_i a b c d e f m body st1 n hs
 split at h
 case isFalse=>cases h
 rename_i hc
 obtain ⟨rfl,rfl,rfl,rfl,hbc,hmc,hcl,hext,hnone⟩:=hc
 split at h
 case h_2=>cases h
 rename_i q st' hchk
 obtain ⟨⟨E1,e1⟩,o1⟩:=spanS_ok (g:=g) hU hs
 refine o1 hp fun nn1 η1 w1 v k1 hv hm => ?_
 obtain ⟨b0,t,hsl,hp1,hstep⟩:∃ (b0:Bs) (t:Option Bs),Sl ok w1 v b0∧Pre g st1 ok R S base cs nn1 t ρ η1 w1 (.iface et ev)∧((t=none∧b0=[]∧sb.bind rdVal=none)∨∃ r,t=some r∧sb.bind rdVal=some (b0,r)):=by
  split at hm
  ·rename_i b0 r hr
   exact ⟨b0,some r,hm.1,hm.2,.inr ⟨r,rfl,hr⟩⟩
  ·rename_i hr
   exact ⟨[],none,.inl ⟨hm.1,rfl⟩,hm.2,.inl ⟨rfl,rfl,hr⟩⟩
 have hone:=sl_one hsl
 refine np_op (vs:=[v]) (by simp [SV.val,hv]) ⟨rfl,fun u hu=>by rw [List.mem_singleton.1 hu];exact hone,?_⟩
 refine np_op (vs:=[]) rfl (wp_alloc fun R2 w2 r2 hR2 k2 => ?_)
 refine ⟨⟨_,by simp only [upd];rfl⟩,?_⟩
 have hput2:putAll [.slice none 0 0,.bool false] ([0].zip [v])=[v,.bool false]:=rfl
 rw [hput2]
 have hf2:Fit 2 (.agg ([v,.bool false]:List Value).toArray):=by
  refine ⟨rfl,?_⟩
  rcases hsl with ⟨rfl,_⟩ | ⟨a,c,rfl,_⟩<;>simp [Value.cells,Value.oneCell']
 refine np_op (vs:=[ptr R2,.agg ([v,.bool false]:List Value).toArray]) (by simp [SV.val,upd,hbc,Addr.add]) (wp_store r2 hf2 (by simp) fun w3 r3 k3 => ?_)
 have hrR:Row w3 R2 [v,.bool false]:=by simpa [put,Value.cells] using r3
 have hRw:R<w1.heap.size:=rd_lt hp1.rd
 have hSw:S<w1.heap.size:=hp1.cur.row.lt
 have hgw:g<w1.heap.size:=cell_lt hp1.err
 have k13:Keep [] w1 w3:=k2.trans k3 fun x hx hlt=>by simp only [List.mem_singleton] at hx;omega
 let ok2:Nat→Prop:=fun x=>ok x∧x≠R2
 have hnR2:¬ ok2 R2:=fun h=>h.2 rfl
 generalize hη3:upd (upd (upd η1 b (.agg ([v,.bool false]:List Value).toArray)) c (.pointer (some ⟨R2,0,none⟩))) m undef=η3
 have eR:η3 c=ptr R2:=by rw [← hη3];simp [upd,Ne.symm hmc]
 have henv:EnvOk (inSt2 st1 b c m cells).env st1.nj (upd ρ 0 (ptr R2)) η3:=by
  have h0:=(((hp1.env.clear (n:=b) (v := .agg ([v,.bool false]:List Value).toArray)).clear (n:=c) (v := .pointer (some ⟨R2,0,none⟩))).clear (n:=m) (v:=undef))
  rw [hη3] at h0
  exact (h0.other (ptr R2)).know (n:=c) (a := .o 0 0) hp1.nj.1 (by simp only [AV.val,addOff_zero,upd,if_true];exact eR)
 have hsj1:st1.sj=st.sj:=by rw [e1]
 have hnj1:st1.nj=st.nj:=by rw [e1]
 have hcl1:st1.cells=st.cells:=by rw [e1]
 have hpI:Pre g (inSt2 st1 b c m cells) ok2 R2 S base cs false (some b0) (upd ρ 0 (ptr R2)) η3 w3 (.iface et ev):=by
  refine ⟨henv,⟨?_,hp1.cur.row.keep k13 (by simp),?_,hkn⟩,⟨fun x hx=>⟨hp1.he.new x (Nat.le_trans k13.size hx),by have:=hrR.lt;omega⟩,hnR2⟩,fun h=>hp1.nS h.1,by omega,?_,by simp [upd],cell_keep hp1.err k13 (by simp),by omega,hp1.gS,hp1.nj⟩
  ·show upd ρ 0 (ptr R2) st1.sj=_
   rw [hsj1]
   simp only [upd]
   rw [if_neg hsj]
   have:=hp1.cur.ptr
   rw [hsj1] at this
   exact this
  ·have:=hp1.cur.len
   rw [hcl1] at this
   show base+cells.length≤cs.length
   omega
  ·refine ⟨v,hrR,?_,fun h=>by cases h⟩
   exact ((hsl.weak fun x hx ho=>(⟨ho,by omega⟩:ok2 x)).same (k13.same fun x hx=>by cases hx))
 have F:=chkS_ok hT k.sh k.off body q _ st' hchk
 have kOut:∀ w',Keep [R2,S] w3 w'→Keep [R,S] w w':=fun w' kw=>((k1.mono (A':=[R,S]) fun x hx _=>by simp at hx ⊢;exact .inl hx).then (k13.mono fun x hx _=>by cases hx)).trans kw fun x hx hlt=>by
  simp only [List.mem_cons,List.not_mem_nil,or_false] at hx ⊢
  rcases hx with rfl | rfl
  ·have:=k1.size;omega
  ·exact .inr rfl
 have hres:sb.bind (rdKn k)=(sb.bind rdVal).bind fun p=>(rd k.sh p.1).map fun x=>(x.1,p.2):=by cases sb<;>rfl
 have hfail:(some b0).bind (rd k.sh)=none→sb.bind (rdKn k)=none:=fun hb=>by
  rw [hres]
  rcases hstep with ⟨_,_,h2⟩ | ⟨r,_,h2⟩
  ·rw [h2];rfl
  ·rw [h2];simp only [Option.bind_some] at hb ⊢;rw [hb];rfl
 refine F.2 ok2 R2 S base cs false (some b0) _ η3 w3 _ _ hpI (fun hb η' w' kw=>hbad (hfail hb) η' w' (kOut w' kw)) fun ρ' η' w' cs' hnx he => ?_
 unfold FEnd at he
 obtain ⟨nn2,t2,hrd2,ht2⟩:∃ nn2 t2,Rd ok2 w' R2 nn2 t2∧t2=((some b0).bind (rd k.sh)).map (·.2):=by
  cases hd:(some b0).bind (rd k.sh) with
  | none=>rw [hd] at he;exact ⟨false,none,he,rfl⟩
  | some y=>obtain ⟨y,r⟩:=y;rw [hd] at he;obtain ⟨⟨nn',hh⟩,_⟩:=he;exact ⟨nn',some r,hh,rfl⟩
 have hp2:=hpI.next hnx F.1 hrd2
 unfold endS at h
 dsimp only at h
 refine run_pre (f:=KF) hp2 fun η4 hp4 => ?_
 split at h
 case h_2=>cases h
 rename_i fc y m1 m2 m3 m4 m5 hq
 rw [hq]
 simp only [Bool.and_eq_true,beq_iff_eq,bne_iff_ne,ne_eq] at h
 obtain ⟨rfl,rfl,rfl,rfl,hm13,hy⟩:=h
 obtain ⟨_,hyv⟩:=isO_val hp4.env hy
 rw [hp4.r0,addOff_ptr] at hyv
 refine np_op (vs:=[ptr R2]) (by simp [hyv]) (hT.compl ok2 w' R2 nn2 t2 _ _ hp4.rd hp4.err ?_)
 cases hd:(some b0).bind (rd k.sh) with
 | none=>
  rw [hd] at ht2
  subst ht2
  simp only [Option.map_none,Option.isSome_none,Bool.false_eq_true,if_false]
  refine np_op (vs:=[.iface et ev]) (by simp [SV.val,upd]) ⟨_,false,rfl,rfl,?_⟩
  refine np_ite true (by simp [SV.val,upd]) ?_
  simp only [if_true]
  have:=hbad (hfail hd) (upd (upd η4 m1 (.iface et ev)) m3 (.bool (false != true))) w' (kOut w' hnx.keep)
  show Q _ _ _
  simpa [SV.val,upd,hm13] using this
 | some z=>
  obtain ⟨x,rest'⟩:=z
  rw [hd] at ht2 he
  subst ht2
  simp only [Option.map_some,Option.isSome_some,if_true]
  refine np_op (vs:=[.nilIface]) (by simp [SV.val,upd]) ⟨_,true,rfl,rfl,?_⟩
  refine np_ite false (by simp [SV.val,upd]) ?_
  simp only [Bool.false_eq_true,if_false]
  rcases hstep with ⟨h1,h2,h3⟩ | ⟨r,rfl,h3⟩
  ·subst h2
   simp only [Option.bind_some] at hd
   rw [hd] at hnone
   cases hnone
  ·have hOk:sb.bind (rdKn k)=some (x,r):=by
    rw [hres,h3]
    simp only [Option.bind_some] at hd ⊢
    rw [hd];rfl
   have hA:∀ y∈[R2,S],¬ ok2 y:=fun y hy=>by
    simp only [List.mem_cons,List.not_mem_nil,or_false] at hy
    rcases hy with rfl | rfl
    ·exact hnR2
    ·exact fun hh=>hp1.nS hh.1
   have hRd:Rd ok w' R nn1 (some r):=by
    have q1:=(hp1.rd.weak (ok':=ok2) fun y hy ho=>⟨ho,by omega⟩).keep k13 (by simp) (by simp)
    exact (q1.keep hnx.keep (by simp only [List.mem_cons,List.not_mem_nil,or_false,not_or];exact ⟨by omega,fun e=>hp1.SR e.symm⟩) hA).weak fun y _ hy=>hy.1
   show Q .nrm _ _
   refine hgood x r nn1 _ w' cs' hOk (kOut w' hnx.keep) hnx.cur.row hnx.len (fun j hj => ?_) hRd ?_
   ·rcases hj with hj | hj
    ·exact hnx.low j hj
    ·exact hnx.high j (by show base+cells.length≤j;omega)
   ·have:=RepS.weak (fun y _ hy=>hy.1) k.sh x _ he.2
    rw [List.drop_drop] at this
    exact this
end
end Go.Mr
namespace Go.Mr
open Go.Lx Go.Nx Go.Km Go.Mx Go.Kb
open Go.CX (T deep)
set_option linter.unusedSimpArgs false
set_option linter.unusedVariables false
def OldSl (w:World) (sz:Nat) (A:Option Nat) (u:Value):Prop:=
 (A=none∧u = .slice none 0 0)∨∃ A0 n c acs,A=some A0∧u = .slice (some ⟨A0,0,none⟩) n c∧n≤c∧Row w A0 acs∧acs.length=c*sz
def Arr2 (ok:Nat→Prop) (w:World) (sz:Nat) (e:Sh) (vs:List Val) (A:Option Nat) (u:Value):Prop:=
 (A=none∧u = .slice none 0 0∧vs=[])∨∃ A0 c acs,A=some A0∧u = .slice (some ⟨A0,0,none⟩) vs.length c∧vs.length≤c∧Row w A0 acs∧acs.length=c*sz∧∀ i (h:i<vs.length),RepS ok w e vs[i] (acs.drop (i*sz))
theorem Arr2.old {ok:Nat→Prop} {w:World} {sz:Nat} {e:Sh} {vs:List Val} {A:Option Nat} {u:Value} (h:Arr2 ok w sz e vs A u):OldSl w sz A u:=by
 rcases h with ⟨h1,h2,_⟩ | ⟨A0,c,acs,h1,h2,h3,h4,h5,_⟩
 ·exact .inl ⟨h1,h2⟩
 ·exact .inr ⟨A0,_,c,acs,h1,h2,h3,h4,h5⟩
theorem OldSl.keep {w w':World} {sz:Nat} {A:Option Nat} {u:Value} {l:List Nat} (h:OldSl w sz A u) (k:Keep l w w') (hl:∀ a,A=some a→a∉l):OldSl w' sz A u:=by
 rcases h with h | ⟨A0,n,c,acs,h1,h2,h3,h4,h5⟩
 ·exact .inl h
 ·exact .inr ⟨A0,n,c,acs,h1,h2,h3,h4.keep k (hl _ h1),h5⟩
def arr2At (T:Tab) (el:Nat→List Value→Nat→NP→St→Option (NP×St)) (c:Bool) (sz we off:Nat) (q:NP) (st:St):Option (NP×St):=
 let r0:=runS KF q st
 (ldAt 1 off r0.1 r0.2).bind fun ra=>
 let r1:=runS KF ra.1 ra.2.1
 (rdCnt T c r1.1 r1.2).bind fun r2=>
 let r3:=runS KF r2.1 r2.2.1
 (okStep T r3.1 r3.2).bind fun r4=>
 let r5:=runS KF r4.1 r4.2
 (slS ra.2.2 r5.1 r5.2).bind fun r6=>
 let r7:=runS KF r6.1 r6.2
 (growN r2.2.2 r5.2.nj r7.1 r7.2).bind fun r8=>
 if r8.2.2.length=sz∧we≤sz then
  let r9:=runS KF r8.1 r8.2.1
  (loopS (el r7.2.nj r8.2.2) r2.2.2 r9.1 r9.2).bind fun r10=>storeAt r7.2.nj off r10.1 r10.2
 else none
section
variable {P:Program} {g:Nat}
theorem slS_okG {js:Nat} {q q':NP} {st st':St} (h:slS js q st=some (q',st')):(∃ E,st'={ st with env:=E,nj:=st.nj+1 }) ∧
  ∀ {ok:Nat→Prop} {R S base:Nat} {cs:List Value} {nn:Bool} {sb:Option Bs} {ρ η:Nat→Value} {w:World} {err:Value} {a:Option Addr} {n c:Nat} {Q:Post},Pre g st ok R S base cs nn sb ρ η w err→ρ js = .slice a n c →
   (∀ η',Pre g st' ok R S base cs nn sb (upd ρ st.nj (.slice a 0 c)) η' w err→q'.wp P Q η' w)→q.wp P Q η w:=by
 unfold slS at h
 split at h
 case h_2=>cases h
 rename_i sz y kk n k
 split at h
 case isFalse=>cases h
 rename_i hy
 cases h
 refine ⟨⟨_,rfl⟩,fun {ok R S base cs nn sb ρ η w err a n0 c Q} hp hl hk => ?_⟩
 obtain ⟨_,hyv⟩:=isO_val hp.env hy
 rw [addOff_zero,hl] at hyv
 refine np_op (vs:=[.slice a n0 c,.int kk 0]) (by simp only [List.map,hyv];rfl) ⟨a,n0,c,[.int kk 0],rfl,?_⟩
 simp only [bnd,Bool.false_eq_true,if_false,if_true]
 refine ⟨kk,0,[],rfl,rfl,Nat.le_refl _,Nat.zero_le _,Nat.le_refl _,?_⟩
 have e:(if c=0 then a else a.map fun x=>x.add (0*sz))=a:=by
  split
  ·rfl
  ·cases a with
   | none=>rfl
   | some a=>simp [Addr.add]
 rw [e]
 simp only [Nat.sub_self,Nat.sub_zero]
 exact hk _ (hp.more (Keep.refl _ _) (hp.env.fresh n _))
def GrownO (w w':World) (z:List Value) (n:Int) (A:Option Nat) (a:Option Addr) (c:Nat) (u:Value):Prop:=
 (n≤0∧u = .slice a 0 c∧w'=w) ∨
 (∃ A0 acs,0<n∧A=some A0∧u = .slice (some ⟨A0,0,none⟩) n.toNat c∧n.toNat≤c∧Row w' A0 acs∧acs.length=c*z.length∧(∀ j,j<n.toNat→(acs.drop (j*z.length)).take z.length=z)∧Keep [A0] w w') ∨
 ∃ B cap,0<n∧w.heap.size≤B∧u = .slice (some ⟨B,0,none⟩) n.toNat cap∧n.toNat≤cap∧Row w' B (List.replicate cap z).flatten∧Keep [] w w'
theorem growN_okO {jl js:Nat} {q q':NP} {st st':St} {z:List Value} (h:growN jl js q st=some (q',st',z)):(∃ E,st'={ st with env:=E,nj:=st.nj+1 }) ∧
  ∀ {ρ η:Nat→Value} {w:World} {n:Int} {A:Option Nat} {a:Option Addr} {n0 c:Nat} {Q:Post},EnvOk st.env st.nj ρ η→ρ jl = .int .i32 n→n<2147483648→ρ js = .slice a 0 c→OldSl w z.length A (.slice a n0 c) →
   (∀ u η' w',GrownO w w' z n A a c u→EnvOk st'.env (st.nj+1) (upd ρ st.nj u) η'→q'.wp P Q η' w')→q.wp P Q η w:=by
 unfold growN at h
 split at h
 case h_2=>cases h
 rename_i x n1 n2 z a y n3 n4 n5 n6 a' k
 split at h
 case isFalse=>cases h
 rename_i hc
 obtain ⟨rfl,rfl,rfl,hx,hy,ha,ha'⟩:=hc
 cases h
 refine ⟨⟨_,rfl⟩,fun {ρ η w n A aa n0 c Q} he hl hn hjs hold hk => ?_⟩
 obtain ⟨_,hxv⟩:=isO_val he hx
 rw [addOff_zero,hl] at hxv
 refine np_op (vs:=[.int .i32 n,.int .i32 0]) (by simp only [List.map,hxv];rfl) ⟨.i32,n,0,.bool (decide (n > 0)),rfl,rfl,?_⟩
 have he1:=he.clear (n:=n1) (v := .bool (decide (n > 0)))
 refine np_ite (decide (n > 0)) (by simp [SV.val,upd]) ?_
 by_cases hpos:n > 0
 ·rw [if_pos (by simpa using hpos)]
  obtain ⟨_,hyv⟩:=isO_val he1 hy
  rw [addOff_zero,hl] at hyv
  obtain ⟨_,hav⟩:=isO_val he1 ha
  rw [addOff_zero,hjs] at hav
  have hnn:(n.toNat:Int)=n:=by omega
  have kd:Keep [] w w.drew:=⟨rfl,rfl,rfl,Nat.le_refl _,fun _ _ _=>rfl⟩
  have fresh:∀ cap (e:TypeId),n.toNat≤cap→NP.wp P (.set n4 (.s n3) .nil) (thenN P q' Q) (upd (upd η n1 (.bool (decide (n > 0)))) n3 (.slice (some ⟨w.heap.size,0,none⟩) n.toNat cap)) (w.drew.alloc (.cells (List.replicate cap z).flatten.toArray e)):=fun cap e hcap=>by
   have hr:=(alloc_row (w:=w.drew) (List.replicate cap z).flatten e)
   refine hk (.slice (some ⟨w.heap.size,0,none⟩) n.toNat cap) _ _ (.inr (.inr ⟨w.heap.size,cap,hpos,Nat.le_refl _,rfl,hcap,hr.1,kd.then hr.2⟩)) ?_
   have:=(he1.clear (n:=n3) (v := .slice (some ⟨w.heap.size,0,none⟩) n.toNat cap)).fresh n4 (.slice (some ⟨w.heap.size,0,none⟩) n.toNat cap)
   simpa [St.new,SV.val,upd] using this
  rcases hold with ⟨h1,h2⟩ | ⟨A0,n0',c',acs,h1,h2,h3,h4,h5⟩
  ·cases h2
   refine np_op (vs:=[.slice none 0 0,.int .i32 n]) (by simp only [List.map,hyv,hav]) ⟨.i32,n.toNat,by omega,by omega,.inl ⟨by rw [hnn],fun cap e hcap => ?_⟩⟩
   exact fresh cap e hcap
  ·cases h2
   obtain ⟨e0,hrow⟩:=h4
   refine np_op (vs:=[.slice (some ⟨A0,0,none⟩) 0 c,.int .i32 n]) (by simp only [List.map,hyv,hav]) ⟨.i32,n.toNat,by omega,by omega,.inr ⟨by omega,A0,c,acs,e0,by rw [hnn],hrow,h5,fun hin => ?_,fun hgr cap e hcap => ?_⟩⟩
   ·have hsr:=setRow_row (w:=w) (ds:=(List.replicate n.toNat z).flatten++acs.drop (n.toNat*z.length)) ⟨e0,hrow⟩
    have hfl:((List.replicate n.toNat z).flatten).length=n.toNat*z.length:=by simp
    have hmul:=Nat.mul_le_mul_right z.length hin
    refine hk (.slice (some ⟨A0,0,none⟩) n.toNat c) _ _ (.inr (.inl ⟨A0,_,hpos,h1,rfl,hin,hsr.1,?_,fun j hj => ?_,hsr.2⟩)) ?_
    ·rw [List.length_append,hfl,List.length_drop,h5];omega
    ·have hj1:=Nat.mul_le_mul_right z.length (show j+1≤n.toNat from hj)
     rw [Nat.add_mul,Nat.one_mul] at hj1
     rw [List.drop_append_of_le_length (by omega),List.take_append_of_le_length (by rw [List.length_drop,hfl];omega)]
     exact rep_at n.toNat j hj
    ·have:=(he1.clear (n:=n3) (v := .slice (some ⟨A0,0,none⟩) n.toNat c)).fresh n4 (.slice (some ⟨A0,0,none⟩) n.toNat c)
     simpa [St.new,SV.val,upd] using this
   ·exact fresh cap e hcap
 ·rw [if_neg (by simpa using hpos)]
  obtain ⟨_,hav⟩:=isO_val he1 ha'
  rw [addOff_zero,hjs] at hav
  refine hk (.slice aa 0 c) _ w (.inl ⟨by omega,rfl,rfl⟩) ?_
  have:=(he1.forget n3).fresh n4 (.slice aa 0 c)
  simp only [hav]
  exact this
end
end Go.Mr
namespace Go.Mr
open Go.Lx Go.Nx Go.Km Go.Mx Go.Kb
open Go.CX (T deep)
set_option linter.unusedSimpArgs false
set_option linter.unusedVariables false
def A2End (ok:Nat→Prop) (w:World) (R:Nat) (sb:Option Bs) (c:Bool) (sz:Nat) (e:Sh) (cs:List Value) (o:Nat) (A:Option Nat):Prop:=
 match sb.bind (rd (.arr c sz e)) with
 | some (.l vs,rest)=>(∃ nn,Rd ok w R nn (some rest))∧∃ u,cs[o]?=some u∧Arr2 ok w sz e vs A u
 | some _=>False
 | none=>∃ nn,Rd ok w R nn none
section
variable {P:Program} {g:Nat}
theorem oldSl_slice {w:World} {sz:Nat} {A:Option Nat} {u:Value} (h:OldSl w sz A u):∃ a n c,u = .slice a n c∧(a=none→A=none∧n=0∧c=0)∧(∀ x,a=some x→∃ A0,A=some A0∧x=⟨A0,0,none⟩):=by
 rcases h with ⟨h1,h2⟩ | ⟨A0,n,c,acs,h1,h2,_⟩
 ·refine ⟨none,0,0,h2,fun _=>⟨h1,rfl,rfl⟩,fun x hx => ?_⟩
  cases hx
 ·refine ⟨some ⟨A0,0,none⟩,n,c,h2,fun hx => ?_,fun x hx => ?_⟩
  ·cases hx
  ·cases hx;exact ⟨A0,h1,rfl⟩
theorem arr2At_ok {T:Tab} (hT:TabOk P T g) {el:Nat→List Value→Nat→NP→St→Option (NP×St)} {c:Bool} {sz off:Nat} {e:Sh} {q q':NP} {st st':St}
  (hel:∀ ja z ji body s p' st',z.length=sz→s.sj<s.nj→el ja z ji body s=some (p',st')→Elm P g ja ji z (rd e) (fun ok w x cs=>RepS ok w e x cs) body p' s st')
  (h:arr2At T el c sz (wS e) off q st=some (q',st')):Stt st st' ∧
  ∀ (ok:Nat→Prop) (R S base:Nat) (cs:List Value) (nn:Bool) (sb:Option Bs) (ρ η:Nat→Value) (w:World) (err:Value) (Q:Post) (A:Option Nat) (u:Value),Pre g st ok R S base cs nn sb ρ η w err→cs[base+off]?=some u→OldSl w sz A u→(∀ a,A=some a→a≠R∧a≠S∧a≠g∧¬ ok a) →
   (sb.bind (rd (.arr c sz e))=none→∀ η' w',Keep (R::S::A.toList) w w'→Q (.ret [err]) η' w') →
   (∀ ρ' η' w' cs' ok' A',EnvOk st'.env st'.nj ρ' η'→(∀ j,j<st.nj→ρ' j=ρ j)→Keep (R::S::A.toList) w w'→Cur st' ρ' w' S base cs'→cs'.length=cs.length→(∀ j,j≠base+off→cs'[j]?=cs[j]?)→(∀ k,ok' k→ok k)→(∀ k,k<w.heap.size→ok k→ok' k)→Env ok' w' R →
    (A'=A∨∃ B,A'=some B∧w.heap.size≤B∧ok B)→(∀ a,A'=some a→¬ ok' a)→A2End ok' w' R sb c sz e cs' (base+off) A'→q'.wp P Q η' w')→q.wp P Q η w:=by
 unfold arr2At at h
 simp only [Option.bind_eq_some_iff] at h
 obtain ⟨⟨qa,sta,jo⟩,ha,⟨q2,st2,jl⟩,h2,⟨q4,st4⟩,h4,⟨qs,sts⟩,hs0,⟨q6,st6,z⟩,h6,h⟩:=h
 dsimp only at h2 h4 hs0 h6 h
 split at h
 case isFalse=>cases h
 rename_i hzs
 obtain ⟨rfl,hwe⟩:=hzs
 simp only [Option.bind_eq_some_iff] at h
 obtain ⟨⟨q8,st8⟩,h8,h9⟩:=h
 obtain ⟨⟨na,ea⟩,eja,hoffa,la⟩:=ldAt_ok (P:=P) ha
 obtain ⟨f,x,n,e1,hx,hf,e2,e3⟩:=rdCnt_some h2
 obtain ⟨⟨E4,e4⟩,o4⟩:=okStep_ok hT h4
 obtain ⟨⟨Es,es⟩,os⟩:=slS_okG (P:=P) (g:=g) hs0
 obtain ⟨⟨E6,e6⟩,o6⟩:=growN_okO (P:=P) h6
 have R0:=run_stt P (f:=KF) (p:=q) (st:=st)
 have R1:=run_stt P (f:=KF) (p:=qa) (st:=sta)
 have R3:=run_stt P (f:=KF) (p:=q2) (st:=st2)
 have R4:=run_stt P (f:=KF) (p:=q4) (st:=st4)
 have Rs:=run_stt P (f:=KF) (p:=qs) (st:=sts)
 have R7:=run_stt P (f:=KF) (p:=q6) (st:=st6)
 generalize hja0:(runS KF qs sts).2.nj=ja at *
 obtain ⟨t9,n9,o9⟩:=storeAt_ok (P:=P) (g:=g) (st:=st8) (q:=q8) h9
 obtain ⟨⟨E8,e8⟩,o8⟩:=loop_okG (P:=P) (g:=g) (ja:=ja) (z:=z) (dec:=rd e) (rep:=fun ok w x cs=>RepS ok w e x cs) (fun ji body s p' st' hs hh=>hel ja z ji body s p' st' rfl hs hh)
  (fun ok w w' x cs hr hs=>RepS.same hs e x cs hr) (fun ok w x cs cs' ht hr=>RepS.cells e x cs cs' (take_mono ht hwe) hr) h8
 have o8n := @loop_nil P _ _ _ _ _ _ h8
 have hn0:(runS KF q st).2.nj=st.nj:=R0.2.1
 have hna:sta.nj=st.nj+1:=by rw [ea];show (runS KF q st).2.nj+1=_;rw [hn0]
 have hn1:(runS KF qa sta).2.nj=st.nj+1:=by rw [R1.2.1,hna]
 have hn2:st2.nj=st.nj+2:=by rw [e2];show (runS KF qa sta).2.nj+1=_;rw [hn1]
 have hn3:(runS KF q2 st2).2.nj=st.nj+2:=by rw [R3.2.1,hn2]
 have hn4:st4.nj=st.nj+2:=by rw [e4];exact hn3
 have hn4':(runS KF q4 st4).2.nj=st.nj+2:=by rw [R4.2.1,hn4]
 have hns:sts.nj=st.nj+3:=by rw [es];show (runS KF q4 st4).2.nj+1=_;rw [hn4']
 have hja:ja=st.nj+3:=by rw [Rs.2.1,hns]
 have hn6:st6.nj=st.nj+4:=by rw [e6];show ja+1=_;rw [hja]
 have hn7:(runS KF q6 st6).2.nj=st.nj+4:=by rw [R7.2.1,hn6]
 have hn8:st8.nj=st.nj+4:=by rw [e8];exact hn7
 have hsa:sta.sj=st.sj:=by rw [ea];exact R0.1.sj
 have hs2:st2.sj=st.sj:=by rw [e2];show (runS KF qa sta).2.sj=_;rw [R1.1.sj,hsa]
 have hs4:st4.sj=st.sj:=by rw [e4];show (runS KF q2 st2).2.sj=_;rw [R3.1.sj,hs2]
 have hss:sts.sj=st.sj:=by rw [es];show (runS KF q4 st4).2.sj=_;rw [R4.1.sj,hs4]
 have hs6:st6.sj=st.sj:=by rw [e6];show (runS KF qs sts).2.sj=_;rw [Rs.1.sj,hss]
 have hs8:st8.sj=st.sj:=by rw [e8];show (runS KF q6 st6).2.sj=_;rw [R7.1.sj,hs6]
 have hca:sta.cells=st.cells:=by rw [ea];exact R0.2.2
 have hc2:st2.cells=st.cells:=by rw [e2];show (runS KF qa sta).2.cells=_;rw [R1.2.2,hca]
 have hc4:st4.cells=st.cells:=by rw [e4];show (runS KF q2 st2).2.cells=_;rw [R3.2.2,hc2]
 have hcs:sts.cells=st.cells:=by rw [es];show (runS KF q4 st4).2.cells=_;rw [R4.2.2,hc4]
 have hc6:st6.cells=st.cells:=by rw [e6];show (runS KF qs sts).2.cells=_;rw [Rs.2.2,hcs]
 have hc8:st8.cells=st.cells:=by rw [e8];show (runS KF q6 st6).2.cells=_;rw [R7.2.2,hc6]
 have hjo:jo=st.nj:=by rw [eja,hn0]
 have hjl:jl=st.nj+1:=by rw [e3,hn1]
 refine ⟨⟨by have:=t9.nj;omega,by rw [t9.sj];exact hs8,by rw [t9.len,hc8]⟩,?_⟩
 intro ok R S base cs nn sb ρ η w err Q A u hpre hcu hold hA hbad hk
 obtain ⟨oa,on,oc,hu,hnone,hsome⟩:=oldSl_slice hold
 refine run_pre (f:=KF) hpre fun η0 hp0 => ?_
 have hcell:u.cells.toList=[u]:=by rw [hu];rfl
 have htk:u.cells.toList=(cs.drop (base+off)).take 1:=by
  rw [hcell]
  apply List.ext_getElem?
  intro j
  simp only [List.getElem?_take,List.getElem?_drop]
  by_cases hj:j=0
  ·subst hj;simpa using hcu.symm
  ·rw [if_neg (by omega),List.getElem?_eq_none (by simp;omega)]
 refine la hp0.env hp0.cur htk (fun _=>hcell) fun ηa hea => ?_
 rw [hn0] at hea
 have hpa:Pre g sta ok R S base cs nn sb (upd ρ st.nj u) ηa w err:=by
  have hρ:∀ j,j<st.nj→upd ρ st.nj u j=ρ j:=fun j hj=>by simp [upd,Nat.ne_of_lt hj]
  refine ⟨by rw [hna];rw [hna] at hea;exact hea,hpre.cur.move hsa hca hpre.nj.2 hρ hpre.cur.row,hpre.he,hpre.nS,hpre.SR,hpre.rd,by rw [hρ 0 hpre.nj.1];exact hpre.r0,hpre.err,hpre.gR,hpre.gS,by rw [hna,hsa];exact ⟨Nat.succ_pos _,Nat.lt_succ_of_lt hpre.nj.2⟩⟩
 refine run_pre (f:=KF) hpa fun η1 hp1 => ?_
 obtain ⟨_,hxv⟩:=isO_val hp1.env hx
 rw [hp1.r0,addOff_ptr] at hxv
 rw [e1]
 refine np_op (vs:=[ptr R]) (by simp [hxv]) (hT.cnt f c hf ok w R nn sb _ hp1.he hp1.rd fun v w2 k2 hend => ?_)
 unfold CountEnd at hend
 have hlink:sb.bind (rd (.arr c z.length e))=(sb.bind (rdCount c)).bind fun x=>(rdN (rd e) x.1.toNat x.2).map fun y=>(.l y.1,y.2):=by
  cases sb<;>rfl
 have kR:∀ {w w':World},Keep [R] w w'→Keep (R::S::A.toList) w w':=fun k=>k.mono fun x hx _=>by simp at hx ⊢;exact .inl hx
 have k0:∀ {w w':World},Keep [] w w'→Keep (R::S::A.toList) w w':=fun k=>k.mono fun x hx _=>by cases hx
 cases hcnt:sb.bind (rdCount c) with
 | none=>
  rw [hcnt] at hend hlink
  simp only [Option.bind_none] at hlink
  obtain ⟨hrd2,_⟩:=hend
  have hp2:=hp1.new n v k2 hrd2
  rw [← e2] at hp2
  refine run_pre (f:=KF) hp2 fun η3 hp3 => ?_
  refine o4 hp3 (fun _ η'=>hbad hlink η' w2 (kR k2)) fun η4 hs _ => ?_
  cases hs
 | some xr=>
  obtain ⟨x,r⟩:=xr
  rw [hcnt] at hend hlink
  simp only [Option.bind_some] at hlink
  obtain ⟨hrd2,rfl⟩:=hend
  have hx31:x<2147483648:=by
   cases sb with
   | none=>cases hcnt
   | some bs=>exact rdCount_lt hcnt
  have hp2:=hp1.new n (.int .i32 x) k2 hrd2
  rw [← e2] at hp2
  refine run_pre (f:=KF) hp2 fun η3 hp3 => ?_
  refine o4 hp3 (fun hh=>by cases hh) fun η4 _ hp4 => ?_
  refine run_pre (f:=KF) hp4 fun η5 hp5 => ?_
  generalize hρ2:upd (upd ρ st.nj u) (runS KF qa sta).2.nj (.int .i32 x)=ρ2 at hp2 hp3 hp4 hp5
  have hρ2j:∀ j,j<st.nj→ρ2 j=ρ j:=fun j hj=>by
   have h1:j≠st.nj+1:=by omega
   have h2:j≠st.nj:=by omega
   rw [← hρ2,hn1];simp [upd,h1,h2]
  have hρ2o:ρ2 jo = .slice oa on oc:=by
   have h1:st.nj≠st.nj+1:=by omega
   rw [← hρ2,hn1,hjo];simp [upd,h1,hu]
  have hρ2l:ρ2 jl = .int .i32 x:=by rw [← hρ2,hjl,hn1];simp [upd]
  refine os hp5 hρ2o fun ηs hps => ?_
  refine run_pre (f:=KF) hps fun η6' hp6' => ?_
  generalize hρ3:upd ρ2 (runS KF q4 st4).2.nj (.slice oa 0 oc)=ρ3 at hps hp6'
  have hρ3j:∀ j,j<st.nj+2→ρ3 j=ρ2 j:=fun j hj=>by
   have h1:j≠st.nj+2:=by omega
   rw [← hρ3,hn4'];simp [upd,h1]
  have hρ3s:ρ3 (runS KF q4 st4).2.nj = .slice oa 0 oc:=by rw [← hρ3];simp [upd]
  have hold2:OldSl w2 z.length A (.slice oa on oc):=by
   rw [← hu]
   exact hold.keep k2 fun a ha=>by simp;exact (hA a ha).1
  have hp6e:=hp6'.env
  rw [hja0] at hp6e
  refine o6 (A:=A) hp6e (by rw [hρ3j jl (by omega)];exact hρ2l) hx31 hρ3s hold2 fun u' η6 w6 hgr he6 => ?_
  have hρ4:∀ j,j<st.nj+3→upd ρ3 ja u' j=ρ3 j:=fun j hj=>by
   have h1:j≠ja:=by omega
   simp [upd,h1]
  have hρ4a:upd ρ3 ja u' ja=u':=by simp [upd]
  have hρ40:∀ j,j<st.nj→upd ρ3 ja u' j=ρ j:=fun j hj=>by rw [hρ4 j (by omega),hρ3j j (by omega),hρ2j j hj]
  have hρ4l:upd ρ3 ja u' jl = .int .i32 x:=by rw [hρ4 jl (by omega),hρ3j jl (by omega)];exact hρ2l
  have hk6:Keep (R::S::A.toList) w2 w6:=by
   rcases hgr with ⟨_,_,rfl⟩ | ⟨A0,acs,_,hA0,_,_,_,_,_,k⟩ | ⟨B,cap,_,_,_,_,_,k⟩
   ·exact Keep.refl _ _
   ·exact k.mono fun y hy _=>by simp only [List.mem_singleton] at hy;subst hy;simp [hA0]
   ·exact k0 k
  have hAnot:∀ y∈A.toList,y≠R∧y≠S∧y≠g∧¬ ok y:=fun y hy=>hA y (by simpa using hy)
  have hkA:Keep A.toList w2 w6:=by
   rcases hgr with ⟨_,_,rfl⟩ | ⟨A0,acs,_,hA0,_,_,_,_,_,k⟩ | ⟨B,cap,_,_,_,_,_,k⟩
   ·exact Keep.refl _ _
   ·exact k.mono fun y hy _=>by simp only [List.mem_singleton] at hy;subst hy;simp [hA0]
   ·exact k.mono fun y hy _=>by cases hy
  have kRS:Keep (R::S::A.toList) w w6:=(kR k2).then hk6
  have hp6:∀ ok':Nat→Prop,(∀ k,ok' k→ok k)→(∀ k,k<w2.heap.size→ok k→ok' k)→(∀ k,w6.heap.size≤k→ok' k)→Pre g st6 ok' R S base cs true (some r) (upd ρ3 ja u') η6 w6 err:=by
   intro ok' h1 h2' h3
   refine ⟨by rw [hn6,show st.nj+4=ja+1 by omega];exact he6,?_,⟨h3,fun hh=>hp5.he.notR (h1 _ hh)⟩,fun hh=>hp5.nS (h1 _ hh),hp5.SR,(hrd2.weak h2').keep hkA (fun hh=>(hAnot _ hh).1 rfl) (fun y hy hh=>(hAnot y hy).2.2.2 (h1 _ hh)),by rw [hρ40 0 hpre.nj.1];exact hpre.r0,cell_keep hp5.err hkA (fun hh=>(hAnot _ hh).2.2.1 rfl),hp5.gR,hp5.gS,by have:=hpre.nj;rw [hn6,hs6];omega⟩
   exact hpre.cur.move hs6 hc6 hpre.nj.2 hρ40 (hp5.cur.row.keep hkA (fun hh=>(hAnot _ hh).2.1 rfl))
  have fin:∀ (ok':Nat→Prop) (A':Option Nat) (nn':Bool) (t:Option Bs) (η8:Nat→Value) (w8:World),(∀ k,ok' k→ok k)→(∀ k,k<w.heap.size→ok k→ok' k)→(A'=A∨∃ B,A'=some B∧w.heap.size≤B∧ok B)→(∀ a,A'=some a→¬ ok' a∧a≠S) →
    Pre g st8 ok' R S base cs nn' t (upd ρ3 ja u') η8 w8 err→Keep (R::S::A.toList) w w8→Fit 1 u'→u'.cells.toList=[u'] →
    (match sb.bind (rd (.arr c z.length e)) with
     | some (.l vs,rest)=>t=some rest∧∀ w9,Keep [S] w8 w9→Arr2 ok' w9 z.length e vs A' u'
     | some _=>False
     | none=>t=none)→q8.wp P Q η8 w8:=by
   intro ok' A' nn' t η8 w8 hsub hsub2 hA' hAok' hp8 hkk hfu hcu' hres
   refine o9 hp8 (by rw [hρ4a];exact hfu) (by rw [hρ4a];exact hcu') fun η9 w9 he9 k9 hcur9 hbl hoffc => ?_
   rw [hρ4a] at hcur9
   have hS3:∀ x∈[S],¬ ok' x:=fun x hx hh=>by rw [List.mem_singleton.1 hx] at hh;exact hpre.nS (hsub _ hh)
   have hR2:R∉[S]:=by rw [List.mem_singleton];exact fun e=>hpre.SR e.symm
   have hbl':base+off+[u'].length≤cs.length:=hbl
   have hrd9:=hp8.rd.keep k9 hR2 hS3
   refine hk _ η9 w9 _ ok' A' he9 hρ40 (hkk.then (k9.mono fun y hy _=>by simp at hy ⊢;exact .inr (.inl hy))) hcur9 (put_length _ _ _ hbl') (fun j hj=>put_out _ _ _ hbl' _ (by simp only [List.length_singleton];omega)) hsub hsub2 (hp8.he.keep k9) hA' (fun a ha=>(hAok' a ha).1) ?_
   unfold A2End
   split at hres
   ·rename_i vs rest hd
    obtain ⟨rfl,hl⟩:=hres
    refine ⟨⟨_,hrd9⟩,u',?_,hl w9 k9⟩
    have:=put_in cs (base+off) [u'] hbl' 0 (by simp)
    simpa using this
   ·exact hres.elim
   ·rename_i hd
    subst hres
    exact ⟨_,hrd9⟩
  have hA0w:∀ a,A=some a→a<w.heap.size:=by
   intro a ha
   rcases hold with ⟨h1,_⟩ | ⟨A0,n0,c0,acs,h1,_,_,h4,_⟩
   ·rw [h1] at ha;cases ha
   ·rw [h1] at ha;cases ha;exact h4.lt
  have hwR:R<w2.heap.size:=rd_lt hrd2
  have hwS:S<w2.heap.size:=hp5.cur.row.lt
  have hwg:g<w2.heap.size:=cell_lt hp5.err
  rcases hgr with ⟨hx0,rfl,rfl⟩ | ⟨A0,acs0,hxp,hA0,rfl,hcap,hrowA,hal0,hz7,hk6'⟩ | ⟨B,cap,hxp,hB,rfl,hcap,hrowB,hk6'⟩
  ·
   have hp:=hp6 ok (fun _ h=>h) (fun _ _ h=>h) (fun k hk=>hp5.he.new k hk)
   refine run_pre (f:=KF) hp fun η7 hp7 => ?_
   refine o8n hp7.env hρ4l hx0 fun η8 he8 => ?_
   have hp8:Pre g st8 ok R S base cs true (some r) (upd ρ3 ja (.slice oa 0 oc)) η8 w6 err:=by rw [e8] at he8 ⊢;exact hp7.env' he8
   refine fin ok A true (some r) η8 w6 (fun _ h=>h) (fun _ _ h=>h) (.inl rfl) (fun a ha=>⟨(hA a ha).2.2.2,(hA a ha).2.1⟩) hp8 kRS (Fit.one rfl rfl) rfl ?_
   rw [hlink]
   have hx0':x.toNat=0:=by omega
   simp only [hx0',rdN,Option.map_some]
   refine ⟨trivial,fun w9 k9 => ?_⟩
   rcases hold2 with ⟨h1,h2⟩ | ⟨A0,n0,c0,acs,h1,h2,h3,h4,h5⟩
   ·cases h2;exact .inl ⟨h1,rfl,rfl⟩
   ·cases h2
    exact .inr ⟨A0,oc,acs,h1,rfl,Nat.zero_le _,h4.keep k9 (by simp;exact (hA A0 h1).2.1),h5,fun i hi=>by simp at hi⟩
  ·
   have hAA:=hA A0 hA0
   have hp:=hp6 ok (fun _ h=>h) (fun _ _ h=>h) (fun k hk=>hp5.he.new k (Nat.le_trans hk6'.size hk))
   refine run_pre (f:=KF) hp fun η7 hp7 => ?_
   have hnat:((x.toNat:Nat):Int)=x:=by omega
   refine o8 hp7 hAA.1 hAA.2.1 hAA.2.2.1 hAA.2.2.2 hrowA hal0 hz7 hcap hρ4a (by omega) (by rw [hρ4l,hnat]) (by omega) ?_ ?_
   ·intro hb η' w' kw
    refine hbad ?_ η' w' (kRS.then (kw.mono fun y hy _ => ?_))
    ·rw [hlink];simp [hb]
    ·simp only [List.mem_cons,List.not_mem_nil,or_false] at hy ⊢
     rcases hy with rfl | rfl
     ·exact .inl rfl
     ·exact .inr (.inr (by simp [hA0]))
   ·intro η8 w8 acs he8 kw hr8 hl8 hlend
    have kk8:Keep (R::S::A.toList) w w8:=kRS.then (kw.mono fun y hy _=>by
     simp only [List.mem_cons,List.not_mem_nil,or_false] at hy ⊢
     rcases hy with rfl | rfl
     ·exact .inl rfl
     ·exact .inr (.inr (by simp [hA0])))
    have hSRA:S∉[R,A0]:=by simp only [List.mem_cons,List.not_mem_nil,or_false,not_or];exact ⟨hpre.SR,fun e=>hAA.2.1 e.symm⟩
    have hpre8:∀ nn' t,Rd ok w8 R nn' t→Pre g st8 ok R S base cs nn' t (upd ρ3 ja (.slice (some ⟨A0,0,none⟩) x.toNat oc)) η8 w8 err:=by
     intro nn' t hrd8
     refine ⟨by rw [hn8,← hn7];exact he8,?_,hp7.he.keep kw,hp7.nS,hp7.SR,hrd8,hp7.r0,cell_keep hp7.err kw (by simp only [List.mem_cons,List.not_mem_nil,or_false,not_or];exact ⟨hpre.gR,fun e=>hAA.2.2.1 e.symm⟩),hp7.gR,hp7.gS,by have:=hpre.nj;rw [hn8,hs8];omega⟩
     exact hp7.cur.move (hs8.trans (R7.1.sj.trans hs6).symm) (hc8.trans (R7.2.2.trans hc6).symm) hp7.nj.2 (fun _ _=>rfl) (hp7.cur.row.keep kw hSRA)
    unfold LEnd at hlend
    have hAf:∀ a,A=some a→¬ ok a∧a≠S:=fun a ha=>⟨(hA a ha).2.2.2,(hA a ha).2.1⟩
    cases hrn:rdN (rd e) x.toNat r with
    | none=>
     rw [hrn] at hlend
     obtain ⟨nn',hrd8⟩:=hlend
     refine fin ok A nn' none η8 w8 (fun _ h=>h) (fun _ _ h=>h) (.inl rfl) hAf (hpre8 nn' none hrd8) kk8 (Fit.one rfl rfl) rfl ?_
     rw [hlink,hrn]
     rfl
    | some y=>
     obtain ⟨vs,rest⟩:=y
     rw [hrn] at hlend
     obtain ⟨⟨nn',hrd8⟩,hvl,hreps⟩:=hlend
     refine fin ok A nn' (some rest) η8 w8 (fun _ h=>h) (fun _ _ h=>h) (.inl rfl) hAf (hpre8 nn' (some rest) hrd8) kk8 (Fit.one rfl rfl) rfl ?_
     rw [hlink,hrn]
     refine ⟨rfl,fun w9 k9 => ?_⟩
     have hS2:∀ x∈[S],¬ ok x:=fun x hx hh=>by rw [List.mem_singleton.1 hx] at hh;exact hpre.nS hh
     refine .inr ⟨A0,oc,acs,hA0,by rw [hvl],by rw [hvl];exact hcap,hr8.keep k9 (by simp;exact hAA.2.1),hl8,fun i hi=>RepS.same (k9.same hS2) e _ _ (hreps i hi)⟩
  ·
   have hBR:B≠R:=by omega
   have hBS:B≠S:=by omega
   have hBg:B≠g:=by omega
   have hokB:ok B:=hp5.he.new B hB
   have hsz2:=k2.size
   have hp:=hp6 (fun k=>ok k∧k≠B) (fun _ h=>h.1) (fun k hk h=>⟨h,by omega⟩) (fun k hk=>⟨hp5.he.new k (Nat.le_trans hk6'.size hk),by have:=hrowB.lt;omega⟩)
   refine run_pre (f:=KF) hp fun η7 hp7 => ?_
   have hnat:((x.toNat:Nat):Int)=x:=by omega
   refine o8 hp7 hBR hBS hBg (fun h=>h.2 rfl) hrowB (by simp) (fun j hj=>rep_at cap j (by omega)) hcap hρ4a (by omega) (by rw [hρ4l,hnat]) (by omega) ?_ ?_
   ·intro hb η' w' kw
    refine hbad ?_ η' w' (kRS.trans kw fun y hy hlt => ?_)
    ·rw [hlink];simp [hb]
    ·simp only [List.mem_cons,List.not_mem_nil,or_false] at hy ⊢
     rcases hy with rfl | rfl
     ·exact .inl rfl
     ·omega
   ·intro η8 w8 acs he8 kw hr8 hl8 hlend
    have kk8:Keep (R::S::A.toList) w w8:=kRS.trans kw fun y hy hlt=>by
     simp only [List.mem_cons,List.not_mem_nil,or_false] at hy ⊢
     rcases hy with rfl | rfl
     ·exact .inl rfl
     ·omega
    have hSRA:S∉[R,B]:=by simp only [List.mem_cons,List.not_mem_nil,or_false,not_or];exact ⟨hpre.SR,fun e=>hBS e.symm⟩
    have hpre8:∀ nn' t,Rd (fun k=>ok k∧k≠B) w8 R nn' t→Pre g st8 (fun k=>ok k∧k≠B) R S base cs nn' t (upd ρ3 ja (.slice (some ⟨B,0,none⟩) x.toNat cap)) η8 w8 err:=by
     intro nn' t hrd8
     refine ⟨by rw [hn8,← hn7];exact he8,?_,hp7.he.keep kw,hp7.nS,hp7.SR,hrd8,hp7.r0,cell_keep hp7.err kw (by simp only [List.mem_cons,List.not_mem_nil,or_false,not_or];exact ⟨hpre.gR,fun e=>hBg e.symm⟩),hp7.gR,hp7.gS,by have:=hpre.nj;rw [hn8,hs8];omega⟩
     exact hp7.cur.move (hs8.trans (R7.1.sj.trans hs6).symm) (hc8.trans (R7.2.2.trans hc6).symm) hp7.nj.2 (fun _ _=>rfl) (hp7.cur.row.keep kw hSRA)
    unfold LEnd at hlend
    have hsubw:∀ k,k<w.heap.size→ok k→(ok k∧k≠B):=fun k hk h=>⟨h,by omega⟩
    have hBf:∀ a,some B=some a→¬ (ok a∧a≠B)∧a≠S:=fun a ha=>by cases ha;exact ⟨fun h=>h.2 rfl,hBS⟩
    have hBn:some B=A∨∃ B',some B=some B'∧w.heap.size≤B'∧ok B' := .inr ⟨B,rfl,by omega,hokB⟩
    cases hrn:rdN (rd e) x.toNat r with
    | none=>
     rw [hrn] at hlend
     obtain ⟨nn',hrd8⟩:=hlend
     refine fin _ (some B) nn' none η8 w8 (fun _ h=>h.1) hsubw hBn hBf (hpre8 nn' none hrd8) kk8 (Fit.one rfl rfl) rfl ?_
     rw [hlink,hrn]
     rfl
    | some y=>
     obtain ⟨vs,rest⟩:=y
     rw [hrn] at hlend
     obtain ⟨⟨nn',hrd8⟩,hvl,hreps⟩:=hlend
     refine fin _ (some B) nn' (some rest) η8 w8 (fun _ h=>h.1) hsubw hBn hBf (hpre8 nn' (some rest) hrd8) kk8 (Fit.one rfl rfl) rfl ?_
     rw [hlink,hrn]
     refine ⟨rfl,fun w9 k9 => ?_⟩
     have hS2:∀ x∈[S],¬ (ok x∧x≠B):=fun x hx hh=>by rw [List.mem_singleton.1 hx] at hh;exact hpre.nS hh.1
     exact .inr ⟨B,cap,acs,rfl,by rw [hvl],by rw [hvl];exact hcap,hr8.keep k9 (by simp;exact hBS),hl8,fun i hi=>RepS.same (k9.same hS2) e _ _ (hreps i hi)⟩
end
end Go.Mr
namespace Go.Mr
open Go.Lx Go.Nx Go.Km Go.Mx Go.Kb
open Go.CX (T deep)
set_option linter.unusedSimpArgs false
set_option linter.unusedVariables false
def KSlot (ok:Nat→Prop) (w:World) (k:KT) (v:Option Val) (cs:List Value) (A:Option Nat):Prop:=
 match k.sh with
 | .arr _ sz e=>∃ u,cs[k.off]?=some u∧OldSl w sz A u∧∀ x,v=some x→∃ vs,x = .l vs∧Arr2 ok w sz e vs A u
 | sh=>A=none∧∀ x,v=some x→RepS ok w sh x (cs.drop k.off)
def chkK (T:Tab):Sh→Nat→NP→St→Option (NP×St)
 | .arr c sz (.prim p),off,q,st=>if width p=sz then arr2At T (fun ja _ ji b s=>elPrim T p sz ja ji b s) c sz (width p) off q st else none
 | .arr c sz (.str fs),off,q,st=>arr2At T (fun ja z ji b s=>(elStr T sz ja ji z b s).bind fun r=>chkF T fs 0 r.1 r.2) c sz (extF fs) off q st
 | .arr _ _ _,_,_,_=>none
 | sh,off,q,st=>chkS T sh off q st
def KEnd (ok:Nat→Prop) (w:World) (R:Nat) (sb:Option Bs) (k:KT) (cs:List Value) (base:Nat) (A:Option Nat):Prop:=
 match sb.bind (rd k.sh) with
 | some (x,rest)=>(∃ nn,Rd ok w R nn (some rest))∧KSlot ok w k (some x) (cs.drop base) A
 | none=>∃ nn,Rd ok w R nn none
structure KNext (ok ok':Nat→Prop) (w w':World) (R S:Nat) (A A':Option Nat):Prop where
 sub:∀ k,ok' k→ok k
 old:∀ k,k<w.heap.size→ok k→ok' k
 he:Env ok' w' R
 keep:Keep (R::S::A.toList) w w'
 blk:A'=A∨∃ B,A'=some B∧w.heap.size≤B∧ok B
 out:∀ a,A'=some a→¬ ok' a
section
variable {P:Program} {g:Nat}
def KFld (P:Program) (g:Nat) (k:KT) (p p':NP) (st st':St):Prop:=
 Stt st st'∧∀ (ok:Nat→Prop) (R S base:Nat) (cs:List Value) (nn:Bool) (sb:Option Bs) (ρ η:Nat→Value) (w:World) (err:Value) (Q:Post) (A:Option Nat) (v:Option Val),Pre g st ok R S base cs nn sb ρ η w err→KSlot ok w k v (cs.drop base) A→(∀ a,A=some a→a≠R∧a≠S∧a≠g∧¬ ok a) →
  (sb.bind (rd k.sh)=none→∀ η' w',Keep (R::S::A.toList) w w'→Q (.ret [err]) η' w') →
  (∀ ρ' η' w' cs' ok' A',EnvOk st'.env st'.nj ρ' η'→(∀ j,j<st.nj→ρ' j=ρ j)→Cur st' ρ' w' S base cs'→cs'.length=cs.length→(∀ j,j<base+k.off∨base+k.off+wS k.sh≤j→cs'[j]?=cs[j]?)→KNext ok ok' w w' R S A A'→KEnd ok' w' R sb k cs' base A'→p'.wp P Q η' w')→p.wp P Q η w
theorem kslot_arr {ok:Nat→Prop} {w:World} {k:KT} {v:Option Val} {cs:List Value} {A:Option Nat} {c:Bool} {sz:Nat} {e:Sh} (hk:k.sh = .arr c sz e):KSlot ok w k v cs A↔∃ u,cs[k.off]?=some u∧OldSl w sz A u∧∀ x,v=some x→∃ vs,x = .l vs∧Arr2 ok w sz e vs A u:=by
 unfold KSlot;rw [hk]
def isArr:Sh→Bool
 | .arr _ _ _=>true
 | _=>false
theorem kslot_other {ok:Nat→Prop} {w:World} {k:KT} {v:Option Val} {cs:List Value} {A:Option Nat} (hk:isArr k.sh=false):KSlot ok w k v cs A↔(A=none∧∀ x,v=some x→RepS ok w k.sh x (cs.drop k.off)):=by
 unfold KSlot
 cases h:k.sh with
 | arr c sz e=>rw [h] at hk;cases hk
 | _=>exact Iff.rfl
theorem arr_fld {T:Tab} (hT:TabOk P T g) {el:Nat→List Value→Nat→NP→St→Option (NP×St)} {k:KT} {c:Bool} {sz:Nat} {e:Sh} (hk:k.sh = .arr c sz e) {q q':NP} {st st':St}
  (hel:∀ ja z ji body s p' st',z.length=sz→s.sj<s.nj→el ja z ji body s=some (p',st')→Elm P g ja ji z (rd e) (fun ok w x cs=>RepS ok w e x cs) body p' s st')
  (h:arr2At T el c sz (wS e) k.off q st=some (q',st')):KFld P g k q q' st st':=by
 obtain ⟨h1,h2⟩:=arr2At_ok (P:=P) (g:=g) hT hel h
 refine ⟨h1,?_⟩
 intro ok R S base cs nn sb ρ η w err Q A v hpre hs hA hbad hgood
 rw [kslot_arr hk] at hs
 obtain ⟨u,hu,hold,_⟩:=hs
 rw [List.getElem?_drop] at hu
 refine h2 ok R S base cs nn sb ρ η w err Q A u hpre hu hold hA (by rw [← hk];exact hbad) fun ρ' η' w' cs' ok' A' he hρ kp hcur hl ho hsub hsub2 henv hA' hout hend => ?_
 refine hgood ρ' η' w' cs' ok' A' he hρ hcur hl (fun j hj=>ho j (by rw [hk] at hj;simp only [wS] at hj;omega)) ⟨hsub,hsub2,henv,kp,hA',hout⟩ ?_
 unfold KEnd
 unfold A2End at hend
 rw [hk]
 split at hend
 ·rename_i vs rest hd
  rw [hd]
  obtain ⟨h3,u',h4,h5⟩:=hend
  refine ⟨h3,(kslot_arr hk).2 ⟨u',by rw [List.getElem?_drop];exact h4,h5.old,fun x hx => ?_⟩⟩
  cases hx
  exact ⟨vs,rfl,h5⟩
 ·exact hend.elim
 ·rename_i hd
  rw [hd]
  exact hend
theorem chkK_ok {T:Tab} (hT:TabOk P T g) {k:KT} {q q':NP} {st st':St} (hcl:st.cells.length=k.off+wS k.sh) (h:chkK T k.sh k.off q st=some (q',st')):KFld P g k q q' st st':=by
 by_cases ha:isArr k.sh=true
 ·cases hk:k.sh with
  | arr c sz e=>
   rw [hk] at h
   cases e with
   | prim p=>
    simp only [chkK] at h
    split at h
    case isFalse=>cases h
    rename_i hw
    refine arr_fld hT hk (e := .prim p) (fun ja z ji body s p' s' hz hs hh => ?_) h
    exact elPrim_ok hT (sz:=sz) hz.symm (by rw [hw,hz]) hh hs
   | str fs=>
    simp only [chkK] at h
    refine arr_fld hT hk (e := .str fs) (fun ja z ji body s p' s' hz hs hh => ?_) h
    simp only [Option.bind_eq_some_iff] at hh
    obtain ⟨⟨r1,r2⟩,hh1,hh2⟩:=hh
    refine elStr_ok hT hz.symm hh1 ?_
    have:=chkF_ok hT fs 0 0 r1 p' r2 s' (loF_zero _) hh2
    exact this.map (f := .l) (fun bs=>by simp only [rd]) fun ok w x cs hr=>by simpa [RepS] using hr
   | arr _ _ _=>simp only [chkK] at h;cases h
   | narr _ _ _ _=>simp only [chkK] at h;cases h
   | opt _=>simp only [chkK] at h;cases h
  | _=>rw [hk] at ha;cases ha
 ·have hna:isArr k.sh=false:=by simpa using ha
  have h':chkS T k.sh k.off q st=some (q',st'):=by
   cases hk:k.sh with
   | arr c sz e=>rw [hk] at hna;cases hna
   | _=>rw [hk] at h;simpa only [chkK] using h
  have F:=chkS_ok hT k.sh k.off q q' st st' h'
  refine ⟨F.1,?_⟩
  intro ok R S base cs nn sb ρ η w err Q A v hpre hs hA hbad hgood
  rw [kslot_other hna] at hs
  obtain ⟨rfl,_⟩:=hs
  refine F.2 ok R S base cs nn sb ρ η w err Q hpre (fun hb η' w' kw=>hbad hb η' w' (by simpa using kw)) fun ρ' η' w' cs' hn he => ?_
  refine hgood ρ' η' w' cs' ok none hn.env hn.ρ hn.cur hn.len (fun j hj => ?_) ⟨fun _ h=>h,fun _ _ h=>h,hpre.he.keep hn.keep,by simpa using hn.keep,.inl rfl,fun a ha=>by cases ha⟩ ?_
  ·rcases hj with hj | hj
   ·exact hn.low j hj
   ·exact hn.high j (by rw [hcl];omega)
  ·unfold FEnd at he
   unfold KEnd
   cases hd:sb.bind (rd k.sh) with
   | none=>rw [hd] at he;exact ⟨_,he⟩
   | some y=>
    obtain ⟨x,rest⟩:=y
    rw [hd] at he
    refine ⟨he.1,(kslot_other hna).2 ⟨rfl,fun x' hx => ?_⟩⟩
    cases hx
    exact he.2
theorem kslot_same {ok ok':Nat→Prop} {w w':World} {k:KT} {v:Option Val} {cs:List Value} {A:Option Nat} (h:KSlot ok w k v cs A) {l:List Nat} (kp:Keep l w w') (hl:∀ x∈l,¬ ok' x) (hA:∀ a,A=some a→a∉l)
  (hw:∀ b,b<w.heap.size→ok b→ok' b):KSlot ok' w' k v cs A:=by
 by_cases ha:isArr k.sh=true
 ·cases hk:k.sh with
  | arr c sz e=>
   rw [kslot_arr hk] at h ⊢
   obtain ⟨u,h1,h2,h3⟩:=h
   refine ⟨u,h1,h2.keep kp hA,fun x hx => ?_⟩
   obtain ⟨vs,h4,h5⟩:=h3 x hx
   refine ⟨vs,h4,?_⟩
   rcases h5 with h5 | ⟨A0,c0,acs,g1,g2,g3,g4,g5,g6⟩
   ·exact .inl h5
   ·exact .inr ⟨A0,c0,acs,g1,g2,g3,g4.keep kp (hA _ g1),g5,fun i hi=>RepS.same (kp.same hl) e _ _ (RepS.weak hw e _ _ (g6 i hi))⟩
  | _=>rw [hk] at ha;cases ha
 ·have hna:isArr k.sh=false:=by simpa using ha
  rw [kslot_other hna] at h ⊢
  exact ⟨h.1,fun x hx=>RepS.same (kp.same hl) _ _ _ (RepS.weak hw _ _ _ (h.2 x hx))⟩
theorem kslot_cells {ok:Nat→Prop} {w:World} {k:KT} {v:Option Val} {cs cs':List Value} {A:Option Nat} (h:KSlot ok w k v cs A) (hc:∀ j,k.off≤j→j<k.off+wS k.sh→cs'[j]?=cs[j]?):KSlot ok w k v cs' A:=by
 by_cases ha:isArr k.sh=true
 ·cases hk:k.sh with
  | arr c sz e=>
   rw [kslot_arr hk] at h ⊢
   obtain ⟨u,h1,h2⟩:=h
   exact ⟨u,by rw [hc k.off (Nat.le_refl _) (by rw [hk];simp [wS])];exact h1,h2⟩
  | _=>rw [hk] at ha;cases ha
 ·have hna:isArr k.sh=false:=by simpa using ha
  rw [kslot_other hna] at h ⊢
  refine ⟨h.1,fun x hx=>RepS.cells _ _ _ _ ?_ (h.2 x hx)⟩
  apply List.ext_getElem?
  intro j
  simp only [List.getElem?_take,List.getElem?_drop]
  split
  ·exact hc _ (by omega) (by omega)
  ·rfl
def knownS2 (T:Tab) (U:KTab) (k:KT) (p:NP) (st:St):Bool:=
 match spanS U p st with
 | some (.op (.lit [.slice none 0 0,.bool false] [0]) [.s a] b (.op (.alloc [.slice none 0 0,.bool false]) [] c (.chk d (.op (.store 2) [.q e 0,.s f] m body))),st1,n)=>
  if a=n∧c=d∧c=e∧b=f∧b≠c∧m≠c∧(rd k.sh []).isNone=true then
   match chkK T k.sh k.off body (inSt2 st1 b c m (List.replicate (k.off+wS k.sh) none)) with
   | some (q,st')=>endS T q st'
   | none=>false
  else false
 | _=>false
theorem known2_ok {T:Tab} (hT:TabOk P T g) {U:KTab} (hU:KTabOk P U) {k:KT} {p:NP} {st:St} (h:knownS2 T U k p st=true)
  {ok:Nat→Prop} {R S base:Nat} {cs:List Value} {nn:Bool} {sb:Option Bs} {ρ η:Nat→Value} {w:World} {et:TypeId} {ev:Value} {Q:Post} {A:Option Nat} {v0:Option Val} (hp:Pre g st ok R S base cs nn sb ρ η w (.iface et ev)) (hsj:st.sj≠0)
  (hlen:base+(k.off+wS k.sh)≤cs.length) (hslot:KSlot ok w k v0 (cs.drop base) A) (hA:∀ a,A=some a→a≠R∧a≠S∧a≠g∧¬ ok a∧a<w.heap.size)
  (hbad:sb.bind (rdKn k)=none→∀ η' w',Keep (R::S::A.toList) w w'→Q (.ret [.iface et ev]) η' w')
  (hgood:∀ x rest nn' η' w' cs' ok' A',sb.bind (rdKn k)=some (x,rest)→Row w' S cs'→cs'.length=cs.length→(∀ j,j<base+k.off∨base+k.off+wS k.sh≤j→cs'[j]?=cs[j]?)→KNext ok ok' w w' R S A A'→Rd ok' w' R nn' (some rest)→KSlot ok' w' k (some x) (cs'.drop base) A'→Q .nrm η' w'):p.wp P Q η w:=by
 unfold knownS2 at h
 split at h
 case h_2=>cases h
 rename_i a b c d e f m body st1 n hs
 split at h
 case isFalse=>cases h
 rename_i hc
 obtain ⟨rfl,rfl,rfl,rfl,hbc,hmc,hnone⟩:=hc
 split at h
 case h_2=>cases h
 rename_i q st' hchk
 obtain ⟨⟨E1,e1⟩,o1⟩:=spanS_ok (g:=g) hU hs
 refine o1 hp fun nn1 η1 w1 v k1 hv hm => ?_
 obtain ⟨b0,t,hsl,hp1,hstep⟩:∃ (b0:Bs) (t:Option Bs),Sl ok w1 v b0∧Pre g st1 ok R S base cs nn1 t ρ η1 w1 (.iface et ev)∧((t=none∧b0=[]∧sb.bind rdVal=none)∨∃ r,t=some r∧sb.bind rdVal=some (b0,r)):=by
  split at hm
  ·rename_i b0 r hr
   exact ⟨b0,some r,hm.1,hm.2,.inr ⟨r,rfl,hr⟩⟩
  ·rename_i hr
   exact ⟨[],none,.inl ⟨hm.1,rfl⟩,hm.2,.inl ⟨rfl,rfl,hr⟩⟩
 have hone:=sl_one hsl
 refine np_op (vs:=[v]) (by simp [SV.val,hv]) ⟨rfl,fun u hu=>by rw [List.mem_singleton.1 hu];exact hone,?_⟩
 refine np_op (vs:=[]) rfl (wp_alloc fun R2 w2 r2 hR2 k2 => ?_)
 refine ⟨⟨_,by simp only [upd];rfl⟩,?_⟩
 have hput2:putAll [.slice none 0 0,.bool false] ([0].zip [v])=[v,.bool false]:=rfl
 rw [hput2]
 have hf2:Fit 2 (.agg ([v,.bool false]:List Value).toArray):=by
  refine ⟨rfl,?_⟩
  rcases hsl with ⟨rfl,_⟩ | ⟨a,c,rfl,_⟩<;>simp [Value.cells,Value.oneCell']
 refine np_op (vs:=[ptr R2,.agg ([v,.bool false]:List Value).toArray]) (by simp [SV.val,upd,hbc,Addr.add]) (wp_store r2 hf2 (by simp) fun w3 r3 k3 => ?_)
 have hrR:Row w3 R2 [v,.bool false]:=by simpa [put,Value.cells] using r3
 have hRw:R<w1.heap.size:=rd_lt hp1.rd
 have hSw:S<w1.heap.size:=hp1.cur.row.lt
 have hgw:g<w1.heap.size:=cell_lt hp1.err
 have k13:Keep [] w1 w3:=k2.trans k3 fun x hx hlt=>by simp only [List.mem_singleton] at hx;omega
 have k03:Keep [R] w w3:=k1.then (k13.mono fun x hx _=>by cases hx)
 let ok2:Nat→Prop:=fun x=>ok x∧x≠R2
 have hnR2:¬ ok2 R2:=fun h=>h.2 rfl
 generalize hη3:upd (upd (upd η1 b (.agg ([v,.bool false]:List Value).toArray)) c (.pointer (some ⟨R2,0,none⟩))) m undef=η3
 have eR:η3 c=ptr R2:=by rw [← hη3];simp [upd,Ne.symm hmc]
 have henv:EnvOk (inSt2 st1 b c m (List.replicate (k.off+wS k.sh) none)).env st1.nj (upd ρ 0 (ptr R2)) η3:=by
  have h0:=(((hp1.env.clear (n:=b) (v := .agg ([v,.bool false]:List Value).toArray)).clear (n:=c) (v := .pointer (some ⟨R2,0,none⟩))).clear (n:=m) (v:=undef))
  rw [hη3] at h0
  exact (h0.other (ptr R2)).know (n:=c) (a := .o 0 0) hp1.nj.1 (by simp only [AV.val,addOff_zero,upd,if_true];exact eR)
 have hsj1:st1.sj=st.sj:=by rw [e1]
 have hnj1:st1.nj=st.nj:=by rw [e1]
 have hnoRok:¬ ok R:=hp1.he.notR
 have hpI:Pre g (inSt2 st1 b c m (List.replicate (k.off+wS k.sh) none)) ok2 R2 S base cs false (some b0) (upd ρ 0 (ptr R2)) η3 w3 (.iface et ev):=by
  refine ⟨henv,⟨?_,hp1.cur.row.keep k13 (by simp),?_,fun j v hj => ?_⟩,⟨fun x hx=>⟨hp1.he.new x (Nat.le_trans k13.size hx),by have:=hrR.lt;omega⟩,hnR2⟩,fun h=>hp1.nS h.1,by omega,?_,by simp [upd],cell_keep hp1.err k13 (by simp),by omega,hp1.gS,hp1.nj⟩
  ·show upd ρ 0 (ptr R2) st1.sj=_
   rw [hsj1]
   simp only [upd]
   rw [if_neg hsj]
   have:=hp1.cur.ptr
   rw [hsj1] at this
   exact this
  ·simp only [inSt2,List.length_replicate]
   exact hlen
  ·simp only [inSt2,List.getElem?_replicate] at hj
   split at hj<;>cases hj
  ·refine ⟨v,hrR,?_,fun h=>by cases h⟩
   exact ((hsl.weak fun x hx ho=>(⟨ho,by omega⟩:ok2 x)).same (k13.same fun x hx=>by cases hx))
 have hslI:KSlot ok2 w3 k v0 (cs.drop base) A:=kslot_same hslot k03 (fun x hx hh=>by simp only [List.mem_singleton] at hx;subst hx;exact hnoRok hh.1) (fun a ha=>by simp;exact (hA a ha).1) (fun x hx ho=>⟨ho,by have:=k1.size;omega⟩)
 have hAI:∀ a,A=some a→a≠R2∧a≠S∧a≠g∧¬ ok2 a:=fun a ha=>by
  obtain ⟨h1,h2,h3,h4,h5⟩:=hA a ha
  exact ⟨by have:=k1.size;omega,h2,h3,fun hh=>h4 hh.1⟩
 have F:=chkK_ok hT (by simp [inSt2]) hchk
 have kOut:∀ w',Keep (R2::S::A.toList) w3 w'→Keep (R::S::A.toList) w w':=fun w' kw=>(k03.mono (A':=R::S::A.toList) fun x hx _=>by simp at hx ⊢;exact .inl hx).trans kw fun x hx hlt=>by
  simp only [List.mem_cons] at hx ⊢
  rcases hx with rfl | hx
  ·have:=k1.size;omega
  ·exact .inr hx
 have hres:sb.bind (rdKn k)=(sb.bind rdVal).bind fun p=>(rd k.sh p.1).map fun x=>(x.1,p.2):=by cases sb<;>rfl
 have hfail:(some b0).bind (rd k.sh)=none→sb.bind (rdKn k)=none:=fun hb=>by
  rw [hres]
  rcases hstep with ⟨_,_,h2⟩ | ⟨r,_,h2⟩
  ·rw [h2];rfl
  ·rw [h2];simp only [Option.bind_some] at hb ⊢;rw [hb];rfl
 refine F.2 ok2 R2 S base cs false (some b0) _ η3 w3 _ _ A v0 hpI hslI hAI (fun hb η' w' kw=>hbad (hfail hb) η' w' (kOut w' kw)) fun ρ' η' w' cs' ok' A' he' hρ' hcur' hcl' hout' hnext hend => ?_
 unfold KEnd at hend
 obtain ⟨nn2,t2,hrd2,ht2⟩:∃ nn2 t2,Rd ok' w' R2 nn2 t2∧t2=((some b0).bind (rd k.sh)).map (·.2):=by
  cases hd:(some b0).bind (rd k.sh) with
  | none=>rw [hd] at hend;obtain ⟨nn',hh⟩:=hend;exact ⟨nn',none,hh,rfl⟩
  | some y=>obtain ⟨y,r⟩:=y;rw [hd] at hend;obtain ⟨⟨nn',hh⟩,_⟩:=hend;exact ⟨nn',some r,hh,rfl⟩
 have hgnot:g∉R2::S::A.toList:=by
  simp only [List.mem_cons,not_or]
  refine ⟨by omega,hp1.gS,fun hh => ?_⟩
  exact (hA g (by simpa using hh)).2.2.1 rfl
 have hp2:Pre g st' ok' R2 S base cs' nn2 t2 ρ' η' w' (.iface et ev):=by
  refine ⟨he',hcur',hnext.he,fun hh=>hpI.nS (hnext.sub _ hh),by omega,hrd2,?_,cell_keep hpI.err hnext.keep hgnot,hpI.gR,hpI.gS,?_⟩
  ·rw [hρ' 0 (by show 0<st1.nj;exact hp1.nj.1)];simp [upd]
  ·have h1:=F.1.nj
   have h2:=F.1.sj
   have h3:=hp1.nj
   simp only [inSt2] at h1 h2
   omega
 unfold endS at h
 dsimp only at h
 refine run_pre (f:=KF) hp2 fun η4 hp4 => ?_
 split at h
 case h_2=>cases h
 rename_i fc y m1 m2 m3 m4 m5 hq
 rw [hq]
 simp only [Bool.and_eq_true,beq_iff_eq,bne_iff_ne,ne_eq] at h
 obtain ⟨rfl,rfl,rfl,rfl,hm13,hy⟩:=h
 obtain ⟨_,hyv⟩:=isO_val hp4.env hy
 rw [hp4.r0,addOff_ptr] at hyv
 refine np_op (vs:=[ptr R2]) (by simp [hyv]) (hT.compl ok' w' R2 nn2 t2 _ _ hp4.rd hp4.err ?_)
 cases hd:(some b0).bind (rd k.sh) with
 | none=>
  rw [hd] at ht2
  subst ht2
  simp only [Option.map_none,Option.isSome_none,Bool.false_eq_true,if_false]
  refine np_op (vs:=[.iface et ev]) (by simp [SV.val,upd]) ⟨_,false,rfl,rfl,?_⟩
  refine np_ite true (by simp [SV.val,upd]) ?_
  simp only [if_true]
  have:=hbad (hfail hd) (upd (upd η4 m1 (.iface et ev)) m3 (.bool (false != true))) w' (kOut w' hnext.keep)
  show Q _ _ _
  simpa [SV.val,upd,hm13] using this
 | some z=>
  obtain ⟨x,rest'⟩:=z
  rw [hd] at ht2 hend
  subst ht2
  simp only [Option.map_some,Option.isSome_some,if_true]
  refine np_op (vs:=[.nilIface]) (by simp [SV.val,upd]) ⟨_,true,rfl,rfl,?_⟩
  refine np_ite false (by simp [SV.val,upd]) ?_
  simp only [Bool.false_eq_true,if_false]
  rcases hstep with ⟨h1,h2,h3⟩ | ⟨r,rfl,h3⟩
  ·subst h2
   simp only [Option.bind_some] at hd
   rw [hd] at hnone
   cases hnone
  ·have hOk:sb.bind (rdKn k)=some (x,r):=by
    rw [hres,h3]
    simp only [Option.bind_some] at hd ⊢
    rw [hd];rfl
   have hold:∀ y,y<w1.heap.size→ok y→ok' y:=fun y hy ho=>hnext.old y (Nat.lt_of_lt_of_le hy k13.size) ⟨ho,by omega⟩
   have hA':∀ y∈R2::S::A.toList,¬ ok' y:=fun y hy hh=>by
    simp only [List.mem_cons] at hy
    rcases hy with rfl | rfl | hy
    ·exact hnR2 (hnext.sub _ hh)
    ·exact hp1.nS (hnext.sub _ hh).1
    ·exact (hA y (by simpa using hy)).2.2.2.1 (hnext.sub _ hh).1
   have hRd:Rd ok' w' R nn1 (some r):=by
    have q1:=(hp1.rd.weak (ok':=ok') hold).keep k13 (by simp) (by simp)
    refine q1.keep hnext.keep (fun hh => ?_) hA'
    simp only [List.mem_cons] at hh
    rcases hh with hh | hh | hh
    ·omega
    ·exact hp1.SR hh.symm
    ·exact (hA R (by simpa using hh)).1 rfl
   show Q .nrm _ _
   refine hgood x r nn1 _ w' cs' ok' A' hOk hcur'.row hcl' hout' ⟨fun y hy=>(hnext.sub y hy).1,fun y hy ho=>hold y (Nat.lt_of_lt_of_le hy k1.size) ho,⟨hnext.he.new,fun hh=>hnoRok (hnext.sub _ hh).1⟩,kOut w' hnext.keep,?_,hnext.out⟩ hRd hend.2
   rcases hnext.blk with hb | ⟨B,hb,hB1,hB2⟩
   ·exact .inl hb
   ·exact .inr ⟨B,hb,Nat.le_trans (Nat.le_trans k1.size k13.size) hB1,hB2.1⟩
end
end Go.Mr
namespace Go.Mr
open Go.Lx Go.Nx Go.Km Go.Mx Go.Kb
open Go.CX (T deep)
set_option linter.unusedSimpArgs false
set_option linter.unusedVariables false
def defS (U:KTab) (o jk:Nat) (st:St):NP→Bool
 | .draw (.op (.call f1) [x] n1 (.look (.cv .i64) [.s a1] n2 (.op (.call f2) [y,.s a2] n3 (.keep (.cv .i64) [.s a3] a4 (.op (.call f3) [z,u,.s a5] n4 (.keep (.cv .i64) [.s a6] a7 .nil))))))=>
  if f1=U.uv∧f2=U.span∧f3=U.set∧a1=n1∧a2=n2∧a3=n1∧a4=n2∧a5=n3∧a6=n1∧a7=n2∧n1≠n2∧n1≠n3∧n2≠n3∧n1≠n4∧n2≠n4∧isO st.env x 0 0=true∧isO (clr [n1,n2] st.env) y 0 0=true∧isO (clr [n1,n2,n3] st.env) z st.sj o=true∧isO (clr [n1,n2,n3] st.env) u jk 0=true then true else false
 | _=>false
def isNilP:NP→Bool
 | .nil=>true
 | _=>false
theorem isNilP_eq {p:NP} (h:isNilP p=true):p = .nil:=by
 unfold isNilP at h
 split at h
 ·rfl
 ·cases h
def chainS (T:Tab) (U:KTab) (o jk:Nat):List KT→NP→St→Option NP
 | [],p,st=>if defS U o jk st p=true then some .nil else none
 | k::ks,.op (.bin .eql) [x,.k (.int .u32 key)] n (.ite (.s n') A B t),st=>
  if n=n'∧key=(k.key:Int)∧isO st.env x jk 0=true∧knownS2 T U k A { st with env:=st.env.set deep n none }=true then
   match chainS T U o jk ks B { st with env:=st.env.set deep n none } with
   | some t'=>if isNilP t'=true then some t else none
   | none=>none
  else none
 | _,_,_=>none
def chA:List KT→NP→List Nat
 | [],p=>asg p
 | _::ks,.op _ _ n (.ite _ A B _)=>n::(asg A++chA ks B)
 | _,_=>[]
section
variable {P:Program} {g:Nat}
theorem uvG {U:KTab} (hU:KTabOk P U) {ok:Nat→Prop} {w:World} {R:Nat} {nn:Bool} {sb:Option Bs} {K:Value→World→Prop} (he:Env ok w R) (hr:Rd ok w R nn sb)
  (hk:∀ (n:Nat) (t:Option Bs) nn' w',Keep [R] w w'→n<4294967296→Rd ok w' R nn' t→sb.bind rdUv=t.map (fun r=>(n,r))→K (.int .u32 (n:Int)) w'):In.wp P (.call U.uv) [ptr R] w K:=by
 refine hU.uv ok w R nn sb _ he hr fun v w1 k1 hend => ?_
 unfold ReadEnd at hend
 cases hs':sb.bind rdUv with
 | none=>
  rw [hs'] at hend
  rw [hend.2]
  exact hk 0 none _ w1 k1 (by decide) hend.1 (by rw [hs'];rfl)
 | some p=>
  obtain ⟨l,r⟩:=p
  rw [hs'] at hend
  rw [hend.2]
  refine hk l (some r) _ w1 k1 ?_ hend.1 (by rw [hs'];rfl)
  cases sb with
  | none=>cases hs'
  | some bs=>exact (rdUv_some hs').1
theorem spanG {U:KTab} (hU:KTabOk P U) {ok:Nat→Prop} {w:World} {R:Nat} {nn:Bool} {z:Option Bs} {l:Nat} {K:Value→World→Prop} (he:Env ok w R) (hr:Rd ok w R nn z)
  (hk:∀ (q:Bs) (t:Option Bs) nn' v w',Keep [R] w w'→Rd ok w' R nn' t→Sl ok w' v q→z.bind (cut l)=t.map (fun r=>(q,r))→K v w'):In.wp P (.call U.span) [ptr R,.int .i64 (l:Int)] w K:=by
 refine hU.span ok w R nn z (l:Int) _ he hr fun v w2 k2 hend2 => ?_
 have hcut:z.bind (rdSpan (l:Int))=z.bind (cut l):=by
  cases z with
  | none=>rfl
  | some bs=>simp only [Option.bind_some,rdSpan];rw [if_pos (by omega),Int.toNat_natCast]
 unfold SpanEnd at hend2
 rw [hcut] at hend2
 cases hs2:z.bind (cut l) with
 | none=>
  rw [hs2] at hend2
  exact hk [] none _ v w2 k2 hend2.1 (.inl ⟨hend2.2,rfl⟩) (by rw [hs2];rfl)
 | some p=>
  obtain ⟨b,r⟩:=p
  rw [hs2] at hend2
  exact hk b (some r) _ v w2 k2 hend2.1 hend2.2.1 (by rw [hs2];rfl)
theorem def_okK {U:KTab} (hU:KTabOk P U) {o jk:Nat} {st:St} {p:NP} (h:defS U o jk st p=true) {ok:Nat→Prop} {R S base:Nat} {cs:List Value} {nn:Bool} {sb:Option Bs} {ρ η:Nat→Value} {w:World} {err:Value} {Q:Post}
  (hp:Pre g st ok R S base cs nn sb ρ η w err) {K:Nat} (hK:ρ jk = .int .u32 (K:Int)) {v:Value} {acc:Tg} {own:Nat→Prop} (hcell:cs[base+o]?=some v) (hrep:RepT own ok w acc v) (hown:∀ r,own r→¬ ok r∧r≠S∧r≠R)
  (hk:∀ (q:Bs) (t:Option Bs) nn' η' w' r es,sb.bind rdVal=t.map (fun b=>(q,b))→(v = .map none→w.heap.size≤r)→(∀ q,v = .map (some q)→r=q)→r≠S→r≠R→Keep [R,S,r] w w'→Row w' S (cs.set (base+o) (.map (some r))) →
   Ents (fun k=>ok k∧k≠r) w' r es (tagSet K q acc)→Rd (fun k=>ok k∧k≠r) w' R nn' t→Env (fun k=>ok k∧k≠r) w' R→Q .nrm η' w'):p.wp P Q η w:=by
 unfold defS at h
 split at h
 case h_2=>cases h
 rename_i f1 x n1 a1 n2 f2 y a2 n3 a3 a4 f3 z u a5 n4 a6 a7
 split at h
 case isFalse=>cases h
 rename_i hc
 obtain ⟨rfl,rfl,rfl,q1,q2,q3,q4,q5,q6,q7,h12,h13,h23,h14,h24,hx,hy,hz,hu⟩:=hc
 replace q1:=q1.symm
 replace q2:=q2.symm
 replace q3:=q3.symm
 replace q4:=q4.symm
 replace q5:=q5.symm
 replace q6:=q6.symm
 replace q7:=q7.symm
 subst q1 q2 q3 q4 q5 q6 q7
 refine np_draw ?_
 have kd:=keep_drawn w
 have hrdd:=hp.rd.keep kd (by simp) (by simp)
 have hed:=hp.he.keep kd
 obtain ⟨_,hxv⟩:=isO_val hp.env hx
 rw [hp.r0,addOff_ptr] at hxv
 refine np_op (vs:=[ptr R]) (by simp [hxv]) (uvG hU hed hrdd fun l z1 nn1 w1 k1 hl hr1 hl1 => ?_)
 have hw:IntKind.i64.wrap (l:Int)=(l:Int):=by
  simp only [IntKind.wrap,IntKind.bits,IntKind.signed]
  simp
  omega
 refine np_look (vs:=[.int .u32 (l:Int)]) (by simp [SV.val,upd]) ⟨.u32,l,rfl,rfl,?_⟩
 rw [hw]
 have he1:EnvOk (clr [n1,n2] st.env) st.nj ρ (upd (upd η n1 (.int .u32 (l:Int))) n2 (.int .i64 (l:Int))):=hp.env.clr fun m hm=>by
  simp only [List.mem_cons,List.not_mem_nil,or_false,not_or] at hm
  simp [upd,hm.1,hm.2]
 obtain ⟨_,hyv⟩:=isO_val he1 hy
 rw [hp.r0,addOff_ptr] at hyv
 have e1:=hed.keep k1
 refine np_op (vs:=[ptr R,.int .i64 (l:Int)]) (by simp only [List.map,hyv];simp [SV.val,upd]) (spanG hU e1 hr1 fun q t nn2 val w2 k2 hr2 hsl hl2 => ?_)
 refine np_keep (vs:=[.int .u32 (l:Int)]) (by simp [SV.val,upd,h12,h13]) ⟨.u32,l,rfl,by simp [upd,h23,hw],rfl⟩ ?_
 generalize hη3:upd (upd (upd η n1 (.int .u32 (l:Int))) n2 (.int .i64 (l:Int))) n3 val=η3
 have he3:EnvOk (clr [n1,n2,n3] st.env) st.nj ρ η3:=hp.env.clr fun m hm=>by
  simp only [List.mem_cons,List.not_mem_nil,or_false,not_or] at hm
  rw [← hη3];simp [upd,hm.1,hm.2.1,hm.2.2]
 obtain ⟨_,hzv⟩:=isO_val he3 hz
 rw [hp.cur.ptr] at hzv
 simp only [addOff,addr_at] at hzv
 obtain ⟨_,huv⟩:=isO_val he3 hu
 rw [addOff_zero,hK] at huv
 have e3:η3 n3=val:=by rw [← hη3];simp [upd]
 have kk:Keep [R] w w2:=((kd.mono fun x hx _=>by cases hx).then k1).then k2
 have hnR:∀ x∈[R],¬ ok x:=fun x hx=>by rw [List.mem_singleton.1 hx];exact hp.he.notR
 have hrow2:=hp.cur.row.keep kk (by simp only [List.mem_singleton];exact hp.SR)
 have hrep2:RepT (fun r=>¬ ok r∧r≠S) ok w2 acc v:=by
  rcases hrep with h | ⟨r,es,h1,h2,h3⟩
  ·exact .inl h
  ·obtain ⟨g1,g2,g3⟩:=hown r h2
   exact .inr ⟨r,es,h1,⟨g1,g2⟩,h3.keep kk (by simp only [List.mem_singleton];exact g3) hnR⟩
 refine np_op (vs:=[.pointer (some ⟨S,base+o,none⟩),.int .u32 (K:Int),val]) (by simp only [List.map,hzv,huv];simp [SV.val,e3]) (hU.set ok w2 S (base+o) cs v K q val acc _ hrow2 hcell hrep2 hsl hp.nS fun v' w3 r es hv' hnew hsame k3 hrow3 hrS hents => ?_)
 subst hv'
 have hRlt:=rd_lt hp.rd
 have hsz2:=kk.size
 have hrR:r≠R:=by
  rcases hrep with ⟨h1,_⟩ | ⟨r',es',h1,h2,h3⟩
  ·have:=hnew h1;omega
  ·have:=hsame r' h1;subst this;exact (hown _ h2).2.2
 refine np_keep (vs:=[.int .u32 (l:Int)]) ?_ ⟨.u32,l,rfl,?_,rfl⟩ ?_
 ·rw [← hη3];simp [SV.val,upd,h12,h13,h14]
 ·rw [← hη3];simp [upd,h23,h24,hw]
 have hnA:∀ x∈[S,r],¬ (ok x∧x≠r):=fun x hx h=>by
  simp only [List.mem_cons,List.not_mem_nil,or_false] at hx
  rcases hx with rfl | rfl
  ·exact hp.nS h.1
  ·exact h.2 rfl
 have hrnew:w2.heap.size≤r∨¬ ok r:=by
  rcases hrep with ⟨h1,_⟩ | ⟨r',es',h1,h2,h3⟩
  ·exact .inl (hnew h1)
  ·have:=hsame r' h1;subst this;exact .inr (hown _ h2).1
 refine hk q t nn2 _ w3 r es ?_ (fun h=>by have:=hnew h;omega) hsame hrS hrR ?_ hrow3 hents ?_ ?_
 ·have e:sb.bind rdVal=(sb.bind rdUv).bind fun p=>cut p.1 p.2:=by cases sb<;>rfl
  rw [e,hl1]
  cases z1 with
  | none=>simpa using hl2
  | some b=>simpa using hl2
 ·exact (kk.mono fun x hx _=>by simp at hx ⊢;exact .inl hx).then (k3.mono fun x hx _=>by simp at hx ⊢;exact .inr hx)
 ·refine (hr2.weak fun b hb ho=>⟨ho,fun e => ?_⟩).keep k3 (by simp only [List.mem_cons,List.not_mem_nil,or_false,not_or];exact ⟨fun e=>hp.SR e.symm,fun e=>hrR e.symm⟩) hnA
  subst e
  rcases hrnew with h | h
  ·omega
  ·exact h ho
 ·refine ⟨fun k hk'=>⟨hp.he.new k (by have:=k3.size;omega),by have:=hents.lt;omega⟩,fun h=>hp.he.notR h.1⟩
theorem chainS_cons {T:Tab} {U:KTab} {o jk:Nat} {k:KT} {ks:List KT} {p t:NP} {st:St} (h:chainS T U o jk (k::ks) p st=some t) :
  ∃ x n A B,p = .op (.bin .eql) [x,.k (.int .u32 (k.key:Int))] n (.ite (.s n) A B t)∧isO st.env x jk 0=true∧knownS2 T U k A { st with env:=st.env.set deep n none }=true∧chainS T U o jk ks B { st with env:=st.env.set deep n none }=some .nil:=by
 generalize hl:k::ks=l at h
 unfold chainS at h
 split at h
 ·cases hl
 ·cases hl
  split at h
  case isFalse=>cases h
  rename_i hc
  obtain ⟨rfl,rfl,hx,hA⟩:=hc
  split at h
  case h_2=>cases h
  rename_i t2 ht2
  split at h
  case isFalse=>cases h
  rename_i hnil
  cases h
  have hnil':=isNilP_eq hnil
  subst hnil'
  exact ⟨_,_,_,_,rfl,hx,hA,ht2⟩
 ·cases h
theorem chain_ok {T:Tab} {U:KTab} {o jk:Nat}:∀ (ks:List KT) (p t:NP) (st:St),chainS T U o jk ks p st=some t→∀ {ok:Nat→Prop} {R S base:Nat} {cs:List Value} {nn:Bool} {sb:Option Bs} {ρ η:Nat→Value} {w:World} {err:Value} {Q:Post} {K:Nat},
  Pre g st ok R S base cs nn sb ρ η w err→ρ jk = .int .u32 (K:Int) →
  (∀ j k A st' η',ks[j]?=some k→kIdx ks K=some (j,k)→knownS2 T U k A st'=true→st'.sj=st.sj→st'.nj=st.nj→Pre g st' ok R S base cs nn sb ρ η' w err→(∀ n,n∉chA ks p→η' n=η n)→(∀ n,n∈asg A→n∈chA ks p)→A.wp P (thenN P t Q) η' w) →
  (∀ B st' η',kIdx ks K=none→defS U o jk st' B=true→Pre g st' ok R S base cs nn sb ρ η' w err→(∀ n,n∉chA ks p→η' n=η n)→(∀ n,n∈asg B→n∈chA ks p)→B.wp P (thenN P t Q) η' w)→p.wp P Q η w:=by
 intro ks
 induction ks with
 | nil=>
  intro p t st h ok R S base cs nn sb ρ η w err Q K hp hK h1 h2
  simp only [chainS] at h
  split at h
  case isFalse=>cases h
  rename_i hd
  cases h
  refine NP.wp_mono _ _ _ _ _ ?_ (h2 p st η rfl hd hp (fun _ _=>rfl) (fun _ h=>h))
  intro o' η' w' ho
  cases o' with
  | nrm=>exact ho
  | ext=>exact ho
  | ret vs=>exact ho
 | cons k ks ih=>
  intro p t st h ok R S base cs nn sb ρ η w err Q K hp hK h1 h2
  obtain ⟨x,n,A,B,rfl,hx,hA,ht2⟩:=chainS_cons h
  obtain ⟨_,hxv⟩:=isO_val hp.env hx
  rw [addOff_zero,hK] at hxv
  refine np_op (vs:=[.int .u32 (K:Int),.int .u32 (k.key:Int)]) (by simp only [List.map,hxv];rfl) ⟨.u32,(K:Int),(k.key:Int),.bool ((K:Int) == (k.key:Int)),rfl,rfl,?_⟩
  have hp':Pre g { st with env:=st.env.set deep n none } ok R S base cs nn sb ρ (upd η n (.bool ((K:Int) == (k.key:Int)))) w err:=hp.env' hp.env.clear
  refine np_ite ((K:Int) == (k.key:Int)) (by simp [SV.val,upd]) ?_
  by_cases hkk:K=k.key
  ·have hb:((K:Int) == (k.key:Int))=true:=by simp [hkk]
   rw [hb]
   simp only [if_true]
   refine h1 0 k A _ _ rfl (by simp [kIdx,hkk]) hA rfl rfl (by rw [hb] at hp';exact hp') (fun m hm => ?_) fun m hm => ?_
   ·simp only [chA,List.mem_cons,not_or] at hm
    simp [upd,hm.1]
   ·simp only [chA,List.mem_cons,List.mem_append];exact .inr (.inl hm)
  ·have hb:((K:Int) == (k.key:Int))=false:=by simp;omega
   rw [hb]
   simp only [Bool.false_eq_true,if_false]
   have hkey:kIdx (k::ks) K=(kIdx ks K).map fun p=>(p.1+1,p.2):=by
    simp only [kIdx];rw [if_neg (fun e=>hkk e.symm)]
   have hfr:∀ (η':Nat→Value),(∀ m,m∉chA ks B→η' m=upd η n (.bool false) m)→∀ m,m∉chA (k::ks) (.op (.bin .eql) [x,.k (.int .u32 (k.key:Int))] n (.ite (.s n) A B t))→η' m=η m:=fun η' hη m hm=>by
    simp only [chA,List.mem_cons,List.mem_append,not_or] at hm
    rw [hη m hm.2.2];simp [upd,hm.1]
   have hsb:∀ m,m∈chA ks B→m∈chA (k::ks) (.op (.bin .eql) [x,.k (.int .u32 (k.key:Int))] n (.ite (.s n) A B t)):=fun m hm=>by
    simp only [chA,List.mem_cons,List.mem_append];exact .inr (.inr hm)
   have conv:∀ {D:NP} {η':Nat→Value},D.wp P (thenN P t Q) η' w→D.wp P (thenN P .nil (thenN P t Q)) η' w:=fun {D η'} hD=>NP.wp_mono _ _ _ _ _ (fun o' η'' w'' ho=>by
    cases o' with
    | nrm=>exact ho
    | ext=>exact ho
    | ret vs=>exact ho) hD
   refine ih B .nil _ ht2 (Q:=thenN P t Q) (by rw [hb] at hp';exact hp') hK (fun j k' A' st' η' hj hi hA' s1 s2 hpp hη hs=>conv (h1 (j+1) k' A' st' η' (by simpa using hj) (by rw [hkey,hi];rfl) hA' s1 s2 hpp (hfr η' hη) fun m hm=>hsb m (hs m hm))) (fun B' st' η' hi hd hpp hη hs=>conv (h2 B' st' η' (by rw [hkey,hi];rfl) hd hpp (hfr η' hη) fun m hm=>hsb m (hs m hm)))
end
end Go.Mr
namespace Go.Mr
open Go.Lx Go.Nx Go.Km Go.Mx Go.Kb
open Go.CX (T deep)
set_option linter.unusedSimpArgs false
set_option linter.unusedVariables false
structure KG where
 ok:Nat→Prop
 vs:KV
 As:Nat→Option Nat
 acc:Tg
 v:Value
 nn:Bool
 t:Option Bs
 cs:List Value
structure KInv (g:Nat) (ks:List KT) (o:Nat) (ok0:Nat→Prop) (R S base:Nat) (cs0:List Value) (w0:World) (err:Value) (G:KG) (w:World):Prop where
 row:Row w S G.cs
 len:G.cs.length=cs0.length
 out:∀ j,(∀ k∈ks,j<base+k.off∨base+k.off+wS k.sh≤j)→j≠base+o→G.cs[j]?=cs0[j]?
 sub:∀ q,G.ok q→ok0 q
 old:∀ q,q<w0.heap.size→ok0 q→G.ok q
 he:Env G.ok w R
 rd:Rd G.ok w R G.nn G.t
 keep:Keep [R,S] w0 w
 err:w.cell? ⟨g,0,none⟩=some err
 vlen:G.vs.length=ks.length
 slots:∀ i k,ks[i]?=some k→KSlot G.ok w k (G.vs.getD i none) (G.cs.drop base) (G.As i)
 apart:∀ i a,G.As i=some a→a≠R∧a≠S∧a≠g∧¬ G.ok a∧ok0 a∧w0.heap.size≤a∧a<w.heap.size
 dist:∀ i j a,G.As i=some a→G.As j=some a→i=j
 cell:G.cs[base+o]?=some G.v
 rep:RepT (fun r=>¬ G.ok r∧r≠S∧r≠R∧r≠g∧ok0 r∧w0.heap.size≤r∧∀ i,G.As i≠some r) G.ok w G.acc G.v
 nil:G.acc=[]→G.v = .map none
 dfl:∀ i k,ks[i]?=some k→G.vs.getD i none=none→∀ j,base+k.off≤j→j<base+k.off+wS k.sh→G.cs[j]?=cs0[j]?
def apartK:List KT→Bool
 | []=>true
 | k::r=>r.all (fun k'=>decide (k.off+wS k.sh≤k'.off) || decide (k'.off+wS k'.sh≤k.off)) && apartK r
def ksLay (ks:List KT) (o n:Nat):Bool:=decide (o<n) && (ks.all (fun k=>decide (k.off+wS k.sh≤n) && (decide (o<k.off) || decide (k.off+wS k.sh≤o))) && apartK ks)
theorem apartK_get:∀ {ks:List KT},apartK ks=true→∀ {i j:Nat} {k k':KT},ks[i]?=some k→ks[j]?=some k'→i≠j→k.off+wS k.sh≤k'.off∨k'.off+wS k'.sh≤k.off:=by
 intro ks
 induction ks with
 | nil=>intro _ i j k k' h;simp at h
 | cons a r ih=>
  intro h i j k k' hi hj hij
  simp only [apartK,Bool.and_eq_true,List.all_eq_true,Bool.or_eq_true,decide_eq_true_eq] at h
  cases i with
  | zero=>
   cases j with
   | zero=>exact (hij rfl).elim
   | succ j=>
    simp only [List.getElem?_cons_zero,Option.some.injEq] at hi
    simp only [List.getElem?_cons_succ] at hj
    subst hi
    exact h.1 k' (List.mem_of_getElem? hj)
  | succ i=>
   cases j with
   | zero=>
    simp only [List.getElem?_cons_zero,Option.some.injEq] at hj
    simp only [List.getElem?_cons_succ] at hi
    subst hj
    exact (h.1 k (List.mem_of_getElem? hi)).symm
   | succ j=>
    simp only [List.getElem?_cons_succ] at hi hj
    exact ih h.2 hi hj (by omega)
theorem kslot_lt {ok:Nat→Prop} {w:World} {k:KT} {v:Option Val} {cs:List Value} {a:Nat} (h:KSlot ok w k v cs (some a)):a<w.heap.size:=by
 by_cases ha:isArr k.sh=true
 ·cases hk:k.sh with
  | arr c sz e=>
   rw [kslot_arr hk] at h
   obtain ⟨u,_,h2,_⟩:=h
   rcases h2 with ⟨h3,_⟩ | ⟨A0,n,c,acs,h3,_,_,h4,_⟩
   ·cases h3
   ·cases h3;exact h4.lt
  | _=>rw [hk] at ha;cases ha
 ·have hna:isArr k.sh=false:=by simpa using ha
  rw [kslot_other hna] at h
  cases h.1
section
variable {P:Program} {g:Nat}
structure KFix (ks:List KT) (o:Nat) (ok0:Nat→Prop) (R S base n g:Nat):Prop where
 lay:ksLay ks o n=true
 nS:¬ ok0 S
 SR:S≠R
 gR:g≠R
 gS:g≠S
theorem KInv.known {ks:List KT} {o:Nat} {ok0:Nat→Prop} {R S base n:Nat} {cs0:List Value} {w0:World} {err:Value} {G:KG} {w w':World} (F:KFix ks o ok0 R S base n g) (h:KInv g ks o ok0 R S base cs0 w0 err G w) {i:Nat} {k:KT} (hi:ks[i]?=some k)
  {x:Val} {nn':Bool} {rest:Bs} {cs':List Value} {ok':Nat→Prop} {A':Option Nat} (hrow:Row w' S cs') (hlen:cs'.length=G.cs.length) (hout:∀ j,j<base+k.off∨base+k.off+wS k.sh≤j→cs'[j]?=G.cs[j]?) (hn:KNext G.ok ok' w w' R S (G.As i) A')
  (hrd:Rd ok' w' R nn' (some rest)) (hs:KSlot ok' w' k (some x) (cs'.drop base) A') :
  KInv g ks o ok0 R S base cs0 w0 err { ok:=ok',vs:=G.vs.set i (some x),As:=fun j=>if j=i then A' else G.As j,acc:=G.acc,v:=G.v,nn:=nn',t:=some rest,cs:=cs' } w':=by
 have hlay:=F.lay
 simp only [ksLay,Bool.and_eq_true,List.all_eq_true,Bool.or_eq_true,decide_eq_true_eq] at hlay
 obtain ⟨_,hlay1,hlay2⟩:=hlay
 have hkm:k∈ks:=List.mem_of_getElem? hi
 have hko:=(hlay1 k hkm).2
 have hRlt:=rd_lt h.rd
 have hSlt:=h.row.lt
 have hglt:g<w.heap.size:=cell_lt h.err
 have hmem:∀ y∈R::S::(G.As i).toList,¬ ok' y:=fun y hy hh=>by
  simp only [List.mem_cons] at hy
  rcases hy with rfl | rfl | hy
  ·exact h.he.notR (hn.sub _ hh)
  ·exact F.nS (h.sub _ (hn.sub _ hh))
  ·exact (h.apart i y (by simpa using hy)).2.2.2.1 (hn.sub _ hh)
 have hnotA:∀ j a,j≠i→G.As j=some a→a∉R::S::(G.As i).toList:=fun j a hj ha hh=>by
  obtain ⟨q1,q2,_⟩:=h.apart j a ha
  simp only [List.mem_cons] at hh
  rcases hh with hh | hh | hh
  ·exact q1 hh
  ·exact q2 hh
  ·exact hj (h.dist j i a ha (by simpa using hh))
 have hgn:g∉R::S::(G.As i).toList:=fun hh=>by
  simp only [List.mem_cons] at hh
  rcases hh with hh | hh | hh
  ·exact F.gR hh
  ·exact F.gS hh
  ·exact (h.apart i g (by simpa using hh)).2.2.1 rfl
 have hA'lt:∀ a,A'=some a→a<w'.heap.size:=fun a ha=>by subst ha;exact kslot_lt hs
 refine ⟨hrow,hlen.trans h.len,fun j hj ho=>(hout j (hj k hkm)).trans (h.out j hj ho),fun q hq=>h.sub q (hn.sub q hq),fun q hq ho=>hn.old q (Nat.lt_of_lt_of_le hq h.keep.size) (h.old q hq ho),hn.he,hrd,?_,cell_keep h.err hn.keep hgn,by simp [h.vlen],?_,?_,?_,?_,?_,h.nil,?_⟩
 ·refine h.keep.trans hn.keep fun y hy hlt => ?_
  simp only [List.mem_cons] at hy
  rcases hy with rfl | rfl | hy
  ·simp
  ·simp
  ·have:=(h.apart i y (by simpa using hy)).2.2.2.2.2.1;omega
 ·intro j k' hj
  by_cases hji:j=i
  ·subst hji
   rw [hi] at hj;cases hj
   have hlt:j<G.vs.length:=by rw [h.vlen];exact (List.getElem?_eq_some_iff.1 hi).1
   have e:(G.vs.set j (some x)).getD j none=some x:=by simp [List.getD,hlt]
   dsimp only
   rw [e,if_pos rfl]
   exact hs
  ·have e:(G.vs.set i (some x)).getD j none=G.vs.getD j none:=by simp [List.getD,List.getElem?_set,Ne.symm hji]
   dsimp only
   rw [e,if_neg hji]
   have hw:=apartK_get hlay2 hi hj (Ne.symm hji)
   refine kslot_cells (kslot_same (h.slots j k' hj) hn.keep hmem (fun a ha=>hnotA j a hji ha) hn.old) fun q hq1 hq2 => ?_
   simp only [List.getElem?_drop]
   exact hout _ (by omega)
 ·intro j a ha
  dsimp only at ha ⊢
  by_cases hji:j=i
  ·subst hji
   rw [if_pos rfl] at ha
   have hlt:=hA'lt a ha
   rcases hn.blk with hb | ⟨B,hb,hB1,hB2⟩
   ·rw [hb] at ha
    obtain ⟨q1,q2,q3,q4,q5,q6,q7⟩:=h.apart j a ha
    exact ⟨q1,q2,q3,hn.out a (by rw [hb];exact ha),q5,q6,hlt⟩
   ·rw [hb] at ha
    cases ha
    have:=h.keep.size
    exact ⟨by omega,by omega,by omega,hn.out _ hb,h.sub _ hB2,by omega,hlt⟩
  ·rw [if_neg hji] at ha
   obtain ⟨q1,q2,q3,q4,q5,q6,q7⟩:=h.apart j a ha
   exact ⟨q1,q2,q3,fun hh=>q4 (hn.sub _ hh),q5,q6,Nat.lt_of_lt_of_le q7 hn.keep.size⟩
 ·intro j j' a ha ha'
  dsimp only at ha ha'
  have new:∀ q,q≠i→G.As q=some a→A'=some a→False:=fun q hq hqa haa=>by
   rcases hn.blk with hb | ⟨B,hb,hB1,hB2⟩
   ·rw [hb] at haa;exact hq (h.dist q i a hqa haa)
   ·rw [hb] at haa;cases haa
    have:=(h.apart q _ hqa).2.2.2.2.2.2;omega
  by_cases hji:j=i
  ·by_cases hji':j'=i
   ·omega
   ·rw [if_pos hji] at ha;rw [if_neg hji'] at ha'
    exact (new j' hji' ha' ha).elim
  ·rw [if_neg hji] at ha
   by_cases hji':j'=i
   ·rw [if_pos hji'] at ha'
    exact (new j hji ha ha').elim
   ·rw [if_neg hji'] at ha'
    exact h.dist j j' a ha ha'
 ·dsimp only
  rw [hout (base+o) (by omega)]
  exact h.cell
 ·dsimp only
  rcases h.rep with h1 | ⟨r,es,h1,⟨r1,r2,r3,r4,r5,r6,r7⟩,h3⟩
  ·exact .inl h1
  ·refine .inr ⟨r,es,h1,⟨fun hh=>r1 (hn.sub _ hh),r2,r3,r4,r5,r6,fun j hj => ?_⟩,(h3.weak hn.old).keep hn.keep (fun hh => ?_) hmem⟩
   ·by_cases hji:j=i
    ·rw [if_pos hji] at hj
     rcases hn.blk with hb | ⟨B,hb,hB1,hB2⟩
     ·rw [hb] at hj;exact r7 i hj
     ·rw [hb] at hj;cases hj
      have:=h3.lt;omega
    ·rw [if_neg hji] at hj;exact r7 j hj
   ·simp only [List.mem_cons] at hh
    rcases hh with hh | hh | hh
    ·exact r3 hh
    ·exact r2 hh
    ·exact r7 i (by simpa using hh)
 ·intro j k' hj hv q hq1 hq2
  dsimp only at hv ⊢
  by_cases hji:j=i
  ·subst hji
   have hlt:j<G.vs.length:=by rw [h.vlen];exact (List.getElem?_eq_some_iff.1 hi).1
   simp [List.getD,hlt] at hv
  ·have e:(G.vs.set i (some x)).getD j none=G.vs.getD j none:=by simp [List.getD,List.getElem?_set,Ne.symm hji]
   rw [e] at hv
   have hw:=apartK_get hlay2 hi hj (Ne.symm hji)
   rw [hout q (by omega)]
   exact h.dfl j k' hj hv q hq1 hq2
theorem KInv.unknown {ks:List KT} {o:Nat} {ok0:Nat→Prop} {R S base n:Nat} {cs0:List Value} {w0:World} {err:Value} {G:KG} {w w':World} (F:KFix ks o ok0 R S base n g) (h:KInv g ks o ok0 R S base cs0 w0 err G w) {K r:Nat} {q:Bs} {t:Option Bs} {nn':Bool} {es:Array MapEntry}
  (hnew:G.v = .map none→w.heap.size≤r) (hsame:∀ q,G.v = .map (some q)→r=q) (hrS:r≠S) (hrR:r≠R) (hk:Keep [R,S,r] w w') (hrow:Row w' S (G.cs.set (base+o) (.map (some r)))) (hents:Ents (fun k=>G.ok k∧k≠r) w' r es (tagSet K q G.acc))
  (hrd:Rd (fun k=>G.ok k∧k≠r) w' R nn' t) (he:Env (fun k=>G.ok k∧k≠r) w' R) :
  KInv g ks o ok0 R S base cs0 w0 err { ok:=fun k=>G.ok k∧k≠r,vs:=G.vs,As:=G.As,acc:=tagSet K q G.acc,v := .map (some r),nn:=nn',t:=t,cs:=G.cs.set (base+o) (.map (some r)) } w':=by
 have hlay:=F.lay
 simp only [ksLay,Bool.and_eq_true,List.all_eq_true,Bool.or_eq_true,decide_eq_true_eq] at hlay
 obtain ⟨_,hlay1,hlay2⟩:=hlay
 have hRlt:=rd_lt h.rd
 have hSlt:=h.row.lt
 have hglt:g<w.heap.size:=cell_lt h.err
 have hsz:=h.keep.size
 have hr:r≠g∧ok0 r∧w0.heap.size≤r∧(∀ i,G.As i≠some r)∧(w.heap.size≤r∨¬ G.ok r):=by
  rcases h.rep with ⟨h1,_⟩ | ⟨r',es',h1,⟨r1,r2,r3,r4,r5,r6,r7⟩,h3⟩
  ·have hn:=hnew h1
   refine ⟨by omega,h.sub r (h.he.new r hn),by omega,fun i hi => ?_,.inl hn⟩
   have:=(h.apart i r hi).2.2.2.2.2.2;omega
  ·have:=hsame r' h1
   subst this
   exact ⟨r4,r5,r6,r7,.inr r1⟩
 have hmem:∀ y∈[R,S,r],¬ (G.ok y∧y≠r):=fun y hy hh=>by
  simp only [List.mem_cons,List.not_mem_nil,or_false] at hy
  rcases hy with rfl | rfl | rfl
  ·exact h.he.notR hh.1
  ·exact F.nS (h.sub _ hh.1)
  ·exact hh.2 rfl
 have hwk:∀ b,b<w.heap.size→G.ok b→(G.ok b∧b≠r):=fun b hb ho=>⟨ho,fun e=>by
  subst e
  rcases hr.2.2.2.2 with h1 | h1
  ·omega
  ·exact h1 ho⟩
 have hnotA:∀ j a,G.As j=some a→a∉[R,S,r]:=fun j a ha hh=>by
  obtain ⟨q1,q2,_⟩:=h.apart j a ha
  simp only [List.mem_cons,List.not_mem_nil,or_false] at hh
  rcases hh with hh | hh | hh
  ·exact q1 hh
  ·exact q2 hh
  ·subst hh;exact hr.2.2.2.1 j ha
 have hcell:=(List.getElem?_eq_some_iff.1 h.cell).1
 refine ⟨hrow,by simp [h.len],fun j hj ho => ?_,fun q hq=>h.sub q hq.1,fun q hq ho => ?_,he,hrd,?_,cell_keep h.err hk ?_,h.vlen,?_,?_,h.dist,?_,.inr ⟨r,es,rfl,⟨fun hh=>hh.2 rfl,hrS,hrR,hr.1,hr.2.1,hr.2.2.1,hr.2.2.2.1⟩,hents⟩,fun hh=>(tagSet_ne hh).elim,?_⟩
 ·dsimp only
  rw [List.getElem?_set,if_neg (fun e=>ho e.symm)]
  exact h.out j hj ho
 ·refine ⟨h.old q hq ho,?_⟩
  have:=hr.2.2.1;omega
 ·refine h.keep.trans hk fun y hy hlt => ?_
  simp only [List.mem_cons,List.not_mem_nil,or_false] at hy
  rcases hy with rfl | rfl | rfl
  ·simp
  ·simp
  ·have:=hr.2.2.1;omega
 ·simp only [List.mem_cons,List.not_mem_nil,or_false,not_or]
  exact ⟨F.gR,F.gS,fun e=>hr.1 e.symm⟩
 ·intro i k hi
  dsimp only
  have hko:=(hlay1 k (List.mem_of_getElem? hi)).2
  refine kslot_cells (kslot_same (h.slots i k hi) hk hmem (fun a ha=>hnotA i a ha) hwk) fun q hq1 hq2 => ?_
  simp only [List.getElem?_drop,List.getElem?_set]
  rw [if_neg (by omega)]
 ·intro i a ha
  dsimp only at ha ⊢
  obtain ⟨q1,q2,q3,q4,q5,q6,q7⟩:=h.apart i a ha
  exact ⟨q1,q2,q3,fun hh=>q4 hh.1,q5,q6,Nat.lt_of_lt_of_le q7 hk.size⟩
 ·dsimp only
  rw [List.getElem?_set_self hcell]
 ·intro i k hi hv q hq1 hq2
  dsimp only at hv ⊢
  have hko:=(hlay1 k (List.mem_of_getElem? hi)).2
  rw [List.getElem?_set,if_neg (by omega)]
  exact h.dfl i k hi hv q hq1 hq2
theorem KInv.read {ks:List KT} {o:Nat} {ok0:Nat→Prop} {R S base n:Nat} {cs0:List Value} {w0:World} {err:Value} {G:KG} {w w':World} (F:KFix ks o ok0 R S base n g) (h:KInv g ks o ok0 R S base cs0 w0 err G w) (hk:Keep [R] w w') {t:Option Bs} {nn':Bool} (hr:Rd G.ok w' R nn' t) :
  KInv g ks o ok0 R S base cs0 w0 err { G with nn:=nn',t:=t } w':=by
 have hR:∀ x∈[R],¬ G.ok x:=fun x hx=>by rw [List.mem_singleton.1 hx];exact h.he.notR
 refine ⟨h.row.keep hk (by simp only [List.mem_singleton];exact F.SR),h.len,h.out,h.sub,h.old,h.he.keep hk,hr,h.keep.then (hk.mono fun x hx _=>by simp at hx ⊢;exact .inl hx),cell_keep h.err hk (by simp only [List.mem_singleton];exact F.gR),h.vlen,fun i k hi => ?_,fun i a ha => ?_,h.dist,h.cell,?_,h.nil,h.dfl⟩
 ·exact kslot_same (h.slots i k hi) hk hR (fun a ha=>by simp only [List.mem_singleton];exact (h.apart i a ha).1) (fun _ _ ho=>ho)
 ·obtain ⟨q1,q2,q3,q4,q5,q6,q7⟩:=h.apart i a ha
  exact ⟨q1,q2,q3,q4,q5,q6,Nat.lt_of_lt_of_le q7 hk.size⟩
 ·rcases h.rep with h1 | ⟨r,es,h1,h2,h3⟩
  ·exact .inl h1
  ·exact .inr ⟨r,es,h1,h2,h3.keep hk (by simp only [List.mem_singleton];exact h2.2.2.1) hR⟩
end
end Go.Mr
namespace Go.Mr
open Go.Lx Go.Nx Go.Km Go.Mx Go.Kb
open Go.CX (T deep)
set_option linter.unusedSimpArgs false
set_option linter.unusedVariables false
def tailK (m jm:Nat) (p:NP) (st:St):Bool:=
 let r:=runS KF p st
 match r.1 with
 | .op (.bin .sub) [x,.k (.int .u32 1)] t k=>
  isO r.2.env x jm 0 && (let r2:=runS KF k (r.2.new t);match r2.1 with
   | .nil=>isO r2.2.env (.s m) r.2.nj 0
   | _=>false)
 | _=>false
def kSt (l:List Nat) (m:Nat) (st:St):St:={ env:=(clr l st.env).set deep m (some (.o st.nj 0)),nj:=st.nj+1,sj:=st.sj,cells:=[] }
def loopK (T:Tab) (U:KTab) (o:Nat) (ks:List KT) (jc:Nat):NP→St→Option (NP×St)
 | .loop (.op (.bin .gtr) [.s m,.k (.int .u32 0)] n1 (.ite (.s n2) .nil .exit body)) k,st=>
  if n1=n2∧m≠n1∧isO st.env (.s m) jc 0=true then
   match (runS KF body (kSt (n1::asg body) m st)).1 with
   | .op (.call f) [x] nk p=>
    if f=U.uv∧isO (runS KF body (kSt (n1::asg body) m st)).2.env x 0 0=true then
     match chainS T U o (runS KF body (kSt (n1::asg body) m st)).2.nj ks p ((runS KF body (kSt (n1::asg body) m st)).2.new nk) with
     | some t=>if tailK m st.nj t { (runS KF body (kSt (n1::asg body) m st)).2.new nk with env:=clr (chA ks p) ((runS KF body (kSt (n1::asg body) m st)).2.new nk).env }=true then some (k,{ env:=clr (n1::asg body) st.env,nj:=st.nj,sj:=st.sj,cells:=[] }) else none
     | none=>none
    else none
   | _=>none
  else none
 | _,_=>none
section
variable {P:Program} {g:Nat}
theorem tailK_ok {i ji:Nat} {p:NP} {st:St} (h:tailK i ji p st=true) {ρ η:Nat→Value} {w:World} {S base:Nat} {cs:List Value} {Q:Post} {m:Nat} (he:EnvOk st.env st.nj ρ η) (hc:Cur st ρ w S base cs) (hsj:st.sj<st.nj)
  (hi:ρ ji = .int .u32 ((m+1:Nat):Int)) (hm:m+1<4294967296) (hk:∀ η',η' i = .int .u32 (m:Int)→Q .nrm η' w):p.wp P Q η w:=by
 unfold tailK at h
 obtain ⟨g1,g2,g3,g4⟩:=runS_ok (P:=P) KF p st
 refine g4 he hc fun η1 he1 => ?_
 dsimp only at h
 split at h
 case h_2=>cases h
 rename_i x t k hp
 rw [hp]
 simp only [Bool.and_eq_true] at h
 obtain ⟨hx,h⟩:=h
 have he1':EnvOk (runS KF p st).2.env (runS KF p st).2.nj ρ η1:=by rw [g1];exact he1
 obtain ⟨_,hxv⟩:=isO_val he1' hx
 rw [addOff_zero,hi] at hxv
 have hw:IntKind.u32.wrap (((m+1:Nat):Int) - 1)=(m:Int):=by
  simp only [IntKind.wrap,IntKind.bits,IntKind.signed]
  simp
  omega
 refine np_op (vs:=[.int .u32 ((m+1:Nat):Int),.int .u32 1]) (by simp only [List.map,hxv];rfl) ⟨.u32,((m+1:Nat):Int),1,_,rfl,rfl,?_⟩
 rw [hw]
 obtain ⟨k1,k2,k3,k4⟩:=runS_ok (P:=P) KF k ((runS KF p st).2.new t)
 have he2:=he1'.fresh t (.int .u32 (m:Int))
 refine k4 he2 ⟨?_,hc.row,by show base+(runS KF p st).2.cells.length≤_;rw [g3];exact hc.len,by show ∀ j v,(runS KF p st).2.cells[j]?=_→_;rw [g3];exact hc.known⟩ fun η2 he3 => ?_
 ·show upd ρ (runS KF p st).2.nj _ (runS KF p st).2.sj=_
  rw [g1,g2]
  simp only [upd]
  rw [if_neg (by omega)]
  exact hc.ptr
 ·split at h
  case h_2=>cases h
  rename_i hq
  rw [hq]
  obtain ⟨_,hv⟩:=isO_val he3 h
  rw [addOff_zero] at hv
  simp only [SV.val,upd,if_true] at hv
  exact hk η2 hv
theorem rdK_succ (ks:List KT) (n:Nat) (s:KV×Tg) (bs:Bs):rdK ks (n+1) s bs=(rdUv bs).bind fun k=>(rdVal k.2).bind fun p=>(stepK ks s (k.1,p.1)).bind fun s'=>rdK ks n s' p.2:=by
 simp only [rdK,rdVal]
 congr 1
 funext k
 cases rdUv k.2<;>rfl
theorem KInv.pre {ks:List KT} {o:Nat} {ok0:Nat→Prop} {R S base n:Nat} {cs0:List Value} {w0:World} {err:Value} {G:KG} {w:World} (F:KFix ks o ok0 R S base n g) (h:KInv g ks o ok0 R S base cs0 w0 err G w) {st:St} {ρ η:Nat→Value} (he:EnvOk st.env st.nj ρ η)
  (hptr:ρ st.sj = .pointer (some ⟨S,base,none⟩)) (h0:ρ 0=ptr R) (hnj:0<st.nj∧st.sj<st.nj) (hc:st.cells=[]) (hb:base≤cs0.length):Pre g st G.ok R S base G.cs G.nn G.t ρ η w err:=
 ⟨he,⟨hptr,h.row,by rw [hc,h.len];simpa using hb,fun j v hj=>by rw [hc] at hj;simp at hj⟩,h.he,fun hh=>F.nS (h.sub _ hh),F.SR,h.rd,h0,h.err,F.gR,F.gS,hnj⟩
theorem loopK_ok {T:Tab} (hT:TabOk P T g) {U:KTab} (hU:KTabOk P U) {o jc:Nat} {ks:List KT} {p k:NP} {st st':St} (h:loopK T U o ks jc p st=some (k,st')) (hsj0:st.sj≠0)
  {ok0:Nat→Prop} {R S base n:Nat} {cs0:List Value} {w0:World} {et:TypeId} {ev:Value} {ρ:Nat→Value} {Q:Post} {sb:Option Bs} (F:KFix ks o ok0 R S base n g) (hbl:base+n≤cs0.length) (hptr:ρ st.sj = .pointer (some ⟨S,base,none⟩)) (h0:ρ 0=ptr R) (hnj:0<st.nj∧st.sj<st.nj)
  (hbad:sb.bind (rdE ks)=none→∀ η' w',Keep [R,S] w0 w'→Q (.ret [.iface et ev]) η' w')
  (hgood:∀ G η' w',KInv g ks o ok0 R S base cs0 w0 (.iface et ev) G w'→EnvOk st'.env st'.nj ρ η'→sb.bind (rdE ks)=G.t.map (fun r=>((G.vs,G.acc),r))→k.wp P Q η' w')
  {G:KG} {η:Nat→Value} {w:World} {c:Nat} (hG:KInv g ks o ok0 R S base cs0 w0 (.iface et ev) G w) (hE:EnvOk st.env st.nj ρ η) (hc:ρ jc = .int .u32 (c:Int)) (hc32:c<4294967296) (hlink:sb.bind (rdE ks)=G.t.bind (rdK ks c (G.vs,G.acc))):p.wp P Q η w:=by
 unfold loopK at h
 split at h
 case h_2=>cases h
 rename_i m n1 n2 body k0
 split at h
 case isFalse=>cases h
 rename_i hcond
 obtain ⟨rfl,hmn,hm0⟩:=hcond
 split at h
 case h_2=>cases h
 rename_i f x nk pc hbody
 split at h
 case isFalse=>cases h
 rename_i hcond2
 obtain ⟨rfl,hx⟩:=hcond2
 split at h
 case h_2=>cases h
 rename_i t hchain
 split at h
 case isFalse=>cases h
 rename_i htail
 cases h
 have hlay:=F.lay
 simp only [ksLay,Bool.and_eq_true,List.all_eq_true,Bool.or_eq_true,decide_eq_true_eq] at hlay
 obtain ⟨_,hlay1,hlay2⟩:=hlay
 have R1:=run_stt P (f:=KF) (p:=body) (st:=kSt (n1::asg body) m st)
 have hE0:EnvOk (clr (n1::asg body) st.env) st.nj ρ η:=hE.clr fun _ _=>rfl
 have hnj1:(runS KF body (kSt (n1::asg body) m st)).2.nj=st.nj+1:=R1.2.1
 have hsj1:(runS KF body (kSt (n1::asg body) m st)).2.sj=st.sj:=R1.1.sj
 have hcl1:(runS KF body (kSt (n1::asg body) m st)).2.cells=[]:=R1.2.2
 generalize hr1:runS KF body (kSt (n1::asg body) m st)=r1 at *
 have key:∀ (c:Nat) (G:KG) (η1:Nat→Value) (w1:World),KInv g ks o ok0 R S base cs0 w0 (.iface et ev) G w1→EnvOk (clr (n1::asg body) st.env) st.nj ρ η1→η1 m = .int .u32 (c:Int)→c<4294967296→sb.bind (rdE ks)=G.t.bind (rdK ks c (G.vs,G.acc)) →
   roundsP ((NP.op (.bin .gtr) [.s m,.k (.int .u32 0)] n1 (.ite (.s n1) .nil .exit body)).wp P) (fun o η w=>match o with | .ext=>k.wp P Q η w | o=>Q o η w) (c+1) η1 w1:=by
  intro c
  induction c with
  | zero=>
   intro G η1 w1 hG hE hm hlt hl
   refine np_op (vs:=[.int .u32 0,.int .u32 0]) (by simp only [List.map];rw [show SV.val η1 (.s m)=η1 m from rfl,hm];rfl) ⟨.u32,0,0,.bool false,rfl,by simp [binV],?_⟩
   refine np_ite false (by simp [SV.val,upd]) ?_
   simp only [Bool.false_eq_true,if_false]
   show k.wp P Q _ _
   refine hgood G _ w1 hG (hE.off fun q hq=>by simp only [List.mem_cons,not_or] at hq;simp [upd,hq.1]) ?_
   rw [hl]
   cases G.t<;>rfl
  | succ c ih=>
   intro G η1 w1 hG hE hm hlt hl
   show NP.wp P _ _ η1 w1
   refine NP.wp_mono _ _ _ _ _ ?_ (wp_frame _ (fun o η' w'=>(∀ q,q∉n1::asg body→η' q=η1 q)→(match o with
    | .nrm=>roundsP ((NP.op (.bin .gtr) [.s m,.k (.int .u32 0)] n1 (.ite (.s n1) .nil .exit body)).wp P) (fun o η w=>match o with | .ext=>k.wp P Q η w | o=>Q o η w) (c+1) η' w'
    | .ext=>k.wp P Q η' w'
    | .ret vs=>Q (.ret vs) η' w')) _ _ ?_)
   ·rintro o' η' w' ⟨ho,hf⟩
    have:=ho hf
    cases o'<;>exact this
   refine np_op (vs:=[.int .u32 ((c+1:Nat):Int),.int .u32 0]) (by simp only [List.map];rw [show SV.val η1 (.s m)=η1 m from rfl,hm];rfl) ⟨.u32,((c+1:Nat):Int),0,.bool true,rfl,by simp [binV],?_⟩
   refine np_ite true (by simp [SV.val,upd]) ?_
   simp only [if_true]
   let Qr:Post:=fun o η' w'=>(∀ q,q∉n1::asg body→η' q=η1 q)→(match o with
      | .nrm=>roundsP ((NP.op (.bin .gtr) [.s m,.k (.int .u32 0)] n1 (.ite (.s n1) .nil .exit body)).wp P) (fun o η w=>match o with | .ext=>k.wp P Q η w | o=>Q o η w) (c+1) η' w'
      | .ext=>k.wp P Q η' w'
      | .ret vs=>Q (.ret vs) η' w')
   show body.wp P Qr _ _
   have hE1:EnvOk (clr (n1::asg body) st.env) st.nj ρ (upd η1 n1 (.bool true)):=hE.off fun q hq=>by simp only [List.mem_cons,not_or] at hq;simp [upd,hq.1]
   have hρ:∀ j,j<st.nj→upd ρ st.nj (.int .u32 ((c+1:Nat):Int)) j=ρ j:=fun j hj=>by simp [upd,Nat.ne_of_lt hj]
   have hE2:EnvOk (kSt (n1::asg body) m st).env (kSt (n1::asg body) m st).nj (upd ρ st.nj (.int .u32 ((c+1:Nat):Int))) (upd η1 n1 (.bool true)):=by
    refine (hE1.more (Nat.le_succ _) hρ).know (Nat.lt_succ_self _) ?_
    simp [upd,AV.val,addOff_zero,hmn,hm]
   have hp1:Pre g (kSt (n1::asg body) m st) G.ok R S base G.cs G.nn G.t (upd ρ st.nj (.int .u32 ((c+1:Nat):Int))) (upd η1 n1 (.bool true)) w1 (.iface et ev):=
    hG.pre F hE2 (by show upd ρ st.nj _ st.sj=_;rw [hρ _ hnj.2];exact hptr) (by rw [hρ 0 hnj.1];exact h0) ⟨Nat.succ_pos _,Nat.lt_succ_of_lt hnj.2⟩ rfl (by omega)
   refine run_pre (f:=KF) hp1 fun η2 hp2 => ?_
   rw [hr1] at hp2 ⊢
   rw [hbody]
   obtain ⟨_,hxv⟩:=isO_val hp2.env hx
   rw [hp2.r0,addOff_ptr] at hxv
   refine np_op (vs:=[ptr R]) (by simp [hxv]) (uvG hU hp2.he hp2.rd fun K t1 nn1 w2 k2 hK hrd1 hl1 => ?_)
   have hp3:=hp2.new nk (.int .u32 (K:Int)) k2 hrd1
   have hG2:=hG.read F k2 hrd1
   have hρ2:∀ j,j<st.nj+1→upd (upd ρ st.nj (.int .u32 ((c+1:Nat):Int))) r1.2.nj (.int .u32 (K:Int)) j=upd ρ st.nj (.int .u32 ((c+1:Nat):Int)) j:=fun j hj=>by
    have h1:j≠r1.2.nj:=by omega
    simp [upd,h1]
   generalize hρ3:upd (upd ρ st.nj (.int .u32 ((c+1:Nat):Int))) r1.2.nj (.int .u32 (K:Int))=ρ3 at *
   have hKv:ρ3 r1.2.nj = .int .u32 (K:Int):=by rw [← hρ3];simp [upd]
   have hmv:ρ3 st.nj = .int .u32 ((c+1:Nat):Int):=by rw [hρ2 _ (Nat.lt_succ_self _)];simp [upd]
   have hstep:G.t.bind (rdK ks (c+1) (G.vs,G.acc))=t1.bind fun r=>(rdVal r).bind fun p=>(stepK ks (G.vs,G.acc) (K,p.1)).bind fun s'=>rdK ks c s' p.2:=by
    have e:G.t.bind (rdK ks (c+1) (G.vs,G.acc))=(G.t.bind rdUv).bind fun k=>(rdVal k.2).bind fun p=>(stepK ks (G.vs,G.acc) (k.1,p.1)).bind fun s'=>rdK ks c s' p.2:=by
     cases G.t with
     | none=>rfl
     | some b=>simp only [Option.bind_some];exact rdK_succ ks c _ b
    rw [e,hl1]
    cases t1<;>rfl
   have after:∀ (G':KG) (η4:Nat→Value) (w4:World),KInv g ks o ok0 R S base cs0 w0 (.iface et ev) G' w4→(∀ q,q∉chA ks pc→η4 q=upd η2 nk (.int .u32 (K:Int)) q)→sb.bind (rdE ks)=G'.t.bind (rdK ks c (G'.vs,G'.acc)) →
     t.wp P Qr η4 w4:=by
    intro G' η4 w4 hG' hη4 hl'
    have he4:EnvOk (clr (chA ks pc) (r1.2.new nk).env) (r1.2.new nk).nj ρ3 η4:=hp3.env.clr hη4
    have hp4:=hG'.pre F (st:={ r1.2.new nk with env:=clr (chA ks pc) (r1.2.new nk).env }) he4 hp3.cur.ptr hp3.r0 hp3.nj hcl1 (by omega)
    refine tailK_ok htail he4 hp4.cur hp3.nj.2 hmv hlt fun η5 hη5 => ?_
    intro hfr
    exact ih G' η5 w4 hG' (hE.off hfr) hη5 (by omega) hl'
   refine chain_ok ks pc t _ hchain hp3 hKv (fun j k A st2 η3 hj hi hA s1 s2 hpp hη hs => ?_) (fun B st2 η3 hi hd hpp hη hs => ?_)
   ·
    have hkey:∀ b,stepK ks (G.vs,G.acc) (K,b)=(rd k.sh b).map fun x=>(G.vs.set j (some x.1),G.acc):=fun b=>by simp only [stepK,hi]
    have hlk:sb.bind (rdE ks)=(t1.bind (rdKn k)).bind fun x=>rdK ks c (G.vs.set j (some x.1),G.acc) x.2:=by
     rw [hl,hstep]
     cases t1 with
     | none=>rfl
     | some b=>
      simp only [Option.bind_some,rdKn,hkey]
      cases hv:rdVal b with
      | none=>rfl
      | some p=>
       simp only [Option.bind_some]
       cases rd k.sh p.1<;>rfl
    refine NP.wp_mono _ _ _ _ _ ?_ (wp_frame A (fun o η' w'=>(∀ q,q∉asg A→η' q=η3 q)→thenN P t Qr o η' w') η3 w2 ?_)
    ·rintro o' η' w' ⟨ho,hf⟩
     exact ho hf
    have hap:=hG2.apart j
    have hsz:=(hlay1 k (List.mem_of_getElem? hj)).1
    refine known2_ok hT hU hA hpp (by rw [s1];show r1.2.sj≠0;rw [hsj1];exact hsj0) (by rw [hG2.len];omega) (hG2.slots j k hj) (fun a ha => ?_) ?_ ?_
    ·obtain ⟨q1,q2,q3,q4,q5,q6,q7⟩:=hap a ha
     exact ⟨q1,q2,q3,q4,q7⟩
    ·intro hb η' w' kw hf hfr
     refine hbad ?_ η' w' ?_
     ·rw [hlk,hb];rfl
     ·refine hG2.keep.trans kw fun y hy hlt' => ?_
      simp only [List.mem_cons] at hy
      rcases hy with rfl | rfl | hy
      ·simp
      ·simp
      ·have:=(hap y (by simpa using hy)).2.2.2.2.2.1;omega
    ·intro x' rest nn' η' w' cs' ok' A' hres hrow' hlen' hout' hnext hrd' hslot' hf
     have hG3:=hG2.known F hj hrow' hlen' hout' hnext hrd' hslot'
     refine after _ η' w' hG3 (fun q hq => ?_) ?_
     ·rw [hf q (fun hh=>hq (hs q hh)),hη q hq]
     ·rw [hlk,hres];rfl
   ·
    have hkey:∀ b,stepK ks (G.vs,G.acc) (K,b)=some (G.vs,tagSet K b G.acc):=fun b=>by simp only [stepK,hi]
    refine NP.wp_mono _ _ _ _ _ ?_ (wp_frame B (fun o η' w'=>(∀ q,q∉asg B→η' q=η3 q)→thenN P t Qr o η' w') η3 w2 ?_)
    ·rintro o' η' w' ⟨ho,hf⟩
     exact ho hf
    refine def_okK hU hd hpp hKv hG2.cell hG2.rep (fun r hr=>⟨hr.1,hr.2.1,hr.2.2.1⟩) fun q t2 nn2 η' w' r es hl2 hnew hsame hrS hrR kw hrow' hents hrd' he' => ?_
    intro hf
    have hG3:=hG2.unknown F hnew hsame hrS hrR kw hrow' hents hrd' he'
    refine after _ η' w' hG3 (fun q' hq => ?_) ?_
    ·rw [hf q' (fun hh=>hq (hs q' hh)),hη q' hq]
    ·rw [hl,hstep]
     have e:(t1.bind fun r=>(rdVal r).bind fun p=>(stepK ks (G.vs,G.acc) (K,p.1)).bind fun s'=>rdK ks c s' p.2)=(t1.bind rdVal).bind fun p=>rdK ks c (G.vs,tagSet K p.1 G.acc) p.2:=by
      cases t1 with
      | none=>rfl
      | some b=>simp only [Option.bind_some,hkey]
     rw [e,hl2]
     cases t2<;>rfl
 refine ⟨c+1,?_⟩
 obtain ⟨_,hmv⟩:=isO_val hE hm0
 rw [addOff_zero,hc] at hmv
 exact key c G η w hG hE0 hmv hc32 hlink
end
end Go.Mr
namespace Go.Mr
open Go.Lx Go.Nx Go.Km Go.Mx Go.Kb
open Go.CX (T deep)
set_option linter.unusedSimpArgs false
set_option linter.unusedVariables false
def endK (T:Tab) (U:KTab) (o:Nat) (ks:List KT) (p:NP) (st:St):Option (NP×St):=
 match (runS KF p st).1 with
 | .op (.call f) [x] n k=>if f=U.uv∧isO (runS KF p st).2.env x 0 0=true then
   loopK T U o ks (runS KF p st).2.nj (runS KF k ((runS KF p st).2.new n)).1 (runS KF k ((runS KF p st).2.new n)).2
  else none
 | _=>none
def ksDef (ks:List KT) (o:Nat) (cells:List (Option Value)):Bool:=
 (match cells[o]? with | some (some (.map none))=>true | _=>false) &&
 ks.all fun k=>if isArr k.sh then (match cells[k.off]? with | some (some v)=>isNilSl v | _=>false) else true
def winDef (ks:List KT) (cells:List (Option Value)) (z:List Value):Bool:=
 ks.all fun k=>(List.range (wS k.sh)).all fun i=>match cells[k.off+i]?,z[k.off+i]? with
  | some (some v),some u=>CX.sameV v u
  | _,_=>false
theorem isNilSl_eq {v:Value} (h:isNilSl v=true):v = .slice none 0 0:=by
 unfold isNilSl at h
 split at h
 ·rfl
 ·cases h
section
variable {P:Program} {g:Nat}
theorem endK_ok {T:Tab} (hT:TabOk P T g) {U:KTab} (hU:KTabOk P U) {o n:Nat} {ks:List KT} {p k:NP} {st st':St} (h:endK T U o ks p st=some (k,st')) (hsj0:st.sj≠0) (hlay:ksLay ks o n=true) (hdef:ksDef ks o st.cells=true) :
  st'.nj=st.nj+1∧st'.sj=st.sj∧st'.cells=[]∧∀ {ok:Nat→Prop} {R S base:Nat} {cs:List Value} {nn:Bool} {sb:Option Bs} {ρ η:Nat→Value} {w:World} {et:TypeId} {ev:Value} {Q:Post},Pre g st ok R S base cs nn sb ρ η w (.iface et ev)→base+n≤cs.length →
   (sb.bind (rdE ks)=none→∀ η' w',Keep [R,S] w w'→Q (.ret [.iface et ev]) η' w') →
   (∀ G ρ' η' w',KInv g ks o ok R S base cs w (.iface et ev) G w'→Pre g st' G.ok R S base G.cs G.nn G.t ρ' η' w' (.iface et ev)→sb.bind (rdE ks)=G.t.map (fun r=>((G.vs,G.acc),r))→k.wp P Q η' w')→p.wp P Q η w:=by
 unfold endK at h
 split at h
 case h_2=>cases h
 rename_i f x nc kc hp0
 split at h
 case isFalse=>cases h
 rename_i hcond
 obtain ⟨rfl,hx⟩:=hcond
 have R1:=run_stt P (f:=KF) (p:=p) (st:=st)
 have R2:=run_stt P (f:=KF) (p:=kc) (st:=(runS KF p st).2.new nc)
 have hshape:st'.nj=(runS KF kc ((runS KF p st).2.new nc)).2.nj∧st'.sj=(runS KF kc ((runS KF p st).2.new nc)).2.sj∧st'.cells=[]:=by
  have h':=h
  unfold loopK at h'
  split at h'
  case h_2=>cases h'
  split at h'
  case isFalse=>cases h'
  split at h'
  case h_2=>cases h'
  split at h'
  case isFalse=>cases h'
  split at h'
  case h_2=>cases h'
  split at h'
  case isFalse=>cases h'
  cases h'
  exact ⟨rfl,rfl,rfl⟩
 have hn1:(runS KF p st).2.nj=st.nj:=R1.2.1
 have hs1:(runS KF p st).2.sj=st.sj:=R1.1.sj
 have hn2:(runS KF kc ((runS KF p st).2.new nc)).2.nj=st.nj+1:=by rw [R2.2.1];show (runS KF p st).2.nj+1=_;rw [hn1]
 have hs2:(runS KF kc ((runS KF p st).2.new nc)).2.sj=st.sj:=by rw [R2.1.sj];exact hs1
 refine ⟨by rw [hshape.1,hn2],by rw [hshape.2.1,hs2],hshape.2.2,?_⟩
 intro ok R S base cs nn sb ρ η w et ev Q hpre hbl hbad hgood
 have F:KFix ks o ok R S base n g:=⟨hlay,hpre.nS,hpre.SR,hpre.gR,hpre.gS⟩
 have hlay':=hlay
 simp only [ksLay,Bool.and_eq_true,List.all_eq_true,Bool.or_eq_true,decide_eq_true_eq] at hlay'
 refine run_pre (f:=KF) hpre fun η1 hp1 => ?_
 rw [hp0]
 obtain ⟨_,hxv⟩:=isO_val hp1.env hx
 rw [hp1.r0,addOff_ptr] at hxv
 refine np_op (vs:=[ptr R]) (by simp [hxv]) (uvG hU hp1.he hp1.rd fun c t nn1 w1 k1 hc hrd1 hl1 => ?_)
 have hp2:=hp1.new nc (.int .u32 (c:Int)) k1 hrd1
 generalize hρ1:upd ρ (runS KF p st).2.nj (.int .u32 (c:Int))=ρ1 at hp2
 refine run_pre (f:=KF) hp2 fun η3 hp3 => ?_
 simp only [ksDef,Bool.and_eq_true,List.all_eq_true] at hdef
 have hmap:cs[base+o]?=some (.map none):=by
  have hd:=hdef.1
  split at hd
  ·rename_i hco;exact hpre.cur.known o _ hco
  ·cases hd
 have hrR:∀ x∈[R],¬ ok x:=fun x hx=>by rw [List.mem_singleton.1 hx];exact hpre.he.notR
 have hG:KInv g ks o ok R S base cs w (.iface et ev) { ok:=ok,vs:=List.replicate ks.length none,As:=fun _=>none,acc:=[],v := .map none,nn:=nn1,t:=t,cs:=cs } w1:=by
  refine ⟨hpre.cur.row.keep k1 (by simp only [List.mem_singleton];exact hpre.SR),rfl,fun _ _ _=>rfl,fun _ h=>h,fun _ _ h=>h,hpre.he.keep k1,hrd1,k1.mono (fun x hx _=>by simp at hx ⊢;exact .inl hx),cell_keep hpre.err k1 (by simp only [List.mem_singleton];exact hpre.gR),by simp,fun i k hi => ?_,fun i a ha=>(by cases ha),fun i j a ha=>(by cases ha),hmap,.inl ⟨rfl,rfl⟩,fun _=>rfl,fun _ _ _ _ _ _ _=>rfl⟩
  have hv:(List.replicate ks.length (none:Option Val)).getD i none=none:=by
   simp only [List.getD,List.getElem?_replicate]
   split<;>rfl
  dsimp only
  rw [hv]
  by_cases ha:isArr k.sh=true
  ·cases hk:k.sh with
   | arr c' sz e=>
    rw [kslot_arr hk]
    have hd:=hdef.2 k (List.mem_of_getElem? hi)
    rw [if_pos ha] at hd
    split at hd
    ·rename_i v hcv
     have hv':=isNilSl_eq hd
     subst hv'
     have:=hpre.cur.known k.off _ hcv
     exact ⟨.slice none 0 0,by rw [List.getElem?_drop];exact this,.inl ⟨rfl,rfl⟩,fun x hx=>by cases hx⟩
    ·cases hd
   | _=>rw [hk] at ha;cases ha
  ·have hna:isArr k.sh=false:=by simpa using ha
   rw [kslot_other hna]
   exact ⟨rfl,fun x hx=>by cases hx⟩
 have hlink:sb.bind (rdE ks)=t.bind (rdK ks c (List.replicate ks.length none,[])):=by
  have e:sb.bind (rdE ks)=(sb.bind rdUv).bind fun p=>rdK ks p.1 (List.replicate ks.length none,[]) p.2:=by cases sb<;>rfl
  rw [e,hl1]
  cases t<;>rfl
 refine loopK_ok hT hU h (by rw [hs2];exact hsj0) F hbl hp3.cur.ptr hp3.r0 hp3.nj hbad (fun G η' w' hG' he' hl' => ?_) hG hp3.env ?_ hc hlink
 ·refine hgood G ρ1 η' w' hG' ?_ hl'
  exact hG'.pre F he' (by rw [hshape.2.1];exact hp3.cur.ptr) hp3.r0 (by rw [hshape.1,hshape.2.1];exact hp3.nj) hshape.2.2 (by omega)
 ·rw [← hρ1];simp [upd]
def dfOf:NP→Option FuncId
 | .op (.call df) _ _ _=>some df
 | _=>none
def RepKV (ok:Nat→Prop) (w:World) (cs0 cs:List Value) (ks:List KT) (vs:KV):Prop:=
 ∀ i k,ks[i]?=some k→match vs.getD i none with
  | some x=>RepS ok w k.sh x (cs.drop k.off)
  | none=>∀ j,k.off≤j→j<k.off+wS k.sh→cs[j]?=cs0[j]?
theorem kslot_rep {ok ok0:Nat→Prop} {w:World} {k:KT} {x:Val} {cs:List Value} {A:Option Nat} (h:KSlot ok w k (some x) cs A) (hs:∀ b,ok b→ok0 b) (hA:∀ a,A=some a→ok0 a):RepS ok0 w k.sh x (cs.drop k.off):=by
 by_cases ha:isArr k.sh=true
 ·cases hk:k.sh with
  | arr c sz e=>
   rw [kslot_arr hk] at h
   obtain ⟨u,h1,_,h3⟩:=h
   obtain ⟨vs,rfl,h4⟩:=h3 x rfl
   simp only [RepS]
   refine ⟨u,by rw [List.getElem?_drop];exact h1,?_⟩
   rcases h4 with ⟨_,q2,q3⟩ | ⟨A0,c0,acs,q1,q2,q3,q4,q5,q6⟩
   ·subst q3;exact .inl ⟨rfl,none,0,q2⟩
   ·rcases Nat.eq_zero_or_pos vs.length with h0 | h0
    ·exact .inl ⟨h0,some ⟨A0,0,none⟩,c0,by rw [q2,h0]⟩
    ·refine .inr ⟨h0,A0,c0,acs,q2,q3,hA _ q1,q4,by rw [q5];exact Nat.mul_le_mul_right _ q3,fun i hi hlt=>RepS.weak (fun b _ hb=>hs b hb) e _ _ (q6 i hlt)⟩
  | _=>rw [hk] at ha;cases ha
 ·have hna:isArr k.sh=false:=by simpa using ha
  rw [kslot_other hna] at h
  exact RepS.weak (fun b _ hb=>hs b hb) _ _ _ (h.2 x rfl)
end
end Go.Mr
namespace Go.Mr
open Go.Lx Go.Nx Go.Km Go.Mx Go.Kb
open Go.CX (T deep)
set_option linter.unusedSimpArgs false
set_option linter.unusedVariables false
def AgainG (P:Program) (e:TypeId) (g:Nat) (fA:FuncId) {α:Type} (dec:Bs→Option (α×Bs)) (enc:α→Bs) (pre:Bs→Prop) (v:Int):Prop:=
 ∀ (ok:Nat→Prop) (w:World) (src:Value) (bs:Bs) (K:Value→World→Prop) (et:TypeId) (ev:Value),SlE ok w src bs→pre bs→w.cell? ⟨g,0,none⟩=some (.iface et ev) →
  (dec bs=none→∀ w',Keep [] w w'→K (.tuple #[.slice none 0 0,.bool false]) w') →
  (∀ x rest,dec bs=some (x,rest)→∀ d w',Keep [] w w'→Own w' w.heap.size e d (enc x)→K (.tuple #[d,.bool true]) w')→In.wp P (.call fA) [.int .i64 v,src] w K
section
variable {P:Program} {g:Nat} {e:TypeId}
end
end Go.Mr

