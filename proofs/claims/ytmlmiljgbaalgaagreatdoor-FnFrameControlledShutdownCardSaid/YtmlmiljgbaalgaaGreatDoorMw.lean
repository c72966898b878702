import Derived.Test.YtmlmiljgbaalgaaGreatDoorMr
import Derived.Test.YtmlmiljgbaalgaaGreatDoorKm
set_option linter.unusedSimpArgs false
set_option linter.unusedVariables false
namespace Go.Mr
open Go.Lx Go.Nx Go.Km Go.Mx Go.Kb
open Go.CX (T deep)
set_option linter.unusedSimpArgs false
set_option linter.unusedVariables false
structure WTab where
 app:FuncId→Option Prim
 alen:FuncId→Option Bool
 alenN:FuncId→Option Bool
 tlen:FuncId
 uv:FuncId
 each:FuncId
structure WTabOk (P:Program) (W:WTab) (e:TypeId):Prop where
 app:∀ f p,W.app f=some p→AppPrim P e f p
 alen:∀ f c,W.alen f=some c→Appends P e f (wrCount c) lenRep
 alenN:∀ f c,W.alenN f=some c→AppN P e f c
 tlen:LenOk P W.tlen
 uv:Appends P e W.uv wrUv uvRep
 each:AppEachOk P e W.each
structure WPre (e:TypeId) (st:St) (dj B S base:Nat) (cs:List Value) (out:Bs) (ρ η:Nat→Value) (w:World):Prop where
 env:EnvOk st.env st.nj ρ η
 cur:Cur st ρ w S base cs
 own:Own w B e (ρ dj) out
 SB:(ρ dj).ownBlock≠some S
 dj:dj<st.nj
 sj:st.sj<st.nj
def WFld (P:Program) (e:TypeId) {α:Type} (enc:α→Bs) (rep:(Nat→Prop)→World→α→List Value→Prop) (okv:α→Prop) (p p':NP) (st st':St) (dj dj':Nat):Prop:=
 Stt st st'∧st'.cells=st.cells∧(dj<st.nj→dj'<st'.nj)∧∀ (B S base:Nat) (cs:List Value) (out:Bs) (ρ η:Nat→Value) (w:World) (x:α) (Q:Post),WPre e st dj B S base cs out ρ η w →
  rep (· < B) w x (cs.drop base)→okv x→out.length+(enc x).length≤lim →
  (∀ ρ' η' w',EnvOk st'.env st'.nj ρ' η'→(∀ j,j<st.nj→ρ' j=ρ j)→Bl B w (ρ dj) w' (ρ' dj')→Own w' B e (ρ' dj') (out++enc x)→p'.wp P Q η' w')→p.wp P Q η w
def ldAt (wd off:Nat):NP→St→Option (NP×St×Nat)
 | .op .load [x] n k,st=>if wd=1∧isO st.env x st.sj off=true∧off+1≤st.cells.length then some (k,st.new n,st.nj) else none
 | .op (.loadN 16) [x] n k,st=>if wd=16∧isO st.env x st.sj off=true∧off+16≤st.cells.length then some (k,st.new n,st.nj) else none
 | _,_=>none
def appS (W:WTab) (p:Prim) (j dj:Nat):NP→St→Option (NP×St×Nat)
 | .op (.call f) [d,y] n k,st=>if W.app f=some p∧isO st.env d dj 0=true∧isO st.env y j 0=true then some (k,st.new n,st.nj) else none
 | _,_=>none
def wrAt (W:WTab) (p:Prim) (off dj:Nat) (q:NP) (st:St):Option (NP×St×Nat):=
 let r1:=runS KF q st
 (ldAt (width p) off r1.1 r1.2).bind fun r2=>
 let r3:=runS KF r2.1 r2.2.1
 let r4:=copyW (width p) r2.2.2 r3.1 r3.2
 let r5:=runS KF r4.1 r4.2
 appS W p r2.2.2 dj r5.1 r5.2
def wtS (W:WTab) (off dj:Nat):NP→St→Option (NP×St×Nat)
 | .op (.call f1) [x] n1 (.op (.cv .u32) [.s m1] n2 (.op (.bin .add) [.k (.int .u32 0),.s m2] n3 (.op (.call f2) [d,.s m3] n4 (.op (.call f3) [x2,.s m4] n5 k)))),st=>
  if f1=W.tlen∧f2=W.uv∧f3=W.each∧m1=n1∧m2=n2∧m3=n3∧m4=n4∧isO st.env x st.sj off=true∧isO (clr [n1,n2,n3] st.env) d dj 0=true∧isO (clr [n1,n2,n3,n4] st.env) x2 st.sj off=true∧off+1≤st.cells.length then
   some (k,({ st with env:=clr [n1,n2,n3,n4] st.env }).new n5,st.nj) else none
 | _,_=>none
def wtAt (W:WTab) (off dj:Nat) (q:NP) (st:St):Option (NP×St×Nat):=
 let r1:=runS KF q st
 wtS W off dj r1.1 r1.2
section
variable {P:Program} {e:TypeId}
theorem runW_pre {f:Nat} {p:NP} {st:St} {dj B S base:Nat} {cs:List Value} {out:Bs} {ρ η:Nat→Value} {w:World} {Q:Post} (h:WPre e st dj B S base cs out ρ η w)
  (hk:∀ η',WPre e (runS f p st).2 dj B S base cs out ρ η' w→(runS f p st).1.wp P Q η' w):p.wp P Q η w:=by
 obtain ⟨g1,g2,g3,g4⟩:=runS_ok (P:=P) f p st
 refine g4 h.env h.cur fun η' he=>hk η' ⟨by rw [g1];exact he,h.cur.move g2 g3 h.sj (fun _ _=>rfl) h.cur.row,h.own,h.SB,by rw [g1];exact h.dj,by rw [g1,g2];exact h.sj⟩
theorem WPre.new {st:St} {dj B S base:Nat} {cs:List Value} {out:Bs} {ρ η:Nat→Value} {w:World} (h:WPre e st dj B S base cs out ρ η w) (n:Nat) (v:Value):WPre e (st.new n) dj B S base cs out (upd ρ st.nj v) (upd η n v) w:=by
 have hρ:∀ j,j<st.nj→upd ρ st.nj v j=ρ j:=fun j hj=>by simp [upd,Nat.ne_of_lt hj]
 exact ⟨h.env.fresh n v,⟨by show upd ρ st.nj v st.sj=_;rw [hρ _ h.sj];exact h.cur.ptr,h.cur.row,h.cur.len,h.cur.known⟩,by rw [hρ _ h.dj];exact h.own,by rw [hρ _ h.dj];exact h.SB,Nat.lt_succ_of_lt h.dj,Nat.lt_succ_of_lt h.sj⟩
theorem repP_one {ok:Nat→Prop} {w:World} {p:Prim} {x:PV} {u:Value} (h:RepP ok w p x u) (hw:width p=1):u.cells.toList=[u]:=by
 unfold RepP at h
 split at h
 all_goals first
  | (subst h;rfl)
  | (rcases h with ⟨rfl,_⟩ | ⟨a,c,rfl,_⟩<;>rfl)
  | (rcases h.1 with ⟨rfl,_⟩ | ⟨a,c,rfl,_⟩<;>rfl)
  | (obtain ⟨b,h1,_⟩:=h;subst h1;rfl)
  | exact h.elim
  | (simp [width] at hw)
theorem ldAt_ok {wd off:Nat} {q q':NP} {st st':St} {j:Nat} (h:ldAt wd off q st=some (q',st',j)):(∃ n,st'=st.new n)∧j=st.nj∧off+wd≤st.cells.length ∧
  ∀ {ρ η:Nat→Value} {w:World} {S base:Nat} {cs:List Value} {Q:Post} {u:Value},EnvOk st.env st.nj ρ η→Cur st ρ w S base cs→u.cells.toList=(cs.drop (base+off)).take wd→(wd=1→u.cells.toList=[u]) →
   (∀ η',EnvOk st'.env st'.nj (upd ρ st.nj u) η'→q'.wp P Q η' w)→q.wp P Q η w:=by
 unfold ldAt at h
 split at h
 ·rename_i x n k
  split at h
  case isFalse=>cases h
  rename_i hc
  obtain ⟨rfl,hx,ho⟩:=hc
  cases h
  refine ⟨⟨_,rfl⟩,rfl,ho,fun {ρ η w S base cs Q u} he hcur hu h1 hk => ?_⟩
  obtain ⟨_,hxv⟩:=isO_val he hx
  rw [hcur.ptr] at hxv
  simp only [addOff,addr_at] at hxv
  have hv:cs[base+off]?=some u:=by
   rw [h1 rfl] at hu
   have:=congrArg (fun l=>l[0]?) hu
   simpa using this.symm
  exact np_op (vs:=[.pointer (some ⟨S,base+off,none⟩)]) (by simp [hxv]) (wp_load hcur.row hv (hk _ (he.fresh n u)))
 ·rename_i x n k
  split at h
  case isFalse=>cases h
  rename_i hc
  obtain ⟨rfl,hx,ho⟩:=hc
  cases h
  refine ⟨⟨_,rfl⟩,rfl,ho,fun {ρ η w S base cs Q u} he hcur hu h1 hk => ?_⟩
  obtain ⟨_,hxv⟩:=isO_val he hx
  rw [hcur.ptr] at hxv
  simp only [addOff,addr_at] at hxv
  have hl:=hcur.len
  have hlen:u.cells.toList.length=16:=by rw [hu];simp;omega
  have hagg:=agg_of hlen
  refine np_op (vs:=[.pointer (some ⟨S,base+off,none⟩)]) (by simp [hxv]) (wp_loadN hcur.row (by omega) ?_)
  rw [← hu,← hagg]
  exact hk _ (he.fresh n u)
 ·cases h
theorem appS_some {W:WTab} {p:Prim} {j dj:Nat} {q q':NP} {st st':St} {dj':Nat} (h:appS W p j dj q st=some (q',st',dj')) :
  ∃ f d y n,q = .op (.call f) [d,y] n q'∧W.app f=some p∧isO st.env d dj 0=true∧isO st.env y j 0=true∧st'=st.new n∧dj'=st.nj:=by
 unfold appS at h
 split at h
 ·split at h
  ·rename_i hc
   cases h
   exact ⟨_,_,_,_,rfl,hc.1,hc.2.1,hc.2.2,rfl,rfl⟩
  ·cases h
 ·cases h
theorem own_keep0 {w w':World} {B:Nat} {d:Value} {out:Bs} (h:Own w B e d out) (k:Keep [] w w'):Own w' B e d out:=Own.keep h k fun _ _ hm=>by cases hm
theorem wrAt_ok {W:WTab} (hW:WTabOk P W e) {p:Prim} {off dj:Nat} {q q':NP} {st st':St} {dj':Nat} (h:wrAt W p off dj q st=some (q',st',dj')) :
  WFld P e (wr (.prim p)) (fun ok w x cs=>RepS ok w (.prim p) x (cs.drop off)) (ok (.prim p)) q q' st st' dj dj':=by
 unfold wrAt at h
 simp only [Option.bind_eq_some_iff] at h
 obtain ⟨⟨q2,st2,j⟩,h2,h5⟩:=h
 dsimp only at h5
 obtain ⟨⟨n2,e2⟩,e3,hoff,l2⟩:=ldAt_ok (P:=P) h2
 obtain ⟨f,d,y,n,hq,hf,hd,hy,e5,e6⟩:=appS_some h5
 have R1:=run_stt P (f:=KF) (p:=q) (st:=st)
 have R3:=run_stt P (f:=KF) (p:=q2) (st:=st2)
 obtain ⟨c1,c2,c3,c4⟩:=copyW_ok (P:=P) (wd:=width p) (j:=j) (p:=(runS KF q2 st2).1) (st:=(runS KF q2 st2).2)
 generalize hr4:copyW (width p) j (runS KF q2 st2).1 (runS KF q2 st2).2=r4 at *
 have R5:=run_stt P (f:=KF) (p:=r4.1) (st:=r4.2)
 have hn1:(runS KF q st).2.nj=st.nj:=R1.2.1
 have hn2:st2.nj=st.nj+1:=by rw [e2];show (runS KF q st).2.nj+1=_;rw [hn1]
 have hn4:r4.2.nj=st.nj+1:=by rw [c1,R3.2.1,hn2]
 have hn5:(runS KF r4.1 r4.2).2.nj=st.nj+1:=by rw [R5.2.1,hn4]
 have hn':st'.nj=st.nj+2:=by rw [e5];show (runS KF r4.1 r4.2).2.nj+1=_;rw [hn5]
 have hs':st'.sj=st.sj:=by rw [e5];show (runS KF r4.1 r4.2).2.sj=_;rw [R5.1.sj,c2,R3.1.sj,e2];exact R1.1.sj
 have hc':st'.cells=st.cells:=by rw [e5];show (runS KF r4.1 r4.2).2.cells=_;rw [R5.2.2,c3,R3.2.2,e2];exact R1.2.2
 have hj:j=st.nj:=by rw [e3,hn1]
 have hdj':dj'=st.nj+1:=by rw [e6,hn5]
 refine ⟨⟨by omega,hs',by rw [hc']⟩,hc',fun _=>by omega,?_⟩
 intro B S base cs out ρ η w x Q hpre hrep hok hlim hk
 have hrep':∃ pv,x = .p pv:=by
  cases x with
  | p pv=>exact ⟨pv,rfl⟩
  | _=>simp [RepS] at hrep
 obtain ⟨pv,rfl⟩:=hrep'
 simp only [RepS] at hrep
 obtain ⟨u,hu,hru⟩:=hrep
 rw [List.drop_drop] at hu
 refine runW_pre (f:=KF) hpre fun η1 hp1 => ?_
 refine l2 hp1.env hp1.cur hu (fun h1=>repP_one hru h1) fun η2 he2 => ?_
 rw [hn1] at he2
 have hρ:∀ i,i<st.nj→upd ρ st.nj u i=ρ i:=fun i hi=>by simp [upd,Nat.ne_of_lt hi]
 have hp2:WPre e st2 dj B S base cs out (upd ρ st.nj u) η2 w:=by
  refine ⟨he2,?_,by rw [hρ _ hpre.dj];exact hpre.own,by rw [hρ _ hpre.dj];exact hpre.SB,by have:=hpre.dj;omega,?_⟩
  ·refine hp1.cur.move ?_ ?_ hp1.sj (fun i hi=>hρ i (by omega)) hp1.cur.row
   ·rw [e2];rfl
   ·rw [e2];rfl
  ·have:st2.sj=st.sj:=by rw [e2];exact R1.1.sj
   have:=hpre.sj;omega
 refine runW_pre (f:=KF) hp2 fun η3 hp3 => ?_
 have hρj:upd ρ st.nj u j=u:=by rw [hj];simp [upd]
 refine c4 hp3.env (by rw [hρj];exact hru.fit) fun η4 w4 he4 k4 => ?_
 have hs4:r4.2.sj=(runS KF q2 st2).2.sj:=c2
 have hp4:WPre e r4.2 dj B S base cs out (upd ρ st.nj u) η4 w4:=by
  refine ⟨by rw [c1];exact he4,hp3.cur.move c2 c3 hp3.sj (fun _ _=>rfl) (hp3.cur.row.keep k4 (by simp)),own_keep0 hp3.own k4,hp3.SB,by have:=hpre.dj;omega,by rw [c1,c2];exact hp3.sj⟩
 refine runW_pre (f:=KF) hp4 fun η5 hp5 => ?_
 rw [hq]
 obtain ⟨_,hdv⟩:=isO_val hp5.env hd
 obtain ⟨_,hyv⟩:=isO_val hp5.env hy
 rw [addOff_zero] at hdv hyv
 rw [hρj] at hyv
 have hsame:Same (· < B) w w4:=k4.same (fun x hx=>by cases hx)
 refine np_op (vs:=[upd ρ st.nj u dj,u]) (by simp [hdv,hyv]) (hW.app f p hf w4 B _ out pv u _ hp5.own ⟨hru.same hsame,hok⟩ (by simpa [wr] using hlim) fun d' w6 ho6 hb6 => ?_)
 have he6:=hp5.env.fresh n d'
 rw [hn5] at he6
 refine hk (upd (upd ρ st.nj u) (st.nj+1) d') _ w6 ?_ (fun i hi => ?_) ?_ ?_
 ·rw [hn',e5];simp only [St.new,hn5];exact he6
 ·have:i≠st.nj+1:=by omega
  simp only [upd,if_neg this];exact hρ i hi
 ·have hB4:Bl B w (ρ dj) w4 (ρ dj):=Bl.of_keep k4 hpre.own.2
  rw [hρ _ hpre.dj] at hb6
  rw [hdj'];simp only [upd,if_true]
  exact hB4.trans hb6
 ·rw [hdj'];simp only [upd,if_true]
  simpa [wr] using ho6
theorem wtS_some {W:WTab} {off dj:Nat} {q q':NP} {st st':St} {dj':Nat} (h:wtS W off dj q st=some (q',st',dj')) :
  ∃ x n1 n2 n3 d n4 x2 n5,q = .op (.call W.tlen) [x] n1 (.op (.cv .u32) [.s n1] n2 (.op (.bin .add) [.k (.int .u32 0),.s n2] n3 (.op (.call W.uv) [d,.s n3] n4 (.op (.call W.each) [x2,.s n4] n5 q')))) ∧
   isO st.env x st.sj off=true∧isO (clr [n1,n2,n3] st.env) d dj 0=true∧isO (clr [n1,n2,n3,n4] st.env) x2 st.sj off=true∧off+1≤st.cells.length∧st'=({ st with env:=clr [n1,n2,n3,n4] st.env }).new n5∧dj'=st.nj:=by
 unfold wtS at h
 split at h
 case h_2=>cases h
 split at h
 case isFalse=>cases h
 rename_i hc
 obtain ⟨rfl,rfl,rfl,rfl,rfl,rfl,rfl,h1,h2,h3,h4⟩:=hc
 cases h
 exact ⟨_,_,_,_,_,_,_,_,rfl,h1,h2,h3,h4,rfl,rfl⟩
theorem below_same {B:Nat} {w w':World} {d d':Value} (h:Bl B w d w' d'):Same (· < B) w w':=Same.below h.toBelow fun k hk=>hk
theorem wtAt_ok {W:WTab} (hW:WTabOk P W e) {off dj:Nat} {q q':NP} {st st':St} {dj':Nat} (h:wtAt W off dj q st=some (q',st',dj')) :
  WFld P e (wrF (.tags off)) (fun ok w x cs=>RepF ok w (.tags off) x cs) (okF (.tags off)) q q' st st' dj dj':=by
 unfold wtAt at h
 dsimp only at h
 have R1:=run_stt P (f:=KF) (p:=q) (st:=st)
 have hn1:(runS KF q st).2.nj=st.nj:=R1.2.1
 have hs1:(runS KF q st).2.sj=st.sj:=R1.1.sj
 have hc1:(runS KF q st).2.cells=st.cells:=R1.2.2
 obtain ⟨x,n1,n2,n3,d,n4,x2,n5,hq,hx,hd,hx2,hoff,e1,e2⟩:=wtS_some h
 have hn':st'.nj=st.nj+1:=by rw [e1];show (runS KF q st).2.nj+1=_;rw [hn1]
 have hs':st'.sj=st.sj:=by rw [e1];exact hs1
 have hc':st'.cells=st.cells:=by rw [e1];exact hc1
 refine ⟨⟨by omega,hs',by rw [hc']⟩,hc',fun _=>by omega,?_⟩
 intro B S base cs out ρ η w vs Q hpre hrep hok hlim hk
 have hv':∃ l,vs=[.t l]:=by
  match vs with
  | []=>simp [RepF] at hrep
  | [.t l]=>exact ⟨l,rfl⟩
  | [.p _]=>simp [RepF] at hrep
  | [.l _]=>simp [RepF] at hrep
  | [.n _]=>simp [RepF] at hrep
  | _::_::_=>simp [RepF] at hrep
 obtain ⟨l,rfl⟩:=hv'
 simp only [RepF] at hrep
 simp only [okF] at hok
 simp only [wrF] at hlim hk
 obtain ⟨v,hv,hrv,_⟩:=hrep
 rw [List.getElem?_drop] at hv
 refine runW_pre (f:=KF) hpre fun η1 hp1 => ?_
 rw [hq]
 obtain ⟨_,hxv⟩:=isO_val hp1.env hx
 rw [hp1.cur.ptr] at hxv
 simp only [addOff,addr_at] at hxv
 have hcell:w.cell? ⟨S,base+off,none⟩=some v:=hp1.cur.row.cell hv
 refine np_op (vs:=[.pointer (some ⟨S,base+off,none⟩)]) (by simp [hxv]) (hW.tlen _ _ w _ v l _ hcell hrv ?_)
 have hlen:=hok.many
 have hw1:IntKind.u32.wrap (l.length:Int)=(l.length:Int):=by
  simp only [IntKind.wrap,IntKind.bits,IntKind.signed]
  simp
  omega
 refine np_op (vs:=[goInt l.length]) (by simp [SV.val,upd]) ⟨.i64,l.length,rfl,?_⟩
 rw [hw1]
 refine np_op (vs:=[.int .u32 0,.int .u32 (l.length:Int)]) (by simp [SV.val,upd]) ⟨.u32,0,l.length,_,rfl,rfl,?_⟩
 simp only [Int.zero_add,hw1]
 generalize hη:upd (upd (upd η1 n1 (goInt l.length)) n2 (.int .u32 (l.length:Int))) n3 (.int .u32 (l.length:Int))=η3
 have he3:EnvOk (clr [n1,n2,n3] (runS KF q st).2.env) (runS KF q st).2.nj ρ η3:=hp1.env.clr fun m hm=>by
  simp only [List.mem_cons,List.not_mem_nil,or_false,not_or] at hm
  rw [← hη];simp [upd,hm.1,hm.2.1,hm.2.2]
 have hη3:η3 n3 = .int .u32 (l.length:Int):=by rw [← hη];simp [upd]
 obtain ⟨_,hdv⟩:=isO_val he3 hd
 rw [addOff_zero] at hdv
 simp only [wrTags,List.length_append] at hlim
 refine np_op (vs:=[ρ dj,.int .u32 (l.length:Int)]) (by simp only [List.map,hdv];rw [show SV.val η3 (.s n3)=η3 n3 from rfl,hη3]) (hW.uv w B _ out l.length _ _ hp1.own ⟨rfl,by omega⟩ (by omega) fun d4 w4 ho4 hb4 => ?_)
 have he4:EnvOk (clr [n1,n2,n3,n4] (runS KF q st).2.env) (runS KF q st).2.nj ρ (upd η3 n4 d4):=hp1.env.clr fun m hm=>by
  simp only [List.mem_cons,List.not_mem_nil,or_false,not_or] at hm
  rw [← hη];simp [upd,hm.1,hm.2.1,hm.2.2]
 obtain ⟨_,hx2v⟩:=isO_val he4 hx2
 rw [hp1.cur.ptr] at hx2v
 simp only [addOff,addr_at] at hx2v
 have hS:=hp1.cur.row.lt
 obtain ⟨hbS,hnS⟩:=hb4.other hS hpre.SB
 have hcell4:w4.cell? ⟨S,base+off,none⟩=some v:=by rw [World.cell?_of_block (w:=w) (w':=w4) hbS];exact hcell
 refine np_op (vs:=[.pointer (some ⟨S,base+off,none⟩),d4]) (by simp only [List.map,hx2v];simp [SV.val,upd]) (hW.each w4 B _ v l d4 _ _ hcell4 hnS (rept_same hrv (below_same hb4)) hok ho4 (by simp only [List.length_append];omega) fun d5 w5 ho5 hb5 => ?_)
 have he5:=he4.fresh n5 d5
 rw [hn1] at he5
 refine hk (upd ρ st.nj d5) _ w5 ?_ (fun i hi=>by simp [upd,Nat.ne_of_lt hi]) (by rw [e2,hn1];simp only [upd,if_true];exact hb4.trans hb5) ?_
 ·rw [hn',e1];simp only [St.new,hn1];exact he5
 ·rw [e2,hn1];simp only [upd,if_true]
  simpa [wrTags,List.append_assoc] using ho5
end
end Go.Mr
namespace Go.Mr
open Go.Lx Go.Nx Go.Km Go.Mx Go.Kb
open Go.CX (T deep)
set_option linter.unusedSimpArgs false
set_option linter.unusedVariables false
def cand (E:T AV) (dj:Nat) (l:List Nat):List Nat:=l.filter fun n=>isO E (.s n) dj 0
def setAll (l:List Nat) (a:AV) (E:T AV):T AV:=l.foldl (fun E n=>E.set deep n (some a)) E
def isZ64 (E:T AV) (x:SV):Bool:=match evalA E x with
 | some (.k (.int .i64 0))=>true
 | _=>false
def wtail (ds:List Nat) (i ji dj:Nat) (p:NP) (st:St):Bool:=
 let r:=runS KF p st
 match r.1 with
 | .op (.bin .add) [x,.k (.int .i64 1)] t k=>
  isO r.2.env x ji 0 && (let r2:=runS KF k (r.2.new t);match r2.1 with
   | .nil=>isO r2.2.env (.s i) r.2.nj 0 && ds.all fun n=>isO r2.2.env (.s n) dj 0
   | _=>false)
 | _=>false
def wlSt (l ds:List Nat) (i:Nat) (st:St):St:={ st with env:=(setAll ds (.o st.nj 0) (clr l st.env)).set deep i (some (.o (st.nj+1) 0)),nj:=st.nj+2 }
def wlS (el:Nat→Nat→NP→St→Option (NP×St×Nat)) (jn dj:Nat):NP→St→Option (NP×St×Nat)
 | .loop (.op (.bin .lss) [.s i,y] n1 (.ite (.s n2) .nil .exit body)) k,st=>
  let ds:=cand st.env dj (asg body)
  if n1=n2∧i≠n1∧ds.contains n1=false∧ds.contains i=false∧isZ64 st.env (.s i)=true∧isO (clr (n1::asg body) st.env) y jn 0=true then
   match el st.nj (st.nj+1) body (wlSt (n1::asg body) ds i st) with
   | some (p',st',dj')=>if wtail ds i (st.nj+1) dj' p' st'=true then some (k,{ st with env:=setAll ds (.o st.nj 0) (clr (n1::asg body) st.env),nj:=st.nj+1 },st.nj) else none
   | none=>none
  else none
 | _,_=>none
def elIn (sz ju ji:Nat) (p:NP) (st:St):Option (NP×St):=
 let r:=runS KF p st
 match r.1 with
 | .op (.ia sz') [a,x] m (.chk m' k)=>
  if sz'=sz∧m=m'∧isO r.2.env a ju 0=true∧isO r.2.env x ji 0=true then some (k,{ env:=(r.2.new m).env,nj:=r.2.nj+1,sj:=r.2.nj,cells:=List.replicate sz none }) else none
 | _=>none
section
variable {P:Program} {e:TypeId}
theorem EnvOk.setAll {c:Nat} {ρ η:Nat→Value} {a:AV} (ha:a.lt c):∀ (l:List Nat) {E:T AV},EnvOk E c ρ η→(∀ n∈l,η n=a.val ρ)→EnvOk (Mr.setAll l a E) c ρ η:=by
 intro l
 induction l with
 | nil=>intro E h _;exact h
 | cons n l ih=>
  intro E h hl
  exact ih (h.know ha (hl n (by simp))) fun m hm=>hl m (by simp [hm])
theorem isZ64_val {E:T AV} {c:Nat} {ρ η:Nat→Value} (h:EnvOk E c ρ η) {x:SV} (ha:isZ64 E x=true):x.val η = .int .i64 0:=by
 unfold isZ64 at ha
 split at ha
 ·rename_i he
  exact (evalA_val h he).2
 ·cases ha
theorem wtail_ok {ds:List Nat} {i ji dj:Nat} {p:NP} {st:St} (h:wtail ds i ji dj p st=true) {ρ η:Nat→Value} {w:World} {S base:Nat} {cs:List Value} {Q:Post} {m:Nat} (he:EnvOk st.env st.nj ρ η) (hc:Cur st ρ w S base cs) (hsj:st.sj<st.nj) (hdj:dj<st.nj)
  (hi:ρ ji = .int .i64 m) (hm:m+1<9223372036854775808) (hk:∀ η',η' i = .int .i64 ((m+1:Nat):Int)→(∀ n∈ds,η' n=ρ dj)→Q .nrm η' w):p.wp P Q η w:=by
 unfold wtail at h
 obtain ⟨g1,g2,g3,g4⟩:=runS_ok (P:=P) KF p st
 refine g4 he hc fun η1 he1 => ?_
 dsimp only at h
 split at h
 case h_2=>cases h
 rename_i x t k hp
 rw [hp]
 simp only [Bool.and_eq_true] at h
 obtain ⟨hx,h⟩:=h
 have he1':EnvOk (runS KF p st).2.env (runS KF p st).2.nj ρ η1:=by rw [g1];exact he1
 obtain ⟨_,hxv⟩:=isO_val he1' hx
 rw [addOff_zero,hi] at hxv
 have hw:IntKind.i64.wrap ((m:Int)+1)=((m+1:Nat):Int):=by
  rw [wrap64 _ (by omega) (by omega)];omega
 refine np_op (vs:=[.int .i64 m,.int .i64 1]) (by simp only [List.map,hxv];rfl) ⟨.i64,m,1,_,rfl,rfl,?_⟩
 rw [hw]
 obtain ⟨k1,k2,k3,k4⟩:=runS_ok (P:=P) KF k ((runS KF p st).2.new t)
 have he2:=he1'.fresh t (.int .i64 ((m+1:Nat):Int))
 refine k4 he2 ⟨?_,hc.row,by show base+(runS KF p st).2.cells.length≤_;rw [g3];exact hc.len,by show ∀ j v,(runS KF p st).2.cells[j]?=_→_;rw [g3];exact hc.known⟩ fun η2 he3 => ?_
 ·show upd ρ (runS KF p st).2.nj _ (runS KF p st).2.sj=_
  rw [g1,g2]
  simp only [upd]
  rw [if_neg (by omega)]
  exact hc.ptr
 ·split at h
  case h_2=>cases h
  rename_i hq
  rw [hq]
  simp only [Bool.and_eq_true,List.all_eq_true] at h
  obtain ⟨_,hv⟩:=isO_val he3 h.1
  rw [addOff_zero] at hv
  simp only [SV.val,upd,if_true] at hv
  refine hk η2 hv fun n hn => ?_
  obtain ⟨_,hv2⟩:=isO_val he3 (h.2 n hn)
  rw [addOff_zero] at hv2
  simp only [SV.val,upd] at hv2
  rw [if_neg (by rw [g1];omega)] at hv2
  exact hv2
def WElmG (P:Program) (e:TypeId) (cx:List Value→Prop) (ju ji sz:Nat) {α:Type} (enc:α→Bs) (rep:(Nat→Prop)→World→α→List Value→Prop) (okv:α→Prop) (p p':NP) (st st':St) (dj dj':Nat):Prop:=
 st.nj≤st'.nj∧st'.sj<st'.nj∧(dj<st.nj→dj'<st'.nj)∧∀ (B S base:Nat) (cs:List Value) (out:Bs) (ρ η:Nat→Value) (w:World) (x:α) (Q:Post) (A n cap i:Nat) (acs:List Value),WPre e st dj B S base cs out ρ η w→cx (cs.drop base) →
  ρ ju = .slice (some ⟨A,0,none⟩) n cap→ρ ji = .int .i64 (i:Int)→i<n→(ρ dj).ownBlock≠some A→Row w A acs→(i+1)*sz≤acs.length →
  rep (· < B) w x (acs.drop (i*sz))→okv x→out.length+(enc x).length≤lim →
  (∀ ρ' η' w' S' base' cs',EnvOk st'.env st'.nj ρ' η'→(∀ j,j<st.nj→ρ' j=ρ j)→Bl B w (ρ dj) w' (ρ' dj')→Own w' B e (ρ' dj') (out++enc x)→Cur st' ρ' w' S' base' cs'→p'.wp P Q η' w')→p.wp P Q η w
abbrev WElm (P:Program) (e:TypeId) (ju ji sz:Nat) {α:Type} (enc:α→Bs) (rep:(Nat→Prop)→World→α→List Value→Prop) (okv:α→Prop) (p p':NP) (st st':St) (dj dj':Nat):Prop:=WElmG P e (fun _=>True) ju ji sz enc rep okv p p' st st' dj dj'
theorem elIn_ok {sz ju ji:Nat} {p q p':NP} {st stE st':St} {dj dj':Nat} {α:Type} {enc:α→Bs} {rep:(Nat→Prop)→World→α→List Value→Prop} {okv:α→Prop}
  (h:elIn sz ju ji p st=some (q,stE)) (hF:WFld P e enc rep okv q p' stE st' dj dj'):WElm P e ju ji sz enc rep okv p p' st st' dj dj':=by
 unfold elIn at h
 have R1:=run_stt P (f:=KF) (p:=p) (st:=st)
 have hn1:=R1.2.1
 dsimp only at h
 split at h
 case h_2=>cases h
 rename_i sz' a x m m' k hp
 split at h
 case isFalse=>cases h
 rename_i hc
 obtain ⟨rfl,rfl,ha,hx⟩:=hc
 cases h
 obtain ⟨f1,f2,f3,f4⟩:=hF
 have hnE:(runS KF p st).2.nj+1=st.nj+1:=by rw [hn1]
 refine ⟨Nat.le_trans (by show st.nj≤(runS KF p st).2.nj+1;omega) f1.nj,?_,fun hd=>f3 (by show dj<(runS KF p st).2.nj+1;omega),?_⟩
 ·rw [f1.sj];exact Nat.lt_of_lt_of_le (Nat.lt_succ_self (runS KF p st).2.nj) f1.nj
 intro B S base cs out ρ η w x' Q A n cap i acs hpre _ hju hji hin hAB hrow hlen hrep hok hlim hk
 refine runW_pre (f:=KF) hpre fun η1 hp1 => ?_
 rw [hp]
 obtain ⟨_,hav⟩:=isO_val hp1.env ha
 obtain ⟨_,hxv⟩:=isO_val hp1.env hx
 rw [addOff_zero] at hav hxv
 rw [hju] at hav
 rw [hji] at hxv
 refine np_op (vs:=[.slice (some ⟨A,0,none⟩) n cap,.int .i64 i]) (by simp only [List.map,hav,hxv]) ⟨⟨A,0,none⟩,n,cap,.i64,i,rfl,hin,?_⟩
 rw [add_at]
 refine ⟨⟨_,by simp only [upd];rfl⟩,?_⟩
 have hp2:=hp1.new m (.pointer (some ⟨A,i*sz',none⟩))
 have hρ:∀ j,j<st.nj→upd ρ (runS KF p st).2.nj (.pointer (some ⟨A,i*sz',none⟩)) j=ρ j:=fun j hj=>by simp [upd,hn1,Nat.ne_of_lt hj]
 have hpE:WPre e { env:=((runS KF p st).2.new m).env,nj:=(runS KF p st).2.nj+1,sj:=(runS KF p st).2.nj,cells:=List.replicate sz' none } dj B A (i*sz') acs out (upd ρ (runS KF p st).2.nj (.pointer (some ⟨A,i*sz',none⟩))) (upd η1 m (.pointer (some ⟨A,i*sz',none⟩))) w:=by
  refine ⟨hp2.env,⟨by simp [upd],hrow,?_,fun j v hj => ?_⟩,hp2.own,by rw [hρ _ hpre.dj];exact hAB,hp2.dj,Nat.lt_succ_self _⟩
  ·simp only [List.length_replicate]
   rw [Nat.add_mul] at hlen;omega
  ·simp only [List.getElem?_replicate] at hj
   split at hj<;>cases hj
 refine f4 B A (i*sz') acs out _ _ w x' Q hpE hrep hok hlim fun ρ' η' w' he' hρ' hb' ho' => ?_
 have hb2:=hb'
 rw [hρ _ hpre.dj] at hb2
 refine hk ρ' η' w' A (i*sz') acs he' (fun j hj => ?_) hb2 ho' ?_
 ·rw [hρ' j (by show j<(runS KF p st).2.nj+1;omega)];exact hρ j hj
 ·exact hpE.cur.move f1.sj f2 (Nat.lt_succ_self _) hρ' (by have hb3:=(hb2.other hrow.lt hAB).1;obtain ⟨ee,hr⟩:=hrow;exact ⟨ee,by rw [hb3];exact hr⟩)
theorem wlSG_ok {cx:List Value→Prop} {el:Nat→Nat→NP→St→Option (NP×St×Nat)} {jn dj ju sz:Nat} {α:Type} {enc:α→Bs} {rep:(Nat→Prop)→World→α→List Value→Prop} {okv:α→Prop} {p k:NP} {st stR:St} {djR:Nat}
  (hel:∀ dj ji body s p' st' dj',s.sj<s.nj→el dj ji body s=some (p',st',dj')→WElmG P e cx ju ji sz enc rep okv body p' s st' dj dj')
  (hsame:∀ ok w w' x cs,rep ok w x cs→Same ok w w'→rep ok w' x cs)
  (h:wlS el jn dj p st=some (k,stR,djR)):stR.nj=st.nj+1∧stR.sj=st.sj∧stR.cells=st.cells∧djR=st.nj ∧
  ∀ {B S base:Nat} {cs:List Value} {out:Bs} {ρ η:Nat→Value} {w:World} {vs:List α} {Q:Post},WPre e st dj B S base cs out ρ η w→cx (cs.drop base)→ρ jn = .int .i64 (vs.length:Int)→jn<st.nj→ju<st.nj→vs.length≤32767 →
   (∀ i (h:i<vs.length),∃ A cap acs,ρ ju = .slice (some ⟨A,0,none⟩) vs.length cap∧(ρ dj).ownBlock≠some A∧Row w A acs∧(i+1)*sz≤acs.length∧rep (· < B) w vs[i] (acs.drop (i*sz))∧okv vs[i]) →
   out.length+((vs.map enc).flatten).length≤lim →
   (∀ d η' w',EnvOk stR.env stR.nj (upd ρ st.nj d) η'→Bl B w (ρ dj) w' d→Own w' B e d (out++(vs.map enc).flatten)→k.wp P Q η' w')→p.wp P Q η w:=by
 unfold wlS at h
 split at h
 case h_2=>cases h
 rename_i i y n1 n2 body k'
 dsimp only at h
 generalize hds:cand st.env dj (asg body)=ds at h
 split at h
 case isFalse=>cases h
 rename_i hc
 obtain ⟨rfl,hin1,hdn1,hdi,hz0,hy⟩:=hc
 split at h
 case h_2=>cases h
 rename_i p' st' dj' hels
 split at h
 case isFalse=>cases h
 rename_i htail
 cases h
 refine ⟨rfl,rfl,rfl,rfl,?_⟩
 intro B S base cs out ρ η w vs Q hpre hcx hjn hjnl hjul hvl hA hlim hk
 have hsjL:(wlSt (n1::asg body) ds i st).sj<(wlSt (n1::asg body) ds i st).nj:=by have:=hpre.sj;show st.sj<st.nj+2;omega
 obtain ⟨e1,e2,e2',e3⟩:=hel st.nj (st.nj+1) body _ p' st' dj' hsjL hels
 have hE0:EnvOk (clr (n1::asg body) st.env) st.nj ρ η:=hpre.env.clr fun _ _=>rfl
 have hn1d:n1∉ds:=by simpa using hdn1
 have hid:i∉ds:=by simpa using hdi
 have hdj0:∀ n∈ds,η n=ρ dj:=by
  intro n hn
  rw [← hds] at hn
  have:=(List.mem_filter.1 hn).2
  obtain ⟨_,hv⟩:=isO_val hpre.env this
  rw [addOff_zero] at hv
  exact hv
 have hflat:∀ m,((((vs.take m)).map enc).flatten).length≤((vs.map enc).flatten).length:=by
  intro m
  have e:vs.map enc=(vs.take m).map enc++(vs.drop m).map enc:=by rw [← List.map_append,List.take_append_drop]
  rw [e,List.flatten_append,List.length_append]
  omega
 have hstep:∀ m (h:m<vs.length),((vs.take (m+1)).map enc).flatten=((vs.take m).map enc).flatten++enc vs[m]:=by
  intro m hm
  rw [List.take_succ_eq_append_getElem hm,List.map_append,List.flatten_append]
  simp
 have key:∀ m i' (η1:Nat→Value) (w1:World) (d:Value),vs.length - i'=m→i'≤vs.length→EnvOk (clr (n1::asg body) st.env) st.nj ρ η1→η1 i = .int .i64 (i':Int)→(∀ n∈ds,η1 n=d)→Bl B w (ρ dj) w1 d→Own w1 B e d (out++((vs.take i').map enc).flatten) →
   roundsP ((NP.op (.bin .lss) [.s i,y] n1 (.ite (.s n1) .nil .exit body)).wp P) (fun o η w=>match o with | .ext=>k.wp P Q η w | o=>Q o η w) (m+1) η1 w1:=by
  intro m
  induction m with
  | zero=>
   intro i' η1 w1 d hm hle hE hi hd hb ho
   have hin:i'=vs.length:=by omega
   subst hin
   obtain ⟨_,hyv⟩:=isO_val hE hy
   rw [addOff_zero,hjn] at hyv
   refine np_op (vs:=[.int .i64 (vs.length:Int),.int .i64 (vs.length:Int)]) (by simp only [List.map,hyv];rw [show SV.val η1 (.s i)=η1 i from rfl,hi]) ⟨.i64,vs.length,vs.length,.bool false,rfl,by simp [binV],?_⟩
   refine np_ite false (by simp [SV.val,upd]) ?_
   simp only [Bool.false_eq_true,if_false]
   show k.wp P Q _ _
   rw [List.take_length] at ho
   have hE1:EnvOk (clr (n1::asg body) st.env) st.nj ρ (upd η1 n1 (.bool false)):=hE.off fun q hq=>by simp only [List.mem_cons,not_or] at hq;simp [upd,hq.1]
   refine hk d _ _ ?_ hb ho
   refine EnvOk.setAll (Nat.lt_succ_self _) ds (hE1.more (Nat.le_succ _) fun j hj=>by simp [upd,Nat.ne_of_lt hj]) fun n hn => ?_
   have hne:n≠n1:=fun e=>hn1d (e ▸ hn)
   simp [upd,hne,AV.val,addOff_zero,hd n hn]
  | succ m ih=>
   intro i' η1 w1 d hm hle hE hi hd hb ho
   have hin:i'<vs.length:=by omega
   show NP.wp P _ _ η1 w1
   refine NP.wp_mono _ _ _ _ _ ?_ (wp_frame _ (fun o η' w'=>(∀ q,q∉n1::asg body→η' q=η1 q)→(match o with
    | .nrm=>roundsP ((NP.op (.bin .lss) [.s i,y] n1 (.ite (.s n1) .nil .exit body)).wp P) (fun o η w=>match o with | .ext=>k.wp P Q η w | o=>Q o η w) (m+1) η' w'
    | .ext=>k.wp P Q η' w'
    | .ret vs=>Q (.ret vs) η' w')) _ _ ?_)
   ·rintro o η' w' ⟨ho,hf⟩
    have:=ho hf
    cases o<;>exact this
   obtain ⟨_,hyv⟩:=isO_val hE hy
   rw [addOff_zero,hjn] at hyv
   refine np_op (vs:=[.int .i64 (i':Int),.int .i64 (vs.length:Int)]) (by simp only [List.map,hyv];rw [show SV.val η1 (.s i)=η1 i from rfl,hi]) ⟨.i64,i',vs.length,.bool true,rfl,by simp [binV,hin],?_⟩
   refine np_ite true (by simp [SV.val,upd]) ?_
   simp only [if_true]
   show body.wp P _ _ _
   have hE1:EnvOk (clr (n1::asg body) st.env) st.nj ρ (upd η1 n1 (.bool true)):=hE.off fun q hq=>by simp only [List.mem_cons,not_or] at hq;simp [upd,hq.1]
   have hρ:∀ j,j<st.nj→upd (upd ρ st.nj d) (st.nj+1) (.int .i64 (i':Int)) j=ρ j:=fun j hj=>by
    have h1:j≠st.nj:=by omega
    have h2:j≠st.nj+1:=by omega
    simp [upd,h1,h2]
   have hρd:upd (upd ρ st.nj d) (st.nj+1) (.int .i64 (i':Int)) st.nj=d:=by
    have h2:st.nj≠st.nj+1:=by omega
    simp [upd,h2]
   have hρi:upd (upd ρ st.nj d) (st.nj+1) (.int .i64 (i':Int)) (st.nj+1) = .int .i64 (i':Int):=by simp [upd]
   have hE2:EnvOk (wlSt (n1::asg body) ds i st).env (wlSt (n1::asg body) ds i st).nj (upd (upd ρ st.nj d) (st.nj+1) (.int .i64 (i':Int))) (upd η1 n1 (.bool true)):=by
    refine EnvOk.know (EnvOk.setAll (by show st.nj<st.nj+2;omega) ds (hE1.more (show st.nj≤st.nj+2 by omega) hρ) fun n hn => ?_) (by show st.nj+1<st.nj+2;omega) ?_
    ·have hne:n≠n1:=fun e=>hn1d (e ▸ hn)
     simp only [AV.val,addOff_zero,hρd]
     simp [upd,hne,hd n hn]
    ·simp only [AV.val,addOff_zero,hρi]
     simp [upd,hin1,hi]
   obtain ⟨A,cap,acs,a1,a2,a3,a4,a5,a6⟩:=hA i' hin
   obtain ⟨hbA,hnA⟩:=hb.other a3.lt a2
   have hrowA:Row w1 A acs:=by obtain ⟨ee,hr⟩:=a3;exact ⟨ee,by rw [hbA];exact hr⟩
   obtain ⟨hbS,hnS⟩:=hb.other hpre.cur.row.lt hpre.SB
   have hrowS:Row w1 S cs:=by obtain ⟨ee,hr⟩:=hpre.cur.row;exact ⟨ee,by rw [hbS];exact hr⟩
   have hpL:WPre e (wlSt (n1::asg body) ds i st) st.nj B S base cs (out++((vs.take i').map enc).flatten) (upd (upd ρ st.nj d) (st.nj+1) (.int .i64 (i':Int))) (upd η1 n1 (.bool true)) w1:=by
    refine ⟨hE2,hpre.cur.move (st:=st) rfl rfl hpre.sj hρ hrowS,by rw [hρd];exact ho,by rw [hρd];exact hnS,by show st.nj<st.nj+2;omega,hsjL⟩
   have hfl:=hflat (i'+1)
   rw [hstep i' hin,List.length_append] at hfl
   have hl2:(out++((vs.take i').map enc).flatten).length+(enc vs[i']).length≤lim:=by rw [List.length_append];omega
   refine e3 B S base cs _ _ _ w1 vs[i'] _ A vs.length cap i' acs hpL hcx (by rw [hρ ju hjul];exact a1) hρi hin (by rw [hρd];exact hnA) hrowA a4 (hsame _ w w1 _ _ a5 (below_same hb)) a6 hl2 ?_
   intro ρ' η' w' S' base' cs' he' hρ' hb' ho' hcur'
   have hi31:i'+1<9223372036854775808:=by omega
   refine wtail_ok htail he' hcur' e2 (e2' (by show st.nj<st.nj+2;omega)) (m:=i') ?_ hi31 fun η2 hη2 hd2 => ?_
   ·rw [hρ' (st.nj+1) (by show st.nj+1<st.nj+2;omega)];exact hρi
   intro hfr
   rw [hρd] at hb'
   refine ih (i'+1) η2 w' (ρ' dj') (by omega) (by omega) (hE.off hfr) hη2 hd2 (hb.trans hb') ?_
   rw [hstep i' hin,← List.append_assoc];exact ho'
 refine ⟨vs.length+1,?_⟩
 have hi0:=isZ64_val hpre.env hz0
 refine key vs.length 0 η w (ρ dj) (by omega) (Nat.zero_le _) hE0 hi0 hdj0 (Bl.refl _ _ _) ?_
 simpa using hpre.own
theorem wlS_ok {el:Nat→Nat→NP→St→Option (NP×St×Nat)} {jn dj ju sz:Nat} {α:Type} {enc:α→Bs} {rep:(Nat→Prop)→World→α→List Value→Prop} {okv:α→Prop} {p k:NP} {st stR:St} {djR:Nat}
  (hel:∀ dj ji body s p' st' dj',s.sj<s.nj→el dj ji body s=some (p',st',dj')→WElm P e ju ji sz enc rep okv body p' s st' dj dj')
  (hsame:∀ ok w w' x cs,rep ok w x cs→Same ok w w'→rep ok w' x cs)
  (h:wlS el jn dj p st=some (k,stR,djR)):stR.nj=st.nj+1∧stR.sj=st.sj∧stR.cells=st.cells∧djR=st.nj ∧
  ∀ {B S base:Nat} {cs:List Value} {out:Bs} {ρ η:Nat→Value} {w:World} {vs:List α} {Q:Post},WPre e st dj B S base cs out ρ η w→ρ jn = .int .i64 (vs.length:Int)→jn<st.nj→ju<st.nj→vs.length≤32767 →
   (∀ i (h:i<vs.length),∃ A cap acs,ρ ju = .slice (some ⟨A,0,none⟩) vs.length cap∧A<B∧Row w A acs∧(i+1)*sz≤acs.length∧rep (· < B) w vs[i] (acs.drop (i*sz))∧okv vs[i]) →
   out.length+((vs.map enc).flatten).length≤lim →
   (∀ d η' w',EnvOk stR.env stR.nj (upd ρ st.nj d) η'→Bl B w (ρ dj) w' d→Own w' B e d (out++(vs.map enc).flatten)→k.wp P Q η' w')→p.wp P Q η w:=by
 obtain ⟨h1,h2,h3,h4,h5⟩:=wlSG_ok (P:=P) (e:=e) (cx:=fun _=>True) hel hsame h
 refine ⟨h1,h2,h3,h4,?_⟩
 intro B S base cs out ρ η w vs Q hp hjn hjnl hjul hvl hA hlim hk
 refine h5 hp trivial hjn hjnl hjul hvl (fun i hi => ?_) hlim hk
 obtain ⟨A,cap,acs,a1,a2,a3⟩:=hA i hi
 exact ⟨A,cap,acs,a1,fun e=>by have:=(own_own hp.own A e).1;omega,a3⟩
end
end Go.Mr
namespace Go.Mr
open Go.Lx Go.Nx Go.Km Go.Mx Go.Kb
open Go.CX (T deep)
set_option linter.unusedSimpArgs false
set_option linter.unusedVariables false
def lenS (ju:Nat):NP→St→Option (NP×St×Nat)
 | .op .len [x] n k,st=>if isO st.env x ju 0=true then some (k,st.new n,st.nj) else none
 | _,_=>none
def alenS (W:WTab) (c:Bool) (jl dj:Nat):NP→St→Option (NP×St×Nat)
 | .op (.call f) [d,y] n k,st=>if W.alen f=some c∧isO st.env d dj 0=true∧isO st.env y jl 0=true then some (k,st.new n,st.nj) else none
 | _,_=>none
def wArrAt (W:WTab) (el:Nat→Nat→Nat→NP→St→Option (NP×St×Nat)) (c:Bool) (off dj:Nat) (q:NP) (st:St):Option (NP×St×Nat):=
 let r1:=runS KF q st
 (ldAt 1 off r1.1 r1.2).bind fun r2=>
 let r3:=runS KF r2.1 r2.2.1
 (lenS r2.2.2 r3.1 r3.2).bind fun r4=>
 let r5:=runS KF r4.1 r4.2.1
 (alenS W c r4.2.2 dj r5.1 r5.2).bind fun r6=>
 let r7:=runS KF r6.1 r6.2.1
 (lenS r2.2.2 r7.1 r7.2).bind fun r8=>
 let r9:=runS KF r8.1 r8.2.1
 wlS (el r2.2.2) r8.2.2 r6.2.2 r9.1 r9.2
def nilS (ju:Nat):NP→St→Option (NP×St×Nat)
 | .op (.isNil 1 false) [x] n k,st=>if isO st.env x ju 0=true then some (k,st.new n,st.nj) else none
 | _,_=>none
def alenNS (W:WTab) (c:Bool) (jl jb dj:Nat):NP→St→Option (NP×St×Nat)
 | .op (.call f) [d,y,z] n k,st=>if W.alenN f=some c∧isO st.env d dj 0=true∧isO st.env y jl 0=true∧isO st.env z jb 0=true then some (k,st.new n,st.nj) else none
 | _,_=>none
def wNarrAt (W:WTab) (el:Nat→Nat→Nat→NP→St→Option (NP×St×Nat)) (c:Bool) (off dj:Nat) (q:NP) (st:St):Option (NP×St×Nat):=
 let r1:=runS KF q st
 (ldAt 1 off r1.1 r1.2).bind fun r2=>
 let r3:=runS KF r2.1 r2.2.1
 (lenS r2.2.2 r3.1 r3.2).bind fun r4=>
 let rb:=runS KF r4.1 r4.2.1
 (nilS r2.2.2 rb.1 rb.2).bind fun rn=>
 let r5:=runS KF rn.1 rn.2.1
 (alenNS W c r4.2.2 rn.2.2 dj r5.1 r5.2).bind fun r6=>
 let r7:=runS KF r6.1 r6.2.1
 (lenS r2.2.2 r7.1 r7.2).bind fun r8=>
 let r9:=runS KF r8.1 r8.2.1
 wlS (el r2.2.2) r8.2.2 r6.2.2 r9.1 r9.2
mutual
def chkWS (W:WTab):Sh→Nat→Nat→NP→St→Option (NP×St×Nat)
 | .prim p,off,dj,q,st=>wrAt W p off dj q st
 | .arr c sz (.prim p),off,dj,q,st=>wArrAt W (fun ju dj ji b s=>(elIn sz ju ji b s).bind fun r=>wrAt W p 0 dj r.1 r.2) c off dj q st
 | .arr c sz (.str fs),off,dj,q,st=>wArrAt W (fun ju dj ji b s=>(elIn sz ju ji b s).bind fun r=>chkWF W fs 0 dj r.1 r.2) c off dj q st
 | .narr c _ sz (.prim p),off,dj,q,st=>wNarrAt W (fun ju dj ji b s=>(elIn sz ju ji b s).bind fun r=>wrAt W p 0 dj r.1 r.2) c off dj q st
 | .narr c _ sz (.str fs),off,dj,q,st=>wNarrAt W (fun ju dj ji b s=>(elIn sz ju ji b s).bind fun r=>chkWF W fs 0 dj r.1 r.2) c off dj q st
 | .str fs,off,dj,q,st=>chkWF W fs off dj q st
 | _,_,_,_,_=>none
def chkWF (W:WTab):Fs→Nat→Nat→NP→St→Option (NP×St×Nat)
 | .nil,_,dj,q,st=>some (q,st,dj)
 | .tags o,off,dj,q,st=>wtAt W (off+o) dj q st
 | .cons o s r,off,dj,q,st=>(chkWS W s (off+o) dj q st).bind fun x=>chkWF W r off x.2.2 x.1 x.2.1
end
section
variable {P:Program} {e:TypeId}
theorem lenS_some {ju:Nat} {q q':NP} {st st':St} {jn:Nat} (h:lenS ju q st=some (q',st',jn)):∃ x n,q = .op .len [x] n q'∧isO st.env x ju 0=true∧st'=st.new n∧jn=st.nj:=by
 unfold lenS at h
 split at h
 ·split at h
  ·rename_i hc
   cases h
   exact ⟨_,_,rfl,hc,rfl,rfl⟩
  ·cases h
 ·cases h
theorem alenS_some {W:WTab} {c:Bool} {jl dj:Nat} {q q':NP} {st st':St} {dj':Nat} (h:alenS W c jl dj q st=some (q',st',dj')) :
  ∃ f d y n,q = .op (.call f) [d,y] n q'∧W.alen f=some c∧isO st.env d dj 0=true∧isO st.env y jl 0=true∧st'=st.new n∧dj'=st.nj:=by
 unfold alenS at h
 split at h
 ·split at h
  ·rename_i hc
   cases h
   exact ⟨_,_,_,_,rfl,hc.1,hc.2.1,hc.2.2,rfl,rfl⟩
  ·cases h
 ·cases h
theorem lenS_ok {ju:Nat} {q q':NP} {st st':St} {jn:Nat} (h:lenS ju q st=some (q',st',jn)) {dj B S base:Nat} {cs:List Value} {out:Bs} {ρ η:Nat→Value} {w:World} {Q:Post} {a:Option Addr} {n c:Nat} (hp:WPre e st dj B S base cs out ρ η w)
  (hu:ρ ju = .slice a n c) (hk:∀ η',WPre e st' dj B S base cs out (upd ρ st.nj (.int .i64 (n:Int))) η' w→q'.wp P Q η' w):q.wp P Q η w:=by
 obtain ⟨x,m,rfl,hx,rfl,rfl⟩:=lenS_some h
 obtain ⟨_,hxv⟩:=isO_val hp.env hx
 rw [addOff_zero,hu] at hxv
 exact np_op (vs:=[.slice a n c]) (by simp only [List.map,hxv]) ⟨a,n,c,rfl,hk _ (hp.new m _)⟩
theorem wArrAt_ok {W:WTab} (hW:WTabOk P W e) {el:Nat→Nat→Nat→NP→St→Option (NP×St×Nat)} {c:Bool} {sz off dj:Nat} {s:Sh} {q q':NP} {st st':St} {dj':Nat}
  (hel:∀ ju dj ji body t p' t' dj',t.sj<t.nj→el ju dj ji body t=some (p',t',dj')→WElm P e ju ji sz (wr s) (fun ok w x cs=>RepS ok w s x cs) (ok s) body p' t t' dj dj')
  (h:wArrAt W el c off dj q st=some (q',st',dj')):WFld P e (wr (.arr c sz s)) (fun ok w x cs=>RepS ok w (.arr c sz s) x (cs.drop off)) (ok (.arr c sz s)) q q' st st' dj dj':=by
 unfold wArrAt at h
 simp only [Option.bind_eq_some_iff] at h
 obtain ⟨⟨q2,st2,ju⟩,h2,⟨q4,st4,jl⟩,h4,⟨q6,st6,dj1⟩,h6,⟨q8,st8,jn⟩,h8,h9⟩:=h
 dsimp only at h4 h6 h8 h9
 obtain ⟨⟨n2,e2⟩,e3,hoff,l2⟩:=ldAt_ok (P:=P) h2
 obtain ⟨_,m4,_,_,e4,e4'⟩:=lenS_some h4
 obtain ⟨f,d,y,n6,hq6,hf,hd,hy,e6,e6'⟩:=alenS_some h6
 obtain ⟨_,m8,_,_,e8,e8'⟩:=lenS_some h8
 obtain ⟨w1,w2,w3,w4,w5⟩:=wlS_ok (P:=P) (e:=e) (hel ju) (fun ok w w' x cs hr hs=>RepS.same hs s x cs hr) h9
 have R1:=run_stt P (f:=KF) (p:=q) (st:=st)
 have R3:=run_stt P (f:=KF) (p:=q2) (st:=st2)
 have R5:=run_stt P (f:=KF) (p:=q4) (st:=st4)
 have R7:=run_stt P (f:=KF) (p:=q6) (st:=st6)
 have R9:=run_stt P (f:=KF) (p:=q8) (st:=st8)
 have hn1:=R1.2.1
 have hn2:st2.nj=st.nj+1:=by rw [e2];show (runS KF q st).2.nj+1=_;rw [hn1]
 have hn3:(runS KF q2 st2).2.nj=st.nj+1:=by rw [R3.2.1,hn2]
 have hn4:st4.nj=st.nj+2:=by rw [e4];show (runS KF q2 st2).2.nj+1=_;rw [hn3]
 have hn5:(runS KF q4 st4).2.nj=st.nj+2:=by rw [R5.2.1,hn4]
 have hn6:st6.nj=st.nj+3:=by rw [e6];show (runS KF q4 st4).2.nj+1=_;rw [hn5]
 have hn7:(runS KF q6 st6).2.nj=st.nj+3:=by rw [R7.2.1,hn6]
 have hn8:st8.nj=st.nj+4:=by rw [e8];show (runS KF q6 st6).2.nj+1=_;rw [hn7]
 have hn9:(runS KF q8 st8).2.nj=st.nj+4:=by rw [R9.2.1,hn8]
 have hn':st'.nj=st.nj+5:=by rw [w1,hn9]
 have hs2:st2.sj=st.sj:=by rw [e2];exact R1.1.sj
 have hs4:st4.sj=st.sj:=by rw [e4];show (runS KF q2 st2).2.sj=_;rw [R3.1.sj,hs2]
 have hs6:st6.sj=st.sj:=by rw [e6];show (runS KF q4 st4).2.sj=_;rw [R5.1.sj,hs4]
 have hs8:st8.sj=st.sj:=by rw [e8];show (runS KF q6 st6).2.sj=_;rw [R7.1.sj,hs6]
 have hs':st'.sj=st.sj:=by rw [w2,R9.1.sj,hs8]
 have hc2:st2.cells=st.cells:=by rw [e2];exact R1.2.2
 have hc4:st4.cells=st.cells:=by rw [e4];show (runS KF q2 st2).2.cells=_;rw [R3.2.2,hc2]
 have hc6:st6.cells=st.cells:=by rw [e6];show (runS KF q4 st4).2.cells=_;rw [R5.2.2,hc4]
 have hc8:st8.cells=st.cells:=by rw [e8];show (runS KF q6 st6).2.cells=_;rw [R7.2.2,hc6]
 have hc':st'.cells=st.cells:=by rw [w3,R9.2.2,hc8]
 have hju:ju=st.nj:=by rw [e3,hn1]
 have hjl:jl=st.nj+1:=by rw [e4',hn3]
 have hdj1:dj1=st.nj+2:=by rw [e6',hn5]
 have hjn:jn=st.nj+3:=by rw [e8',hn7]
 have hdj':dj'=st.nj+4:=by rw [w4,hn9]
 refine ⟨⟨by omega,hs',by rw [hc']⟩,hc',fun _=>by omega,?_⟩
 intro B S base cs out ρ η w x Q hpre hrep hok hlim hk
 have hx':∃ vs,x = .l vs:=by
  cases x with
  | l vs=>exact ⟨vs,rfl⟩
  | _=>simp [RepS] at hrep
 obtain ⟨vs,rfl⟩:=hx'
 simp only [RepS] at hrep
 simp only [Km.ok] at hok
 simp only [wr] at hlim hk
 obtain ⟨u,hu,hl⟩:=hrep
 rw [List.getElem?_drop,Nat.add_zero,List.getElem?_drop] at hu
 obtain ⟨a,cap,hus⟩:∃ a c,u = .slice a vs.length c:=by
  rcases hl with ⟨h0,a,c,rfl⟩ | ⟨_,A,c,acs,rfl,_⟩
  ·exact ⟨a,c,by rw [h0]⟩
  ·exact ⟨_,c,rfl⟩
 have hcu:u.cells.toList=[u]:=by rw [hus];rfl
 refine runW_pre (f:=KF) hpre fun η1 hp1 => ?_
 refine l2 (u:=u) hp1.env hp1.cur ?_ (fun _=>hcu) fun η2 he2 => ?_
 ·rw [hcu]
  apply List.ext_getElem?
  intro i
  simp only [List.getElem?_take,List.getElem?_drop]
  by_cases hi:i=0
  ·subst hi;simp only [Nat.lt_one_iff,if_true,Nat.add_zero,hu];rfl
  ·rw [if_neg (by omega),List.getElem?_eq_none (by simp;omega)]
 rw [hn1] at he2
 have hρ:∀ i,i<st.nj→upd ρ st.nj u i=ρ i:=fun i hi=>by simp [upd,Nat.ne_of_lt hi]
 have hp2:WPre e st2 dj B S base cs out (upd ρ st.nj u) η2 w:=by
  refine ⟨he2,?_,by rw [hρ _ hpre.dj];exact hpre.own,by rw [hρ _ hpre.dj];exact hpre.SB,by have:=hpre.dj;omega,?_⟩
  ·refine hp1.cur.move ?_ ?_ hp1.sj (fun i hi=>hρ i (by omega)) hp1.cur.row
   ·rw [e2];rfl
   ·rw [e2];rfl
  ·have:=hpre.sj;omega
 refine runW_pre (f:=KF) hp2 fun η3 hp3 => ?_
 refine lenS_ok h4 hp3 (a:=a) (n:=vs.length) (c:=cap) (by rw [hju];simp [upd,hus]) fun η4 hp4 => ?_
 refine runW_pre (f:=KF) hp4 fun η5 hp5 => ?_
 rw [hq6]
 obtain ⟨_,hdv⟩:=isO_val hp5.env hd
 obtain ⟨_,hyv⟩:=isO_val hp5.env hy
 rw [addOff_zero] at hdv hyv
 have hρl:upd (upd ρ st.nj u) (runS KF q2 st2).2.nj (.int .i64 (vs.length:Int)) jl = .int .i64 (vs.length:Int):=by rw [e4'];simp [upd]
 rw [hρl] at hyv
 simp only [List.length_append] at hlim
 refine np_op (vs:=[upd (upd ρ st.nj u) (runS KF q2 st2).2.nj (.int .i64 (vs.length:Int)) dj,.int .i64 (vs.length:Int)]) (by simp only [List.map,hdv,hyv]) (hW.alen f c hf w B _ out vs.length _ _ hp5.own ⟨rfl,by omega⟩ (by omega) fun d6 w6 ho6 hb6 => ?_)
 generalize hρ4:upd (upd ρ st.nj u) (runS KF q2 st2).2.nj (.int .i64 (vs.length:Int))=ρ4 at *
 have hρ4u:ρ4 ju=u:=by
  have h1:st.nj≠st.nj+1:=by omega
  rw [← hρ4,hju,hn3];simp [upd,h1]
 have hρ4l:∀ i,i<st.nj→ρ4 i=ρ i:=fun i hi=>by
  have h1:i≠st.nj+1:=by omega
  rw [← hρ4,hn3];simp only [upd,if_neg h1];exact hρ i hi
 obtain ⟨hbS,hnS⟩:=hb6.other hpre.cur.row.lt hp5.SB
 have hrow6:Row w6 S cs:=by obtain ⟨ee,hr⟩:=hpre.cur.row;exact ⟨ee,by rw [hbS];exact hr⟩
 have hp6:WPre e st6 dj1 B S base cs (out++wrCount c vs.length) (upd ρ4 (runS KF q4 st4).2.nj d6) (upd η5 n6 d6) w6:=by
  have he:=hp5.env.fresh n6 d6
  refine ⟨by rw [e6];exact he,?_,by rw [e6'];simp only [upd,if_true];exact ho6,by rw [e6'];simp only [upd,if_true];exact hnS,by omega,by have:=hpre.sj;omega⟩
  exact hp5.cur.move (hs6.trans ((R5.1.sj.trans hs4).symm)) (hc6.trans ((R5.2.2.trans hc4).symm)) hp5.sj (fun j hj=>by simp [upd,Nat.ne_of_lt hj]) hrow6
 refine runW_pre (f:=KF) hp6 fun η7 hp7 => ?_
 have hρ6u:upd ρ4 (runS KF q4 st4).2.nj d6 ju=u:=by
  have h1:st.nj≠st.nj+2:=by omega
  rw [hn5,hju];simp only [upd,if_neg h1];rw [← hju];exact hρ4u
 refine lenS_ok h8 hp7 (a:=a) (n:=vs.length) (c:=cap) (by rw [hρ6u,hus]) fun η8 hp8 => ?_
 refine runW_pre (f:=KF) hp8 fun η9 hp9 => ?_
 generalize hρ8:upd (upd ρ4 (runS KF q4 st4).2.nj d6) (runS KF q6 st6).2.nj (.int .i64 (vs.length:Int))=ρ8 at *
 have hρ8u:ρ8 ju=u:=by
  have h1:ju≠st.nj+3:=by omega
  rw [← hρ8,hn7];simp only [upd,if_neg h1];exact hρ6u
 have hρ8n:ρ8 jn = .int .i64 (vs.length:Int):=by rw [← hρ8,e8'];simp [upd]
 have hρ8l:∀ i,i<st.nj→ρ8 i=ρ i:=fun i hi=>by
  have h1:i≠st.nj+3:=by omega
  have h2:i≠st.nj+2:=by omega
  rw [← hρ8,hn7,hn5];simp only [upd,if_neg h1,if_neg h2];exact hρ4l i hi
 refine w5 hp9 hρ8n (by omega) (by omega) hok.1 ?_ ?_ ?_
 ·intro i hi
  rcases hl with ⟨h0,_⟩ | ⟨_,A,c',acs,hu',hc1,hA,hrowA,hal,hreps⟩
  ·omega
  ·have h1:=Nat.mul_le_mul_right sz (show i+1≤vs.length from hi)
   refine ⟨A,c',acs,by rw [hρ8u,hu'],hA,?_,by omega,RepS.same (below_same hb6) s _ _ (hreps i hi hi),hok.2 _ (List.getElem_mem hi)⟩
   obtain ⟨ee,hr⟩:=hrowA
   exact ⟨ee,by rw [hb6.block A hA];exact hr⟩
 ·simp only [List.length_append];omega
 ·intro d' η' w' he' hb' ho'
  have h8d:ρ8 dj1=d6:=by
   have h1:dj1≠(runS KF q6 st6).2.nj:=by omega
   rw [← hρ8];simp only [upd,if_neg h1];rw [e6'];simp
  rw [h8d] at hb'
  rw [hρ4l dj hpre.dj] at hb6
  refine hk (upd ρ8 (runS KF q8 st8).2.nj d') η' w' he' (fun i hi => ?_) (by rw [w4];simp only [upd,if_true];exact hb6.trans hb') ?_
  ·have h1:i≠st.nj+4:=by omega
   rw [hn9];simp only [upd,if_neg h1];exact hρ8l i hi
  ·rw [w4];simp only [upd,if_true]
   rw [← List.append_assoc];exact ho'
theorem nilS_some {ju:Nat} {q q':NP} {st st':St} {jn:Nat} (h:nilS ju q st=some (q',st',jn)):∃ x n,q = .op (.isNil 1 false) [x] n q'∧isO st.env x ju 0=true∧st'=st.new n∧jn=st.nj:=by
 unfold nilS at h
 split at h
 ·split at h
  ·rename_i hc
   cases h
   exact ⟨_,_,rfl,hc,rfl,rfl⟩
  ·cases h
 ·cases h
theorem alenNS_some {W:WTab} {c:Bool} {jl jb dj:Nat} {q q':NP} {st st':St} {dj':Nat} (h:alenNS W c jl jb dj q st=some (q',st',dj')) :
  ∃ f d y z n,q = .op (.call f) [d,y,z] n q'∧W.alenN f=some c∧isO st.env d dj 0=true∧isO st.env y jl 0=true∧isO st.env z jb 0=true∧st'=st.new n∧dj'=st.nj:=by
 unfold alenNS at h
 split at h
 ·split at h
  ·rename_i hc
   cases h
   exact ⟨_,_,_,_,_,rfl,hc.1,hc.2.1,hc.2.2.1,hc.2.2.2,rfl,rfl⟩
  ·cases h
 ·cases h
theorem nilS_ok {ju:Nat} {q q':NP} {st st':St} {jn:Nat} (h:nilS ju q st=some (q',st',jn)) {dj B S base:Nat} {cs:List Value} {out:Bs} {ρ η:Nat→Value} {w:World} {Q:Post} {a:Option Addr} {n c:Nat} (hp:WPre e st dj B S base cs out ρ η w)
  (hu:ρ ju = .slice a n c) (hk:∀ η',WPre e st' dj B S base cs out (upd ρ st.nj (.bool a.isNone)) η' w→q'.wp P Q η' w):q.wp P Q η w:=by
 obtain ⟨x,m,rfl,hx,rfl,rfl⟩:=nilS_some h
 obtain ⟨_,hxv⟩:=isO_val hp.env hx
 rw [addOff_zero,hu] at hxv
 refine np_op (vs:=[.slice a n c]) (by simp only [List.map,hxv]) ⟨_,a.isNone,rfl,rfl,?_⟩
 have:=hk _ (hp.new m (.bool a.isNone))
 simpa using this
theorem wNarrAt_ok {W:WTab} (hW:WTabOk P W e) {el:Nat→Nat→Nat→NP→St→Option (NP×St×Nat)} {c zz:Bool} {sz off dj:Nat} {s:Sh} {q q':NP} {st st':St} {dj':Nat}
  (hel:∀ ju dj ji body t p' t' dj',t.sj<t.nj→el ju dj ji body t=some (p',t',dj')→WElm P e ju ji sz (wr s) (fun ok w x cs=>RepS ok w s x cs) (ok s) body p' t t' dj dj')
  (h:wNarrAt W el c off dj q st=some (q',st',dj')):WFld P e (wr (.narr c zz sz s)) (fun ok w x cs=>RepS ok w (.narr c zz sz s) x (cs.drop off)) (ok (.narr c zz sz s)) q q' st st' dj dj':=by
 unfold wNarrAt at h
 simp only [Option.bind_eq_some_iff] at h
 obtain ⟨⟨q2,st2,ju⟩,h2,⟨q4,st4,jl⟩,h4,⟨qb,stb,jb⟩,hb0,⟨q6,st6,dj1⟩,h6,⟨q8,st8,jn⟩,h8,h9⟩:=h
 dsimp only at h4 hb0 h6 h8 h9
 obtain ⟨⟨n2,e2⟩,e3,hoff,l2⟩:=ldAt_ok (P:=P) h2
 obtain ⟨_,m4,_,_,e4,e4'⟩:=lenS_some h4
 obtain ⟨_,mb,_,_,eb,eb'⟩:=nilS_some hb0
 obtain ⟨f,d,y,yb,n6,hq6,hf,hd,hy,hyb,e6,e6'⟩:=alenNS_some h6
 obtain ⟨_,m8,_,_,e8,e8'⟩:=lenS_some h8
 obtain ⟨w1,w2,w3,w4,w5⟩:=wlS_ok (P:=P) (e:=e) (hel ju) (fun ok w w' x cs hr hs=>RepS.same hs s x cs hr) h9
 have R1:=run_stt P (f:=KF) (p:=q) (st:=st)
 have R3:=run_stt P (f:=KF) (p:=q2) (st:=st2)
 have Rb:=run_stt P (f:=KF) (p:=q4) (st:=st4)
 have R5:=run_stt P (f:=KF) (p:=qb) (st:=stb)
 have R7:=run_stt P (f:=KF) (p:=q6) (st:=st6)
 have R9:=run_stt P (f:=KF) (p:=q8) (st:=st8)
 have hn1:=R1.2.1
 have hn2:st2.nj=st.nj+1:=by rw [e2];show (runS KF q st).2.nj+1=_;rw [hn1]
 have hn3:(runS KF q2 st2).2.nj=st.nj+1:=by rw [R3.2.1,hn2]
 have hn4:st4.nj=st.nj+2:=by rw [e4];show (runS KF q2 st2).2.nj+1=_;rw [hn3]
 have hnb:(runS KF q4 st4).2.nj=st.nj+2:=by rw [Rb.2.1,hn4]
 have hnb':stb.nj=st.nj+3:=by rw [eb];show (runS KF q4 st4).2.nj+1=_;rw [hnb]
 have hn5:(runS KF qb stb).2.nj=st.nj+3:=by rw [R5.2.1,hnb']
 have hn6:st6.nj=st.nj+4:=by rw [e6];show (runS KF qb stb).2.nj+1=_;rw [hn5]
 have hn7:(runS KF q6 st6).2.nj=st.nj+4:=by rw [R7.2.1,hn6]
 have hn8:st8.nj=st.nj+5:=by rw [e8];show (runS KF q6 st6).2.nj+1=_;rw [hn7]
 have hn9:(runS KF q8 st8).2.nj=st.nj+5:=by rw [R9.2.1,hn8]
 have hn':st'.nj=st.nj+6:=by rw [w1,hn9]
 have hs2:st2.sj=st.sj:=by rw [e2];exact R1.1.sj
 have hs4:st4.sj=st.sj:=by rw [e4];show (runS KF q2 st2).2.sj=_;rw [R3.1.sj,hs2]
 have hsb:stb.sj=st.sj:=by rw [eb];show (runS KF q4 st4).2.sj=_;rw [Rb.1.sj,hs4]
 have hs6:st6.sj=st.sj:=by rw [e6];show (runS KF qb stb).2.sj=_;rw [R5.1.sj,hsb]
 have hs8:st8.sj=st.sj:=by rw [e8];show (runS KF q6 st6).2.sj=_;rw [R7.1.sj,hs6]
 have hs':st'.sj=st.sj:=by rw [w2,R9.1.sj,hs8]
 have hc2:st2.cells=st.cells:=by rw [e2];exact R1.2.2
 have hc4:st4.cells=st.cells:=by rw [e4];show (runS KF q2 st2).2.cells=_;rw [R3.2.2,hc2]
 have hcb:stb.cells=st.cells:=by rw [eb];show (runS KF q4 st4).2.cells=_;rw [Rb.2.2,hc4]
 have hc6:st6.cells=st.cells:=by rw [e6];show (runS KF qb stb).2.cells=_;rw [R5.2.2,hcb]
 have hc8:st8.cells=st.cells:=by rw [e8];show (runS KF q6 st6).2.cells=_;rw [R7.2.2,hc6]
 have hc':st'.cells=st.cells:=by rw [w3,R9.2.2,hc8]
 have hju:ju=st.nj:=by rw [e3,hn1]
 have hjl:jl=st.nj+1:=by rw [e4',hn3]
 have hjb:jb=st.nj+2:=by rw [eb',hnb]
 have hdj1:dj1=st.nj+3:=by rw [e6',hn5]
 have hjn:jn=st.nj+4:=by rw [e8',hn7]
 have hdj':dj'=st.nj+5:=by rw [w4,hn9]
 refine ⟨⟨by omega,hs',by rw [hc']⟩,hc',fun _=>by omega,?_⟩
 intro B S base cs out ρ η w x Q hpre hrep hok hlim hk
 have hx':∃ (vs:List Val) (b:Bool) (u:Value) (a:Option Addr) (cap:Nat),cs[base+off]?=some u∧u = .slice a vs.length cap∧a.isNone=b∧vs.length≤32767∧wr (.narr c zz sz s) x=(if b then wrNull c 4 else wrCount c vs.length)++(vs.map (wr s)).flatten ∧
   Lst (· < B) w sz vs.length (fun i ds=>∀ h:i<vs.length,RepS (· < B) w s vs[i] ds) u∧∀ v∈vs,ok s v:=by
  cases x with
  | n o=>
   cases o with
   | none=>
    simp only [RepS] at hrep
    rw [List.getElem?_drop,Nat.add_zero,List.getElem?_drop] at hrep
    exact ⟨[],true,_,none,0,hrep,rfl,rfl,by simp,by simp [wr],.inl ⟨rfl,none,0,rfl⟩,by simp⟩
   | some vs=>
    simp only [RepS] at hrep
    simp only [Km.ok] at hok
    obtain ⟨u,hu,⟨a,n0,c0,h0⟩,hl⟩:=hrep
    rw [List.getElem?_drop,Nat.add_zero,List.getElem?_drop] at hu
    have hn0:n0=vs.length:=by
     rcases hl with ⟨h00,a',c',rfl⟩ | ⟨_,A,c',acs,rfl,_⟩
     ·cases h0;omega
     ·cases h0;rfl
    subst hn0
    exact ⟨vs,false,u,some a,c0,hu,h0,rfl,hok.1,by simp [wr],hl,hok.2⟩
  | _=>simp [RepS] at hrep
 obtain ⟨vs,b,u,a,cap,hu,hus,hab,hvl,hwr,hl,hoks⟩:=hx'
 rw [hwr] at hlim hk
 have hcu:u.cells.toList=[u]:=by rw [hus];rfl
 refine runW_pre (f:=KF) hpre fun η1 hp1 => ?_
 refine l2 (u:=u) hp1.env hp1.cur ?_ (fun _=>hcu) fun η2 he2 => ?_
 ·rw [hcu]
  apply List.ext_getElem?
  intro i
  simp only [List.getElem?_take,List.getElem?_drop]
  by_cases hi:i=0
  ·subst hi;simp only [Nat.lt_one_iff,if_true,Nat.add_zero,hu];rfl
  ·rw [if_neg (by omega),List.getElem?_eq_none (by simp;omega)]
 rw [hn1] at he2
 have hρ:∀ i,i<st.nj→upd ρ st.nj u i=ρ i:=fun i hi=>by simp [upd,Nat.ne_of_lt hi]
 have hp2:WPre e st2 dj B S base cs out (upd ρ st.nj u) η2 w:=by
  refine ⟨he2,?_,by rw [hρ _ hpre.dj];exact hpre.own,by rw [hρ _ hpre.dj];exact hpre.SB,by have:=hpre.dj;omega,?_⟩
  ·refine hp1.cur.move ?_ ?_ hp1.sj (fun i hi=>hρ i (by omega)) hp1.cur.row
   ·rw [e2];rfl
   ·rw [e2];rfl
  ·have:=hpre.sj;omega
 refine runW_pre (f:=KF) hp2 fun η3 hp3 => ?_
 refine lenS_ok h4 hp3 (a:=a) (n:=vs.length) (c:=cap) (by rw [hju];simp [upd,hus]) fun η4 hp4 => ?_
 refine runW_pre (f:=KF) hp4 fun ηb hpb => ?_
 refine nilS_ok hb0 hpb (a:=a) (n:=vs.length) (c:=cap) (by rw [hju,hn3];simp [upd,hus]) fun ηb' hpb' => ?_
 refine runW_pre (f:=KF) hpb' fun η5 hp5 => ?_
 rw [hab] at hpb' hp5
 rw [hq6]
 obtain ⟨_,hdv⟩:=isO_val hp5.env hd
 obtain ⟨_,hyv⟩:=isO_val hp5.env hy
 obtain ⟨_,hybv⟩:=isO_val hp5.env hyb
 rw [addOff_zero] at hdv hyv hybv
 generalize hρ4:upd (upd (upd ρ st.nj u) (runS KF q2 st2).2.nj (.int .i64 (vs.length:Int))) (runS KF q4 st4).2.nj (.bool b)=ρ4 at *
 have hρl:ρ4 jl = .int .i64 (vs.length:Int):=by
  have h1:st.nj+1≠st.nj+2:=by omega
  rw [← hρ4,hjl,hn3,hnb];simp [upd,h1]
 have hρb:ρ4 jb = .bool b:=by rw [← hρ4,eb'];simp [upd]
 rw [hρl] at hyv
 rw [hρb] at hybv
 simp only [List.length_append] at hlim
 refine np_op (vs:=[ρ4 dj,.int .i64 (vs.length:Int),.bool b]) (by simp only [List.map,hdv,hyv,hybv]) (hW.alenN f c hf w B _ out vs.length b _ hp5.own (by omega) (by omega) fun d6 w6 ho6 hb6 => ?_)
 have hρ4u:ρ4 ju=u:=by
  have h1:st.nj≠st.nj+1:=by omega
  have h2:st.nj≠st.nj+2:=by omega
  rw [← hρ4,hju,hn3,hnb];simp [upd,h1,h2]
 have hρ4l:∀ i,i<st.nj→ρ4 i=ρ i:=fun i hi=>by
  have h1:i≠st.nj+1:=by omega
  have h2:i≠st.nj+2:=by omega
  rw [← hρ4,hn3,hnb];simp only [upd,if_neg h1,if_neg h2];exact hρ i hi
 obtain ⟨hbS,hnS⟩:=hb6.other hpre.cur.row.lt hp5.SB
 have hrow6:Row w6 S cs:=by obtain ⟨ee,hr⟩:=hpre.cur.row;exact ⟨ee,by rw [hbS];exact hr⟩
 have hp6:WPre e st6 dj1 B S base cs (out++(if b then wrNull c 4 else wrCount c vs.length)) (upd ρ4 (runS KF qb stb).2.nj d6) (upd η5 n6 d6) w6:=by
  have he:=hp5.env.fresh n6 d6
  refine ⟨by rw [e6];exact he,?_,by rw [e6'];simp only [upd,if_true];exact ho6,by rw [e6'];simp only [upd,if_true];exact hnS,by omega,by have:=hpre.sj;omega⟩
  exact hp5.cur.move (hs6.trans ((R5.1.sj.trans hsb).symm)) (hc6.trans ((R5.2.2.trans hcb).symm)) hp5.sj (fun j hj=>by simp [upd,Nat.ne_of_lt hj]) hrow6
 refine runW_pre (f:=KF) hp6 fun η7 hp7 => ?_
 have hρ6u:upd ρ4 (runS KF qb stb).2.nj d6 ju=u:=by
  have h1:st.nj≠st.nj+3:=by omega
  rw [hn5,hju];simp only [upd,if_neg h1];rw [← hju];exact hρ4u
 refine lenS_ok h8 hp7 (a:=a) (n:=vs.length) (c:=cap) (by rw [hρ6u,hus]) fun η8 hp8 => ?_
 refine runW_pre (f:=KF) hp8 fun η9 hp9 => ?_
 generalize hρ8:upd (upd ρ4 (runS KF qb stb).2.nj d6) (runS KF q6 st6).2.nj (.int .i64 (vs.length:Int))=ρ8 at *
 have hρ8u:ρ8 ju=u:=by
  have h1:ju≠st.nj+4:=by omega
  rw [← hρ8,hn7];simp only [upd,if_neg h1];exact hρ6u
 have hρ8n:ρ8 jn = .int .i64 (vs.length:Int):=by rw [← hρ8,e8'];simp [upd]
 have hρ8l:∀ i,i<st.nj→ρ8 i=ρ i:=fun i hi=>by
  have h1:i≠st.nj+4:=by omega
  have h2:i≠st.nj+3:=by omega
  rw [← hρ8,hn7,hn5];simp only [upd,if_neg h1,if_neg h2];exact hρ4l i hi
 refine w5 hp9 hρ8n (by omega) (by omega) hvl ?_ ?_ ?_
 ·intro i hi
  rcases hl with ⟨h0,_⟩ | ⟨_,A,c',acs,hu',hc1,hA,hrowA,hal,hreps⟩
  ·omega
  ·have h1:=Nat.mul_le_mul_right sz (show i+1≤vs.length from hi)
   refine ⟨A,c',acs,by rw [hρ8u,hu'],hA,?_,by omega,RepS.same (below_same hb6) s _ _ (hreps i hi hi),hoks _ (List.getElem_mem hi)⟩
   obtain ⟨ee,hr⟩:=hrowA
   exact ⟨ee,by rw [hb6.block A hA];exact hr⟩
 ·simp only [List.length_append];omega
 ·intro d' η' w' he' hb' ho'
  have h8d:ρ8 dj1=d6:=by
   have h1:dj1≠(runS KF q6 st6).2.nj:=by omega
   rw [← hρ8];simp only [upd,if_neg h1];rw [e6'];simp
  rw [h8d] at hb'
  rw [hρ4l dj hpre.dj] at hb6
  refine hk (upd ρ8 (runS KF q8 st8).2.nj d') η' w' he' (fun i hi => ?_) (by rw [w4];simp only [upd,if_true];exact hb6.trans hb') ?_
  ·have h1:i≠st.nj+5:=by omega
   rw [hn9];simp only [upd,if_neg h1];exact hρ8l i hi
  ·rw [w4];simp only [upd,if_true]
   rw [← List.append_assoc];exact ho'
theorem WFld.conv {α β:Type} {enc:α→Bs} {enc':β→Bs} {rep:(Nat→Prop)→World→α→List Value→Prop} {rep':(Nat→Prop)→World→β→List Value→Prop} {okv:α→Prop} {okv':β→Prop} {p p':NP} {st st':St} {dj dj':Nat}
  (h:WFld P e enc rep okv p p' st st' dj dj') (hc:∀ ok w x cs,rep' ok w x cs→okv' x→∃ y,rep ok w y cs∧okv y∧enc y=enc' x):WFld P e enc' rep' okv' p p' st st' dj dj':=by
 obtain ⟨h1,h2,h3,h4⟩:=h
 refine ⟨h1,h2,h3,fun B S base cs out ρ η w x Q hp hr ho hl hk => ?_⟩
 obtain ⟨y,y1,y2,y3⟩:=hc _ _ _ _ hr ho
 exact h4 B S base cs out ρ η w y Q hp y1 y2 (by rw [y3];exact hl) (by rw [y3];exact hk)
mutual
theorem chkWS_ok {W:WTab} (hW:WTabOk P W e):∀ (s:Sh) (off dj:Nat) (q q':NP) (st st':St) (dj':Nat),chkWS W s off dj q st=some (q',st',dj')→WFld P e (wr s) (fun ok w x cs=>RepS ok w s x (cs.drop off)) (ok s) q q' st st' dj dj'
 | .prim p,off,dj,q,q',st,st',dj',h=>wrAt_ok hW h
 | .arr c sz (.prim p),off,dj,q,q',st,st',dj',h=>by
  simp only [chkWS] at h
  refine wArrAt_ok hW (s := .prim p) (fun ju dj ji body t p' t' dj' ht hh => ?_) h
  simp only [Option.bind_eq_some_iff] at hh
  obtain ⟨⟨r1,r2⟩,hh1,hh2⟩:=hh
  refine elIn_ok hh1 ?_
  exact (wrAt_ok hW hh2).conv fun ok w x cs hr ho=>⟨x,by simpa using hr,ho,rfl⟩
 | .arr c sz (.str fs),off,dj,q,q',st,st',dj',h=>by
  simp only [chkWS] at h
  refine wArrAt_ok hW (s := .str fs) (fun ju dj ji body t p' t' dj' ht hh => ?_) h
  simp only [Option.bind_eq_some_iff] at hh
  obtain ⟨⟨r1,r2⟩,hh1,hh2⟩:=hh
  refine elIn_ok hh1 ?_
  refine (chkWF_ok hW fs 0 dj r1 p' r2 t' dj' hh2).conv fun ok w x cs hr ho => ?_
  cases x with
  | l vs=>exact ⟨vs,by simpa [RepS] using hr,by simpa [Km.ok] using ho,by simp [wr]⟩
  | _=>simp [RepS] at hr
 | .narr c zz sz (.prim p),off,dj,q,q',st,st',dj',h=>by
  simp only [chkWS] at h
  refine wNarrAt_ok hW (s := .prim p) (fun ju dj ji body t p' t' dj' ht hh => ?_) h
  simp only [Option.bind_eq_some_iff] at hh
  obtain ⟨⟨r1,r2⟩,hh1,hh2⟩:=hh
  refine elIn_ok hh1 ?_
  exact (wrAt_ok hW hh2).conv fun ok w x cs hr ho=>⟨x,by simpa using hr,ho,rfl⟩
 | .narr c zz sz (.str fs),off,dj,q,q',st,st',dj',h=>by
  simp only [chkWS] at h
  refine wNarrAt_ok hW (s := .str fs) (fun ju dj ji body t p' t' dj' ht hh => ?_) h
  simp only [Option.bind_eq_some_iff] at hh
  obtain ⟨⟨r1,r2⟩,hh1,hh2⟩:=hh
  refine elIn_ok hh1 ?_
  refine (chkWF_ok hW fs 0 dj r1 p' r2 t' dj' hh2).conv fun ok w x cs hr ho => ?_
  cases x with
  | l vs=>exact ⟨vs,by simpa [RepS] using hr,by simpa [Km.ok] using ho,by simp [wr]⟩
  | _=>simp [RepS] at hr
 | .str fs,off,dj,q,q',st,st',dj',h=>by
  simp only [chkWS] at h
  refine (chkWF_ok hW fs off dj q q' st st' dj' h).conv fun ok w x cs hr ho => ?_
  cases x with
  | l vs=>exact ⟨vs,by simpa [RepS] using hr,by simpa [Km.ok] using ho,by simp [wr]⟩
  | _=>simp [RepS] at hr
 | .arr c sz (.arr _ _ _),off,dj,q,q',st,st',dj',h=>by simp only [chkWS] at h;cases h
 | .arr c sz (.narr _ _ _ _),off,dj,q,q',st,st',dj',h=>by simp only [chkWS] at h;cases h
 | .arr c sz (.opt _),off,dj,q,q',st,st',dj',h=>by simp only [chkWS] at h;cases h
 | .narr _ _ _ (.arr _ _ _),off,dj,q,q',st,st',dj',h=>by simp only [chkWS] at h;cases h
 | .narr _ _ _ (.narr _ _ _ _),off,dj,q,q',st,st',dj',h=>by simp only [chkWS] at h;cases h
 | .narr _ _ _ (.opt _),off,dj,q,q',st,st',dj',h=>by simp only [chkWS] at h;cases h
 | .opt _,off,dj,q,q',st,st',dj',h=>by simp only [chkWS] at h;cases h
theorem chkWF_ok {W:WTab} (hW:WTabOk P W e):∀ (fs:Fs) (off dj:Nat) (q q':NP) (st st':St) (dj':Nat),chkWF W fs off dj q st=some (q',st',dj')→WFld P e (wrF fs) (fun ok w x cs=>RepF ok w fs x (cs.drop off)) (okF fs) q q' st st' dj dj'
 | .nil,off,dj,q,q',st,st',dj',h=>by
  simp only [chkWF] at h
  cases h
  refine ⟨Stt.refl _,rfl,fun h=>h,fun B S base cs out ρ η w x Q hp hr ho hl hk => ?_⟩
  have e:wrF .nil x=[]:=by cases x<;>simp [wrF]
  exact hk ρ η w hp.env (fun _ _=>rfl) (Bl.refl _ _ _) (by rw [e,List.append_nil];exact hp.own)
 | .tags o,off,dj,q,q',st,st',dj',h=>by
  simp only [chkWF] at h
  refine (wtAt_ok hW h).conv fun ok w x cs hr ho=>⟨x,?_,?_,?_⟩
  ·match x,hr with
   | [.t l],hr=>
    simp only [RepF] at hr ⊢
    obtain ⟨v,h1,h2⟩:=hr
    refine ⟨v,?_,h2⟩
    rw [List.getElem?_drop] at h1;exact h1
  ·match x,ho with
   | [.t l],ho=>simpa [okF] using ho
  ·match x,hr with
   | [.t l],hr=>simp [wrF]
 | .cons o s r,off,dj,q,q',st,st',dj',h=>by
  simp only [chkWF,Option.bind_eq_some_iff] at h
  obtain ⟨⟨q1,st1,dj1⟩,h1,h2⟩:=h
  obtain ⟨a1,a2,a3,a4⟩:=chkWS_ok hW s (off+o) dj q q1 st st1 dj1 h1
  obtain ⟨b1,b2,b3,b4⟩:=chkWF_ok hW r off dj1 q1 q' st1 st' dj' h2
  refine ⟨a1.trans b1,b2.trans a2,fun hd=>b3 (a3 hd),fun B S base cs out ρ η w x Q hp hr ho hl hk => ?_⟩
  match x,hr with
  | v::vs,hr=>
   simp only [RepF] at hr
   simp only [okF] at ho
   simp only [wrF,List.length_append] at hl hk
   refine a4 B S base cs out ρ η w v Q hp (by have h0:=hr.1;simp only [List.drop_drop] at h0 ⊢;rw [← Nat.add_assoc];exact h0) ho.1 (by omega) fun ρ1 η1 w1 he1 hρ1 hb1 ho1 => ?_
   obtain ⟨hbS,hnS⟩:=hb1.other hp.cur.row.lt hp.SB
   have hrow1:Row w1 S cs:=by obtain ⟨ee,hh⟩:=hp.cur.row;exact ⟨ee,by rw [hbS];exact hh⟩
   have hp1:WPre e st1 dj1 B S base cs (out++wr s v) ρ1 η1 w1:=⟨he1,hp.cur.move a1.sj a2 hp.sj hρ1 hrow1,ho1,hnS,a3 hp.dj,by have:=hp.sj;have:=a1.nj;rw [a1.sj];omega⟩
   refine b4 B S base cs _ ρ1 η1 w1 vs Q hp1 (RepF.same (below_same hb1) r vs _ hr.2) ho.2 (by simp only [List.length_append];omega) fun ρ2 η2 w2 he2 hρ2 hb2 ho2 => ?_
   refine hk ρ2 η2 w2 he2 (fun i hi=>(hρ2 i (Nat.lt_of_lt_of_le hi a1.nj)).trans (hρ1 i hi)) (hb1.trans hb2) ?_
   rw [← List.append_assoc];exact ho2
end
end
end Go.Mr
namespace Go.Mr
open Go.Lx Go.Nx Go.Km Go.Mx Go.Kb
open Go.CX (T deep)
set_option linter.unusedSimpArgs false
set_option linter.unusedVariables false
def defP:NP→Option (List (Nat×Value))
 | .nil=>some []
 | .ret []=>some []
 | .chk 0 k=>defP k
 | .op (.store 1) [.q 0 o,.k v] n k=>if n=0∨v.cells.size≠1∨v.oneCell'=false then none else (defP k).map ((o,v) :: ·)
 | _=>none
def rSt (n2:Nat) (un:Bool) (cells:List (Option Value)):St:=
 { env:=((T.nil.set deep 0 (some (.o 1 0))).set deep 2 (some (.k (.bool un)))).set deep n2 (some (.o 0 0)),nj:=2,sj:=1,cells:=cells }
def topR (T:Tab) (fs:Fs) (lo:Nat) (z:List Value) (un:Bool):NP→Bool
 | .op (.call df) [.s 0] n0 (.op (.lit [.slice none 0 0,.bool false] [0]) [.s 1] n1 (.op (.alloc [.slice none 0 0,.bool false]) [] n2 (.chk n3 (.op (.store 2) [.q n4 0,.s n5] n6 k))))=>
  if n2=n3∧n2=n4∧n1=n5∧n1≠n2∧[n0,n1,n2,n6].all (fun n=>n != 0 && n != 1 && n != 2)=true∧n0≠n1∧n6≠n2∧loF lo fs=true then
   match T.defs df with
   | some ds=>ds.all (fun d=>decide (d.1<z.length) && decide (lo≤d.1)) && match chkF T fs 0 k (rSt n2 un ((setD 0 ds z).map some)) with
    | some (q,st)=>let r:=runS KF q st;match r.1 with
     | .op (.call fc) [x] n (.ret [.s n'])=>fc == T.compl && n == n' && isO r.2.env x 0 0
     | _=>false
    | none=>false
   | none=>false
  else false
 | _=>false
def wSt (cells:List (Option Value)):St:={ env:=(T.nil.set deep 0 (some (.o 0 0))).set deep 1 (some (.o 1 0)),nj:=2,sj:=0,cells:=cells }
def topW (W:WTab) (fs:Fs) (cells:List (Option Value)) (p:NP):Bool:=
 match chkWF W fs 0 1 p (wSt cells) with
 | some (q,st,dj)=>let r:=runS KF q st;match r.1 with
  | .ret [x]=>isO r.2.env x dj 0
  | _=>false
 | none=>false
section
variable {P:Program} {g:Nat} {e:TypeId}
theorem defP_ok:∀ (p:NP) (ds:List (Nat×Value)) {w:World} {b o:Nat} {cs:List Value} {η:Nat→Value} {Q:Post},defP p=some ds→η 0 = .pointer (some ⟨b,o,none⟩)→Row w b cs→(∀ d∈ds,o+d.1<cs.length) →
  (∀ ot η' w',Row w' b (setD o ds cs)→Keep [b] w w'→(ot = .nrm∨ot = .ret [])→Q ot η' w')→p.wp P Q η w:=by
 intro p
 induction p with
 | nil=>intro ds w b o cs η Q h h0 hr hd hk;cases h;exact hk .nrm _ _ hr (Keep.refl _ _) (.inl rfl)
 | ret xs=>
  intro ds w b o cs η Q h h0 hr hd hk
  cases xs with
  | nil=>cases h;exact hk (.ret []) _ _ hr (Keep.refl _ _) (.inr rfl)
  | cons x xs=>simp [defP] at h
 | chk n k ih=>
  intro ds w b o cs η Q h h0 hr hd hk
  cases n with
  | zero=>exact ⟨⟨_,h0⟩,ih ds (by simpa [defP] using h) h0 hr hd hk⟩
  | succ n=>simp [defP] at h
 | op i args n k ih=>
  intro ds w b o cs η Q h h0 hr hd hk
  unfold defP at h
  split at h
  all_goals first
   | cases h;done
   | skip
  ·rename_i heq
   cases heq
  ·rename_i heq
   cases heq
  ·rename_i heq
   cases heq
  ·rename_i of v n' k' heq
   cases heq
   split at h
   ·cases h
   rename_i hc
   simp only [not_or,ne_eq,Decidable.not_not,Bool.not_eq_false] at hc
   simp only [Option.map_eq_some_iff] at h
   obtain ⟨ds',h1,rfl⟩:=h
   have hcv:v.cells = #[v]:=by
    cases v<;>first | rfl | (simp [Value.oneCell'] at hc)
   refine np_op (vs:=[.pointer (some ⟨b,o+of,none⟩),v]) (by simp [SV.val,h0,addr_at]) (wp_store hr (n:=1) ⟨hc.2.1,by rw [hcv];simp [hc.2.2]⟩ (hd (of,v) (by simp)) fun w' r k => ?_)
   have hput:put cs (o+of) v.cells.toList=cs.set (o+of) v:=by
    rw [hcv]
    have:=hd (of,v) (by simp)
    rw [List.set_eq_take_append_cons_drop,if_pos (by simpa using this)]
    simp [put]
   rw [hput] at r
   refine ih ds' h1 (b:=b) (o:=o) (by simp [upd,Ne.symm hc.1,h0]) r (fun d hd'=>by simpa using hd d (by simp [hd'])) fun ot η' w'' hr' hk' ho => ?_
   exact hk ot η' w'' (by simpa [setD] using hr') (k.then hk') ho
 | set n x k ih=>intro ds w b o cs η Q h;simp [defP] at h
 | ite c a b k _ _ _=>intro ds w b o cs η Q h;simp [defP] at h
 | loop b k _ _=>intro ds w b o cs η Q h;simp [defP] at h
 | keep i args n k ih=>intro ds w b o cs η Q h;simp [defP] at h
 | look i args n k ih=>intro ds w b o cs η Q h;simp [defP] at h
 | draw k ih=>intro ds w b o cs η Q h;simp [defP] at h
 | exit=>intro ds w b o cs η Q h;simp [defP] at h
theorem def_ok (hn:Named P) {f:FuncId} {p:NP} {ds:List (Nat×Value)} (hf:fnP P f 1=some ⟨p,[]⟩) (hd:defP p=some ds):DefOk P f ds:=by
 intro w b o cs K hr hl hk
 refine calls_of_np hn (vs:=[.pointer (some ⟨b,o,none⟩)]) hf fun η hη => ?_
 refine defP_ok p ds hd (hη 0 (by simp)) hr hl fun ot η' w' hr' hk' ho => ?_
 rcases ho with rfl | rfl
 ·exact ⟨rfl,hk w' hr' hk'⟩
 ·exact hk w' hr' hk'
end
end Go.Mr
namespace Go.Mr
open Go.Lx Go.Nx Go.Km Go.Mx Go.Kb
open Go.CX (T deep)
set_option linter.unusedSimpArgs false
set_option linter.unusedVariables false
section
variable {P:Program} {g:Nat} {e:TypeId}
theorem env_nil (c:Nat) (ρ η:Nat→Value):EnvOk T.nil c ρ η:=⟨fun n a h=>by rw [CX.T.get_nil] at h;cases h⟩
theorem setD_low {lo:Nat}:∀ (ds:List (Nat×Value)) (z:List Value) (j:Nat),(∀ d∈ds,lo≤d.1)→j<lo→(setD 0 ds z)[j]?=z[j]?:=by
 intro ds
 induction ds with
 | nil=>intro z j _ _;rfl
 | cons d ds ih=>
  intro z j hd hj
  have:=ih (z.set (0+d.1) d.2) j (fun x hx=>hd x (by simp [hx])) hj
  unfold setD at this ⊢
  simp only [List.foldl_cons]
  rw [this,List.getElem?_set,if_neg]
  have:=hd d (by simp)
  omega
theorem sl_one {ok:Nat→Prop} {w:World} {v:Value} {bs:Bs} (h:Sl ok w v bs):v.cells.size=1∧v.cells.toList=[v]:=by
 rcases h with ⟨rfl,_⟩ | ⟨a,c,rfl,_⟩<;>exact ⟨rfl,rfl⟩
theorem topR_ok (hn:Named P) {T:Tab} (hT:TabOk P T g) {f:FuncId} {fs:Fs} {lo:Nat} {z:List Value} {un:Bool} {prog:NP} (hf:fnP P f 3=some ⟨prog,[.direct]⟩) (h:topR T fs lo z un prog=true)
  {ok:Nat→Prop} {w:World} {S:Nat} {src:Value} {bs:Bs} {err:Value} {K:Value→World→Prop} (hnew:∀ k,w.heap.size≤k→ok k) (hS:¬ ok S) (hrow:Row w S z) (hsl:Sl ok w src bs) (herr:w.cell? ⟨g,0,none⟩=some err) (hgS:g≠S)
  (hbad:rdF fs bs=none→∀ w',Keep [S] w w'→K err w')
  (hgood:∀ vs rest,rdF fs bs=some (vs,rest)→∀ w' cs',Keep [S] w w'→Row w' S cs'→cs'.length=z.length→(∀ j,j<lo→cs'[j]?=z[j]?)→RepF ok w' fs vs cs'→K .nilIface w'):In.wp P (.call f) [ptr S,src,.bool un] w K:=by
 refine calls_of_np hn (vs:=[ptr S,src,.bool un]) hf fun η hη => ?_
 dsimp only
 have h0:η 0=ptr S:=hη 0 (by simp)
 have h1:η 1=src:=hη 1 (by simp)
 have h2:η 2 = .bool un:=hη 2 (by simp)
 unfold topR at h
 split at h
 case h_2=>cases h
 rename_i df n0 n1 n2 n3 n4 n5 n6 k
 split at h
 case isFalse=>cases h
 rename_i hc
 obtain ⟨rfl,rfl,rfl,h12,hall,h01,h62,hlo⟩:=hc
 simp only [List.all_cons,List.all_nil,Bool.and_true,Bool.and_eq_true,bne_iff_ne,ne_eq] at hall
 obtain ⟨⟨⟨a0,a1⟩,a2⟩,⟨⟨b0,b1⟩,b2⟩,⟨⟨c0,c1⟩,c2⟩,⟨⟨d0,d1⟩,d2⟩⟩:=hall
 split at h
 case h_2=>cases h
 rename_i ds hds
 simp only [Bool.and_eq_true,List.all_eq_true,decide_eq_true_eq] at h
 obtain ⟨hdl,h⟩:=h
 split at h
 case h_2=>cases h
 rename_i q st hchk
 split at h
 case h_2=>cases h
 rename_i fc x n n' hend
 simp only [Bool.and_eq_true,beq_iff_eq] at h
 obtain ⟨⟨rfl,rfl⟩,hx⟩:=h
 refine np_op (vs:=[ptr S]) (by simp [SV.val,h0]) (hT.defs df ds hds w S 0 z _ hrow (fun d hd=>by have:=(hdl d hd).1;omega) fun w1 r1 k1 => ?_)
 have hone:=sl_one hsl
 refine np_op (vs:=[src]) (by simp [SV.val,upd,Ne.symm a1,h1]) ⟨rfl,fun v hv=>by rw [List.mem_singleton.1 hv];exact hone,?_⟩
 refine np_op (vs:=[]) rfl (wp_alloc fun R w2 r2 hR k2 => ?_)
 refine ⟨⟨_,by simp only [upd];rfl⟩,?_⟩
 have hput2:putAll [.slice none 0 0,.bool false] ([0].zip [src])=[src,.bool false]:=rfl
 rw [hput2]
 have hf2:Fit 2 (.agg ([src,.bool false]:List Value).toArray):=by
  refine ⟨rfl,?_⟩
  rcases hsl with ⟨rfl,_⟩ | ⟨a,c,rfl,_⟩<;>simp [Value.cells,Value.oneCell']
 refine np_op (vs:=[ptr R,.agg ([src,.bool false]:List Value).toArray]) (by simp [SV.val,upd,h12,Addr.add]) (wp_store r2 hf2 (by simp) fun w3 r3 k3 => ?_)
 have hrR:Row w3 R [src,.bool false]:=by simpa [put,Value.cells] using r3
 have hSw:S<w.heap.size:=hrow.lt
 have hgw:g<w.heap.size:=cell_lt herr
 have hsz1:=k1.size
 have hRS:R≠S:=by omega
 have hRg:g≠R:=by omega
 let ok1:Nat→Prop:=fun k=>ok k∧k≠R
 let ρ:Nat→Value:=fun j=>if j=0 then ptr R else ptr S
 have kk:Keep [S] w w3:=k1.trans (k2.trans k3 (A':=[R]) (fun x hx hlt=>by rw [List.mem_singleton] at hx;omega)) (fun x hx hlt=>by cases hx)
 have hS3:Row w3 S (setD 0 ds z):=(r1.keep k2 (by simp)).keep k3 (by simpa using Ne.symm hRS)
 have hsl3:Sl ok w3 src bs:=hsl.same (kk.same fun x hx=>by rw [List.mem_singleton.1 hx];exact hS)
 generalize hη3:upd (upd (upd (upd η n0 (.tuple #[])) n1 (.agg ([src,.bool false]:List Value).toArray)) n2 (.pointer (some ⟨R,0,none⟩))) n6 undef=η3
 have e0:η3 0=ptr S:=by rw [← hη3];simp [upd,Ne.symm a0,Ne.symm b0,Ne.symm c0,Ne.symm d0,h0]
 have e2:η3 2 = .bool un:=by rw [← hη3];simp [upd,Ne.symm a2,Ne.symm b2,Ne.symm c2,Ne.symm d2,h2]
 have eR:η3 n2=ptr R:=by rw [← hη3];simp [upd,Ne.symm h62]
 have henv:EnvOk (rSt n2 un ((setD 0 ds z).map some)).env 2 ρ η3:=by
  refine (((env_nil 2 ρ η3).know (n:=0) (a := .o 1 0) (by show 1<2;omega) ?_).know (n:=2) (a := .k (.bool un)) trivial e2).know (n:=n2) (a := .o 0 0) (by show 0<2;omega) ?_
  ·simp only [AV.val,addOff_zero,e0];rfl
  ·simp only [AV.val,addOff_zero,eR];rfl
 have hslen:=setD_length 0 ds z
 have hpre:Pre g (rSt n2 un ((setD 0 ds z).map some)) ok1 R S 0 (setD 0 ds z) false (some bs) ρ η3 w3 err:=by
  refine ⟨henv,⟨rfl,hS3,by simp [rSt],fun j v hj => ?_⟩,⟨fun k hk=>⟨hnew k (Nat.le_trans kk.size hk),by have:=hrR.lt;omega⟩,fun h=>h.2 rfl⟩,fun h=>hS h.1,Ne.symm hRS,?_,rfl,cell_keep herr kk (by simpa using hgS),hRg,hgS,by show 0<2∧1<2;omega⟩
  ·simp only [rSt,List.getElem?_map,Option.map_eq_some_iff] at hj
   obtain ⟨u,h1,h2⟩:=hj
   cases h2
   simpa using h1
  ·refine ⟨src,hrR,?_,fun h=>by cases h⟩
   rcases hsl with hh | ⟨a,c,h1,h2,h3,h4,h5⟩
   ·exact .inl hh
   ·have hsl3':=hsl3
    rcases hsl3 with ⟨hh,_⟩ | ⟨a',c',h1',h2',h3',h4',h5'⟩
    ·rw [h1] at hh;cases hh
    ·refine .inr ⟨a',c',h1',h2',h3',⟨h4',?_⟩,h5'⟩
     rw [h1] at h1'
     cases h1'
     omega
 have F:=chkF_ok hT fs 0 lo k q _ st hlo hchk
 refine F.2 ok1 R S 0 (setD 0 ds z) false (some bs) ρ η3 w3 err _ hpre ?_ ?_
 ·intro hb η' w' kw
  have hb':rdF fs bs=none:=hb
  exact hbad hb' w' (kk.trans kw fun x hx hlt=>by
   simp only [List.mem_cons,List.not_mem_nil,or_false] at hx ⊢
   rcases hx with rfl | rfl
   ·omega
   ·rfl)
 ·intro ρ' η' w' cs' hnx he
  have kw:Keep [S] w w':=kk.trans hnx.keep fun x hx hlt=>by
   simp only [List.mem_cons,List.not_mem_nil,or_false] at hx ⊢
   rcases hx with rfl | rfl
   ·omega
   ·rfl
  unfold FEnd at he
  have hb:((some bs).bind (rdF fs))=rdF fs bs:=rfl
  rw [hb] at he
  obtain ⟨nn1,t1,hrd1,ht1⟩:∃ nn1 t1,Rd ok1 w' R nn1 t1∧t1=(rdF fs bs).map (·.2):=by
   cases hd:rdF fs bs with
   | none=>rw [hd] at he;exact ⟨false,none,he,rfl⟩
   | some y=>obtain ⟨y,r⟩:=y;rw [hd] at he;obtain ⟨⟨nn',hh⟩,_⟩:=he;exact ⟨nn',some r,hh,rfl⟩
  have hp1:=hpre.next hnx F.1 hrd1
  refine run_pre (f:=KF) hp1 fun η4 hp4 => ?_
  rw [hend]
  obtain ⟨_,hxv⟩:=isO_val hp4.env hx
  rw [hp4.r0,addOff_ptr] at hxv
  refine np_op (vs:=[ptr R]) (by simp [hxv]) (hT.compl ok1 w' R nn1 t1 _ err hp4.rd hp4.err ?_)
  show K _ w'
  simp only [pack,SV.val,upd,if_true,List.map]
  cases hd:rdF fs bs with
  | none=>rw [hd] at ht1;subst ht1;exact hbad hd w' kw
  | some y=>
   obtain ⟨vs,rest⟩:=y
   rw [hd] at ht1 he
   subst ht1
   refine hgood vs rest hd w' cs' kw hnx.cur.row (hnx.len.trans hslen) (fun j hj => ?_) ?_
   ·rw [hnx.low j (by omega)]
    exact setD_low ds z j (fun d hd=>(hdl d hd).2) hj
   ·have:=he.2
    simp only [List.drop_zero] at this
    exact RepF.weak (fun b _ hb=>hb.1) fs vs _ this
theorem topW_ok (hn:Named P) {W:WTab} (hW:WTabOk P W e) {f:FuncId} {fs:Fs} {cells:List (Option Value)} {prog:NP} (hf:fnP P f 2=some ⟨prog,[.direct]⟩) (h:topW W fs cells prog=true)
  {B S:Nat} {cs:List Value} {d:Value} {out:Bs} {w:World} {vs:List Val} {K:Value→World→Prop} (hown:Own w B e d out) (hSB:S<B) (hrow:Row w S cs) (hlen:cells.length≤cs.length) (hkn:∀ (j:Nat) (v:Value),cells[j]?=some (some v)→cs[j]?=some v)
  (hrep:RepF (· < B) w fs vs cs) (hok:okF fs vs) (hlim:out.length+(wrF fs vs).length≤lim) (hk:∀ d' w',Own w' B e d' (out++wrF fs vs)→RowKit.Below B w w'→K d' w'):In.wp P (.call f) [ptr S,d] w K:=by
 refine calls_of_np hn (vs:=[ptr S,d]) hf fun η hη => ?_
 dsimp only
 have h0:η 0=ptr S:=hη 0 (by simp)
 have h1:η 1=d:=hη 1 (by simp)
 unfold topW at h
 split at h
 case h_2=>cases h
 rename_i q st dj hchk
 dsimp only at h
 split at h
 case h_2=>cases h
 rename_i x hend
 let ρ:Nat→Value:=fun j=>if j=0 then ptr S else d
 have henv:EnvOk (wSt cells).env 2 ρ η:=by
  refine ((env_nil 2 ρ η).know (n:=0) (a := .o 0 0) (by show 0<2;omega) ?_).know (n:=1) (a := .o 1 0) (by show 1<2;omega) ?_
  ·simp only [AV.val,addOff_zero,h0];rfl
  ·simp only [AV.val,addOff_zero,h1];rfl
 have hcur:Cur (wSt cells) ρ w S 0 cs:=⟨rfl,hrow,by simpa [wSt] using hlen,fun j v hj=>by rw [Nat.zero_add];exact hkn j v hj⟩
 have hpre:WPre e (wSt cells) 1 B S 0 cs out ρ η w:=⟨henv,hcur,hown,fun h=>by have:=(own_own hown S h).1;omega,by show 1<2;omega,by show 0<2;omega⟩
 obtain ⟨F1,F2,F3,F4⟩:=chkWF_ok hW fs 0 1 prog q _ st dj hchk
 refine F4 B S 0 cs out ρ η w vs _ hpre (by simpa using hrep) hok hlim fun ρ' η' w' he' hρ' hb' ho' => ?_
 have hrow':Row w' S cs:=by obtain ⟨ee,hr⟩:=hrow;exact ⟨ee,by rw [hb'.block S hSB];exact hr⟩
 have hcur':Cur st ρ' w' S 0 cs:=hpre.cur.move F1.sj F2 hpre.sj hρ' hrow'
 obtain ⟨g1,g2,g3,g4⟩:=runS_ok (P:=P) KF q st
 refine g4 he' hcur' fun η2 he2 => ?_
 rw [hend]
 obtain ⟨_,hxv⟩:=isO_val he2 h
 rw [addOff_zero] at hxv
 show K _ w'
 simp only [pack,List.map,hxv]
 exact hk _ w' ho' hb'.toBelow
end
end Go.Mr
namespace Go.Mr
open Go.Lx Go.Nx Go.Km Go.Mx Go.Kb
open Go.CX (T deep)
set_option linter.unusedSimpArgs false
set_option linter.unusedVariables false
def p_new (z:List Value) (fDef:FuncId):FnP:=⟨.op (.alloc z) [] 0 <| .chk 0 <| .op (.call fDef) [.q 0 0] 1 <| .ret [.q 0 0],[.direct]⟩
def p_set:FnP:=⟨.chk 0 <| .op (.store 1) [.q 0 0,.s 1] 2 <| .nil,[]⟩
def p_read (fr:FuncId):FnP:=⟨.op (.call fr) [.s 0,.s 1,.k (.bool false)] 2 <| .ret [.s 2],[.direct]⟩
def SlE (ok:Nat→Prop) (w:World) (v:Value) (bs:Bs):Prop:=Sl ok w v bs∨(bs=[]∧∃ a c,v = .slice (some a) 0 c)
theorem SlE.weak {ok ok':Nat→Prop} {w:World} {v:Value} {bs:Bs} (h:SlE ok w v bs) (k:∀ b,b<w.heap.size→ok b→ok' b):SlE ok' w v bs:=h.imp (fun h=>h.weak k) id
theorem SlE.same {ok:Nat→Prop} {w w':World} {v:Value} {bs:Bs} (h:SlE ok w v bs) (k:Same ok w w'):SlE ok w' v bs:=h.imp (fun h=>h.same k) id
theorem SlE.sl0 {ok:Nat→Prop} {w:World} {v:Value} {bs:Bs} (h:SlE ok w v bs):Sl0 w v bs:=by
 rcases h with h | ⟨rfl,a,c,rfl⟩
 ·exact h.sl0
 ·exact .inr ⟨a,c,rfl,fun j hj=>by simp at hj⟩
theorem SlE.slice {ok:Nat→Prop} {w:World} {v:Value} {bs:Bs} (h:SlE ok w v bs):∃ a c,v = .slice a bs.length c:=by
 rcases h with h | ⟨rfl,a,c,rfl⟩
 ·obtain ⟨a,c,h,_⟩:=sl_slice h;exact ⟨a,c,h⟩
 ·exact ⟨some a,c,rfl⟩
def AgainOk2 (P:Program) (e:TypeId) (g:Nat) (fA:FuncId) (fs:Fs) (v:Int):Prop:=
 ∀ (ok:Nat→Prop) (w:World) (src:Value) (bs:Bs) (K:Value→World→Prop) (et:TypeId) (ev:Value),SlE ok w src bs→bs.length≤lim→(∀ vs rest,rdF fs bs=some (vs,rest)→okF fs vs)→w.cell? ⟨g,0,none⟩=some (.iface et ev) →
  (rdF fs bs=none→∀ w',Keep [] w w'→K (.tuple #[.slice none 0 0,.bool false]) w') →
  (∀ vs rest,rdF fs bs=some (vs,rest)→∀ d w',Keep [] w w'→Own w' w.heap.size e d (wrF fs vs)→K (.tuple #[d,.bool true]) w')→In.wp P (.call fA) [.int .i64 v,src] w K
def knownC (lo:Nat) (z:List Value):List (Option Value):=(z.take lo).map some++List.replicate (z.length - lo) none
section
variable {P:Program} {g:Nat} {e:TypeId}
theorem own_sl {w:World} {B:Nat} {d:Value} {out:Bs} (h:Own w B e d out):Sl (fun k=>B≤k) w d out:=by
 rcases h.1.2 with ⟨h1,h2⟩ | ⟨b,cap,cur,h1,h2,h3,h4,h5,h6,h7⟩
 ·refine .inl ⟨h1,?_⟩
  simpa using h2
 ·refine .inr ⟨⟨b,0,none⟩,cap,h1,h4,(Array.getElem?_eq_some_iff.1 h3).1,h2,fun j hj => ?_⟩
  have hr:Row w b cur.toList:=⟨e,by rw [h3]⟩
  rw [addr_at,Nat.zero_add]
  refine hr.cell ?_
  have:=congrArg (fun l=>l[j]?) h7
  simp only [Nat.mul_one,List.getElem?_take,hj,if_true,List.getElem?_map,List.getElem?_eq_getElem hj,Option.map_some] at this
  exact this
theorem own_low {w:World} {B B':Nat} {d:Value} {out:Bs} (h:Own w B e d out) (hB:B'≤B):Own w B' e d out:=by
 refine ⟨⟨h.1.1,?_⟩,Nat.le_trans hB h.2⟩
 rcases h.1.2 with h1 | ⟨b,cap,cur,h1,h2,h3⟩
 ·exact .inl h1
 ·exact .inr ⟨b,cap,cur,h1,Nat.le_trans hB h2,h3⟩
theorem own_nil (w:World):Own w w.heap.size e (.slice none 0 0) []:=⟨⟨rfl,.inl ⟨rfl,rfl⟩⟩,Nat.le_refl _⟩
theorem new_ok (hn:Named P) {T:Tab} (hT:TabOk P T g) {f fDef:FuncId} {z:List Value} {ds:List (Nat×Value)} (hf:fnP P f 0=some (p_new z fDef)) (hd:T.defs fDef=some ds) (hl:∀ d∈ds,d.1<z.length)
  {w:World} {K:Value→World→Prop} (hk:∀ b w',Row w' b (setD 0 ds z)→w.heap.size≤b→Keep [] w w'→K (ptr b) w'):In.wp P (.call f) [] w K:=by
 refine calls_of_np hn (vs:=[]) hf fun η _ => ?_
 refine np_op (vs:=[]) rfl (wp_alloc fun b w1 r1 hb k1 => ?_)
 refine ⟨⟨_,by simp only [upd];rfl⟩,?_⟩
 refine np_op (vs:=[ptr b]) (by simp [SV.val,upd,Addr.add]) (hT.defs fDef ds hd w1 b 0 z _ r1 (fun d hd=>by have:=hl d hd;omega) fun w2 r2 k2 => ?_)
 show K (pack _) w2
 have:K (ptr b) w2:=hk b w2 r2 hb (k1.trans k2 fun x hx hlt=>by rw [List.mem_singleton.1 hx] at hlt;omega)
 simpa [SV.val,upd,pack,Addr.add] using this
theorem set_ok' (hn:Named P) {f:FuncId} (hf:fnP P f 2=some p_set) {w:World} {S:Nat} {cs:List Value} {u:Value} {K:Value→World→Prop} (hr:Row w S cs) (hl:0<cs.length) (hu:u.cells = #[u]) (hu1:u.oneCell'=true) (hk:∀ w',Row w' S (cs.set 0 u)→Keep [S] w w'→K (.tuple #[]) w') :
  In.wp P (.call f) [ptr S,u] w K:=by
 refine calls_of_np hn (vs:=[ptr S,u]) hf fun η hη => ?_
 have h0:η 0=ptr S:=hη 0 (by simp)
 have h1:η 1=u:=hη 1 (by simp)
 refine ⟨⟨_,h0⟩,?_⟩
 refine np_op (vs:=[.pointer (some ⟨S,0,none⟩),u]) (by simp [SV.val,h0,h1,Addr.add]) (wp_store hr (n:=1) (Fit.one hu hu1) (by omega) fun w' r k => ?_)
 refine ⟨rfl,hk w' ?_ k⟩
 have hput:put cs 0 u.cells.toList=cs.set 0 u:=by
  rw [hu,List.set_eq_take_append_cons_drop,if_pos hl]
  simp [put]
 rw [hput] at r
 exact r
theorem wrap16 (n:Int) (h1 : -32768≤n) (h2:n<32768):IntKind.i16.wrap n=n:=by
 simp only [IntKind.wrap,IntKind.bits,IntKind.signed]
 simp
 omega
theorem read_ok (hn:Named P) {f fr:FuncId} (hf:fnP P f 2=some (p_read fr)) {a b:Value} {w:World} {K:Value→World→Prop} (h:In.wp P (.call fr) [a,b,.bool false] w K):In.wp P (.call f) [a,b] w K:=by
 refine calls_of_np hn (vs:=[a,b]) hf fun η hη => ?_
 have h0:η 0=a:=hη 0 (by simp)
 have h1:η 1=b:=hη 1 (by simp)
 refine np_op (vs:=[a,b,.bool false]) (by simp [SV.val,h0,h1]) (In.wp_mono (fun v w' hk => ?_) h)
 show K (pack _) w'
 simpa [pack,SV.val,upd] using hk
end
end Go.Mr
namespace Go.Mr
open Go.Lx Go.Nx Go.Km Go.Mx Go.Kb
open Go.CX (T deep)
set_option linter.unusedSimpArgs false
set_option linter.unusedVariables false
def p_version:FnP:=⟨.op (.cv .i64) [.s 0] 2 <|
 .op (.bin .add) [.s 1,.k (.int .i64 1)] 3 <|
 .op .rem [.s 2,.s 3] 4 <|
 .ret [.s 4],[.direct]⟩
def p_maxV (v:Int):FnP:=⟨.ret [.k (.int .i16 v)],[.direct]⟩
def p_max (fNew fMax:FuncId):FnP:=⟨.op (.call fNew) [] 0 <|
 .op (.call fMax) [.s 0] 1 <|
 .op (.cv .i64) [.s 1] 2 <|
 .ret [.s 2],[.direct]⟩
def sameBody:NP := .op (.bin .lss) [.s 7,.s 5] 8 <|
 .ite (.s 8)
  (.nil)
  (.exit) <|
 .draw <|
 .look (.ia 1) [.s 0,.s 7] 9 <|
 .chk 9 <|
 .look .load [.q 9 0] 10 <|
 .look (.ia 1) [.s 1,.s 7] 11 <|
 .chk 11 <|
 .look .load [.q 11 0] 12 <|
 .look (.bin .neq) [.s 10,.s 12] 13 <|
 .ite (.s 13)
  (.ret [.k (.bool false)])
  (.nil) <|
 .op (.bin .add) [.s 7,.k (.int .i64 1)] 14 <|
 .set 15 (.s 14) <|
 .set 7 (.s 15) <|
 .nil
def p_same:FnP:=⟨.op .len [.s 0] 2 <|
 .op .len [.s 1] 3 <|
 .op (.bin .neq) [.s 2,.s 3] 4 <|
 .ite (.s 4)
  (.ret [.k (.bool false)])
  (.nil) <|
 .op .len [.s 0] 5 <|
 .set 6 (.k (.bool false)) <|
 .set 7 (.k (.int .i64 0)) <|
 .loop sameBody <|
 .ret [.k (.bool true)],[.direct]⟩
section
variable {P:Program} {g:Nat} {e:TypeId}
theorem version_ok (hn:Named P) {f:FuncId} (hf:fnP P f 2=some p_version) {n:Nat} {m:Nat} {w:World} {K:Value→World→Prop} (hm:m<1000) (hn8:n<256) (hk:K (.int .i64 ((n%(m+1):Nat):Int)) w):In.wp P (.call f) [.int .u8 (n:Int),.int .i64 (m:Int)] w K:=by
 refine calls_of_np hn (vs:=[.int .u8 (n:Int),.int .i64 (m:Int)]) hf fun η hη => ?_
 have h0:η 0 = .int .u8 (n:Int):=hη 0 (by simp)
 have h1:η 1 = .int .i64 (m:Int):=hη 1 (by simp)
 refine np_op (vs:=[.int .u8 (n:Int)]) (by simp [SV.val,h0]) ⟨.u8,n,rfl,?_⟩
 rw [wrap64 _ (by omega) (by omega)]
 refine np_op (vs:=[.int .i64 (m:Int),.int .i64 1]) (by simp [SV.val,upd,h1]) ⟨.i64,m,1,_,rfl,rfl,?_⟩
 rw [wrap64 _ (by omega) (by omega)]
 refine np_op (vs:=[.int .i64 (n:Int),.int .i64 ((m:Int)+1)]) (by simp [SV.val,upd]) ⟨.i64,n,(m:Int)+1,rfl,by omega,?_⟩
 show K (pack _) w
 have:(n:Int).tmod ((m:Int)+1)=((n%(m+1):Nat):Int):=by
  have:((m:Int)+1)=((m+1:Nat):Int):=by omega
  rw [this];rfl
 simpa [pack,SV.val,upd,this] using hk
theorem max_ok (hn:Named P) {T:Tab} (hT:TabOk P T g) {f fNew fMax fDef:FuncId} {z:List Value} {ds:List (Nat×Value)} {m:Nat} (hf:fnP P f 0=some (p_max fNew fMax)) (hNew:fnP P fNew 0=some (p_new z fDef)) (hd:T.defs fDef=some ds) (hl:∀ d∈ds,d.1<z.length)
  (hM:fnP P fMax 1=some (p_maxV (m:Int))) (hm:m<1000) {w:World} {K:Value→World→Prop} (hk:∀ w',Keep [] w w'→K (.int .i64 (m:Int)) w'):In.wp P (.call f) [] w K:=by
 refine calls_of_np hn (vs:=[]) hf fun η _ => ?_
 refine np_op (vs:=[]) rfl (new_ok hn hT hNew hd hl fun b w1 r1 hb k1 => ?_)
 refine np_op (vs:=[ptr b]) (by simp [SV.val,upd]) ?_
 refine calls_of_np hn (vs:=[ptr b]) hM fun ζ _ => ?_
 show NP.wp P (.op (.cv .i64) [.s 1] 2 (.ret [.s 2])) _ (upd (upd η 0 (ptr b)) 1 (.int .i16 (m:Int))) w1
 refine np_op (vs:=[.int .i16 (m:Int)]) (by simp [SV.val,upd]) ⟨.i16,m,rfl,?_⟩
 rw [wrap64 _ (by omega) (by omega)]
 show K (pack _) w1
 simpa [pack,SV.val,upd] using hk w1 k1
theorem same_ok (hn:Named P) {f:FuncId} (hf:fnP P f 2=some p_same) {ok:Nat→Prop} {w:World} {a b:Value} {bs:Bs} {K:Value→World→Prop} (ha:Sl ok w a bs) (hb:Sl ok w b bs) (hl:bs.length≤140737488355328) (hk:∀ w',Keep [] w w'→K (.bool true) w'):In.wp P (.call f) [a,b] w K:=by
 refine calls_of_np hn (vs:=[a,b]) hf fun η hη => ?_
 have h0:η 0=a:=hη 0 (by simp)
 have h1:η 1=b:=hη 1 (by simp)
 obtain ⟨a0,c0,e0,_⟩:=sl_slice ha
 obtain ⟨a1,c1,e1,_⟩:=sl_slice hb
 refine np_op (vs:=[.slice a0 bs.length c0]) (by simp [SV.val,h0,e0]) ⟨_,_,_,rfl,?_⟩
 refine np_op (vs:=[.slice a1 bs.length c1]) (by simp [SV.val,upd,h1,e1]) ⟨_,_,_,rfl,?_⟩
 refine np_op (vs:=[.int .i64 (bs.length:Int),.int .i64 (bs.length:Int)]) (by simp [SV.val,upd,goInt]) ⟨.i64,bs.length,bs.length,.bool false,rfl,by simp [binV],?_⟩
 refine np_ite false (by simp [SV.val,upd]) ?_
 simp only [Bool.false_eq_true,if_false]
 refine np_op (vs:=[.slice a0 bs.length c0]) (by simp [SV.val,upd,h0,e0]) ⟨_,_,_,rfl,?_⟩
 show ∃ n,roundsP _ _ n _ w
 refine ⟨bs.length+1,?_⟩
 have key:∀ m i (η:Nat→Value) (w1:World),bs.length - i=m→i≤bs.length→η 0=a→η 1=b→η 5 = .int .i64 (bs.length:Int)→η 7 = .int .i64 (i:Int)→Keep [] w w1 →
   roundsP (sameBody.wp P) (fun o η w=>match o with | .ext=>(NP.ret [.k (.bool true)]).wp P (postP [.direct] K) η w | o=>postP [.direct] K o η w) (m+1) η w1:=by
  intro m
  induction m with
  | zero=>
   intro i η w1 hm hi e0' e1' e5 e7 kw
   have hin:i=bs.length:=by omega
   subst hin
   show NP.wp P sameBody _ η w1
   refine np_op (vs:=[.int .i64 (bs.length:Int),.int .i64 (bs.length:Int)]) (by simp [SV.val,e5,e7]) ⟨.i64,bs.length,bs.length,.bool false,rfl,by simp [binV],?_⟩
   refine np_ite false (by simp [SV.val,upd]) ?_
   simp only [Bool.false_eq_true,if_false]
   show K (pack _) w1
   simpa [pack,SV.val] using hk w1 kw
  | succ m ih=>
   intro i η w1 hm hi e0' e1' e5 e7 kw
   have hin:i<bs.length:=by omega
   show NP.wp P sameBody _ η w1
   refine np_op (vs:=[.int .i64 (i:Int),.int .i64 (bs.length:Int)]) (by simp [SV.val,e5,e7]) ⟨.i64,i,bs.length,.bool true,rfl,by simp [binV,hin],?_⟩
   refine np_ite true (by simp [SV.val,upd]) ?_
   simp only [if_true]
   have kd:Keep [] w1 { w1 with drawn:=w1.drawn+1 }:=⟨rfl,rfl,rfl,Nat.le_refl _,fun _ _ _=>rfl⟩
   have kw2:=kw.then kd
   have hne:bs≠[]:=fun h=>by rw [h] at hin;simp at hin
   obtain ⟨x,cx,ex,_,bx⟩:=sl_some (ha.same (kw2.same fun x hx=>by cases hx)) hne
   obtain ⟨y,cy,ey,_,by'⟩:=sl_some (hb.same (kw2.same fun x hx=>by cases hx)) hne
   show NP.wp P (.look (.ia 1) [.s 0,.s 7] 9 _) _ _ { w1 with drawn:=w1.drawn+1 }
   refine np_look (vs:=[.slice (some x) bs.length cx,.int .i64 (i:Int)]) (by simp [SV.val,upd,e0',e7,ex]) ⟨x,_,cx,.i64,i,rfl,hin,rfl,?_⟩
   refine ⟨⟨_,by simp only [upd];rfl⟩,?_⟩
   refine np_look (vs:=[.pointer (some (x.add i))]) (by simp [SV.val,upd,Addr.add]) ⟨x.add i,_,rfl,by simpa using bx.2.2 i hin,rfl,?_⟩
   refine np_look (vs:=[.slice (some y) bs.length cy,.int .i64 (i:Int)]) (by simp [SV.val,upd,e1',e7,ey]) ⟨y,_,cy,.i64,i,rfl,hin,rfl,?_⟩
   refine ⟨⟨_,by simp only [upd];rfl⟩,?_⟩
   refine np_look (vs:=[.pointer (some (y.add i))]) (by simp [SV.val,upd,Addr.add]) ⟨y.add i,_,rfl,by simpa using by'.2.2 i hin,rfl,?_⟩
   refine np_look (vs:=[u8 bs[i],u8 bs[i]]) (by simp [SV.val,upd]) ⟨.u8,(bs[i].toNat:Int),(bs[i].toNat:Int),.bool false,rfl,by simp [binV],rfl,?_⟩
   refine np_ite false (by simp [SV.val,upd]) ?_
   simp only [Bool.false_eq_true,if_false]
   refine np_op (vs:=[.int .i64 (i:Int),.int .i64 1]) (by simp [SV.val,upd,e7]) ⟨.i64,i,1,_,rfl,rfl,?_⟩
   rw [wrap64 _ (by omega) (by omega)]
   show roundsP _ _ _ _ _
   refine ih (i+1) _ _ (by omega) (by omega) (by simp [upd,e0']) (by simp [upd,e1']) (by simp [upd,e5]) (by simp [upd,SV.val]) kw2
 exact key bs.length 0 _ w (by omega) (Nat.zero_le _) (by simp [upd,h0]) (by simp [upd,h1]) (by simp [upd,goInt]) (by simp [upd,SV.val]) (Keep.refl _ _)
end
end Go.Mr

