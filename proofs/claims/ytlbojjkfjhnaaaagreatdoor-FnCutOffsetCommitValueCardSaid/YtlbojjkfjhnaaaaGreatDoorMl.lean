import Derived.Test.YtlbojjkfjhnaaaaGreatDoorMw
import Derived.Test.YtlbojjkfjhnaaaaGreatDoorMk
import Derived.Test.YtlbojjkfjhnaaaaGreatDoorMs
set_option linter.unusedSimpArgs false
set_option linter.unusedVariables false
namespace Go.Mr
open Go.Lx Go.Nx Go.Km Go.Mx Go.Kb
open Go.CX (T deep)
set_option linter.unusedSimpArgs false
set_option linter.unusedVariables false
def WApp (P:Program) (e:TypeId) (C:Nat→World→(Nat→Value)→List Value→Prop) (bs:Bs) (p p':NP) (st st':St) (dj dj':Nat):Prop:=
 Stt st st'∧st'.cells=st.cells∧(dj<st.nj→dj'<st'.nj)∧∀ (B S base:Nat) (cs:List Value) (out:Bs) (ρ η:Nat→Value) (w:World) (Q:Post),WPre e st dj B S base cs out ρ η w →
  C B w ρ (cs.drop base)→out.length+bs.length≤lim →
  (∀ ρ' η' w',EnvOk st'.env st'.nj ρ' η'→(∀ j,j<st.nj→ρ' j=ρ j)→Bl B w (ρ dj) w' (ρ' dj')→Own w' B e (ρ' dj') (out++bs)→p'.wp P Q η' w')→p.wp P Q η w
def Stays (C:Nat→World→(Nat→Value)→List Value→Prop) (jm:Nat):Prop:=
 ∀ {B:Nat} {w w':World} {ρ ρ':Nat→Value} {ds:List Value},C B w ρ ds→Same (· < B) w w'→(∀ j,j<jm→ρ' j=ρ j)→C B w' ρ' ds
def uvKS (W:WTab) (key dj:Nat):NP→St→Option (NP×St×Nat)
 | .op (.call f) [d,.k (.int .u32 m)] n k,st=>if f=W.uv∧m=(key:Int)∧isO st.env d dj 0=true then some (k,st.new n,st.nj) else none
 | _,_=>none
def sizeS (W:WTab) (jd ja:Nat):NP→St→Option (NP×St×Nat)
 | .draw (.look (.sl 1 false true false) [a1,b1] n1 (.look (.sl 1 true false false) [a2,b2] n2 (.look .len [.s c1] n3 (.look (.cv .u32) [.s c2] n4 (.op (.call f) [.s c3,.s c4] n5
   (.keep (.cv .u32) [.s k1] m1 (.keep .len [.s k2] m2 (.keep (.sl 1 true false false) [a3,b3] m3 (.keep (.sl 1 false true false) [a4,b4] m4 k))))))))),st=>
  if f=W.uv∧c1=n2∧c2=n3∧c3=n1∧c4=n4∧k1=n3∧m1=n4∧k2=n2∧m2=n3∧m3=n2∧m4=n1∧n1≠n2∧n1≠n3∧n1≠n4∧n2≠n3∧n2≠n4∧n3≠n4∧n5≠n1∧n5≠n2∧n5≠n3∧n5≠n4 ∧
    isO st.env a1 jd 0=true∧isO st.env b1 ja 0=true∧isO (clr [n1] st.env) a2 jd 0=true∧isO (clr [n1] st.env) b2 ja 0=true ∧
    isO (clr [n1,n2,n3,n4,n5] st.env) a3 jd 0=true∧isO (clr [n1,n2,n3,n4,n5] st.env) b3 ja 0=true∧isO (clr [n1,n2,n3,n4,n5] st.env) a4 jd 0=true∧isO (clr [n1,n2,n3,n4,n5] st.env) b4 ja 0=true then
   some (k,({ st with env:=clr [n1,n2,n3,n4] st.env }).new n5,st.nj) else none
 | _,_=>none
def twS (W:WTab) (key:Nat) (encS:Nat→NP→St→Option (NP×St×Nat)) (dj:Nat) (q:NP) (st:St):Option (NP×St×Nat):=
 let r1:=runS KF q st
 (uvKS W key dj r1.1 r1.2).bind fun r2=>
 let r3:=runS KF r2.1 r2.2.1
 (lenS r2.2.2 r3.1 r3.2).bind fun r4=>
 (encS r2.2.2 r4.1 r4.2.1).bind fun r5=>
 let r6:=runS KF r5.1 r5.2.1
 (sizeS W r5.2.2 r4.2.2 r6.1 r6.2).bind fun r7=>
 encS r7.2.2 r7.1 r7.2.1
section
variable {P:Program} {e:TypeId}
theorem own_slice {w:World} {B:Nat} {d:Value} {out:Bs} (h:Own w B e d out):∃ a c,d = .slice a out.length c∧out.length≤c∧∀ l,l≤out.length→Own w B e (.slice (if c=0 then a else a.map (·.add (0*1))) l c) (out.take l)∧(Value.slice (if c=0 then a else a.map (·.add (0*1))) l c).ownBlock=d.ownBlock:=by
 obtain ⟨⟨h1,h2⟩,hB⟩:=h
 rcases h2 with ⟨rfl,h0⟩ | ⟨g,cap,cur,rfl,hg,hh,hn,hm,hs,ht⟩
 ·refine ⟨none,0,by rw [h0],by omega,fun l hl => ?_⟩
  have:l=0:=by omega
  subst this
  refine ⟨⟨⟨by simp,.inl ⟨by simp,by simp⟩⟩,hB⟩,by simp [Value.ownBlock]⟩
 ·refine ⟨some ⟨g,0,none⟩,cap,rfl,hn,fun l hl => ?_⟩
  have e1:(if cap=0 then some (⟨g,0,none⟩:Addr) else (some (⟨g,0,none⟩:Addr)).map (·.add (0*1)))=some ⟨g,0,none⟩:=by
   split
   ·rfl
   ·simp [Addr.add]
  rw [e1]
  refine ⟨⟨⟨by simp,.inr ⟨g,cap,cur,?_,hg,hh,?_,hm,hs,?_⟩⟩,hB⟩,rfl⟩
  ·rw [List.length_take,Nat.min_eq_left hl]
  ·rw [List.length_take,Nat.min_eq_left hl];omega
  ·rw [List.length_take,Nat.min_eq_left hl,List.map_take,← ht,List.take_take,Nat.mul_one,Nat.mul_one,Nat.min_eq_left hl]
theorem uvKS_some {W:WTab} {key dj:Nat} {q q':NP} {st st':St} {dj':Nat} (h:uvKS W key dj q st=some (q',st',dj')):∃ d n,q = .op (.call W.uv) [d,.k (.int .u32 (key:Int))] n q'∧isO st.env d dj 0=true∧st'=st.new n∧dj'=st.nj:=by
 unfold uvKS at h
 split at h
 case h_2=>cases h
 split at h
 case isFalse=>cases h
 rename_i hc
 obtain ⟨rfl,rfl,h1⟩:=hc
 cases h
 exact ⟨_,_,rfl,h1,rfl,rfl⟩
theorem uvKS_ok {W:WTab} (hW:WTabOk P W e) {key dj:Nat} {q q':NP} {st st':St} {dj':Nat} (h:uvKS W key dj q st=some (q',st',dj')) (hkey:key<4294967296) {B S base:Nat} {cs:List Value} {out:Bs} {ρ η:Nat→Value} {w:World} {Q:Post} (hp:WPre e st dj B S base cs out ρ η w)
  (hl:out.length+(wrUv key).length≤lim) (hk:∀ d η' w',WPre e st' dj' B S base cs (out++wrUv key) (upd ρ st.nj d) η' w'→Bl B w (ρ dj) w' d→q'.wp P Q η' w'):q.wp P Q η w:=by
 obtain ⟨x,n,rfl,hx,rfl,rfl⟩:=uvKS_some h
 obtain ⟨_,hxv⟩:=isO_val hp.env hx
 rw [addOff_zero] at hxv
 refine np_op (vs:=[ρ dj,.int .u32 (key:Int)]) (by simp only [List.map,hxv];rfl) (hW.uv w B _ out key _ _ hp.own ⟨rfl,hkey⟩ hl fun d w' ho hb => ?_)
 obtain ⟨hbS,hnS⟩:=hb.other hp.cur.row.lt hp.SB
 have hrow:Row w' S cs:=by obtain ⟨ee,hr⟩:=hp.cur.row;exact ⟨ee,by rw [hbS];exact hr⟩
 refine hk d _ w' ⟨hp.env.fresh n d,?_,by simp only [upd,if_true];exact ho,by simp only [upd,if_true];exact hnS,Nat.lt_succ_self _,Nat.lt_succ_of_lt hp.sj⟩ hb
 exact hp.cur.move rfl rfl hp.sj (fun j hj=>by simp [upd,Nat.ne_of_lt hj]) hrow
theorem sizeS_some {W:WTab} {jd ja:Nat} {q q':NP} {st st':St} {dj':Nat} (h:sizeS W jd ja q st=some (q',st',dj')) :
  ∃ a1 b1 n1 a2 b2 n2 n3 n4 n5 a3 b3 a4 b4,q = .draw (.look (.sl 1 false true false) [a1,b1] n1 (.look (.sl 1 true false false) [a2,b2] n2 (.look .len [.s n2] n3 (.look (.cv .u32) [.s n3] n4 (.op (.call W.uv) [.s n1,.s n4] n5
   (.keep (.cv .u32) [.s n3] n4 (.keep .len [.s n2] n3 (.keep (.sl 1 true false false) [a3,b3] n2 (.keep (.sl 1 false true false) [a4,b4] n1 q'))))))))) ∧
   n1≠n2∧n1≠n3∧n1≠n4∧n2≠n3∧n2≠n4∧n3≠n4∧n5≠n1∧n5≠n2∧n5≠n3∧n5≠n4 ∧
    isO st.env a1 jd 0=true∧isO st.env b1 ja 0=true∧isO (clr [n1] st.env) a2 jd 0=true∧isO (clr [n1] st.env) b2 ja 0=true ∧
    isO (clr [n1,n2,n3,n4,n5] st.env) a3 jd 0=true∧isO (clr [n1,n2,n3,n4,n5] st.env) b3 ja 0=true∧isO (clr [n1,n2,n3,n4,n5] st.env) a4 jd 0=true∧isO (clr [n1,n2,n3,n4,n5] st.env) b4 ja 0=true ∧
   st'=({ st with env:=clr [n1,n2,n3,n4] st.env }).new n5∧dj'=st.nj:=by
 unfold sizeS at h
 split at h
 case h_2=>cases h
 split at h
 case isFalse=>cases h
 rename_i hc
 obtain ⟨rfl,rfl,rfl,rfl,rfl,rfl,rfl,rfl,rfl,rfl,rfl,hc⟩:=hc
 cases h
 obtain ⟨h1,h2,h3,h4,h5,h6,h7,h8,h9,h10,h11,h12,h13,h14,h15,h16,h17,h18⟩:=hc
 exact ⟨_,_,_,_,_,_,_,_,_,_,_,_,_,rfl,h1,h2,h3,h4,h5,h6,h7,h8,h9,h10,h11,h12,h13,h14,h15,h16,h17,h18,rfl,rfl⟩
theorem sizeS_ok {W:WTab} (hW:WTabOk P W e) {jd ja:Nat} {q q':NP} {st st':St} {dj':Nat} (h:sizeS W jd ja q st=some (q',st',dj')) {B S base:Nat} {cs:List Value} {out bs:Bs} {ρ η:Nat→Value} {w:World} {Q:Post} (hp:WPre e st jd B S base cs (out++bs) ρ η w)
  (hja:ρ ja = .int .i64 (out.length:Int)) (hbs:bs.length<4294967296) (hl:out.length+(wrUv bs.length).length≤lim) (hk:∀ d η' w',WPre e st' dj' B S base cs (out++wrUv bs.length) (upd ρ st.nj d) η' w'→Bl B w (ρ jd) w' d→q'.wp P Q η' w'):q.wp P Q η w:=by
 obtain ⟨a1,b1,n1,a2,b2,n2,n3,n4,n5,a3,b3,a4,b4,rfl,h12,h13,h14,h23,h24,h34,h51,h52,h53,h54,ha1,hb1,ha2,hb2,ha3,hb3,ha4,hb4,rfl,rfl⟩:=sizeS_some h
 obtain ⟨a,c,hd,hc,htk⟩:=own_slice hp.own
 obtain ⟨ho1,hb1'⟩:=htk out.length (by simp)
 rw [List.take_left] at ho1
 rw [List.length_append] at hd hc
 have kd:=keep_drawn w
 have val:∀ {x:SV} {j:Nat} {l:List Nat} {η':Nat→Value},isO (clr l st.env) x j 0=true→(∀ n,n∉l→η' n=η n)→x.val η'=ρ j:=fun hx hη=>by
  obtain ⟨_,hv⟩:=isO_val (hp.env.clr hη) hx
  rw [addOff_zero] at hv;exact hv
 have val0:∀ {x:SV} {j:Nat},isO st.env x j 0=true→x.val η=ρ j:=fun hx=>by
  obtain ⟨_,hv⟩:=isO_val hp.env hx
  rw [addOff_zero] at hv;exact hv
 generalize hv1:Value.slice (if c=0 then a else a.map (·.add (0*1))) out.length c=v1 at ho1 hb1'
 generalize hv2:Value.slice (if c=out.length then a else a.map (·.add (out.length*1))) bs.length (c - out.length)=v2
 have w1:∀ (w:World) (K:Value→World→Prop),K v1 w→In.wp P (.sl 1 false true false) [ρ jd,ρ ja] w K:=fun w K hK=>by
  rw [hja,hd]
  refine ⟨a,_,c,_,rfl,?_⟩
  simp only [bnd,Bool.false_eq_true,if_false,if_true]
  refine ⟨.i64,out.length,[],rfl,rfl,Nat.zero_le _,by omega,Nat.le_refl _,?_⟩
  rw [Nat.sub_zero,Nat.sub_zero,hv1];exact hK
 have w2:∀ (w:World) (K:Value→World→Prop),K v2 w→In.wp P (.sl 1 true false false) [ρ jd,ρ ja] w K:=fun w K hK=>by
  rw [hja,hd]
  refine ⟨a,_,c,_,rfl,?_⟩
  simp only [bnd,Bool.false_eq_true,if_false,if_true]
  refine ⟨.i64,out.length,[],rfl,rfl,by omega,by omega,Nat.le_refl _,?_⟩
  rw [Nat.add_sub_cancel_left,hv2];exact hK
 have w3:∀ (w:World) (K:Value→World→Prop),K (goInt bs.length) w→In.wp P .len [v2] w K:=fun w K hK=>by
  rw [← hv2];exact ⟨_,_,_,rfl,hK⟩
 have hw4:IntKind.u32.wrap (bs.length:Int)=(bs.length:Int):=by
  simp only [IntKind.wrap,IntKind.bits,IntKind.signed]
  simp
  omega
 have w4:∀ (w:World) (K:Value→World→Prop),K (.int .u32 (bs.length:Int)) w→In.wp P (.cv .u32) [goInt bs.length] w K:=fun w K hK=>⟨.i64,_,rfl,by rw [hw4];exact hK⟩
 refine np_draw ?_
 refine np_look (vs:=[ρ jd,ρ ja]) (by simp only [List.map,val0 ha1,val0 hb1]) (w1 _ _ ⟨rfl,?_⟩)
 have e1:∀ n,n∉[n1]→upd η n1 v1 n=η n:=fun n hn=>by simp only [List.mem_singleton] at hn;simp [upd,hn]
 refine np_look (vs:=[ρ jd,ρ ja]) (by simp only [List.map,val ha2 e1,val hb2 e1]) (w2 _ _ ⟨rfl,?_⟩)
 refine np_look (vs:=[v2]) (by simp [SV.val,upd]) (w3 _ _ ⟨rfl,?_⟩)
 refine np_look (vs:=[goInt bs.length]) (by simp [SV.val,upd]) (w4 _ _ ⟨rfl,?_⟩)
 generalize hη4:upd (upd (upd (upd η n1 v1) n2 v2) n3 (goInt bs.length)) n4 (.int .u32 (bs.length:Int))=η4
 have g1:η4 n1=v1:=by rw [← hη4];simp [upd,h12,h13,h14]
 have g2:η4 n2=v2:=by rw [← hη4];simp [upd,h23,h24]
 have g3:η4 n3=goInt bs.length:=by rw [← hη4];simp [upd,h34]
 have g4:η4 n4 = .int .u32 (bs.length:Int):=by rw [← hη4];simp [upd]
 have g0:∀ n,n∉[n1,n2,n3,n4]→η4 n=η n:=fun n hn=>by
  simp only [List.mem_cons,List.not_mem_nil,or_false,not_or] at hn
  rw [← hη4];simp [upd,hn.1,hn.2.1,hn.2.2.1,hn.2.2.2]
 have hod:=own_keep0 ho1 kd
 refine np_op (vs:=[v1,.int .u32 (bs.length:Int)]) (by simp only [List.map,SV.val,g1,g4]) (hW.uv _ B _ out bs.length _ _ hod ⟨rfl,hbs⟩ hl fun d w' ho hb => ?_)
 have e5:∀ n,n∉[n1,n2,n3,n4,n5]→upd η4 n5 d n=η n:=fun n hn=>by
  simp only [List.mem_cons,List.not_mem_nil,or_false,not_or] at hn
  have hg:=g0 n (by simp only [List.mem_cons,List.not_mem_nil,or_false,not_or];exact ⟨hn.1,hn.2.1,hn.2.2.1,hn.2.2.2.1⟩)
  simp [upd,hn.2.2.2.2,hg]
 have f:∀ {m:Nat},n5≠m→upd η4 n5 d m=η4 m:=fun hm=>by simp [upd,Ne.symm hm]
 refine np_keep (vs:=[goInt bs.length]) (by simp only [List.map,SV.val,f h53,g3]) (w4 _ _ ⟨by rw [f h54,g4],rfl⟩) ?_
 refine np_keep (vs:=[v2]) (by simp only [List.map,SV.val,f h52,g2]) (w3 _ _ ⟨by rw [f h53,g3],rfl⟩) ?_
 refine np_keep (vs:=[ρ jd,ρ ja]) (by simp only [List.map,val ha3 e5,val hb3 e5]) (w2 _ _ ⟨by rw [f h52,g2],rfl⟩) ?_
 refine np_keep (vs:=[ρ jd,ρ ja]) (by simp only [List.map,val ha4 e5,val hb4 e5]) (w1 _ _ ⟨by rw [f h51,g1],rfl⟩) ?_
 have hBw:B≤w.heap.size:=hp.own.2
 have hbl:Bl B w (ρ jd) w' d:=by
  refine ⟨(kd.below (fun x hx=>by cases hx) hBw).trans hb.toBelow,?_⟩
  have h1:Gr w (ρ jd) { w with drawn:=w.drawn+1 } v1:=⟨⟨kd.os,kd.tape,kd.output,kd.size,fun q hq _=>kd.block q hq (by simp)⟩,.inl hb1'⟩
  exact Gr.trans h1 hb.gr
 obtain ⟨hbS,hnS⟩:=hbl.other hp.cur.row.lt hp.SB
 have hrow:Row w' S cs:=by obtain ⟨ee,hr⟩:=hp.cur.row;exact ⟨ee,by rw [hbS];exact hr⟩
 have he4:EnvOk (clr [n1,n2,n3,n4] st.env) st.nj ρ η4:=hp.env.clr g0
 refine hk d _ w' ⟨he4.fresh n5 d,?_,by simp only [upd,if_true];exact ho,by simp only [upd,if_true];exact hnS,Nat.lt_succ_self _,Nat.lt_succ_of_lt hp.sj⟩ hbl
 exact hp.cur.move rfl rfl hp.sj (fun j hj=>by simp [upd,Nat.ne_of_lt hj]) hrow
theorem twS_ok {W:WTab} (hW:WTabOk P W e) {C:Nat→World→(Nat→Value)→List Value→Prop} {bs:Bs} {key jm:Nat} {encS:Nat→NP→St→Option (NP×St×Nat)} (hC:Stays C jm) (hkey:key<4294967296) (hbs:bs.length<4294967296)
  {dj:Nat} {q q':NP} {st st':St} {dj':Nat} (hjm:jm≤st.nj) (henc:∀ dj q q' (t t':St) dj',jm≤t.nj→encS dj q t=some (q',t',dj')→WApp P e C bs q q' t t' dj dj') (h:twS W key encS dj q st=some (q',st',dj')):WApp P e C (wrTag (key,bs)) q q' st st' dj dj':=by
 unfold twS at h
 simp only [Option.bind_eq_some_iff] at h
 obtain ⟨⟨q2,st2,d2⟩,h2,⟨q4,st4,ja⟩,h4,⟨q5,st5,d5⟩,h5,⟨q7,st7,d7⟩,h7,h8⟩:=h
 dsimp only at h4 h5 h7 h8
 obtain ⟨_,n2,_,_,e2,e2'⟩:=uvKS_some h2
 obtain ⟨_,n4,_,_,e4,e4'⟩:=lenS_some h4
 obtain ⟨_,_,m1,_,_,m2,m3,m4,m5,_,_,_,_,_,_,_,_,_,_,_,_,_,_,_,_,_,_,_,_,_,_,_,e7,e7'⟩:=sizeS_some h7
 have R1:=run_stt P (f:=KF) (p:=q) (st:=st)
 have R3:=run_stt P (f:=KF) (p:=q2) (st:=st2)
 have R6:=run_stt P (f:=KF) (p:=q5) (st:=st5)
 have hn1:=R1.2.1
 have hn2:st2.nj=st.nj+1:=by rw [e2];show (runS KF q st).2.nj+1=_;rw [hn1]
 have hn3:(runS KF q2 st2).2.nj=st.nj+1:=by rw [R3.2.1,hn2]
 have hn4:st4.nj=st.nj+2:=by rw [e4];show (runS KF q2 st2).2.nj+1=_;rw [hn3]
 have A5:=henc _ _ _ _ _ _ (by omega) h5
 obtain ⟨a1,a2,a3,a4⟩:=A5
 have hn6:=R6.2.1
 have hn7:st7.nj=st5.nj+1:=by rw [e7];show (runS KF q5 st5).2.nj+1=_;rw [hn6]
 have hn5:st.nj+2≤st5.nj:=by rw [← hn4];exact a1.nj
 have A8:=henc _ _ _ _ _ _ (by omega) h8
 obtain ⟨b1,b2,b3,b4⟩:=A8
 have hs2:st2.sj=st.sj:=by rw [e2];exact R1.1.sj
 have hs4:st4.sj=st.sj:=by rw [e4];show (runS KF q2 st2).2.sj=_;rw [R3.1.sj,hs2]
 have hs5:st5.sj=st.sj:=by rw [a1.sj,hs4]
 have hs7:st7.sj=st.sj:=by rw [e7];show (runS KF q5 st5).2.sj=_;rw [R6.1.sj,hs5]
 have hc2:st2.cells=st.cells:=by rw [e2];exact R1.2.2
 have hc4:st4.cells=st.cells:=by rw [e4];show (runS KF q2 st2).2.cells=_;rw [R3.2.2,hc2]
 have hc5:st5.cells=st.cells:=by rw [a2,hc4]
 have hc7:st7.cells=st.cells:=by rw [e7];show (runS KF q5 st5).2.cells=_;rw [R6.2.2,hc5]
 have hd2:d2=st.nj:=by rw [e2',hn1]
 have hja:ja=st.nj+1:=by rw [e4',hn3]
 have hd7:d7=st5.nj:=by rw [e7',hn6]
 have hn8:=b1.nj
 refine ⟨⟨by omega,by rw [b1.sj,hs7],by rw [b2,hc7]⟩,by rw [b2,hc7],fun hd=>b3 (by omega),?_⟩
 intro B S base cs out ρ η w Q hpre hc hlim hk
 have hwl:(wrTag (key,bs)).length=(wrUv key).length+((wrUv bs.length).length+bs.length):=by simp [wrTag]
 have hcB:∀ {w':World} {d d':Value} {ρ':Nat→Value},Bl B w d w' d'→(∀ j,j<jm→ρ' j=ρ j)→C B w' ρ' (cs.drop base):=fun hb hρ=>hC hc (below_same hb) hρ
 refine runW_pre (f:=KF) hpre fun η1 hp1 => ?_
 refine uvKS_ok hW h2 hkey hp1 (by omega) fun v2 η2 w2 hp2 hb2 => ?_
 refine runW_pre (f:=KF) hp2 fun η3 hp3 => ?_
 obtain ⟨sa,sc,hsl,_⟩:=own_slice hp3.own
 have hv2:upd ρ (runS KF q st).2.nj v2 d2=v2:=by rw [hd2,hn1];simp [upd]
 refine lenS_ok h4 hp3 hsl fun η4 hp4 => ?_
 generalize hρ4:upd (upd ρ (runS KF q st).2.nj v2) (runS KF q2 st2).2.nj (.int .i64 ((out++wrUv key).length:Int))=ρ4 at hp4
 have hρ4l:∀ j,j<st.nj→ρ4 j=ρ j:=fun j hj=>by
  have h1:j≠st.nj+1:=by omega
  have h2:j≠st.nj:=by omega
  rw [← hρ4,hn3,hn1];simp [upd,h1,h2]
 have hρ4d:ρ4 d2=v2:=by
  have h1:st.nj≠st.nj+1:=by omega
  rw [← hρ4,hn3,hn1,hd2];simp [upd,h1]
 have hρ4a:ρ4 ja = .int .i64 ((out++wrUv key).length:Int):=by rw [← hρ4,hn3,hja];simp [upd]
 have hl5:(out++wrUv key).length+bs.length≤lim:=by rw [List.length_append];omega
 refine a4 B S base cs _ ρ4 η4 w2 Q hp4 (hcB hb2 fun j hj=>hρ4l j (by omega)) hl5 fun ρ5 η5 w5 he5 hρ5 hb5 ho5 => ?_
 rw [hρ4d] at hb5
 obtain ⟨hbS,hnS⟩:=(hb2.trans hb5).other hpre.cur.row.lt hpre.SB
 have hrow5:Row w5 S cs:=by obtain ⟨ee,hr⟩:=hpre.cur.row;exact ⟨ee,by rw [hbS];exact hr⟩
 have hp5:WPre e st5 d5 B S base cs ((out++wrUv key)++bs) ρ5 η5 w5:=by
  refine ⟨he5,hp4.cur.move a1.sj a2 hp4.sj hρ5 hrow5,ho5,hnS,a3 hp4.dj,by have:=hpre.sj;omega⟩
 refine runW_pre (f:=KF) hp5 fun η6 hp6 => ?_
 have hρ5a:ρ5 ja = .int .i64 ((out++wrUv key).length:Int):=by rw [hρ5 ja (by omega)];exact hρ4a
 refine sizeS_ok hW h7 hp6 hρ5a hbs (by rw [List.length_append];omega) fun v7 η7 w7 hp7 hb7 => ?_
 have hB7:Bl B w (ρ dj) w7 v7:=(hb2.trans hb5).trans hb7
 have hρ7l:∀ j,j<st.nj→upd ρ5 (runS KF q5 st5).2.nj v7 j=ρ j:=fun j hj=>by
  have h1:j≠st5.nj:=by omega
  rw [hn6];simp only [upd,if_neg h1]
  rw [hρ5 j (by omega)];exact hρ4l j hj
 refine b4 B S base cs _ _ η7 w7 Q hp7 (hcB hB7 fun j hj=>hρ7l j (by omega)) (by simp only [List.length_append];omega) fun ρ8 η8 w8 he8 hρ8 hb8 ho8 => ?_
 have hv7:upd ρ5 (runS KF q5 st5).2.nj v7 d7=v7:=by rw [e7'];simp [upd]
 rw [hv7] at hb8
 refine hk ρ8 η8 w8 he8 (fun j hj => ?_) (hB7.trans hb8) ?_
 ·rw [hρ8 j (by omega)];exact hρ7l j hj
 ·have e9:out++wrTag (key,bs)=out++wrUv key++wrUv bs.length++bs:=by simp [wrTag]
  rw [e9];exact ho8
end
end Go.Mr
namespace Go.Mr
open Go.Lx Go.Nx Go.Km Go.Mx Go.Kb
open Go.CX (T deep)
set_option linter.unusedSimpArgs false
set_option linter.unusedVariables false
def fixP:Prim→Option Nat
 | .bool=>some 1
 | .i8=>some 1
 | .i16=>some 2
 | .u16=>some 2
 | .i32=>some 4
 | .i64=>some 8
 | .uuid=>some 16
 | _=>none
theorem be_len':∀ (k n:Nat),(be k n).length=k:=by
 intro k
 induction k with
 | zero=>intro n;rfl
 | succ k ih=>intro n;simp [be,ih]
theorem fixP_len {p:Prim} {n:Nat} (h:fixP p=some n) {x:PV} (hx:okP p x):(wrP p x).length=n:=by
 cases p<;>simp only [fixP,Option.some.injEq] at h<;>first | (subst h) | cases h
 all_goals
  cases x<;>first
   | (simp only [okP] at hx;done)
   | (simp only [wrP,wrI,be_len',List.length_singleton];done)
   | (simp only [okP] at hx;simp only [wrP];exact hx)
def CK (sh:Sh) (off:Nat) (x:Val):Nat→World→(Nat→Value)→List Value→Prop:=fun B w _ ds=>RepS (· < B) w sh x (ds.drop off)
def CL (sh:Sh) (off ju:Nat) (x:Val):Nat→World→(Nat→Value)→List Value→Prop:=fun B w ρ ds=>RepS (· < B) w sh x (ds.drop off)∧(ds.drop off)[0]?=some (ρ ju)
theorem stays_CL (sh:Sh) (off ju:Nat) (x:Val):Stays (CL sh off ju x) (ju+1):=fun h hs hρ=>⟨RepS.same hs sh x _ h.1,by rw [hρ ju (Nat.lt_succ_self _)];exact h.2⟩
def WBr (P:Program) (e:TypeId) (C:Nat→World→(Nat→Value)→List Value→Prop) (bs:Bs) (p p':NP) (st st':St) (dj dj':Nat):Prop:=
 st.nj≤st'.nj∧(st.sj<st.nj→st'.sj<st'.nj)∧(dj<st.nj→dj'<st'.nj)∧∀ (B S base:Nat) (cs:List Value) (out:Bs) (ρ η:Nat→Value) (w:World) (Q:Post),WPre e st dj B S base cs out ρ η w →
  C B w ρ (cs.drop base)→out.length+bs.length≤lim →
  (∀ ρ' η' w' S' base' cs',EnvOk st'.env st'.nj ρ' η'→(∀ j,j<st.nj→ρ' j=ρ j)→Bl B w (ρ dj) w' (ρ' dj')→Own w' B e (ρ' dj') (out++bs)→Cur st' ρ' w' S' base' cs'→p'.wp P Q η' w')→p.wp P Q η w
theorem WApp.br {P:Program} {e:TypeId} {C:Nat→World→(Nat→Value)→List Value→Prop} {bs:Bs} {p p':NP} {st st':St} {dj dj':Nat} (h:WApp P e C bs p p' st st' dj dj'):WBr P e C bs p p' st st' dj dj':=by
 obtain ⟨h1,h2,h3,h4⟩:=h
 refine ⟨h1.nj,fun hs=>by rw [h1.sj];exact Nat.lt_of_lt_of_le hs h1.nj,h3,?_⟩
 intro B S base cs out ρ η w Q hp hc hl hk
 refine h4 B S base cs out ρ η w Q hp hc hl fun ρ' η' w' he hρ hb ho => ?_
 obtain ⟨hbS,hnS⟩:=hb.other hp.cur.row.lt hp.SB
 exact hk ρ' η' w' S base cs he hρ hb ho (hp.cur.move h1.sj h2 hp.sj hρ (by obtain ⟨ee,hr⟩:=hp.cur.row;exact ⟨ee,by rw [hbS];exact hr⟩))
def pmS (W:WTab) (key off:Nat) (p:Prim) (sz dj:Nat) (q:NP) (st:St):Option (NP×St×Nat):=
 let r1:=runS KF q st
 (ldAt 1 off r1.1 r1.2).bind fun r2=>
 let r3:=runS KF r2.1 r2.2.1
 (uvKS W key dj r3.1 r3.2).bind fun r4=>
 let r5:=runS KF r4.1 r4.2.1
 (uvKS W sz r4.2.2 r5.1 r5.2).bind fun r6=>
 let r7:=runS KF r6.1 r6.2.1
 appS W p r2.2.2 r6.2.2 r7.1 r7.2
def wArrB (W:WTab) (el:Nat→Nat→Nat→NP→St→Option (NP×St×Nat)) (c:Bool) (ju dj:Nat) (q:NP) (st:St):Option (NP×St×Nat):=
 let r3:=runS KF q st
 (lenS ju r3.1 r3.2).bind fun r4=>
 let r5:=runS KF r4.1 r4.2.1
 (alenS W c r4.2.2 dj r5.1 r5.2).bind fun r6=>
 let r7:=runS KF r6.1 r6.2.1
 (lenS ju r7.1 r7.2).bind fun r8=>
 let r9:=runS KF r8.1 r8.2.1
 wlS (el ju) r8.2.2 r6.2.2 r9.1 r9.2
def lsS (W:WTab) (el:Nat→Nat→Nat→NP→St→Option (NP×St×Nat)) (key off:Nat) (c:Bool) (dj:Nat) (q:NP) (st:St):Option (NP×St×Nat):=
 let r1:=runS KF q st
 (ldAt 1 off r1.1 r1.2).bind fun r2=>twS W key (fun dj q st=>wArrB W el c r2.2.2 dj q st) dj r2.1 r2.2.1
section
variable {P:Program} {e:TypeId}
theorem WPre.load {st:St} {dj B S base:Nat} {cs:List Value} {out:Bs} {ρ η:Nat→Value} {w:World} (h:WPre e st dj B S base cs out ρ η w) {η':Nat→Value} {st2:St} {u:Value} (he:EnvOk st2.env st2.nj (upd ρ st.nj u) η') (h1:st2.nj=st.nj+1) (h2:st2.sj=st.sj) (h3:st2.cells=st.cells):WPre e st2 dj B S base cs out (upd ρ st.nj u) η' w:=by
 have hρ:∀ j,j<st.nj→upd ρ st.nj u j=ρ j:=fun j hj=>by simp [upd,Nat.ne_of_lt hj]
 refine ⟨he,h.cur.move h2 h3 h.sj hρ h.cur.row,by rw [hρ _ h.dj];exact h.own,by rw [hρ _ h.dj];exact h.SB,by have:=h.dj;omega,by have:=h.sj;omega⟩
theorem pm_ok {W:WTab} (hW:WTabOk P W e) {key off sz dj:Nat} {p:Prim} {q q':NP} {st st':St} {dj':Nat} {x:Val} (h:pmS W key off p sz dj q st=some (q',st',dj')) (hkey:key<4294967296) (hw1:width p=1) (hsz:fixP p=some sz) (hok:ok (.prim p) x) :
  WApp P e (CK (.prim p) off x) (wrTag (key,wr (.prim p) x)) q q' st st' dj dj':=by
 unfold pmS at h
 simp only [Option.bind_eq_some_iff] at h
 obtain ⟨⟨q2,st2,ju⟩,h2,⟨q4,st4,d4⟩,h4,⟨q6,st6,d6⟩,h6,h7⟩:=h
 dsimp only at h4 h6 h7
 obtain ⟨⟨n2,e2⟩,e3,hoff,l2⟩:=ldAt_ok (P:=P) h2
 obtain ⟨_,n4,_,_,e4,e4'⟩:=uvKS_some h4
 obtain ⟨_,n6,_,_,e6,e6'⟩:=uvKS_some h6
 obtain ⟨f,d,y,n,hq,hf,hd,hy,e7,e7'⟩:=appS_some h7
 have R1:=run_stt P (f:=KF) (p:=q) (st:=st)
 have R3:=run_stt P (f:=KF) (p:=q2) (st:=st2)
 have R5:=run_stt P (f:=KF) (p:=q4) (st:=st4)
 have R7:=run_stt P (f:=KF) (p:=q6) (st:=st6)
 have hn1:=R1.2.1
 have hn2:st2.nj=st.nj+1:=by rw [e2];show (runS KF q st).2.nj+1=_;rw [hn1]
 have hn3:(runS KF q2 st2).2.nj=st.nj+1:=by rw [R3.2.1,hn2]
 have hn4:st4.nj=st.nj+2:=by rw [e4];show (runS KF q2 st2).2.nj+1=_;rw [hn3]
 have hn5:(runS KF q4 st4).2.nj=st.nj+2:=by rw [R5.2.1,hn4]
 have hn6:st6.nj=st.nj+3:=by rw [e6];show (runS KF q4 st4).2.nj+1=_;rw [hn5]
 have hn7:(runS KF q6 st6).2.nj=st.nj+3:=by rw [R7.2.1,hn6]
 have hn':st'.nj=st.nj+4:=by rw [e7];show (runS KF q6 st6).2.nj+1=_;rw [hn7]
 have hs2:st2.sj=st.sj:=by rw [e2];exact R1.1.sj
 have hs4:st4.sj=st.sj:=by rw [e4];show (runS KF q2 st2).2.sj=_;rw [R3.1.sj,hs2]
 have hs6:st6.sj=st.sj:=by rw [e6];show (runS KF q4 st4).2.sj=_;rw [R5.1.sj,hs4]
 have hs':st'.sj=st.sj:=by rw [e7];show (runS KF q6 st6).2.sj=_;rw [R7.1.sj,hs6]
 have hc2:st2.cells=st.cells:=by rw [e2];exact R1.2.2
 have hc4:st4.cells=st.cells:=by rw [e4];show (runS KF q2 st2).2.cells=_;rw [R3.2.2,hc2]
 have hc6:st6.cells=st.cells:=by rw [e6];show (runS KF q4 st4).2.cells=_;rw [R5.2.2,hc4]
 have hc':st'.cells=st.cells:=by rw [e7];show (runS KF q6 st6).2.cells=_;rw [R7.2.2,hc6]
 have hju:ju=st.nj:=by rw [e3,hn1]
 have hd4:d4=st.nj+1:=by rw [e4',hn3]
 have hd6:d6=st.nj+2:=by rw [e6',hn5]
 have hdj':dj'=st.nj+3:=by rw [e7',hn7]
 refine ⟨⟨by omega,hs',by rw [hc']⟩,hc',fun _=>by omega,?_⟩
 intro B S base cs out ρ η w Q hpre hrep hlim hk
 unfold CK at hrep
 have hrep':∃ pv,x = .p pv:=by
  cases x with
  | p pv=>exact ⟨pv,rfl⟩
  | _=>simp [RepS] at hrep
 obtain ⟨pv,rfl⟩:=hrep'
 simp only [RepS] at hrep
 simp only [Km.ok] at hok
 obtain ⟨u,hu,hru⟩:=hrep
 rw [List.drop_drop,hw1] at hu
 have hlen:(wr (.prim p) (.p pv)).length=sz:=by simp only [wr];exact fixP_len hsz hok
 have hwl:(wrTag (key,wr (.prim p) (.p pv))).length=(wrUv key).length+((wrUv sz).length+sz):=by simp only [wrTag,List.length_append,hlen]
 have hsz32:sz<4294967296:=by cases p<;>simp only [fixP,Option.some.injEq] at hsz<;>first | omega | cases hsz
 refine runW_pre (f:=KF) hpre fun η1 hp1 => ?_
 refine l2 hp1.env hp1.cur hu (fun _=>repP_one hru hw1) fun η2 he2 => ?_
 have hp2:=hp1.load he2 (by rw [hn1];exact hn2) (by rw [hs2];exact R1.1.sj.symm) (by rw [hc2];exact R1.2.2.symm)
 refine runW_pre (f:=KF) hp2 fun η3 hp3 => ?_
 refine uvKS_ok hW h4 hkey hp3 (by omega) fun v4 η4 w4 hp4 hb4 => ?_
 refine runW_pre (f:=KF) hp4 fun η5 hp5 => ?_
 refine uvKS_ok hW h6 hsz32 hp5 (by rw [List.length_append];omega) fun v6 η6 w6 hp6 hb6 => ?_
 refine runW_pre (f:=KF) hp6 fun η7 hp7 => ?_
 rw [hq]
 generalize hρ6:upd (upd (upd ρ (runS KF q st).2.nj u) (runS KF q2 st2).2.nj v4) (runS KF q4 st4).2.nj v6=ρ6 at *
 have hρ6l:∀ j,j<st.nj→ρ6 j=ρ j:=fun j hj=>by
  have h1:j≠st.nj:=by omega
  have h2:j≠st.nj+1:=by omega
  have h3:j≠st.nj+2:=by omega
  rw [← hρ6,hn1,hn3,hn5];simp [upd,h1,h2,h3]
 have hρu:ρ6 ju=u:=by
  have h1:st.nj≠st.nj+1:=by omega
  have h2:st.nj≠st.nj+2:=by omega
  rw [← hρ6,hn1,hn3,hn5,hju];simp [upd,h1,h2]
 have hρd:ρ6 d6=v6:=by rw [← hρ6,e6'];simp [upd]
 have hρ2:upd ρ (runS KF q st).2.nj u dj=ρ dj:=by have:=hpre.dj;have h1:dj≠st.nj:=by omega
                                                  rw [hn1];simp [upd,h1]
 have hρ4:upd (upd ρ (runS KF q st).2.nj u) (runS KF q2 st2).2.nj v4 d4=v4:=by rw [e4'];simp [upd]
 rw [hρ2] at hb4
 rw [hρ4] at hb6
 obtain ⟨_,hdv⟩:=isO_val hp7.env hd
 obtain ⟨_,hyv⟩:=isO_val hp7.env hy
 rw [addOff_zero] at hdv hyv
 rw [hρu] at hyv
 have hb:=hb4.trans hb6
 refine np_op (vs:=[ρ6 d6,u]) (by simp [hdv,hyv]) (hW.app f p hf w6 B _ (out++wrUv key++wrUv sz) pv u _ hp7.own ⟨hru.same (below_same hb),hok⟩ (by simp only [wr] at hlen;simp only [List.length_append,hlen];omega) fun v8 w8 ho8 hb8 => ?_)
 rw [hρd] at hb8
 have he8:=hp7.env.fresh n v8
 rw [hn7] at he8
 refine hk (upd ρ6 (st.nj+3) v8) _ w8 ?_ (fun i hi => ?_) ?_ ?_
 ·rw [hn',e7];simp only [St.new,hn7];exact he8
 ·have:i≠st.nj+3:=by omega
  simp only [upd,if_neg this];exact hρ6l i hi
 ·rw [hdj'];simp only [upd,if_true];exact hb.trans hb8
 ·rw [hdj'];simp only [upd,if_true]
  have e9:out++wrTag (key,wr (.prim p) (.p pv))=out++wrUv key++wrUv sz++wrP p pv:=by
   simp only [wrTag,hlen,← List.append_assoc];rfl
  rw [e9];exact ho8
theorem wArrB_ok {W:WTab} (hW:WTabOk P W e) {el:Nat→Nat→Nat→NP→St→Option (NP×St×Nat)} {c:Bool} {sz off ju dj:Nat} {s:Sh} {q q':NP} {st st':St} {dj':Nat} {x:Val} (hju:ju<st.nj) (hok:ok (.arr c sz s) x)
  (hel:∀ ju dj ji body t p' t' dj',t.sj<t.nj→el ju dj ji body t=some (p',t',dj')→WElm P e ju ji sz (wr s) (fun ok w x cs=>RepS ok w s x cs) (ok s) body p' t t' dj dj')
  (h:wArrB W el c ju dj q st=some (q',st',dj')):WApp P e (CL (.arr c sz s) off ju x) (wr (.arr c sz s) x) q q' st st' dj dj':=by
 unfold wArrB at h
 simp only [Option.bind_eq_some_iff] at h
 obtain ⟨⟨q4,st4,jl⟩,h4,⟨q6,st6,dj1⟩,h6,⟨q8,st8,jn⟩,h8,h9⟩:=h
 dsimp only at h6 h8 h9
 obtain ⟨_,m4,_,_,e4,e4'⟩:=lenS_some h4
 obtain ⟨f,d,y,n6,hq6,hf,hd,hy,e6,e6'⟩:=alenS_some h6
 obtain ⟨_,m8,_,_,e8,e8'⟩:=lenS_some h8
 obtain ⟨w1,w2,w3,w4,w5⟩:=wlS_ok (P:=P) (e:=e) (hel ju) (fun ok w w' x cs hr hs=>RepS.same hs s x cs hr) h9
 have R3:=run_stt P (f:=KF) (p:=q) (st:=st)
 have R5:=run_stt P (f:=KF) (p:=q4) (st:=st4)
 have R7:=run_stt P (f:=KF) (p:=q6) (st:=st6)
 have R9:=run_stt P (f:=KF) (p:=q8) (st:=st8)
 have hn3:=R3.2.1
 have hn4:st4.nj=st.nj+1:=by rw [e4];show (runS KF q st).2.nj+1=_;rw [hn3]
 have hn5:(runS KF q4 st4).2.nj=st.nj+1:=by rw [R5.2.1,hn4]
 have hn6:st6.nj=st.nj+2:=by rw [e6];show (runS KF q4 st4).2.nj+1=_;rw [hn5]
 have hn7:(runS KF q6 st6).2.nj=st.nj+2:=by rw [R7.2.1,hn6]
 have hn8:st8.nj=st.nj+3:=by rw [e8];show (runS KF q6 st6).2.nj+1=_;rw [hn7]
 have hn9:(runS KF q8 st8).2.nj=st.nj+3:=by rw [R9.2.1,hn8]
 have hn':st'.nj=st.nj+4:=by rw [w1,hn9]
 have hs4:st4.sj=st.sj:=by rw [e4];exact R3.1.sj
 have hs6:st6.sj=st.sj:=by rw [e6];show (runS KF q4 st4).2.sj=_;rw [R5.1.sj,hs4]
 have hs8:st8.sj=st.sj:=by rw [e8];show (runS KF q6 st6).2.sj=_;rw [R7.1.sj,hs6]
 have hs':st'.sj=st.sj:=by rw [w2,R9.1.sj,hs8]
 have hc4:st4.cells=st.cells:=by rw [e4];exact R3.2.2
 have hc6:st6.cells=st.cells:=by rw [e6];show (runS KF q4 st4).2.cells=_;rw [R5.2.2,hc4]
 have hc8:st8.cells=st.cells:=by rw [e8];show (runS KF q6 st6).2.cells=_;rw [R7.2.2,hc6]
 have hc':st'.cells=st.cells:=by rw [w3,R9.2.2,hc8]
 have hjl:jl=st.nj:=by rw [e4',hn3]
 have hdj1:dj1=st.nj+1:=by rw [e6',hn5]
 have hjn:jn=st.nj+2:=by rw [e8',hn7]
 have hdj':dj'=st.nj+3:=by rw [w4,hn9]
 refine ⟨⟨by omega,hs',by rw [hc']⟩,hc',fun _=>by omega,?_⟩
 intro B S base cs out ρ η w Q hpre hrep hlim hk
 obtain ⟨hrep,hcell⟩:=hrep
 have hx':∃ vs,x = .l vs:=by
  cases x with
  | l vs=>exact ⟨vs,rfl⟩
  | _=>simp [RepS] at hrep
 obtain ⟨vs,rfl⟩:=hx'
 simp only [RepS] at hrep
 simp only [Km.ok] at hok
 simp only [wr] at hlim hk
 obtain ⟨u,hu,hl⟩:=hrep
 have huj:ρ ju=u:=by rw [hcell] at hu;cases hu;rfl
 obtain ⟨a,cap,hus⟩:∃ a c,u = .slice a vs.length c:=by
  rcases hl with ⟨h0,a,c,rfl⟩ | ⟨_,A,c,acs,rfl,_⟩
  ·exact ⟨a,c,by rw [h0]⟩
  ·exact ⟨_,c,rfl⟩
 refine runW_pre (f:=KF) hpre fun η3 hp3 => ?_
 refine lenS_ok h4 hp3 (a:=a) (n:=vs.length) (c:=cap) (by rw [huj,hus]) fun η4 hp4 => ?_
 refine runW_pre (f:=KF) hp4 fun η5 hp5 => ?_
 rw [hq6]
 obtain ⟨_,hdv⟩:=isO_val hp5.env hd
 obtain ⟨_,hyv⟩:=isO_val hp5.env hy
 rw [addOff_zero] at hdv hyv
 have hρl:upd ρ (runS KF q st).2.nj (.int .i64 (vs.length:Int)) jl = .int .i64 (vs.length:Int):=by rw [e4'];simp [upd]
 rw [hρl] at hyv
 simp only [List.length_append] at hlim
 refine np_op (vs:=[upd ρ (runS KF q st).2.nj (.int .i64 (vs.length:Int)) dj,.int .i64 (vs.length:Int)]) (by simp only [List.map,hdv,hyv]) (hW.alen f c hf w B _ out vs.length _ _ hp5.own ⟨rfl,by omega⟩ (by omega) fun d6 w6 ho6 hb6 => ?_)
 generalize hρ4:upd ρ (runS KF q st).2.nj (.int .i64 (vs.length:Int))=ρ4 at *
 have hρ4l:∀ i,i<st.nj→ρ4 i=ρ i:=fun i hi=>by
  have h1:i≠st.nj:=by omega
  rw [← hρ4,hn3];simp only [upd,if_neg h1]
 obtain ⟨hbS,hnS⟩:=hb6.other hpre.cur.row.lt hp5.SB
 have hrow6:Row w6 S cs:=by obtain ⟨ee,hr⟩:=hpre.cur.row;exact ⟨ee,by rw [hbS];exact hr⟩
 have hp6:WPre e st6 dj1 B S base cs (out++wrCount c vs.length) (upd ρ4 (runS KF q4 st4).2.nj d6) (upd η5 n6 d6) w6:=by
  have he:=hp5.env.fresh n6 d6
  refine ⟨by rw [e6];exact he,?_,by rw [e6'];simp only [upd,if_true];exact ho6,by rw [e6'];simp only [upd,if_true];exact hnS,by omega,by have:=hpre.sj;omega⟩
  exact hp5.cur.move (hs6.trans ((R5.1.sj.trans hs4).symm)) (hc6.trans ((R5.2.2.trans hc4).symm)) hp5.sj (fun j hj=>by simp [upd,Nat.ne_of_lt hj]) hrow6
 refine runW_pre (f:=KF) hp6 fun η7 hp7 => ?_
 have hρ6u:upd ρ4 (runS KF q4 st4).2.nj d6 ju=u:=by
  have h1:ju≠st.nj+1:=by omega
  rw [hn5];simp only [upd,if_neg h1];rw [hρ4l ju hju];exact huj
 refine lenS_ok h8 hp7 (a:=a) (n:=vs.length) (c:=cap) (by rw [hρ6u,hus]) fun η8 hp8 => ?_
 refine runW_pre (f:=KF) hp8 fun η9 hp9 => ?_
 generalize hρ8:upd (upd ρ4 (runS KF q4 st4).2.nj d6) (runS KF q6 st6).2.nj (.int .i64 (vs.length:Int))=ρ8 at *
 have hρ8u:ρ8 ju=u:=by
  have h1:ju≠st.nj+2:=by omega
  rw [← hρ8,hn7];simp only [upd,if_neg h1];exact hρ6u
 have hρ8n:ρ8 jn = .int .i64 (vs.length:Int):=by rw [← hρ8,e8'];simp [upd]
 have hρ8l:∀ i,i<st.nj→ρ8 i=ρ i:=fun i hi=>by
  have h1:i≠st.nj+2:=by omega
  have h2:i≠st.nj+1:=by omega
  rw [← hρ8,hn7,hn5];simp only [upd,if_neg h1,if_neg h2];exact hρ4l i hi
 refine w5 hp9 hρ8n (by omega) (by omega) hok.1 ?_ ?_ ?_
 ·intro i hi
  rcases hl with ⟨h0,_⟩ | ⟨_,A,c',acs,hu',hc1,hA,hrowA,hal,hreps⟩
  ·omega
  ·have h1:=Nat.mul_le_mul_right sz (show i+1≤vs.length from hi)
   refine ⟨A,c',acs,by rw [hρ8u,hu'],hA,?_,by omega,RepS.same (below_same hb6) s _ _ (hreps i hi hi),hok.2 _ (List.getElem_mem hi)⟩
   obtain ⟨ee,hr⟩:=hrowA
   exact ⟨ee,by rw [hb6.block A hA];exact hr⟩
 ·simp only [List.length_append];omega
 ·intro d' η' w' he' hb' ho'
  have h8d:ρ8 dj1=d6:=by
   have h1:dj1≠(runS KF q6 st6).2.nj:=by omega
   rw [← hρ8];simp only [upd,if_neg h1];rw [e6'];simp
  rw [h8d] at hb'
  rw [hρ4l dj hpre.dj] at hb6
  refine hk (upd ρ8 (runS KF q8 st8).2.nj d') η' w' he' (fun i hi => ?_) (by rw [w4];simp only [upd,if_true];exact hb6.trans hb') ?_
  ·have h1:i≠st.nj+3:=by omega
   rw [hn9];simp only [upd,if_neg h1];exact hρ8l i hi
  ·rw [w4];simp only [upd,if_true]
   rw [← List.append_assoc];exact ho'
theorem ls_ok {W:WTab} (hW:WTabOk P W e) {el:Nat→Nat→Nat→NP→St→Option (NP×St×Nat)} {key off sz dj:Nat} {c:Bool} {s:Sh} {q q':NP} {st st':St} {dj':Nat} {x:Val} (hkey:key<4294967296) (hok:ok (.arr c sz s) x) (hbs:(wr (.arr c sz s) x).length<4294967296)
  (hel:∀ ju dj ji body t p' t' dj',t.sj<t.nj→el ju dj ji body t=some (p',t',dj')→WElm P e ju ji sz (wr s) (fun ok w x cs=>RepS ok w s x cs) (ok s) body p' t t' dj dj')
  (h:lsS W el key off c dj q st=some (q',st',dj')):WApp P e (CK (.arr c sz s) off x) (wrTag (key,wr (.arr c sz s) x)) q q' st st' dj dj':=by
 unfold lsS at h
 simp only [Option.bind_eq_some_iff] at h
 obtain ⟨⟨q2,st2,ju⟩,h2,h3⟩:=h
 dsimp only at h3
 obtain ⟨⟨n2,e2⟩,e3,hoff,l2⟩:=ldAt_ok (P:=P) h2
 have R1:=run_stt P (f:=KF) (p:=q) (st:=st)
 have hn1:=R1.2.1
 have hn2:st2.nj=st.nj+1:=by rw [e2];show (runS KF q st).2.nj+1=_;rw [hn1]
 have hs2:st2.sj=st.sj:=by rw [e2];exact R1.1.sj
 have hc2:st2.cells=st.cells:=by rw [e2];exact R1.2.2
 have hju:ju=st.nj:=by rw [e3,hn1]
 have F:=twS_ok (C:=CL (.arr c sz s) off ju x) hW (stays_CL (.arr c sz s) off ju x) hkey hbs (by omega) (fun dj q q' t t' dj' ht hh=>wArrB_ok hW (by omega) hok hel hh) h3
 obtain ⟨f1,f2,f3,f4⟩:=F
 refine ⟨⟨by have:=f1.nj;omega,by rw [f1.sj,hs2],by rw [f1.len,hc2]⟩,by rw [f2,hc2],fun hd=>f3 (by omega),?_⟩
 intro B S base cs out ρ η w Q hpre hrep hlim hk
 have hx':∃ vs,x = .l vs:=by
  cases x with
  | l vs=>exact ⟨vs,rfl⟩
  | _=>simp [CK,RepS] at hrep
 obtain ⟨vs,rfl⟩:=hx'
 have hrep0:=hrep
 simp only [CK,RepS] at hrep
 obtain ⟨u,hu,hl⟩:=hrep
 have hu0:=hu
 rw [List.getElem?_drop,Nat.add_zero,List.getElem?_drop] at hu
 obtain ⟨a,cap,hus⟩:∃ a c,u = .slice a vs.length c:=by
  rcases hl with ⟨h0,a,c,rfl⟩ | ⟨_,A,c,acs,rfl,_⟩
  ·exact ⟨a,c,by rw [h0]⟩
  ·exact ⟨_,c,rfl⟩
 have hcu:u.cells.toList=[u]:=by rw [hus];rfl
 refine runW_pre (f:=KF) hpre fun η1 hp1 => ?_
 refine l2 (u:=u) hp1.env hp1.cur ?_ (fun _=>hcu) fun η2 he2 => ?_
 ·rw [hcu]
  apply List.ext_getElem?
  intro i
  simp only [List.getElem?_take,List.getElem?_drop]
  by_cases hi:i=0
  ·subst hi;simp only [Nat.lt_one_iff,if_true,Nat.add_zero,hu];rfl
  ·rw [if_neg (by omega),List.getElem?_eq_none (by simp;omega)]
 have hp2:=hp1.load he2 (by rw [hn1];exact hn2) (by rw [hs2];exact R1.1.sj.symm) (by rw [hc2];exact R1.2.2.symm)
 have hρ:∀ i,i<st.nj→upd ρ (runS KF q st).2.nj u i=ρ i:=fun i hi=>by rw [hn1];simp [upd,Nat.ne_of_lt hi]
 refine f4 B S base cs out _ η2 w Q hp2 ⟨hrep0,?_⟩ hlim fun ρ' η' w' he' hρ' hb' ho' => ?_
 ·rw [hju,hn1];simp only [upd,if_true];exact hu0
 ·rw [hρ dj hpre.dj] at hb'
  exact hk ρ' η' w' he' (fun j hj=>(hρ' j (by omega)).trans (hρ j hj)) hb' ho'
end
end Go.Mr
namespace Go.Mr
open Go.Lx Go.Nx Go.Km Go.Mx Go.Kb
open Go.CX (T deep)
set_option linter.unusedSimpArgs false
set_option linter.unusedVariables false
def boxS (ju:Nat):NP→St→Option (NP×St×Nat)
 | .op (.alloc z) [] m (.chk m1 (.op (.store 16) [.q m2 0,y] n k)),st=>
  if m=m1∧m=m2∧m≠n∧z.length=16∧isO (st.env.set deep m none) y ju 0=true then some (k,{ st.new m with env:=(st.new m).env.set deep n none },st.nj) else none
 | _,_=>none
def unboxS (jp:Nat):NP→St→Option (NP×St×Nat)
 | .op (.loadN 16) [x] n k,st=>if isO st.env x jp 0=true then some (k,st.new n,st.nj) else none
 | _,_=>none
def pmU (W:WTab) (key off:Nat) (p:Prim) (sz dj:Nat) (q:NP) (st:St):Option (NP×St×Nat):=
 let r1:=runS KF q st
 (ldAt 16 off r1.1 r1.2).bind fun r2=>
 let r3:=runS KF r2.1 r2.2.1
 (boxS r2.2.2 r3.1 r3.2).bind fun rb=>
 let r4:=runS KF rb.1 rb.2.1
 (uvKS W key dj r4.1 r4.2).bind fun r5=>
 let r6:=runS KF r5.1 r5.2.1
 (uvKS W sz r5.2.2 r6.1 r6.2).bind fun r7=>
 let r8:=runS KF r7.1 r7.2.1
 (unboxS rb.2.2 r8.1 r8.2).bind fun r9=>
 let r10:=runS KF r9.1 r9.2.1
 appS W p r9.2.2 r7.2.2 r10.1 r10.2
section
variable {P:Program} {e:TypeId}
theorem boxS_ok {ju:Nat} {q q':NP} {st st':St} {jp:Nat} (h:boxS ju q st=some (q',st',jp)):st'.nj=st.nj+1∧st'.sj=st.sj∧st'.cells=st.cells∧jp=st.nj ∧
  ∀ {dj B S base:Nat} {cs:List Value} {out:Bs} {ρ η:Nat→Value} {w:World} {Q:Post},WPre e st dj B S base cs out ρ η w→Fit 16 (ρ ju) →
   (∀ b η' w',WPre e st' dj B S base cs out (upd ρ st.nj (ptr b)) η' w'→Row w' b (ρ ju).cells.toList→w.heap.size≤b→Keep [] w w'→q'.wp P Q η' w')→q.wp P Q η w:=by
 unfold boxS at h
 split at h
 case h_2=>cases h
 rename_i z m m1 m2 y n k
 split at h
 case isFalse=>cases h
 rename_i hc
 obtain ⟨rfl,rfl,hmn,hz,hy⟩:=hc
 cases h
 refine ⟨rfl,rfl,rfl,rfl,?_⟩
 intro dj B S base cs out ρ η w Q hp hfit hk
 refine np_op (vs:=[]) rfl (wp_alloc fun b w1 r1 hb k1 => ?_)
 refine ⟨⟨_,by simp only [upd];rfl⟩,?_⟩
 have he1:EnvOk (st.env.set deep m none) st.nj ρ (upd η m (ptr b)):=hp.env.clear
 obtain ⟨_,hyv⟩:=isO_val he1 hy
 rw [addOff_zero] at hyv
 refine np_op (vs:=[ptr b,ρ ju]) (by simp only [List.map,hyv];simp [SV.val,upd,Addr.add]) (wp_store r1 (n:=16) hfit (by omega) fun w2 r2 k2 => ?_)
 have hcl:(ρ ju).cells.toList.length=16:=by have:=hfit.1;simpa using this
 have hput:put z 0 (ρ ju).cells.toList=(ρ ju).cells.toList:=by
  have:=hfit.1
  simp [put];omega
 rw [hput] at r2
 have kk:Keep [] w w2:=k1.trans k2 fun x hx hlt=>by rw [List.mem_singleton.1 hx] at hlt;omega
 have hρ:∀ j,j<st.nj→upd ρ st.nj (ptr b) j=ρ j:=fun j hj=>by simp [upd,Nat.ne_of_lt hj]
 refine hk b _ w2 ⟨(hp.env.fresh m (ptr b)).clear,?_,?_,?_,Nat.lt_succ_of_lt hp.dj,Nat.lt_succ_of_lt hp.sj⟩ r2 (by omega) kk
 ·exact hp.cur.move rfl rfl hp.sj hρ (hp.cur.row.keep kk (by simp))
 ·rw [hρ _ hp.dj];exact own_keep0 hp.own kk
 ·rw [hρ _ hp.dj];exact hp.SB
theorem unboxS_some {jp:Nat} {q q':NP} {st st':St} {j:Nat} (h:unboxS jp q st=some (q',st',j)):∃ x n,q = .op (.loadN 16) [x] n q'∧isO st.env x jp 0=true∧st'=st.new n∧j=st.nj:=by
 unfold unboxS at h
 split at h
 ·split at h
  ·rename_i hc
   cases h
   exact ⟨_,_,rfl,hc,rfl,rfl⟩
  ·cases h
 ·cases h
theorem row_other {w w':World} {b:Nat} {cs:List Value} (h:Row w b cs) (k:w'.heap[b]?=w.heap[b]?):Row w' b cs:=by
 obtain ⟨ee,hr⟩:=h
 exact ⟨ee,by rw [k];exact hr⟩
theorem pmU_ok {W:WTab} (hW:WTabOk P W e) {key off sz dj:Nat} {p:Prim} {q q':NP} {st st':St} {dj':Nat} {x:Val} (h:pmU W key off p sz dj q st=some (q',st',dj')) (hkey:key<4294967296) (hw1:width p=16) (hsz:fixP p=some sz) (hok:ok (.prim p) x) :
  WApp P e (CK (.prim p) off x) (wrTag (key,wr (.prim p) x)) q q' st st' dj dj':=by
 unfold pmU at h
 simp only [Option.bind_eq_some_iff] at h
 obtain ⟨⟨q2,st2,ju⟩,h2,⟨qb,stb,jp⟩,hb,⟨q4,st4,d4⟩,h4,⟨q6,st6,d6⟩,h6,⟨q8,st8,jv⟩,h8,h7⟩:=h
 dsimp only at hb h4 h6 h8 h7
 obtain ⟨⟨n2,e2⟩,e3,hoff,l2⟩:=ldAt_ok (P:=P) h2
 obtain ⟨b1,b2,b3,b4,b5⟩:=boxS_ok (P:=P) (e:=e) hb
 obtain ⟨_,n4,_,_,e4,e4'⟩:=uvKS_some h4
 obtain ⟨_,n6,_,_,e6,e6'⟩:=uvKS_some h6
 obtain ⟨x8,n8,hq8,hx8,e8,e8'⟩:=unboxS_some h8
 obtain ⟨f,d,y,n,hq,hf,hd,hy,e7,e7'⟩:=appS_some h7
 have R1:=run_stt P (f:=KF) (p:=q) (st:=st)
 have Rb:=run_stt P (f:=KF) (p:=q2) (st:=st2)
 have R3:=run_stt P (f:=KF) (p:=qb) (st:=stb)
 have R5:=run_stt P (f:=KF) (p:=q4) (st:=st4)
 have R8:=run_stt P (f:=KF) (p:=q6) (st:=st6)
 have R7:=run_stt P (f:=KF) (p:=q8) (st:=st8)
 have hn1:=R1.2.1
 have hn2:st2.nj=st.nj+1:=by rw [e2];show (runS KF q st).2.nj+1=_;rw [hn1]
 have hnb:(runS KF q2 st2).2.nj=st.nj+1:=by rw [Rb.2.1,hn2]
 have hnb2:stb.nj=st.nj+2:=by rw [b1,hnb]
 have hn3:(runS KF qb stb).2.nj=st.nj+2:=by rw [R3.2.1,hnb2]
 have hn4:st4.nj=st.nj+3:=by rw [e4];show (runS KF qb stb).2.nj+1=_;rw [hn3]
 have hn5:(runS KF q4 st4).2.nj=st.nj+3:=by rw [R5.2.1,hn4]
 have hn6:st6.nj=st.nj+4:=by rw [e6];show (runS KF q4 st4).2.nj+1=_;rw [hn5]
 have hn8':(runS KF q6 st6).2.nj=st.nj+4:=by rw [R8.2.1,hn6]
 have hn8:st8.nj=st.nj+5:=by rw [e8];show (runS KF q6 st6).2.nj+1=_;rw [hn8']
 have hn7:(runS KF q8 st8).2.nj=st.nj+5:=by rw [R7.2.1,hn8]
 have hn':st'.nj=st.nj+6:=by rw [e7];show (runS KF q8 st8).2.nj+1=_;rw [hn7]
 have hs2:st2.sj=st.sj:=by rw [e2];exact R1.1.sj
 have hsb:stb.sj=st.sj:=by rw [b2,Rb.1.sj,hs2]
 have hs4:st4.sj=st.sj:=by rw [e4];show (runS KF qb stb).2.sj=_;rw [R3.1.sj,hsb]
 have hs6:st6.sj=st.sj:=by rw [e6];show (runS KF q4 st4).2.sj=_;rw [R5.1.sj,hs4]
 have hs8:st8.sj=st.sj:=by rw [e8];show (runS KF q6 st6).2.sj=_;rw [R8.1.sj,hs6]
 have hs':st'.sj=st.sj:=by rw [e7];show (runS KF q8 st8).2.sj=_;rw [R7.1.sj,hs8]
 have hc2:st2.cells=st.cells:=by rw [e2];exact R1.2.2
 have hcb:stb.cells=st.cells:=by rw [b3,Rb.2.2,hc2]
 have hc4:st4.cells=st.cells:=by rw [e4];show (runS KF qb stb).2.cells=_;rw [R3.2.2,hcb]
 have hc6:st6.cells=st.cells:=by rw [e6];show (runS KF q4 st4).2.cells=_;rw [R5.2.2,hc4]
 have hc8:st8.cells=st.cells:=by rw [e8];show (runS KF q6 st6).2.cells=_;rw [R8.2.2,hc6]
 have hc':st'.cells=st.cells:=by rw [e7];show (runS KF q8 st8).2.cells=_;rw [R7.2.2,hc8]
 have hju:ju=st.nj:=by rw [e3,hn1]
 have hjp:jp=st.nj+1:=by rw [b4,hnb]
 have hd4:d4=st.nj+2:=by rw [e4',hn3]
 have hd6:d6=st.nj+3:=by rw [e6',hn5]
 have hjv:jv=st.nj+4:=by rw [e8',hn8']
 have hdj':dj'=st.nj+5:=by rw [e7',hn7]
 refine ⟨⟨by omega,hs',by rw [hc']⟩,hc',fun _=>by omega,?_⟩
 intro B S base cs out ρ η w Q hpre hrep hlim hk
 unfold CK at hrep
 have hrep':∃ pv,x = .p pv:=by
  cases x with
  | p pv=>exact ⟨pv,rfl⟩
  | _=>simp [RepS] at hrep
 obtain ⟨pv,rfl⟩:=hrep'
 simp only [RepS] at hrep
 simp only [Km.ok] at hok
 obtain ⟨u,hu,hru⟩:=hrep
 rw [List.drop_drop,hw1] at hu
 have hlen:(wr (.prim p) (.p pv)).length=sz:=by simp only [wr];exact fixP_len hsz hok
 have hwl:(wrTag (key,wr (.prim p) (.p pv))).length=(wrUv key).length+((wrUv sz).length+sz):=by simp only [wrTag,List.length_append,hlen]
 have hsz32:sz<4294967296:=by cases p<;>simp only [fixP,Option.some.injEq] at hsz<;>first | omega | cases hsz
 have hfit:Fit 16 u:=by have:=hru.fit;rwa [hw1] at this
 have hul:u.cells.toList.length=16:=by have:=hfit.1;simpa using this
 have hagg:=agg_of hul
 have hdj:=hpre.dj
 refine runW_pre (f:=KF) hpre fun η1 hp1 => ?_
 refine l2 hp1.env hp1.cur hu (fun h1=>by omega) fun η2 he2 => ?_
 have hp2:=hp1.load he2 (by rw [hn1];exact hn2) (by rw [hs2];exact R1.1.sj.symm) (by rw [hc2];exact R1.2.2.symm)
 generalize hρ2:upd ρ (runS KF q st).2.nj u=ρ2 at *
 have hρ2u:ρ2 ju=u:=by rw [← hρ2,hn1,hju];simp [upd]
 have hρ2l:∀ j,j<st.nj→ρ2 j=ρ j:=fun j hj=>by rw [← hρ2,hn1];simp [upd,Nat.ne_of_lt hj]
 refine runW_pre (f:=KF) hp2 fun η3 hp3 => ?_
 refine b5 hp3 (by rw [hρ2u];exact hfit) fun b ηb wb hpb hrb hbn kb => ?_
 rw [hρ2u] at hrb
 rw [hnb] at hpb
 generalize hρb:upd ρ2 (st.nj+1) (ptr b)=ρb at *
 have hρbp:ρb jp=ptr b:=by rw [← hρb,hjp];simp [upd]
 have hρbl:∀ j,j<st.nj→ρb j=ρ j:=fun j hj=>by
  have:j≠st.nj+1:=by omega
  rw [← hρb];simp only [upd,if_neg this];exact hρ2l j hj
 have hblt:b<wb.heap.size:=hrb.lt
 refine runW_pre (f:=KF) hpb fun ηc hpc => ?_
 refine uvKS_ok hW h4 hkey hpc (by omega) fun v4 η4 w4 hp4 hb4 => ?_
 have hne:(ρb dj).ownBlock≠some b:=fun hh=>by
  rw [hρbl dj hdj] at hh
  have:=(own_own hpre.own b hh).2
  omega
 obtain ⟨hbb4,hne4⟩:=hb4.other hblt hne
 have hr4:=row_other hrb hbb4
 refine runW_pre (f:=KF) hp4 fun η5 hp5 => ?_
 refine uvKS_ok hW h6 hsz32 hp5 (by rw [List.length_append];omega) fun v6 η6 w6 hp6 hb6 => ?_
 have hρ4:upd ρb (runS KF qb stb).2.nj v4 d4=v4:=by rw [e4'];simp [upd]
 rw [hρ4] at hb6
 obtain ⟨hbb6,hne6⟩:=hb6.other hr4.lt hne4
 have hr6:=row_other hr4 hbb6
 refine runW_pre (f:=KF) hp6 fun η7 hp7 => ?_
 rw [hq8]
 obtain ⟨_,hx8v⟩:=isO_val hp7.env hx8
 rw [addOff_zero] at hx8v
 have hjpv:upd (upd ρb (runS KF qb stb).2.nj v4) (runS KF q4 st4).2.nj v6 jp=ptr b:=by
  have h1:jp≠st.nj+2:=by omega
  have h2:jp≠st.nj+3:=by omega
  rw [hn3,hn5];simp only [upd,if_neg h1,if_neg h2];exact hρbp
 rw [hjpv] at hx8v
 refine np_op (vs:=[ptr b]) (by simp [hx8v]) (wp_loadN (o:=0) hr6 (by omega) ?_)
 rw [List.drop_zero,List.take_of_length_le (by omega),← hagg]
 have hp8:=hp7.new n8 u
 have hp8':WPre e st8 d6 B S base cs (out++wrUv key++wrUv sz) (upd (upd (upd ρb (runS KF qb stb).2.nj v4) (runS KF q4 st4).2.nj v6) (runS KF q6 st6).2.nj u) (upd η7 n8 u) w6:=by rw [e8];exact hp8
 refine runW_pre (f:=KF) hp8' fun η9 hp9 => ?_
 rw [hq]
 generalize hρ6:upd (upd (upd ρb (runS KF qb stb).2.nj v4) (runS KF q4 st4).2.nj v6) (runS KF q6 st6).2.nj u=ρ6 at *
 have hρ6l:∀ j,j<st.nj→ρ6 j=ρ j:=fun j hj=>by
  have h2:j≠st.nj+2:=by omega
  have h3:j≠st.nj+3:=by omega
  have h4:j≠st.nj+4:=by omega
  rw [← hρ6,hn3,hn5,hn8'];simp only [upd,if_neg h2,if_neg h3,if_neg h4];exact hρbl j hj
 have hρu:ρ6 jv=u:=by rw [← hρ6,e8'];simp [upd]
 have hρd:ρ6 d6=v6:=by
  have h1:st.nj+3≠st.nj+4:=by omega
  rw [← hρ6,e6',hn5,hn8'];simp [upd]
 obtain ⟨_,hdv⟩:=isO_val hp9.env hd
 obtain ⟨_,hyv⟩:=isO_val hp9.env hy
 rw [addOff_zero] at hdv hyv
 rw [hρu] at hyv
 rw [hρbl dj hdj] at hb4
 have hB:Bl B w (ρ dj) wb (ρ dj):=Bl.of_keep kb hpre.own.2
 have hbl:=(hB.trans hb4).trans hb6
 refine np_op (vs:=[ρ6 d6,u]) (by simp [hdv,hyv]) (hW.app f p hf w6 B _ (out++wrUv key++wrUv sz) pv u _ hp9.own ⟨hru.same (below_same hbl),hok⟩ (by simp only [wr] at hlen;simp only [List.length_append,hlen];omega) fun v9 w9 ho9 hb9 => ?_)
 rw [hρd] at hb9
 have he9:=hp9.env.fresh n v9
 rw [hn7] at he9
 refine hk (upd ρ6 (st.nj+5) v9) _ w9 ?_ (fun i hi => ?_) ?_ ?_
 ·rw [hn',e7];simp only [St.new,hn7];exact he9
 ·have:i≠st.nj+5:=by omega
  simp only [upd,if_neg this];exact hρ6l i hi
 ·rw [hdj'];simp only [upd,if_true];exact hbl.trans hb9
 ·rw [hdj'];simp only [upd,if_true]
  have e9:out++wrTag (key,wr (.prim p) (.p pv))=out++wrUv key++wrUv sz++wrP p pv:=by
   simp only [wrTag,hlen,← List.append_assoc];rfl
  rw [e9];exact ho9
end
end Go.Mr
namespace Go.Mr
open Go.Lx Go.Nx Go.Km Go.Mx Go.Kb
open Go.CX (T deep)
set_option linter.unusedSimpArgs false
set_option linter.unusedVariables false
mutual
def covS:Sh→Nat→Bool
 | .prim p,j=>decide (j<width p)
 | .str fs,j=>covF fs j
 | .opt _,_=>false
 | _,j=>j == 0
def covF:Fs→Nat→Bool
 | .nil,_=>false
 | .tags o,j=>j == o
 | .cons o s r,j=>(decide (o≤j) && covS s (j - o)) || covF r j
end
theorem lst_slice {ok:Nat→Prop} {w:World} {sz n:Nat} {rep:Nat→List Value→Prop} {u:Value} (h:Lst ok w sz n rep u):u.oneCell'=true:=by
 rcases h with ⟨_,a,c,rfl⟩ | ⟨_,A,c,acs,rfl,_⟩<;>rfl
mutual
theorem covS_one {ok:Nat→Prop} {w:World}:∀ (s:Sh) (v:Val) (cs:List Value) (j:Nat),RepS ok w s v cs→covS s j=true→∃ u,cs[j]?=some u∧u.oneCell'=true
 | .prim p,.p x,cs,j,h,hc=>by
  simp only [RepS] at h
  simp only [covS,decide_eq_true_eq] at hc
  obtain ⟨u,h1,h2⟩:=h
  obtain ⟨f1,f2⟩:=h2.fit
  have hl:j<u.cells.toList.length:=by simpa [f1] using hc
  refine ⟨u.cells.toList[j],?_,?_⟩
  ·have h3:u.cells.toList[j]?=some u.cells.toList[j]:=List.getElem?_eq_getElem hl
   rw [← h3,h1,List.getElem?_take,if_pos hc]
  ·have hm:u.cells.toList[j]∈u.cells.toList:=List.getElem_mem hl
   rw [Array.all_eq_true'] at f2
   exact f2 _ (by simp)
 | .arr c sz e,.l vs,cs,j,h,hc=>by
  simp only [RepS] at h
  simp only [covS,beq_iff_eq] at hc
  subst hc
  obtain ⟨u,h1,h2⟩:=h
  exact ⟨u,h1,lst_slice h2⟩
 | .narr _ _ sz e,.n none,cs,j,h,hc=>by
  simp only [RepS] at h
  simp only [covS,beq_iff_eq] at hc
  subst hc
  exact ⟨_,h,rfl⟩
 | .narr _ _ sz e,.n (some vs),cs,j,h,hc=>by
  simp only [RepS] at h
  simp only [covS,beq_iff_eq] at hc
  subst hc
  obtain ⟨u,h1,_,h2⟩:=h
  exact ⟨u,h1,lst_slice h2⟩
 | .str fs,.l vs,cs,j,h,hc=>by
  simp only [RepS] at h
  simp only [covS] at hc
  exact covF_one fs vs cs j h hc
 | .opt _,_,cs,j,h,hc=>by simp only [covS] at hc;cases hc
 | .prim _,.t _,_,_,h,_=>by simp [RepS] at h
 | .prim _,.l _,_,_,h,_=>by simp [RepS] at h
 | .prim _,.n _,_,_,h,_=>by simp [RepS] at h
 | .arr _ _ _,.p _,_,_,h,_=>by simp [RepS] at h
 | .arr _ _ _,.t _,_,_,h,_=>by simp [RepS] at h
 | .arr _ _ _,.n _,_,_,h,_=>by simp [RepS] at h
 | .narr _ _ _ _,.p _,_,_,h,_=>by simp [RepS] at h
 | .narr _ _ _ _,.t _,_,_,h,_=>by simp [RepS] at h
 | .narr _ _ _ _,.l _,_,_,h,_=>by simp [RepS] at h
 | .str _,.p _,_,_,h,_=>by simp [RepS] at h
 | .str _,.t _,_,_,h,_=>by simp [RepS] at h
 | .str _,.n _,_,_,h,_=>by simp [RepS] at h
theorem covF_one {ok:Nat→Prop} {w:World}:∀ (fs:Fs) (vs:List Val) (cs:List Value) (j:Nat),RepF ok w fs vs cs→covF fs j=true→∃ u,cs[j]?=some u∧u.oneCell'=true
 | .nil,_,cs,j,h,hc=>by simp only [covF] at hc;cases hc
 | .tags o,[.t l],cs,j,h,hc=>by
  simp only [RepF] at h
  simp only [covF,beq_iff_eq] at hc
  subst hc
  obtain ⟨v,h1,h2,_⟩:=h
  refine ⟨v,h1,?_⟩
  rcases h2 with ⟨rfl,_⟩ | ⟨r,es,rfl,_⟩<;>rfl
 | .cons o s r,v::vs,cs,j,h,hc=>by
  simp only [RepF] at h
  simp only [covF,Bool.or_eq_true,Bool.and_eq_true,decide_eq_true_eq] at hc
  rcases hc with ⟨h1,h2⟩ | hc
  ·obtain ⟨u,g1,g2⟩:=covS_one s v _ (j - o) h.1 h2
   rw [List.getElem?_drop,show o+(j - o)=j by omega] at g1
   exact ⟨u,g1,g2⟩
  ·exact covF_one r vs cs j h.2 hc
 | .tags _,[],_,_,h,_=>by simp [RepF] at h
 | .tags _,[.p _],_,_,h,_=>by simp [RepF] at h
 | .tags _,[.l _],_,_,h,_=>by simp [RepF] at h
 | .tags _,[.n _],_,_,h,_=>by simp [RepF] at h
 | .tags _,_::_::_,_,_,h,_=>by simp [RepF] at h
 | .cons _ _ _,[],_,_,h,_=>by simp [RepF] at h
end
def stcS (n off:Nat):NP→St→Option (NP×St)
 | .op (.loadN m) [x] n1 (.op (.alloc z) [] n2 (.chk n2a (.op (.store m2) [.q n2b 0,.s n1a] n3 k))),st=>
  if m=n∧m2=n∧z.length=n∧n2a=n2∧n2b=n2∧n1a=n1∧n1≠n2∧n3≠n2∧isO st.env x st.sj off=true∧off+n≤st.cells.length then
   some (k,{ env:=((st.env.set deep n1 none).set deep n2 (some (.o st.nj 0))).set deep n3 none,nj:=st.nj+1,sj:=st.nj,cells:=List.replicate n none })
  else none
 | _,_=>none
def strS (W:WTab) (key off n:Nat) (fs:Fs) (dj:Nat) (q:NP) (st:St):Option (NP×St×Nat):=
 let r1:=runS KF q st
 (stcS n off r1.1 r1.2).bind fun r2=>twS W key (fun dj q st=>chkWF W fs 0 dj q st) dj r2.1 r2.2
section
variable {P:Program} {e:TypeId}
theorem stcS_some {n off:Nat} {q q':NP} {st st':St} (h:stcS n off q st=some (q',st')):∃ x n1 z n2 n3,q = .op (.loadN n) [x] n1 (.op (.alloc z) [] n2 (.chk n2 (.op (.store n) [.q n2 0,.s n1] n3 q'))) ∧
  z.length=n∧n1≠n2∧n3≠n2∧isO st.env x st.sj off=true∧off+n≤st.cells.length∧st'={ env:=((st.env.set deep n1 none).set deep n2 (some (.o st.nj 0))).set deep n3 none,nj:=st.nj+1,sj:=st.nj,cells:=List.replicate n none }:=by
 unfold stcS at h
 split at h
 case h_2=>cases h
 split at h
 case isFalse=>cases h
 rename_i hc
 obtain ⟨rfl,rfl,hz,rfl,rfl,rfl,h12,h32,hx,hoff⟩:=hc
 cases h
 exact ⟨_,_,_,_,_,rfl,hz,h12,h32,hx,hoff,rfl⟩
theorem stc_ok {m off:Nat} {q q':NP} {st st':St} (h:stcS m off q st=some (q',st')):st'.nj=st.nj+1∧st'.sj=st.nj ∧
  ∀ {dj B S base:Nat} {cs:List Value} {out:Bs} {ρ η:Nat→Value} {w:World} {Q:Post},WPre e st dj B S base cs out ρ η w→(∀ j,j<m→∃ u,cs[base+off+j]?=some u∧u.oneCell'=true) →
   (∀ b v η' w',WPre e st' dj B b 0 ((cs.drop (base+off)).take m) out (upd ρ st.nj v) η' w'→Keep [] w w'→q'.wp P Q η' w')→q.wp P Q η w:=by
 obtain ⟨x,n1,z,n2,n3,rfl,hz,h12,h32,hx,hoff,rfl⟩:=stcS_some h
 refine ⟨rfl,rfl,?_⟩
 intro dj B S base cs out ρ η w Q hp hone hk
 obtain ⟨_,hxv⟩:=isO_val hp.env hx
 rw [hp.cur.ptr] at hxv
 simp only [addOff,addr_at] at hxv
 have hl:=hp.cur.len
 have hcl:((cs.drop (base+off)).take m).length=m:=by simp;omega
 refine np_op (vs:=[.pointer (some ⟨S,base+off,none⟩)]) (by simp [hxv]) (wp_loadN hp.cur.row (by omega) ?_)
 refine np_op (vs:=[]) rfl (wp_alloc fun b w1 r1 hb k1 => ?_)
 refine ⟨⟨_,by simp only [upd,if_true];rfl⟩,?_⟩
 have hfit:Fit m (.agg ((cs.drop (base+off)).take m).toArray):=by
  refine ⟨by simp only [Value.cells,List.size_toArray];exact hcl,?_⟩
  simp only [Value.cells]
  rw [Array.all_eq_true']
  intro u hu
  simp only [List.mem_toArray] at hu
  obtain ⟨j,hj,hju⟩:=List.mem_iff_getElem.1 hu
  rw [hcl] at hj
  obtain ⟨u',g1,g2⟩:=hone j hj
  have:((cs.drop (base+off)).take m)[j]?=some u':=by rw [List.getElem?_take,if_pos hj,List.getElem?_drop];exact g1
  rw [List.getElem?_eq_getElem (by rw [hcl];exact hj),hju] at this
  cases this
  exact g2
 refine np_op (vs:=[ptr b,.agg ((cs.drop (base+off)).take m).toArray]) (by simp [SV.val,upd,h12,Addr.add]) (wp_store r1 hfit (by omega) fun w2 r2 k2 => ?_)
 have hput:put z 0 (Value.agg ((cs.drop (base+off)).take m).toArray).cells.toList=(cs.drop (base+off)).take m:=by
  simp only [put,Value.cells,List.take_zero,List.nil_append,Nat.zero_add,hcl]
  rw [List.drop_of_length_le (l:=z) (by omega),List.append_nil]
 rw [hput] at r2
 have kk:Keep [] w w2:=k1.trans k2 fun x hx hlt=>by rw [List.mem_singleton] at hx;omega
 have hbS:(ρ dj).ownBlock≠some b:=fun e=>by have:=(own_own hp.own b e).2;omega
 refine hk b (ptr b) _ w2 ⟨?_,⟨by simp only [upd,if_true],r2,by simp only [List.length_replicate,hcl];omega,fun j v hj => ?_⟩,?_,?_,Nat.lt_succ_of_lt hp.dj,Nat.lt_succ_self _⟩ kk
 ·have h1:=hp.env.clear (n:=n1) (v := .agg ((cs.drop (base+off)).take m).toArray)
  have h2:=h1.fresh n2 (ptr b)
  exact h2.clear
 ·simp only [List.getElem?_replicate] at hj
  split at hj<;>cases hj
 ·have:dj≠st.nj:=Nat.ne_of_lt hp.dj
  simp only [upd,if_neg this];exact own_keep0 hp.own kk
 ·have:dj≠st.nj:=Nat.ne_of_lt hp.dj
  simp only [upd,if_neg this];exact hbS
theorem WFld.app {α:Type} {enc:α→Bs} {rep:(Nat→Prop)→World→α→List Value→Prop} {okv:α→Prop} {p p':NP} {st st':St} {dj dj':Nat} (h:WFld P e enc rep okv p p' st st' dj dj') {x:α} (hok:okv x) :
  WApp P e (fun B w _ ds=>rep (· < B) w x ds) (enc x) p p' st st' dj dj':=by
 obtain ⟨h1,h2,h3,h4⟩:=h
 exact ⟨h1,h2,h3,fun B S base cs out ρ η w Q hp hc hl hk=>h4 B S base cs out ρ η w x Q hp hc hok hl hk⟩
theorem str_ok {W:WTab} (hW:WTabOk P W e) {key off n dj:Nat} {fs:Fs} {q q':NP} {st st':St} {dj':Nat} {vs:List Val} (hkey:key<4294967296) (hok:okF fs vs) (hbs:(wrF fs vs).length<4294967296) (hn:extF fs≤n) (hcov:(List.range n).all (covF fs)=true)
  (h:strS W key off n fs dj q st=some (q',st',dj')):WBr P e (CK (.str fs) off (.l vs)) (wrTag (key,wr (.str fs) (.l vs))) q q' st st' dj dj':=by
 unfold strS at h
 simp only [Option.bind_eq_some_iff] at h
 obtain ⟨⟨q2,st2⟩,h2,h3⟩:=h
 dsimp only at h3
 obtain ⟨e1,e2,s2⟩:=stc_ok (P:=P) (e:=e) h2
 have R1:=run_stt P (f:=KF) (p:=q) (st:=st)
 have hn1:=R1.2.1
 have hn2:st2.nj=st.nj+1:=by rw [e1,hn1]
 have hst:∀ (B:Nat) (w:World) (ds:List Value),RepF (· < B) w fs vs (ds.drop 0)↔RepF (· < B) w fs vs ds:=fun B w ds=>by rw [List.drop_zero]
 have F:=twS_ok (C:=fun B w _ ds=>RepF (· < B) w fs vs (ds.drop 0)) (bs:=wrF fs vs) (jm:=0) hW (fun h hs _=>RepF.same hs fs vs _ h) hkey hbs (Nat.zero_le _) (fun dj q q' t t' dj' ht hh=>(chkWF_ok hW fs 0 dj q q' t t' dj' hh).app hok) h3
 obtain ⟨f1,f2,f3,f4⟩:=F
 have hn':=f1.nj
 refine ⟨by omega,fun _=>by rw [f1.sj,e2];omega,fun hd=>f3 (by omega),?_⟩
 intro B S base cs out ρ η w Q hpre hrep hlim hk
 simp only [CK,RepS] at hrep
 rw [List.drop_drop] at hrep
 simp only [wr] at hlim hk
 refine runW_pre (f:=KF) hpre fun η1 hp1 => ?_
 simp only [List.all_eq_true,List.mem_range] at hcov
 refine s2 hp1 (fun j hj => ?_) fun b v η2 w2 hp2 k2 => ?_
 ·obtain ⟨u,g1,g2⟩:=covF_one fs vs _ j hrep (hcov j hj)
  rw [List.getElem?_drop] at g1
  exact ⟨u,g1,g2⟩
 have hrep2:RepF (· < B) w2 fs vs ((cs.drop (base+off)).take n):=RepF.cells fs vs _ _ (by rw [List.take_take,Nat.min_eq_left hn]) (RepF.same (k2.same fun x hx=>by cases hx) fs vs _ hrep)
 have hρ:∀ i,i<st.nj→upd ρ (runS KF q st).2.nj v i=ρ i:=fun i hi=>by rw [hn1];simp [upd,Nat.ne_of_lt hi]
 have hp3:WPre e st2 dj B b 0 ((cs.drop (base+off)).take n) out (upd ρ (runS KF q st).2.nj v) η2 w2:=hp2
 refine f4 B b 0 _ out _ η2 w2 Q hp3 (by simpa using hrep2) hlim fun ρ' η' w' he' hρ' hb' ho' => ?_
 rw [hρ dj hpre.dj] at hb'
 have hb:Bl B w (ρ dj) w' (ρ' dj'):=(Bl.of_keep k2 hpre.own.2).trans hb'
 obtain ⟨hbS,hnS⟩:=hb'.other hp3.cur.row.lt (by have:=hp3.SB;rw [hρ dj hpre.dj] at this;exact this)
 exact hk ρ' η' w' b 0 _ he' (fun j hj=>(hρ' j (by omega)).trans (hρ j hj)) hb ho' (hp3.cur.move f1.sj f2 hp3.sj hρ' (by obtain ⟨ee,hr⟩:=hp3.cur.row;exact ⟨ee,by rw [hbS];exact hr⟩))
end
end Go.Mr
namespace Go.Mr
open Go.Lx Go.Nx Go.Km Go.Mx Go.Kb
open Go.CX (T deep)
set_option linter.unusedSimpArgs false
set_option linter.unusedVariables false
def brS (W:WTab) (k:KT) (dj:Nat) (q:NP) (st:St):Option (NP×St×Nat):=
 match k.sh with
 | .prim p=>match fixP p with
  | some sz=>if width p=1 then pmS W k.key k.off p sz dj q st else if width p=16 then pmU W k.key k.off p sz dj q st else none
  | none=>none
 | .arr c sz (.prim p)=>lsS W (fun ju dj ji b s=>(elIn sz ju ji b s).bind fun r=>wrAt W p 0 dj r.1 r.2) k.key k.off c dj q st
 | .arr c sz (.str fs)=>lsS W (fun ju dj ji b s=>(elIn sz ju ji b s).bind fun r=>chkWF W fs 0 dj r.1 r.2) k.key k.off c dj q st
 | .str fs=>if (List.range (extF fs)).all (covF fs)=true then strS W k.key k.off (extF fs) fs dj q st else none
 | _=>none
def isNilN:NP→Bool
 | .nil=>true
 | _=>false
theorem isNilN_eq {p:NP} (h:isNilN p=true):p = .nil:=by
 cases p<;>first | rfl | cases h
def endJ (l:List Nat) (dj:Nat) (p:NP) (st:St):List Nat:=l.filter fun n=>isO (runS KF p st).2.env (.s n) dj 0
def stJn (n:Nat) (A B:NP) (J:List Nat) (st:St):St:={ st with env:=setAll J (.o st.nj 0) (clr (n::(asg A++asg B)) st.env),nj:=st.nj+1 }
def chT (W:WTab) (jk dj:Nat):List KT→NP→St→Option (NP×St)
 | k::ks,.op (.bin .eql) [x,.k (.int .u32 key)] n (.ite (.s n') A B t),st=>
  if n=n'∧key=(k.key:Int)∧isO st.env x jk 0=true then
   match brS W k dj A { st with env:=st.env.set deep n none } with
   | some (p',st',dj')=>if isNilN (runS KF p' st').1=true then
    match ks with
    | []=>some (t,stJn n A B (endJ (asg A) dj' p' st') st)
    | _::_=>match chT W jk dj ks B { st with env:=st.env.set deep n none } with
     | some (t2,st2)=>if isNilN (runS KF t2 st2).1=true then some (t,stJn n A B ((endJ (asg A) dj' p' st').filter fun m=>(endJ (asg B) st.nj t2 st2).contains m) st) else none
     | none=>none
    else none
   | none=>none
  else none
 | _,_,_=>none
def teEl (W:WTab) (ks:List KT) (ju dj ji:Nat) (body:NP) (st:St):Option (NP×St×Nat):=
 let r:=runS KF body st
 match r.1 with
 | .op (.ia 1) [a,x] m (.chk m1 (.op .load [.q m2 0] n k))=>
  if m=m1∧m=m2∧isO r.2.env a ju 0=true∧isO r.2.env x ji 0=true then
   (chT W r.2.nj dj ks k (({ r.2 with env:=r.2.env.set deep m none }).new n)).map fun y=>(y.1,y.2,r.2.nj+1)
  else none
 | _=>none
section
variable {P:Program} {e:TypeId}
theorem br_ok {W:WTab} (hW:WTabOk P W e) {k:KT} {dj:Nat} {q q':NP} {st st':St} {dj':Nat} {x:Val} (hkey:k.key<4294967296) (hok:ok k.sh x) (hbs:(wr k.sh x).length<4294967296) (h:brS W k dj q st=some (q',st',dj')) :
  WBr P e (CK k.sh k.off x) (wrTag (k.key,wr k.sh x)) q q' st st' dj dj':=by
 unfold brS at h
 split at h
 ·rename_i p hk
  split at h
  case h_2=>cases h
  rename_i sz hsz
  rw [hk] at hok hbs ⊢
  split at h
  ·rename_i hw
   exact (pm_ok hW h hkey hw hsz hok).br
  ·split at h
   ·rename_i hw
    exact (pmU_ok hW h hkey hw hsz hok).br
   ·cases h
 ·rename_i c sz p hk
  rw [hk] at hok hbs ⊢
  refine (ls_ok hW (s := .prim p) hkey hok hbs (fun ju dj ji body t p' t' dj' ht hh => ?_) h).br
  simp only [Option.bind_eq_some_iff] at hh
  obtain ⟨⟨r1,r2⟩,hh1,hh2⟩:=hh
  refine elIn_ok hh1 ?_
  exact (wrAt_ok hW hh2).conv fun ok w x cs hr ho=>⟨x,by simpa using hr,ho,rfl⟩
 ·rename_i c sz fs hk
  rw [hk] at hok hbs ⊢
  refine (ls_ok hW (s := .str fs) hkey hok hbs (fun ju dj ji body t p' t' dj' ht hh => ?_) h).br
  simp only [Option.bind_eq_some_iff] at hh
  obtain ⟨⟨r1,r2⟩,hh1,hh2⟩:=hh
  refine elIn_ok hh1 ?_
  refine (chkWF_ok hW fs 0 dj r1 p' r2 t' dj' hh2).conv fun ok w x cs hr ho => ?_
  cases x with
  | l vs=>exact ⟨vs,by simpa [RepS] using hr,by simpa [Km.ok] using ho,by simp [wr]⟩
  | _=>simp [RepS] at hr
 ·rename_i fs hk
  split at h
  case isFalse=>cases h
  rename_i hcov
  rw [hk] at hok hbs ⊢
  cases x with
  | l vs=>
   simp only [Km.ok] at hok
   simp only [wr] at hbs
   exact str_ok hW hkey hok hbs (Nat.le_refl _) hcov h
  | _=>simp [Km.ok] at hok
 ·cases h
def JPost (e:TypeId) (J:List Nat) (B:Nat) (w:World) (d0:Value) (out:Bs):Post:=fun o η' w'=>match o with
 | .nrm=>∃ d,(∀ n∈J,η' n=d)∧Bl B w d0 w' d∧Own w' B e d out
 | _=>False
theorem endJ_ok {l:List Nat} {dj:Nat} {p:NP} {st:St} {ρ η:Nat→Value} {w w0:World} {S base:Nat} {cs:List Value} {B:Nat} {d0:Value} {out:Bs} (hnil:isNilN (runS KF p st).1=true) {J:List Nat} (hJ:∀ n∈J,n∈endJ l dj p st) (he:EnvOk st.env st.nj ρ η) (hc:Cur st ρ w S base cs)
  (hb:Bl B w0 d0 w (ρ dj)) (ho:Own w B e (ρ dj) out):p.wp P (JPost e J B w0 d0 out) η w:=by
 obtain ⟨g1,g2,g3,g4⟩:=runS_ok (P:=P) KF p st
 refine g4 he hc fun η1 he1 => ?_
 unfold endJ at hJ
 rw [isNilN_eq hnil]
 refine ⟨ρ dj,fun n hn => ?_,hb,ho⟩
 have:=hJ n hn
 simp only [List.mem_filter] at this
 obtain ⟨_,hv⟩:=isO_val he1 this.2
 rw [addOff_zero] at hv
 exact hv
theorem chT_cons {W:WTab} {jk dj:Nat} {k:KT} {ks:List KT} {p t:NP} {st stJ:St} (h:chT W jk dj (k::ks) p st=some (t,stJ)) :
  ∃ x n A B p' st' dj' J,p = .op (.bin .eql) [x,.k (.int .u32 (k.key:Int))] n (.ite (.s n) A B t)∧isO st.env x jk 0=true∧brS W k dj A { st with env:=st.env.set deep n none }=some (p',st',dj')∧isNilN (runS KF p' st').1=true ∧
   stJ=stJn n A B J st∧(∀ m∈J,m∈endJ (asg A) dj' p' st')∧(ks=[]∨∃ t2 st2,chT W jk dj ks B { st with env:=st.env.set deep n none }=some (t2,st2)∧isNilN (runS KF t2 st2).1=true∧∀ m∈J,m∈endJ (asg B) st.nj t2 st2):=by
 generalize hl:k::ks=l at h
 unfold chT at h
 split at h
 ·cases hl
  split at h
  case isFalse=>cases h
  rename_i hc
  obtain ⟨rfl,rfl,hx⟩:=hc
  split at h
  case h_2=>cases h
  rename_i p' st' dj' hbr
  split at h
  case isFalse=>cases h
  rename_i hnil
  split at h
  ·cases h
   exact ⟨_,_,_,_,_,_,_,_,rfl,hx,hbr,hnil,rfl,fun m hm=>hm,.inl rfl⟩
  ·rename_i kb kr
   split at h
   case h_2=>cases h
   rename_i t2 st2 h2
   split at h
   case isFalse=>cases h
   rename_i hnil2
   cases h
   refine ⟨_,_,_,_,_,_,_,_,rfl,hx,hbr,hnil,rfl,fun m hm => ?_,.inr ⟨t2,st2,h2,hnil2,fun m hm => ?_⟩⟩
   ·exact (List.mem_filter.1 hm).1
   ·simpa using (List.mem_filter.1 hm).2
 ·cases h
theorem chT_ok {W:WTab} (hW:WTabOk P W e) {jk dj:Nat}:∀ (ks:List KT) (p t:NP) (st stJ:St),chT W jk dj ks p st=some (t,stJ)→stJ.nj=st.nj+1∧stJ.sj=st.sj∧stJ.cells=st.cells ∧
  ∀ {B S base:Nat} {cs:List Value} {out:Bs} {ρ η:Nat→Value} {w:World} {Q:Post} {k:KT} {x:Val},k∈ks→(∀ k'∈ks,k'.key=k.key→k'=k)→WPre e st dj B S base cs out ρ η w→ρ jk = .int .u32 (k.key:Int)→CK k.sh k.off x B w ρ (cs.drop base)→ok k.sh x →
   (wr k.sh x).length<4294967296→k.key<4294967296→out.length+(wrTag (k.key,wr k.sh x)).length≤lim →
   (∀ d η' w',EnvOk stJ.env stJ.nj (upd ρ st.nj d) η'→Bl B w (ρ dj) w' d→Own w' B e d (out++wrTag (k.key,wr k.sh x))→t.wp P Q η' w')→p.wp P Q η w:=by
 intro ks
 induction ks with
 | nil=>intro p t st stJ h;simp only [chT] at h;cases h
 | cons k0 ks ih=>
  intro p t st stJ h
  obtain ⟨x0,n,A,Bp,p',st',dj',J,rfl,hx,hbr,hnil,rfl,hJA,hJB⟩:=chT_cons h
  refine ⟨rfl,rfl,rfl,?_⟩
  intro B S base cs out ρ η w Q k x hmem huni hp hjk hck hok hbs hkey hlim hk
  obtain ⟨_,hxv⟩:=isO_val hp.env hx
  rw [addOff_zero,hjk] at hxv
  refine np_op (vs:=[.int .u32 (k.key:Int),.int .u32 (k0.key:Int)]) (by simp only [List.map,hxv];rfl) ⟨.u32,(k.key:Int),(k0.key:Int),.bool ((k.key:Int) == (k0.key:Int)),rfl,rfl,?_⟩
  generalize hbv:((k.key:Int) == (k0.key:Int))=bv
  refine np_ite bv (by simp [SV.val,upd]) ?_
  have hp1:WPre e { st with env:=st.env.set deep n none } dj B S base cs out ρ (upd η n (.bool bv)) w:=⟨hp.env.clear,hp.cur.move rfl rfl hp.sj (fun _ _=>rfl) hp.cur.row,hp.own,hp.SB,hp.dj,hp.sj⟩
  have join:∀ {D:NP},(∀ m,m∈asg D→m∈asg A++asg Bp)→D.wp P (JPost e J B w (ρ dj) (out++wrTag (k.key,wr k.sh x))) (upd η n (.bool bv)) w→D.wp P (fun o η w=>match o with | .nrm=>t.wp P Q η w | o=>Q o η w) (upd η n (.bool bv)) w:=by
   intro D hD hw
   refine NP.wp_mono _ _ _ _ _ ?_ (wp_frame _ _ _ _ hw)
   rintro o η' w' ⟨ho,hf⟩
   cases o with
   | ext=>exact ho.elim
   | ret vs=>exact ho.elim
   | nrm=>
    obtain ⟨d,h1,h2,h3⟩:=ho
    refine hk d η' w' ?_ h2 h3
    have hE:EnvOk (clr (n::(asg A++asg Bp)) st.env) st.nj ρ η':=hp.env.clr fun m hm=>by
     simp only [List.mem_cons,not_or] at hm
     rw [hf m (fun hh=>hm.2 (hD m hh))]
     simp [upd,hm.1]
    refine EnvOk.setAll (Nat.lt_succ_self _) J (hE.more (Nat.le_succ _) fun j hj=>by simp [upd,Nat.ne_of_lt hj]) fun m hm => ?_
    simp [AV.val,addOff_zero,upd,h1 m hm]
  by_cases hkk:k.key=k0.key
  ·have hb:bv=true:=by rw [← hbv];simp [hkk]
   subst hb
   simp only [if_true]
   have hke:k0=k:=huni k0 (by simp) hkk.symm
   subst hke
   refine join (fun m hm=>by simp [hm]) ?_
   obtain ⟨b1,b2,b3,b4⟩:=br_ok hW hkey hok hbs hbr
   refine b4 B S base cs out ρ _ w _ hp1 hck hlim fun ρ' η' w' S' base' cs' he' hρ' hb' ho' hc' => ?_
   exact endJ_ok hnil hJA he' hc' hb' ho'
  ·have hb:bv=false:=by rw [← hbv];simp;omega
   subst hb
   simp only [Bool.false_eq_true,if_false]
   refine join (fun m hm=>by simp [hm]) ?_
   have hmem':k∈ks:=by
    rcases List.mem_cons.1 hmem with rfl | hh
    ·exact (hkk rfl).elim
    ·exact hh
   rcases hJB with rfl | ⟨t2,st2,h2,hnil2,hJ2⟩
   ·simp at hmem'
   ·obtain ⟨i1,i2,i3,i4⟩:=ih Bp t2 _ st2 h2
    refine i4 hmem' (fun k' hk' he=>huni k' (by simp [hk']) he) hp1 hjk hck hok hbs hkey hlim fun d η' w' he' hb' ho' => ?_
    obtain ⟨hbS,hnS⟩:=hb'.other hp.cur.row.lt hp.SB
    have hne:∀ j,j<st.nj→upd ρ st.nj d j=ρ j:=fun j hj=>by simp [upd,Nat.ne_of_lt hj]
    have hc2:Cur st2 (upd ρ st.nj d) w' S base cs:=hp1.cur.move i2 i3 hp1.sj hne (by obtain ⟨ee,hr⟩:=hp.cur.row;exact ⟨ee,by rw [hbS];exact hr⟩)
    exact endJ_ok (dj:=st.nj) hnil2 hJ2 he' hc2 (by simp only [upd,if_true];exact hb') (by simp only [upd,if_true];exact ho')
theorem teEl_some {W:WTab} {ks:List KT} {ju dj ji:Nat} {body q:NP} {st st':St} {dj':Nat} (h:teEl W ks ju dj ji body st=some (q,st',dj')):∃ a x m n k,(runS KF body st).1 = .op (.ia 1) [a,x] m (.chk m (.op .load [.q m 0] n k))∧isO (runS KF body st).2.env a ju 0=true∧isO (runS KF body st).2.env x ji 0=true ∧
  chT W (runS KF body st).2.nj dj ks k (({ (runS KF body st).2 with env:=(runS KF body st).2.env.set deep m none }).new n)=some (q,st')∧dj'=(runS KF body st).2.nj+1:=by
 unfold teEl at h
 dsimp only at h
 split at h
 case h_2=>cases h
 rename_i hr
 split at h
 case isFalse=>cases h
 rename_i hc
 obtain ⟨rfl,rfl,ha,hx⟩:=hc
 simp only [Option.map_eq_some_iff] at h
 obtain ⟨⟨y1,y2⟩,hy,h⟩:=h
 cases h
 exact ⟨_,_,_,_,_,hr,ha,hx,hy,rfl⟩
theorem teEl_ok {W:WTab} (hW:WTabOk P W e) {ks:List KT} (huni:∀ k∈ks,∀ k'∈ks,k'.key=k.key→k'=k) (hkeys:∀ k∈ks,k.key<4294967296) {csT:List Value} {ju dj ji:Nat} {body q:NP} {st st':St} {dj':Nat} (hsj:st.sj<st.nj) (h:teEl W ks ju dj ji body st=some (q,st',dj')) :
  WElmG P e (fun ds=>ds=csT) ju ji 1 (fun y:KT×Val=>wrTag (y.1.key,wr y.1.sh y.2)) (fun ok w y ds=>ds[0]?=some (ku y.1.key)∧RepS ok w y.1.sh y.2 (csT.drop y.1.off)) (fun y=>y.1∈ks∧ok y.1.sh y.2∧(wr y.1.sh y.2).length<4294967296) body q st st' dj dj':=by
 obtain ⟨a,x,m,n,k,hr,ha,hx,hch,rfl⟩:=teEl_some h
 have R1:=run_stt P (f:=KF) (p:=body) (st:=st)
 have hn1:=R1.2.1
 obtain ⟨c1,c2,c3,c4⟩:=chT_ok hW ks k q _ st' hch
 have hn2:st'.nj=st.nj+2:=by rw [c1];show (runS KF body st).2.nj+1+1=_;rw [hn1]
 have hs2:st'.sj=st.sj:=by rw [c2];exact R1.1.sj
 have hc2:st'.cells=st.cells:=by rw [c3];exact R1.2.2
 refine ⟨by omega,by rw [hs2];omega,fun hd=>by omega,?_⟩
 intro B S base cs out ρ η w y Q A n' cap i acs hpre hcx hju hji hin hAB hrow hlen hrep hok hlim hk
 obtain ⟨k0,v⟩:=y
 dsimp only at hrep hok hlim hk
 obtain ⟨hkey,hrs⟩:=hrep
 obtain ⟨hmem,hokv,hbs⟩:=hok
 refine runW_pre (f:=KF) hpre fun η1 hp1 => ?_
 rw [hr]
 obtain ⟨_,hav⟩:=isO_val hp1.env ha
 obtain ⟨_,hxv⟩:=isO_val hp1.env hx
 rw [addOff_zero] at hav hxv
 rw [hju] at hav
 rw [hji] at hxv
 refine np_op (vs:=[.slice (some ⟨A,0,none⟩) n' cap,.int .i64 i]) (by simp only [List.map,hav,hxv]) ⟨⟨A,0,none⟩,n',cap,.i64,i,rfl,hin,?_⟩
 rw [add_at,Nat.mul_one]
 refine ⟨⟨_,by simp only [upd,if_true];rfl⟩,?_⟩
 have hcell:acs[i]?=some (ku k0.key):=by
  rw [List.getElem?_drop,Nat.mul_one,Nat.add_zero] at hkey;exact hkey
 refine np_op (vs:=[.pointer (some ⟨A,i,none⟩)]) (by simp [SV.val,upd,Addr.add]) (wp_load hrow hcell ?_)
 have hp2:WPre e (({ (runS KF body st).2 with env:=(runS KF body st).2.env.set deep m none }).new n) dj B S base cs out (upd ρ (runS KF body st).2.nj (ku k0.key)) (upd (upd η1 m (.pointer (some ⟨A,i,none⟩))) n (ku k0.key)) w:=by
  have hp1':WPre e { (runS KF body st).2 with env:=(runS KF body st).2.env.set deep m none } dj B S base cs out ρ (upd η1 m (.pointer (some ⟨A,i,none⟩))) w:=⟨hp1.env.clear,hp1.cur.move rfl rfl hp1.sj (fun _ _=>rfl) hp1.cur.row,hp1.own,hp1.SB,hp1.dj,hp1.sj⟩
  exact hp1'.new n (ku k0.key)
 have hρ:∀ j,j<st.nj→upd ρ (runS KF body st).2.nj (ku k0.key) j=ρ j:=fun j hj=>by rw [hn1];simp [upd,Nat.ne_of_lt hj]
 refine c4 hmem (fun k' hk' he=>huni k0 hmem k' hk' he) hp2 (by simp [upd,ku]) (by unfold CK;rw [hcx];exact hrs) hokv hbs (hkeys k0 hmem) hlim fun d η' w' he' hb' ho' => ?_
 rw [hρ dj hpre.dj] at hb'
 obtain ⟨hbS,hnS⟩:=hb'.other hpre.cur.row.lt hpre.SB
 have hnn:(({ (runS KF body st).2 with env:=(runS KF body st).2.env.set deep m none }).new n).nj=(runS KF body st).2.nj+1:=rfl
 rw [hnn] at he'
 have hρ2:∀ j,j<st.nj→upd (upd ρ (runS KF body st).2.nj (ku k0.key)) ((runS KF body st).2.nj+1) d j=ρ j:=fun j hj=>by
  have h1:j≠st.nj+1:=by omega
  rw [hn1];simp only [upd,if_neg h1,if_neg (Nat.ne_of_lt hj)]
 refine hk _ η' w' S base cs he' hρ2 (by simp only [upd,if_true];exact hb') (by simp only [upd,if_true];exact ho') ?_
 exact hpre.cur.move hs2 hc2 hpre.sj hρ2 (by obtain ⟨ee,hrr⟩:=hpre.cur.row;exact ⟨ee,by rw [hbS];exact hrr⟩)
end
end Go.Mr
namespace Go.Mr
open Go.Lx Go.Nx Go.Km Go.Mx Go.Kb
open Go.CX (T deep)
set_option linter.unusedSimpArgs false
set_option linter.unusedVariables false
inductive UK where
 | lst
 | num (d:Int)
 | bool (d:Bool)
 | zz (f1 f2:FuncId) (z:List Value) (d:List Val)
 | uu
def eqA:Val→Val→Bool
 | .p (.i a),.p (.i b)=>a == b
 | .p (.b a),.p (.b b)=>a == b
 | .p (.by a),.p (.by b)=>a == b
 | .t a,.t b=>a.isEmpty && b.isEmpty
 | _,_=>false
def eqL:List Val→List Val→Bool
 | [],[]=>true
 | a::r,b::s=>eqA a b && eqL r s
 | _,_=>false
def usK:UK→Val→Bool
 | .lst,.l vs=>vs.isEmpty
 | .num d,.p (.i n)=>n == d
 | .bool d,.p (.b b)=>b == d
 | .zz _ _ _ d,.l vs=>eqL vs d
 | .uu,.p (.by a)=>a == List.replicate 16 (0:UInt8)
 | _,_=>true
def pkind:Prim→Option IntKind
 | .i8=>some .i8
 | .i16=>some .i16
 | .u16=>some .u16
 | .i32=>some .i32
 | .i64=>some .i64
 | _=>none
structure KU where
 key:Nat
 off:Nat
 sh:Sh
 u:UK
def KU.kt (k:KU):KT:=⟨k.key,k.off,k.sh,usK k.u⟩
def isInt (k:IntKind) (d:Int):Value→Bool
 | .int k' d'=>k == k' && d == d'
 | _=>false
def isBoo (b:Bool):Value→Bool
 | .bool b'=>b == b'
 | _=>false
theorem isInt_eq {k:IntKind} {d:Int} {v:Value} (h:isInt k d v=true):v = .int k d:=by
 unfold isInt at h
 split at h
 ·simp only [Bool.and_eq_true,beq_iff_eq] at h;obtain ⟨rfl,rfl⟩:=h;rfl
 ·cases h
theorem isBoo_eq {b:Bool} {v:Value} (h:isBoo b v=true):v = .bool b:=by
 unfold isBoo at h
 split at h
 ·simp only [beq_iff_eq] at h;subst h;rfl
 ·cases h
def ZzOk (P:Program) (f1 f2:FuncId) (sh:Sh) (z:List Value) (d:List Val):Prop:=
 (∀ (w:World) (K:Value→World→Prop),(∀ w',Keep [] w w'→K (.agg z.toArray) w')→In.wp P (.call f1) [] w K)∧(∀ (ok:Nat→Prop) (w:World),RepS ok w sh (.l d) z)∧eqL d d=true ∧
 (∀ (ok:Nat→Prop) (w:World) (cs:List Value) (vs:List Val) (K:Value→World→Prop),RepS ok w sh (.l vs) cs→cs.length=z.length→(∀ w',Keep [] w w'→K (.bool (eqL vs d)) w')→In.wp P (.call f2) [.agg cs.toArray,.agg z.toArray] w K)
def ZzAll (P:Program) (k:KU):Prop:=match k.u with
 | .zz f1 f2 z d=>ZzOk P f1 f2 k.sh z d
 | _=>True
def uOk (k:KU) (cs0:List Value):Bool:=match k.u with
 | .lst=>isArr k.sh && (match cs0[k.off]? with | some v=>isNilSl v | none=>false)
 | .num d=>match k.sh with
  | .prim p=>match pkind p with
   | some kd=>(match cs0[k.off]? with | some v=>isInt kd d v | none=>false)
   | none=>false
  | _=>false
 | .bool d=>match k.sh with
  | .prim .bool=>(match cs0[k.off]? with | some v=>isBoo d v | none=>false)
  | _=>false
 | .zz _ _ z _=>(match k.sh with | .str _=>true | _=>false) && z.length == wS k.sh && (List.range z.length).all fun i=>match cs0[k.off+i]?,z[i]? with
  | some a,some b=>CX.sameV a b
  | _,_=>false
 | .uu=>match k.sh with
  | .prim .uuid=>(List.range 16).all fun i=>match cs0[k.off+i]? with
   | some v=>isInt .u8 0 v
   | none=>false
  | _=>false
def isUuid:Sh→Bool
 | .prim .uuid=>true
 | _=>false
def isU8s (z:List Value):Bool:=z.length == 16 && z.all (isInt .u8 0)
theorem isU8s_eq {z:List Value} (h:isU8s z=true):z=(List.replicate 16 (0:Int)).map (Value.int .u8):=by
 simp only [isU8s,Bool.and_eq_true,beq_iff_eq,List.all_eq_true] at h
 rw [List.map_replicate]
 exact List.eq_replicate_iff.2 ⟨h.1,fun v hv=>isInt_eq (h.2 v hv)⟩
def numK (k:KU) (d:Int) (v:Value):Bool:=match k.sh with
 | .prim p=>match pkind p with
  | some kd=>isInt kd d v
  | none=>false
 | _=>false
def cdS (k:KU):NP→St→Option (NP×St×Nat)
 | .op .load [x] n1 (.op .len [.s m1] n2 (.op (.bin .gtr) [.s m2,.k (.int .i64 z)] n3 q)),st=>match k.u with
  | .lst=>if m1=n1∧m2=n2∧z=0∧isO st.env x st.sj k.off=true∧k.off+1≤st.cells.length then some (q,{ st with env:=clr [n1,n2,n3] st.env },n3) else none
  | _=>none
 | .op .load [x] n1 (.op (.bin .neq) [.s m1,.k v] n2 q),st=>match k.u with
  | .num d=>if m1=n1∧numK k d v=true∧isO st.env x st.sj k.off=true∧k.off+1≤st.cells.length then some (q,{ st with env:=clr [n1,n2] st.env },n2) else none
  | _=>none
 | .op .load [x] n1 (.op (.eqB true) [.s m1,.k v] n2 q),st=>match k.u with
  | .bool d=>if m1=n1∧isBoo d v=true∧isO st.env x st.sj k.off=true∧k.off+1≤st.cells.length then some (q,{ st with env:=clr [n1,n2] st.env },n2) else none
  | _=>none
 | .op (.loadN l) [x] n1 (.op (.litG z []) [] n2 (.op (.eqA n8 kd true) [.s m1,.s m2] n3 q)),st=>match k.u with
  | .uu=>if l=16∧n8=16∧kd = .u8∧m1=n1∧m2=n2∧n1≠n2∧isU8s z=true∧isUuid k.sh=true∧isO st.env x st.sj k.off=true∧k.off+16≤st.cells.length then some (q,{ st with env:=clr [n1,n2,n3] st.env },n3) else none
  | _=>none
 | .draw (.look (.loadN m1) [x] n1 (.op (.call f1) [] n2 (.keep (.loadN m2) [x2] n1a (.op (.call f2) [.s n1b,.s n2a] n3 (.keep (.loadN m3) [x3] n1c (.look .not [.s n3a] n4 q)))))),st=>match k.u with
  | .zz g1 g2 z _=>if f1=g1∧f2=g2∧m1=z.length∧m2=z.length∧m3=z.length∧n1a=n1∧n1b=n1∧n1c=n1∧n2a=n2∧n3a=n3∧n1≠n2∧n1≠n3∧isO st.env x st.sj k.off=true∧isO (clr [n1,n2] st.env) x2 st.sj k.off=true∧isO (clr [n1,n2,n3] st.env) x3 st.sj k.off=true∧k.off+z.length≤st.cells.length then
    some (q,{ st with env:=clr [n1,n2,n3,n4] st.env },n4) else none
  | _=>none
 | _,_=>none
def isTe (jt:Option Nat) (E:T AV) (x:SV):Bool:=match jt with
 | some j=>isO E x j 0
 | none=>match x with
  | .k v=>isNilSl v
  | _=>false
def teV (jt:Option Nat) (ρ:Nat→Value):Value:=match jt with
 | some j=>ρ j
 | none => .slice none 0 0
def teS (eG:TypeId) (key c:Nat) (jt:Option Nat):NP→St→Option (NP×St×Nat)
 | .ite (.s c') (.op (.bslG 1) [.k (.int .u32 key')] n1 (.op (.appG eG' 1) [x,.s m1] n2 (.set t1 (.s m2) .nil))) (.set t2 y .nil) k,st=>
  if c'=c∧key'=(key:Int)∧eG'=eG∧m1=n1∧m2=n2∧t1=t2∧isTe jt (clr [n1] st.env) x=true∧isTe jt st.env y=true then
   some (k,{ st with env:=(clr [n1,n2] st.env).set deep t1 (some (.o st.nj 0)),nj:=st.nj+1 },st.nj) else none
 | _,_=>none
def cdAll (eG:TypeId):List KU→Option Nat→NP→St→Option (NP×St×Option Nat)
 | [],jt,p,st=>some (p,st,jt)
 | k::ks,jt,p,st=>let r:=runS KF p st
  (cdS k r.1 r.2).bind fun r2=>(teS eG k.key r2.2.2 jt r2.1 r2.2.1).bind fun r3=>cdAll eG ks (some r3.2.2) r3.1 r3.2.1
def KCell (ok:Nat→Prop) (w:World) (cs0 cs:List Value) (sh:Sh) (off:Nat) (v:Option Val):Prop:=
 match v with
 | some x=>RepS ok w sh x (cs.drop off)
 | none=>∀ j,off≤j→j<off+wS sh→cs[j]?=cs0[j]?
def pres (k:KU) (v:Option Val):Bool:=match v with
 | some x => !usK k.u x
 | none=>false
section
variable {P:Program} {e eG:TypeId}
theorem cdS_ok {k:KU} {q q':NP} {st st':St} {c:Nat} (h:cdS k q st=some (q',st',c)):(∃ E,st'={ st with env:=E }) ∧
  ∀ {cs0:List Value} {B S base dj:Nat} {cs:List Value} {out:Bs} {ρ η:Nat→Value} {w:World} {Q:Post} {v:Option Val},uOk k cs0=true→ZzAll P k→WPre e st dj B S base cs out ρ η w→KCell (· < B) w cs0 (cs.drop base) k.sh k.off v →
   (∀ η' w',Keep [] w w'→WPre e st' dj B S base cs out ρ η' w'→η' c = .bool (pres k v)→q'.wp P Q η' w')→q.wp P Q η w:=by
 unfold cdS at h
 split at h
 ·rename_i x n1 m1 n2 m2 z n3 q0
  split at h
  case h_2=>cases h
  rename_i hu
  split at h
  case isFalse=>cases h
  rename_i hc
  obtain ⟨rfl,rfl,rfl,hx,hoff⟩:=hc
  cases h
  refine ⟨⟨_,rfl⟩,?_⟩
  intro cs0 B S base dj cs out ρ η w Q v hk hzz hp hcell hcont
  unfold uOk at hk
  rw [hu] at hk
  simp only [Bool.and_eq_true] at hk
  obtain ⟨_,hxv⟩:=isO_val hp.env hx
  rw [hp.cur.ptr] at hxv
  simp only [addOff,addr_at] at hxv
  obtain ⟨a,n,cap,hcv,hb⟩:∃ a n c,cs[base+k.off]?=some (.slice a n c)∧decide ((n:Int) > 0)=pres k v:=by
   cases v with
   | none=>
    have h1:=hk.2
    have h2:=hcell k.off (Nat.le_refl _) (by
     have ha:=hk.1
     unfold isArr at ha
     split at ha
     ·rename_i hsh;rw [hsh];simp [wS]
     ·cases ha)
    split at h1
    ·rename_i v0 hv0
     rw [hv0,List.getElem?_drop,isNilSl_eq h1] at h2
     exact ⟨none,0,0,h2,rfl⟩
    ·cases h1
   | some y=>
    have ha:=hk.1
    unfold isArr at ha
    split at ha
    case h_2=>cases ha
    rename_i c' sz' e' hsh
    simp only [KCell,hsh] at hcell
    cases y with
    | l vs=>
     simp only [RepS] at hcell
     obtain ⟨u,h1,h2⟩:=hcell
     rw [List.getElem?_drop,Nat.add_zero,List.getElem?_drop] at h1
     have hn:∃ a c,u = .slice a vs.length c:=by
      rcases h2 with ⟨h0,a,c,rfl⟩ | ⟨_,A,c,acs,rfl,_⟩
      ·exact ⟨a,c,by rw [h0]⟩
      ·exact ⟨_,c,rfl⟩
     obtain ⟨a,c,rfl⟩:=hn
     refine ⟨a,_,c,h1,?_⟩
     simp only [pres,hu,usK]
     cases vs<;>simp
    | _=>simp [RepS] at hcell
  refine np_op (vs:=[.pointer (some ⟨S,base+k.off,none⟩)]) (by simp [hxv]) (wp_load hp.cur.row hcv ?_)
  refine np_op (vs:=[.slice a n cap]) (by simp [SV.val,upd]) ⟨a,n,cap,rfl,?_⟩
  refine np_op (vs:=[goInt n,.int .i64 0]) (by simp [SV.val,upd]) ⟨.i64,n,0,.bool (decide ((n:Int) > 0)),rfl,rfl,?_⟩
  refine hcont _ w (Keep.refl _ _) ⟨hp.env.clr fun m hm => ?_,hp.cur.move rfl rfl hp.sj (fun _ _=>rfl) hp.cur.row,hp.own,hp.SB,hp.dj,hp.sj⟩ (by rw [← hb];simp [upd])
  simp only [List.mem_cons,List.not_mem_nil,or_false,not_or] at hm
  simp [upd,hm.1,hm.2.1,hm.2.2]
 ·rename_i x n1 m1 vv n2 q0
  split at h
  case h_2=>cases h
  rename_i d hu
  split at h
  case isFalse=>cases h
  rename_i hc
  obtain ⟨rfl,hnum,hx,hoff⟩:=hc
  cases h
  refine ⟨⟨_,rfl⟩,?_⟩
  intro cs0 B S base dj cs out ρ η w Q v hk hzz hp hcell hcont
  unfold uOk at hk
  rw [hu] at hk
  unfold numK at hnum
  dsimp only at hk
  obtain ⟨_,hxv⟩:=isO_val hp.env hx
  rw [hp.cur.ptr] at hxv
  simp only [addOff,addr_at] at hxv
  split at hnum
  case h_2=>cases hnum
  rename_i p hsh
  rw [hsh] at hk
  dsimp only at hk
  split at hnum
  case h_2=>cases hnum
  rename_i kd hkd
  rw [hkd] at hk
  dsimp only at hk
  have hvv:=isInt_eq hnum
  subst hvv
  obtain ⟨n,hcv,hb⟩:∃ n:Int,cs[base+k.off]?=some (.int kd n)∧(n != d)=pres k v:=by
   cases v with
   | none=>
    have h2:=hcell k.off (Nat.le_refl _) (by rw [hsh];cases p<;>simp [wS,width])
    split at hk
    ·rename_i v0 hv0
     rw [hv0,List.getElem?_drop,isInt_eq hk] at h2
     exact ⟨d,h2,by simp [pres]⟩
    ·cases hk
   | some y=>
    simp only [KCell,hsh] at hcell
    cases y with
    | p pv=>
     simp only [RepS] at hcell
     obtain ⟨u,h1,h2⟩:=hcell
     have hw:width p=1:=by cases p<;>simp [pkind] at hkd<;>rfl
     have h3:=repP_one h2 hw
     rw [h3,hw] at h1
     have h4:cs[base+k.off]?=some u:=by
      have:=congrArg (fun l=>l[0]?) h1
      simpa [List.getElem?_take,List.getElem?_drop] using this.symm
     have h5:∃ n:Int,pv = .i n∧u = .int kd n:=by
      cases p<;>simp only [pkind,Option.some.injEq] at hkd<;>first | (subst hkd) | cases hkd
      all_goals
       cases pv<;>first
        | (simp only [RepP] at h2;exact ⟨_,rfl,h2⟩)
        | (simp [RepP] at h2;done)
     obtain ⟨n,rfl,rfl⟩:=h5
     exact ⟨n,h4,by simp [pres,hu,usK,bne]⟩
    | _=>simp [RepS] at hcell
  refine np_op (vs:=[.pointer (some ⟨S,base+k.off,none⟩)]) (by simp [hxv]) (wp_load hp.cur.row hcv ?_)
  refine np_op (vs:=[.int kd n,.int kd d]) (by simp [SV.val,upd]) ⟨kd,n,d,.bool (n != d),rfl,rfl,?_⟩
  refine hcont _ w (Keep.refl _ _) ⟨hp.env.clr fun m hm => ?_,hp.cur.move rfl rfl hp.sj (fun _ _=>rfl) hp.cur.row,hp.own,hp.SB,hp.dj,hp.sj⟩ (by simp [upd,hb])
  simp only [List.mem_cons,List.not_mem_nil,or_false,not_or] at hm
  simp [upd,hm.1,hm.2]
 ·rename_i x n1 m1 vv n2 q0
  split at h
  case h_2=>cases h
  rename_i d hu
  split at h
  case isFalse=>cases h
  rename_i hc
  obtain ⟨rfl,hboo,hx,hoff⟩:=hc
  cases h
  refine ⟨⟨_,rfl⟩,?_⟩
  intro cs0 B S base dj cs out ρ η w Q v hk hzz hp hcell hcont
  unfold uOk at hk
  rw [hu] at hk
  dsimp only at hk
  obtain ⟨_,hxv⟩:=isO_val hp.env hx
  rw [hp.cur.ptr] at hxv
  simp only [addOff,addr_at] at hxv
  have hvv:=isBoo_eq hboo
  subst hvv
  split at hk
  case h_2=>cases hk
  rename_i hsh
  obtain ⟨b,hcv,hb⟩:∃ b:Bool,cs[base+k.off]?=some (.bool b)∧(b != d)=pres k v:=by
   cases v with
   | none=>
    have h2:=hcell k.off (Nat.le_refl _) (by rw [hsh];simp [wS,width])
    split at hk
    ·rename_i v0 hv0
     rw [hv0,List.getElem?_drop,isBoo_eq hk] at h2
     exact ⟨d,h2,by simp [pres]⟩
    ·cases hk
   | some y=>
    simp only [KCell,hsh] at hcell
    cases y with
    | p pv=>
     simp only [RepS] at hcell
     obtain ⟨u,h1,h2⟩:=hcell
     have h3:=repP_one h2 rfl
     rw [h3] at h1
     have h4:cs[base+k.off]?=some u:=by
      have:=congrArg (fun l=>l[0]?) h1
      simpa [List.getElem?_take,List.getElem?_drop,width] using this.symm
     cases pv with
     | b b0=>
      simp only [RepP] at h2
      subst h2
      exact ⟨b0,h4,by simp [pres,hu,usK,bne]⟩
     | _=>simp [RepP] at h2
    | _=>simp [RepS] at hcell
  refine np_op (vs:=[.pointer (some ⟨S,base+k.off,none⟩)]) (by simp [hxv]) (wp_load hp.cur.row hcv ?_)
  refine np_op (vs:=[.bool b,.bool d]) (by simp [SV.val,upd]) ⟨b,d,rfl,?_⟩
  refine hcont _ w (Keep.refl _ _) ⟨hp.env.clr fun m hm => ?_,hp.cur.move rfl rfl hp.sj (fun _ _=>rfl) hp.cur.row,hp.own,hp.SB,hp.dj,hp.sj⟩ (by rw [← hb];cases b<;>cases d<;>simp [upd])
  simp only [List.mem_cons,List.not_mem_nil,or_false,not_or] at hm
  simp [upd,hm.1,hm.2]
 ·rename_i l x n1 z n2 n8 kd m1 m2 n3 q0
  split at h
  case h_2=>cases h
  rename_i hu
  split at h
  case isFalse=>cases h
  rename_i hc
  obtain ⟨rfl,rfl,rfl,rfl,rfl,h12,hz,hshb,hx,hoff⟩:=hc
  cases h
  refine ⟨⟨_,rfl⟩,?_⟩
  intro cs0 B S base dj cs out ρ η w Q v hk hzz hp hcell hcont
  have hsh:k.sh = .prim .uuid:=by
   unfold isUuid at hshb
   split at hshb
   ·assumption
   ·cases hshb
  unfold uOk at hk
  rw [hu] at hk
  dsimp only at hk
  rw [hsh] at hk
  dsimp only at hk
  simp only [List.all_eq_true,List.mem_range] at hk
  have hcl:=hp.cur.len
  obtain ⟨_,hxv⟩:=isO_val hp.env hx
  rw [hp.cur.ptr] at hxv
  simp only [addOff,addr_at] at hxv
  have hz':=isU8s_eq hz
  have key:∃ xs:List Int,(cs.drop (base+k.off)).take 16=xs.map (Value.int .u8)∧xs.length=16∧(!(xs == List.replicate 16 (0:Int)))=pres k v:=by
   cases v with
   | none=>
    refine ⟨List.replicate 16 0,?_,by simp,by simp [pres]⟩
    rw [List.map_replicate]
    apply List.ext_getElem?
    intro i
    rw [List.getElem?_take,List.getElem?_drop,List.getElem?_replicate]
    by_cases hi:i<16
    ·rw [if_pos hi,if_pos hi]
     have h2:=hcell (k.off+i) (by omega) (by rw [hsh];show _<k.off+16;omega)
     rw [List.getElem?_drop] at h2
     have h3:=hk i hi
     split at h3
     ·rename_i v0 hv0
      rw [Nat.add_assoc,h2,hv0,isInt_eq h3]
     ·cases h3
    ·rw [if_neg hi,if_neg hi]
   | some y=>
    simp only [KCell,hsh] at hcell
    cases y with
    | p pv=>
     simp only [RepS] at hcell
     obtain ⟨u,h1,h2⟩:=hcell
     cases pv with
     | «by» a=>
      simp only [RepP] at h2
      obtain ⟨rfl,ha⟩:=h2
      refine ⟨a.map fun b=>(b.toNat:Int),?_,by simpa using ha,?_⟩
      ·rw [List.drop_drop] at h1
       have h3:(cs.drop (base+k.off)).take 16=a.map u8:=by
        have:=h1.symm
        simpa [Value.cells,width] using this
       rw [h3,List.map_map]
       rfl
      ·simp only [pres,usK,hu]
       congr 1
       rw [Bool.eq_iff_iff]
       simp only [beq_iff_eq]
       constructor
       ·intro h
        apply List.ext_getElem (by simp [ha])
        intro i h1 h2
        have h3:=congrArg (fun l=>l[i]?) h
        simp only [List.getElem?_map,List.getElem?_eq_getElem h1,Option.map_some,List.getElem?_replicate] at h3
        rw [if_pos (by omega)] at h3
        simp only [Option.some.injEq] at h3
        rw [List.getElem_replicate]
        apply UInt8.toNat_inj.1
        show _=0
        omega
       ·intro h
        rw [h,List.map_replicate];rfl
     | _=>simp [RepP] at h2
    | _=>simp [RepS] at hcell
  obtain ⟨xs,hxs,hxl,hpv⟩:=key
  refine np_op (vs:=[.pointer (some ⟨S,base+k.off,none⟩)]) (by simp [hxv]) (wp_loadN hp.cur.row (by omega) ?_)
  rw [hxs]
  refine np_op (vs:=[]) rfl ⟨z,rfl,?_⟩
  rw [hz']
  refine np_op (vs:=[.agg (xs.map (Value.int .u8)).toArray,.agg ((List.replicate 16 (0:Int)).map (Value.int .u8)).toArray]) (by simp [SV.val,upd,h12]) ⟨xs,List.replicate 16 0,rfl,hxl,by simp,?_⟩
  refine hcont _ w (Keep.refl _ _) ⟨hp.env.clr fun m hm => ?_,hp.cur.move rfl rfl hp.sj (fun _ _=>rfl) hp.cur.row,hp.own,hp.SB,hp.dj,hp.sj⟩ (by rw [← hpv];simp [upd])
  simp only [List.mem_cons,List.not_mem_nil,or_false,not_or] at hm
  simp [upd,hm.1,hm.2.1,hm.2.2]
 ·rename_i m1 x n1 f1 n2 m2 x2 n1a f2 n1b n2a n3 m3 x3 n1c n3a n4 q0
  split at h
  case h_2=>cases h
  rename_i g1 g2 z d hu
  split at h
  case isFalse=>cases h
  rename_i hc
  obtain ⟨rfl,rfl,h1,h2,h3,h4,h5,h6,h7,h8,h12,h13,hx,hx2,hx3,hoff⟩:=hc
  subst h1 h2 h3 h4 h5 h6 h7 h8
  cases h
  refine ⟨⟨_,rfl⟩,?_⟩
  intro cs0 B S base dj cs out ρ η w Q v hk hzz hp hcell hcont
  unfold uOk at hk
  unfold ZzAll at hzz
  rw [hu] at hk hzz
  simp only [Bool.and_eq_true,beq_iff_eq,List.all_eq_true,List.mem_range] at hk
  obtain ⟨⟨hsh,hzl⟩,hwin⟩:=hk
  obtain ⟨hz1,hz2,hz3,hz4⟩:=hzz
  have hcl:=hp.cur.len
  have hrep:∃ vs,RepS (· < B) w k.sh (.l vs) ((cs.drop (base+k.off)).take z.length)∧(!eqL vs d)=pres k v:=by
   cases v with
   | none=>
    refine ⟨d,?_,by rw [hz3];rfl⟩
    have e1:(cs.drop (base+k.off)).take z.length=z:=by
     apply List.ext_getElem?
     intro i
     rw [List.getElem?_take,List.getElem?_drop]
     by_cases hi:i<z.length
     ·rw [if_pos hi]
      have h2:=hcell (k.off+i) (by omega) (by omega)
      rw [List.getElem?_drop] at h2
      have h3:=hwin i hi
      split at h3
      ·rename_i a b ha hb
       have:=CX.sameV_eq h3
       subst this
       rw [Nat.add_assoc,h2,ha,hb]
      ·cases h3
     ·rw [if_neg hi,List.getElem?_eq_none (by omega)]
    rw [e1]
    exact hz2 _ _
   | some y=>
    cases hs:k.sh with
    | str fs=>
     simp only [KCell,hs] at hcell
     cases y with
     | l vs=>
      simp only [RepS] at hcell
      refine ⟨vs,?_,by simp [pres,hu,usK]⟩
      simp only [RepS]
      rw [List.drop_drop] at hcell
      refine RepF.cells fs vs _ _ ?_ hcell
      rw [hzl,hs,List.take_take]
      simp [wS]
     | _=>simp [RepS] at hcell
    | _=>rw [hs] at hsh;cases hsh
  obtain ⟨vs,hrs,hpv⟩:=hrep
  have hcwl:((cs.drop (base+k.off)).take z.length).length=z.length:=by simp;omega
  generalize hcw:(cs.drop (base+k.off)).take z.length=cw at hrs hcwl
  have ld:∀ (w:World) (K:Value→World→Prop),Row w S cs→K (.agg cw.toArray) w→In.wp P (.loadN z.length) [.pointer (some ⟨S,base+k.off,none⟩)] w K:=fun w K hr hK=>wp_loadN hr (by omega) (by rw [hcw];exact hK)
  have val:∀ {x:SV} {l:List Nat} {η':Nat→Value},isO (clr l st.env) x st.sj k.off=true→(∀ n,n∉l→η' n=η n)→x.val η' = .pointer (some ⟨S,base+k.off,none⟩):=fun hx hη=>by
   obtain ⟨_,hv⟩:=isO_val (hp.env.clr hη) hx
   rw [hp.cur.ptr] at hv
   simp only [addOff,addr_at] at hv
   exact hv
  obtain ⟨_,hxv⟩:=isO_val hp.env hx
  rw [hp.cur.ptr] at hxv
  simp only [addOff,addr_at] at hxv
  refine np_draw ?_
  have kd:=keep_drawn w
  refine np_look (vs:=[.pointer (some ⟨S,base+k.off,none⟩)]) (by simp [hxv]) (ld _ _ (hp.cur.row.keep kd (by simp)) ⟨rfl,?_⟩)
  refine np_op (vs:=[]) rfl (hz1 _ _ fun w1 k1 => ?_)
  have kk1:=kd.then k1
  have r1:=hp.cur.row.keep kk1 (by simp)
  have e2:∀ n,n∉[n1c,n2a]→upd (upd η n1c (.agg cw.toArray)) n2a (.agg z.toArray) n=η n:=fun n hn=>by
   simp only [List.mem_cons,List.not_mem_nil,or_false,not_or] at hn
   simp [upd,hn.1,hn.2]
  refine np_keep (vs:=[.pointer (some ⟨S,base+k.off,none⟩)]) (by simp only [List.map,val hx2 e2]) (ld _ _ r1 ⟨by simp [upd,h12],rfl⟩) ?_
  refine np_op (vs:=[.agg cw.toArray,.agg z.toArray]) (by simp [SV.val,upd,h12]) (hz4 (· < B) w1 cw vs _ (RepS.same (kk1.same fun x hx=>by cases hx) _ _ _ hrs) hcwl fun w2 k2 => ?_)
  have kk2:=kk1.then k2
  have r2:=hp.cur.row.keep kk2 (by simp)
  have e3:∀ n,n∉[n1c,n2a,n3a]→upd (upd (upd η n1c (.agg cw.toArray)) n2a (.agg z.toArray)) n3a (.bool (eqL vs d)) n=η n:=fun n hn=>by
   simp only [List.mem_cons,List.not_mem_nil,or_false,not_or] at hn
   simp [upd,hn.1,hn.2.1,hn.2.2]
  refine np_keep (vs:=[.pointer (some ⟨S,base+k.off,none⟩)]) (by simp only [List.map,val hx3 e3]) (ld _ _ r2 ⟨by simp [upd,h12,h13],rfl⟩) ?_
  refine np_look (vs:=[.bool (eqL vs d)]) (by simp [SV.val,upd]) ⟨_,rfl,rfl,?_⟩
  refine hcont _ w2 kk2 ⟨hp.env.clr fun m hm => ?_,hp.cur.move rfl rfl hp.sj (fun _ _=>rfl) r2,own_keep0 hp.own kk2,hp.SB,hp.dj,hp.sj⟩ (by simp [upd,hpv])
  simp only [List.mem_cons,List.not_mem_nil,or_false,not_or] at hm
  simp [upd,hm.1,hm.2.1,hm.2.2.1,hm.2.2.2]
 ·cases h
end
end Go.Mr
namespace Go.Mr
open Go.Lx Go.Nx Go.Km Go.Mx Go.Kb
open Go.CX (T deep)
set_option linter.unusedSimpArgs false
set_option linter.unusedVariables false
structure Te (N:Nat) (eG:TypeId) (w:World) (v:Value) (keys:List Nat):Prop where
 row:w.ownsRow N eG 1 v keys.length (keys.map ku)
 size:N≤w.heap.size
structure Old (N S:Nat) (d:Value):Prop where
 S:S<N
 d:∀ g,d.ownBlock=some g→g<N
section
variable {P:Program} {e eG:TypeId}
theorem own_below {N B:Nat} {w w':World} {d:Value} {out:Bs} (h:Own w B e d out) (hd:∀ g,d.ownBlock=some g→g<N) (k:RowKit.Below N w w'):Own w' B e d out:=by
 refine ⟨⟨h.1.1,?_⟩,Nat.le_trans h.2 k.size⟩
 rcases h.1.2 with h0 | ⟨g,cap,cur,rfl,h2,h3,h4⟩
 ·exact .inl h0
 ·exact .inr ⟨g,cap,cur,rfl,h2,by rw [k.block g (hd g rfl)];exact h3,h4⟩
theorem WPre.below {N dj B S base:Nat} {st:St} {cs:List Value} {out:Bs} {ρ η:Nat→Value} {w w':World} (h:WPre e st dj B S base cs out ρ η w) (ho:Old N S (ρ dj)) (k:RowKit.Below N w w'):WPre e st dj B S base cs out ρ η w':=
 ⟨h.env,⟨h.cur.ptr,by obtain ⟨ee,hr⟩:=h.cur.row;exact ⟨ee,by rw [k.block S ho.S];exact hr⟩,h.cur.len,h.cur.known⟩,own_below h.own ho.d k,h.SB,h.dj,h.sj⟩
theorem Te.keep {N:Nat} {w w':World} {v:Value} {keys:List Nat} (h:Te N eG w v keys) (k:Keep [] w w'):Te N eG w' v keys:=by
 refine ⟨⟨h.row.1,?_⟩,Nat.le_trans h.size k.size⟩
 rcases h.row.2 with h0 | ⟨g,cap,cur,h1,h2,h3,h4⟩
 ·exact .inl h0
 ·exact .inr ⟨g,cap,cur,h1,h2,by rw [k.block g (Array.getElem?_eq_some_iff.1 h3).1 (by simp)];exact h3,h4⟩
theorem isTe_val {jt:Option Nat} {E:T AV} {c:Nat} {ρ η:Nat→Value} {x:SV} (he:EnvOk E c ρ η) (h:isTe jt E x=true):x.val η=teV jt ρ:=by
 unfold isTe at h
 split at h
 ·obtain ⟨_,hv⟩:=isO_val he h
  rw [addOff_zero] at hv;exact hv
 ·split at h
  ·rw [isNilSl_eq h];rfl
  ·cases h
theorem teS_some {key c:Nat} {jt:Option Nat} {q q':NP} {st st':St} {j':Nat} (h:teS eG key c jt q st=some (q',st',j')) :
  ∃ n1 x n2 t y,q = .ite (.s c) (.op (.bslG 1) [.k (.int .u32 (key:Int))] n1 (.op (.appG eG 1) [x,.s n1] n2 (.set t (.s n2) .nil))) (.set t y .nil) q'∧isTe jt (clr [n1] st.env) x=true∧isTe jt st.env y=true ∧
   st'={ st with env:=(clr [n1,n2] st.env).set deep t (some (.o st.nj 0)),nj:=st.nj+1 }∧j'=st.nj:=by
 unfold teS at h
 split at h
 case h_2=>cases h
 split at h
 case isFalse=>cases h
 rename_i hc
 obtain ⟨rfl,rfl,rfl,rfl,rfl,rfl,h1,h2⟩:=hc
 cases h
 exact ⟨_,_,_,_,_,rfl,h1,h2,rfl,rfl⟩
theorem teS_ok {key c:Nat} {jt:Option Nat} {q q':NP} {st st':St} {j':Nat} (h:teS eG key c jt q st=some (q',st',j')):st'.nj=st.nj+1∧st'.sj=st.sj∧st'.cells=st.cells∧j'=st.nj ∧
  ∀ {N dj B S base:Nat} {cs:List Value} {out:Bs} {ρ η:Nat→Value} {w:World} {Q:Post} {keys:List Nat} {b:Bool},WPre e st dj B S base cs out ρ η w→Old N S (ρ dj)→Te N eG w (teV jt ρ) keys→keys.length<1000000→η c = .bool b →
   (∀ v η' w',WPre e st' dj B S base cs out (upd ρ st.nj v) η' w'→RowKit.Below N w w'→Te N eG w' v (keys++if b then [key] else [])→q'.wp P Q η' w')→q.wp P Q η w:=by
 obtain ⟨n1,x,n2,t,y,rfl,hx,hy,rfl,rfl⟩:=teS_some h
 refine ⟨rfl,rfl,rfl,rfl,?_⟩
 intro N dj B S base cs out ρ η w Q keys b hp ho ht hkl hc hk
 have fin:∀ (v:Value) (η':Nat→Value) (w':World),RowKit.Below N w w'→(∀ n,n∉[n1,n2]→n≠t→η' n=η n)→η' t=v →
   WPre e { st with env:=(clr [n1,n2] st.env).set deep t (some (.o st.nj 0)),nj:=st.nj+1 } dj B S base cs out (upd ρ st.nj v) η' w':=by
  intro v η' w' hb hη hv
  have hp':=hp.below ho hb
  have hne:∀ j,j<st.nj→upd ρ st.nj v j=ρ j:=fun j hj=>by simp [upd,Nat.ne_of_lt hj]
  have he1:EnvOk (clr [n1,n2] st.env) st.nj ρ (fun n=>if n=t then η n else η' n):=hp.env.clr fun n hn=>by
   by_cases hnt:n=t
   ·simp [hnt]
   ·simp only [if_neg hnt];exact hη n hn hnt
  have he2:=(he1.more (Nat.le_succ _) hne).set (n:=t) (a := .o st.nj 0) (v:=v) (Nat.lt_succ_self _) (by simp [AV.val,addOff_zero,upd])
  have e3:upd (fun n=>if n=t then η n else η' n) t v=η':=by
   funext n
   by_cases hnt:n=t
   ·subst hnt;simp [upd,hv]
   ·simp [upd,hnt]
  rw [e3] at he2
  refine ⟨he2,hp'.cur.move rfl rfl hp.sj hne hp'.cur.row,?_,?_,Nat.lt_succ_of_lt hp.dj,Nat.lt_succ_of_lt hp.sj⟩
  ·rw [hne dj hp.dj];exact hp'.own
  ·rw [hne dj hp.dj];exact hp.SB
 refine np_ite b (by simp [SV.val,hc]) ?_
 cases b with
 | false=>
  simp only [Bool.false_eq_true,if_false,List.append_nil] at hk ⊢
  show NP.wp P q' Q _ w
  have hyv:=isTe_val hp.env hy
  rw [hyv]
  exact hk _ _ w (fin _ _ w (RowKit.Below.refl _ _) (fun n _ hnt=>by simp [upd,hnt]) (by simp [upd])) (RowKit.Below.refl _ _) ht
 | true=>
  simp only [if_true] at hk ⊢
  refine np_op (vs:=[ku key]) rfl ⟨fun v hv=>by simp only [List.mem_singleton] at hv;subst hv;rfl,fun e' => ?_⟩
  obtain ⟨rn,kn⟩:=alloc_row (w:=w) [ku key] e'
  have hcells:(([ku key]:List Value).map (·.cells.toList)).flatten.toArray=([ku key]:List Value).toArray:=by simp [Value.cells,ku]
  rw [hcells]
  generalize hw1:w.alloc (.cells ([ku key]:List Value).toArray e')=w1 at rn kn
  have ht1:=ht.keep kn
  have hE1:EnvOk (clr [n1] st.env) st.nj ρ (upd η n1 (.slice (some ⟨w.heap.size,0,none⟩) 1 1)):=hp.env.clr fun n hn=>by simp only [List.mem_singleton] at hn;simp [upd,hn]
  have hxv:=isTe_val hE1 hx
  refine np_op (vs:=[teV jt ρ,.slice (some ⟨w.heap.size,0,none⟩) 1 1]) (by simp only [List.map];rw [show ([ku key]:List Value).length=1 from rfl,hxv];simp [SV.val,upd]) ⟨N,teV jt ρ,keys.length,keys.map ku,⟨w.heap.size,0,none⟩,1,1,[ku key],rfl,ht1.row,ht1.size,rfl,?_,fun u hu=>by simp only [List.mem_singleton] at hu;subst hu;rfl,by omega,fun v' w' ho4 hb4 hg4 => ?_⟩
  ·intro j u hj
   cases j with
   | zero=>simp only [List.getElem?_cons_zero,Option.some.injEq] at hj;subst hj;rw [add0];exact rn.cell rfl
   | succ j=>simp at hj
  show NP.wp P q' Q _ w'
  have hB:RowKit.Below N w w':=(kn.below (fun x hx=>by cases hx) ht.size).trans hb4
  refine hk v' _ w' (fin v' _ w' hB (fun n hn hnt => ?_) (by simp [SV.val,upd])) hB ⟨by simpa using ho4,Nat.le_trans ht1.size hb4.size⟩
  simp only [List.mem_cons,List.not_mem_nil,or_false,not_or] at hn
  simp [upd,hnt,hn.1,hn.2]
theorem KCell.same {ok:Nat→Prop} {w w':World} {cs0 cs:List Value} {sh:Sh} {off:Nat} {v:Option Val} (h:KCell ok w cs0 cs sh off v) (hs:Same ok w w'):KCell ok w' cs0 cs sh off v:=by
 cases v with
 | none=>exact h
 | some x=>exact RepS.same hs sh x _ h
def encK:List KU→KV→List Nat
 | k::ks,v::vs=>(if pres k v then [k.key] else [])++encK ks vs
 | _,_=>[]
theorem cdAll_ok:∀ (ks:List KU) (jt:Option Nat) (p:NP) (st:St) {q:NP} {st':St} {jt':Option Nat},cdAll eG ks jt p st=some (q,st',jt')→st.nj≤st'.nj∧st'.sj=st.sj∧st'.cells=st.cells ∧
  ∀ {cs0:List Value} {N dj B S base:Nat} {cs:List Value} {out:Bs} {ρ η:Nat→Value} {w:World} {Q:Post} {keys:List Nat} {vs:KV},ks.all (fun k=>uOk k cs0)=true→(∀ k∈ks,ZzAll P k)→WPre e st dj B S base cs out ρ η w→Old N S (ρ dj)→B≤N→Te N eG w (teV jt ρ) keys→keys.length+ks.length<1000000→(∀ j,jt=some j→j<st.nj) →
   vs.length=ks.length→(∀ i k,ks[i]?=some k→KCell (· < B) w cs0 (cs.drop base) k.sh k.off (vs.getD i none)) →
   (∀ ρ' η' w',WPre e st' dj B S base cs out ρ' η' w'→(∀ j,j<st.nj→ρ' j=ρ j)→RowKit.Below N w w'→Te N eG w' (teV jt' ρ') (keys++encK ks vs)→(∀ j,jt'=some j→j<st'.nj)→q.wp P Q η' w')→p.wp P Q η w:=by
 intro ks
 induction ks with
 | nil=>
  intro jt p st q st' jt' h
  simp only [cdAll] at h
  cases h
  refine ⟨Nat.le_refl _,rfl,rfl,?_⟩
  intro cs0 N dj B S base cs out ρ η w Q keys vs _ _ hp ho hBN ht hkl hjt hvl hcells hk
  refine hk ρ η w hp (fun _ _=>rfl) (RowKit.Below.refl _ _) ?_ hjt
  have:encK [] vs=[]:=by cases vs<;>rfl
  rw [this,List.append_nil];exact ht
 | cons k ks ih=>
  intro jt p st q st' jt' h
  simp only [cdAll,Option.bind_eq_some_iff] at h
  obtain ⟨⟨q2,st2,c⟩,h2,⟨q3,st3,j3⟩,h3,h4⟩:=h
  dsimp only at h3 h4
  have R1:=run_stt P (f:=KF) (p:=p) (st:=st)
  obtain ⟨⟨E,rfl⟩,c2⟩:=cdS_ok (P:=P) (e:=e) h2
  obtain ⟨t1,t2,t3,t4,t5⟩:=teS_ok (P:=P) (e:=e) h3
  obtain ⟨i1,i2,i3,i4⟩:=ih (some j3) q3 st3 h4
  have hn1:=R1.2.1
  have t1':st3.nj=st.nj+1:=by rw [t1];show (runS KF p st).2.nj+1=_;rw [hn1]
  have hj3:j3=st.nj:=by rw [t4];exact hn1
  refine ⟨by omega,by rw [i2,t2];exact R1.1.sj,by rw [i3,t3];exact R1.2.2,?_⟩
  intro cs0 N dj B S base cs out ρ η w Q keys vs hu hzz hp ho hBN ht hkl hjt hvl hcells hk
  simp only [List.all_cons,Bool.and_eq_true] at hu
  cases vs with
  | nil=>simp at hvl
  | cons v vs=>
   refine runW_pre (f:=KF) hp fun η1 hp1 => ?_
   refine c2 hu.1 (hzz k (by simp)) hp1 (by simpa using hcells 0 k rfl) fun η2 w2 k2 hp2 hc => ?_
   have hb2:RowKit.Below N w w2:=k2.below (fun x hx=>by cases hx) ht.size
   simp only [List.length_cons] at hkl hvl
   refine t5 hp2 ho (ht.keep k2) (by omega) hc fun v3 η3 w3 hp3 hb3' ht3 => ?_
   have hb3:RowKit.Below N w w3:=hb2.trans hb3'
   have hs3:Same (· < B) w w3:=Same.below hb3 fun k hk=>by omega
   have hne:∀ j,j<st.nj→upd ρ (runS KF p st).2.nj v3 j=ρ j:=fun j hj=>by rw [hn1];simp [upd,Nat.ne_of_lt hj]
   have hdj:upd ρ (runS KF p st).2.nj v3 dj=ρ dj:=hne dj hp.dj
   have hte:teV (some j3) (upd ρ (runS KF p st).2.nj v3)=v3:=by show upd ρ _ v3 j3=v3;rw [hj3,hn1];simp [upd]
   refine i4 (vs:=vs) hu.2 (fun k' hk'=>hzz k' (by simp [hk'])) hp3 (by show Old N S (upd ρ (runS KF p st).2.nj v3 dj);rw [hdj];exact ho) hBN (keys:=keys++if pres k v then [k.key] else []) (by show Te N eG w3 (teV (some j3) (upd ρ (runS KF p st).2.nj v3)) _;rw [hte];exact ht3) ?_ (fun j hj=>by cases hj;omega) (by omega) (fun i k' hi => ?_) fun ρ' η' w' hp' hρ' hb' ht' hj' => ?_
   ·rw [List.length_append];split<;>simp<;>omega
   ·have:=hcells (i+1) k' (by simpa using hi)
    exact KCell.same (by simpa using this) hs3
   ·refine hk ρ' η' w' hp' (fun j hj=>(hρ' j (by omega)).trans (hne j hj)) (hb3.trans hb') ?_ hj'
    simp only [encK]
    rw [← List.append_assoc];exact ht'
end
end Go.Mr
namespace Go.Mr
open Go.Lx Go.Nx Go.Km Go.Mx Go.Kb
open Go.CX (T deep)
set_option linter.unusedSimpArgs false
set_option linter.unusedVariables false
def cntS (W:WTab) (o jt dj:Nat):NP→St→Option (NP×St)
 | .op .len [x] n1 (.op (.call f1) [y] n2 (.op (.bin .add) [.s m1,.s m2] n3 (.op (.cv .u32) [.s m3] n4 (.op (.call f2) [d,.s m4] n5 (.op .len [x2] n6 k))))),st=>
  if f1=W.tlen∧f2=W.uv∧m1=n1∧m2=n2∧m3=n3∧m4=n4∧n1≠n2∧isO st.env x jt 0=true∧isO (clr [n1] st.env) y st.sj o=true∧isO (clr [n1,n2,n3,n4] st.env) d dj 0=true ∧
    isO (({ st with env:=clr [n1,n2,n3,n4] st.env }).new n5).env x2 jt 0=true∧o+1≤st.cells.length then
   some (k,(({ st with env:=clr [n1,n2,n3,n4] st.env }).new n5).new n6) else none
 | _,_=>none
def eachS (W:WTab) (o dj:Nat):NP→St→Option (NP×St)
 | .op (.call f) [y,d] n k,st=>if f=W.each∧isO st.env y st.sj o=true∧isO st.env d dj 0=true∧o+1≤st.cells.length then some (k,st.new n) else none
 | _,_=>none
def tailKS (W:WTab) (eG:TypeId) (o:Nat) (ks:List KU) (dj:Nat) (p:NP) (st:St):Option (NP×St×Nat):=
 (cdAll eG ks none p st).bind fun r1=>
 match r1.2.2 with
 | some jt=>
  let r2:=runS KF r1.1 r1.2.1
  (cntS W o jt dj r2.1 r2.2).bind fun r3=>
  let r4:=runS KF r3.1 r3.2
  (wlS (teEl W (ks.map KU.kt) jt) (r2.2.nj+1) r2.2.nj r4.1 r4.2).bind fun r5=>
  let r6:=runS KF r5.1 r5.2.1
  (eachS W o r5.2.2 r6.1 r6.2).map fun r7=>(r7.1,r7.2,r6.2.nj)
 | none=>none
def encP:List KU→KV→List (KT×Val)
 | k::ks,v::vs=>(match v with | some x=>if usK k.u x then [] else [(k.kt,x)] | none=>[])++encP ks vs
 | _,_=>[]
def CT (cs0:List Value) (ks:List KU) (o:Nat) (vs:KV) (acc:Tg):Nat→World→(Nat→Value)→List Value→Prop:=fun B w _ ds=>
 (∀ i k,ks[i]?=some k→KCell (· < B) w cs0 ds k.sh k.off (vs.getD i none))∧∃ v,ds[o]?=some v∧RepT (· < B) (· < B) w acc v
section
variable {P:Program} {e eG:TypeId}
theorem encP_keys:∀ (ks:List KU) (vs:KV),(encP ks vs).map (fun y=>y.1.key)=encK ks vs:=by
 intro ks
 induction ks with
 | nil=>intro vs;cases vs<;>rfl
 | cons k ks ih=>
  intro vs
  cases vs with
  | nil=>rfl
  | cons v vs=>
   simp only [encP,encK,List.map_append,ih]
   congr 1
   cases v with
   | none=>rfl
   | some x=>
    simp only [pres]
    by_cases hb:usK k.u x=true
    ·simp [hb]
    ·simp [hb,KU.kt]
theorem encP_enc:∀ (ks:List KU) (vs:KV),(encP ks vs).map (fun y=>(y.1.key,wr y.1.sh y.2))=Km.enc (ks.map KU.kt) vs:=by
 intro ks
 induction ks with
 | nil=>intro vs;cases vs<;>rfl
 | cons k ks ih=>
  intro vs
  cases vs with
  | nil=>rfl
  | cons v vs=>
   simp only [encP,List.map_cons,Km.enc,List.map_append,ih]
   congr 1
   cases v with
   | none=>rfl
   | some x=>
    simp only [KU.kt]
    by_cases hb:usK k.u x=true
    ·simp [hb]
    ·simp [hb]
theorem encP_mem:∀ (ks:List KU) (vs:KV) (y:KT×Val),y∈encP ks vs→∃ i k,ks[i]?=some k∧y.1=k.kt∧vs.getD i none=some y.2:=by
 intro ks
 induction ks with
 | nil=>intro vs y hy;cases vs<;>simp [encP] at hy
 | cons k ks ih=>
  intro vs y hy
  cases vs with
  | nil=>simp [encP] at hy
  | cons v vs=>
   simp only [encP,List.mem_append] at hy
   rcases hy with hy | hy
   ·cases v with
    | none=>simp at hy
    | some x=>
     dsimp only at hy
     split at hy
     ·simp at hy
     ·rw [List.mem_singleton] at hy
      subst hy
      exact ⟨0,k,rfl,rfl,rfl⟩
   ·obtain ⟨i,k',h1,h2,h3⟩:=ih vs y hy
    exact ⟨i+1,k',by simpa using h1,h2,by simpa using h3⟩
theorem encP_len:∀ (ks:List KU) (vs:KV),(encP ks vs).length≤ks.length:=by
 intro ks
 induction ks with
 | nil=>intro vs;cases vs<;>simp [encP]
 | cons k ks ih=>
  intro vs
  cases vs with
  | nil=>simp [encP]
  | cons v vs=>
   have:=ih vs
   simp only [encP,List.length_append,List.length_cons]
   cases v with
   | none=>simp;omega
   | some x=>dsimp only;split<;>simp<;>omega
theorem okK_get:∀ {ks:List KT} {vs:KV} {i:Nat} {k:KT} {x:Val},okK ks vs→ks[i]?=some k→vs.getD i none=some x→ok k.sh x:=by
 intro ks
 induction ks with
 | nil=>intro vs i k x h hi;simp at hi
 | cons a r ih=>
  intro vs i k x h hi hx
  cases vs with
  | nil=>exact h.elim
  | cons v vs=>
   cases i with
   | zero=>
    simp only [List.getElem?_cons_zero,Option.some.injEq] at hi
    subst hi
    exact h.1 x (by simpa using hx)
   | succ i=>exact ih h.2 (by simpa using hi) (by simpa using hx)
theorem cntS_some {W:WTab} {o jt dj:Nat} {q q':NP} {st st':St} (h:cntS W o jt dj q st=some (q',st')) :
  ∃ x n1 y n2 n3 n4 d n5 x2 n6,q = .op .len [x] n1 (.op (.call W.tlen) [y] n2 (.op (.bin .add) [.s n1,.s n2] n3 (.op (.cv .u32) [.s n3] n4 (.op (.call W.uv) [d,.s n4] n5 (.op .len [x2] n6 q'))))) ∧
   n1≠n2∧isO st.env x jt 0=true∧isO (clr [n1] st.env) y st.sj o=true∧isO (clr [n1,n2,n3,n4] st.env) d dj 0=true ∧
   isO (({ st with env:=clr [n1,n2,n3,n4] st.env }).new n5).env x2 jt 0=true∧o+1≤st.cells.length∧st'=(({ st with env:=clr [n1,n2,n3,n4] st.env }).new n5).new n6:=by
 unfold cntS at h
 split at h
 case h_2=>cases h
 split at h
 case isFalse=>cases h
 rename_i hc
 obtain ⟨rfl,rfl,rfl,rfl,rfl,rfl,h1,h2,h3,h4,h5,h6⟩:=hc
 cases h
 exact ⟨_,_,_,_,_,_,_,_,_,_,rfl,h1,h2,h3,h4,h5,h6,rfl⟩
theorem cntS_ok {W:WTab} (hW:WTabOk P W e) {o jt dj:Nat} {q q':NP} {st st':St} (h:cntS W o jt dj q st=some (q',st')) {B S base:Nat} {cs:List Value} {out:Bs} {ρ η:Nat→Value} {w:World} {Q:Post} {a:Option Addr} {n c:Nat} {v:Value} {l:Tg}
  (hp:WPre e st dj B S base cs out ρ η w) (hjt:ρ jt = .slice a n c) (hjl:jt<st.nj) (hv:cs[base+o]?=some v) (hr:RepT (· < B) (· < B) w l v) (hn:n+l.length<4294967296) (hl:out.length+(wrUv (n+l.length)).length≤lim)
  (hk:∀ d η' w',WPre e st' st.nj B S base cs (out++wrUv (n+l.length)) (upd (upd ρ st.nj d) (st.nj+1) (.int .i64 (n:Int))) η' w'→Bl B w (ρ dj) w' d→q'.wp P Q η' w'):q.wp P Q η w:=by
 obtain ⟨x,n1,y,n2,n3,n4,d,n5,x2,n6,rfl,h12,hx,hy,hd,hx2,ho,rfl⟩:=cntS_some h
 obtain ⟨_,hxv⟩:=isO_val hp.env hx
 rw [addOff_zero,hjt] at hxv
 refine np_op (vs:=[.slice a n c]) (by simp only [List.map,hxv]) ⟨a,n,c,rfl,?_⟩
 have he1:EnvOk (clr [n1] st.env) st.nj ρ (upd η n1 (goInt n)):=hp.env.clr fun m hm=>by simp only [List.mem_singleton] at hm;simp [upd,hm]
 obtain ⟨_,hyv⟩:=isO_val he1 hy
 rw [hp.cur.ptr] at hyv
 simp only [addOff,addr_at] at hyv
 have hcell:w.cell? ⟨S,base+o,none⟩=some v:=hp.cur.row.cell hv
 refine np_op (vs:=[.pointer (some ⟨S,base+o,none⟩)]) (by simp [hyv]) (hW.tlen _ _ w _ v l _ hcell hr ?_)
 have hw64:IntKind.i64.wrap ((n:Int)+(l.length:Int))=((n+l.length:Nat):Int):=by
  rw [wrap64 _ (by omega) (by omega)];omega
 have hw32:IntKind.u32.wrap ((n+l.length:Nat):Int)=((n+l.length:Nat):Int):=by
  simp only [IntKind.wrap,IntKind.bits,IntKind.signed]
  simp
  omega
 refine np_op (vs:=[goInt n,goInt l.length]) (by simp [SV.val,upd,h12]) ⟨.i64,n,l.length,_,rfl,rfl,?_⟩
 rw [hw64]
 refine np_op (vs:=[.int .i64 ((n+l.length:Nat):Int)]) (by simp [SV.val,upd]) ⟨.i64,_,rfl,?_⟩
 rw [hw32]
 show NP.wp P (.op (.call W.uv) [d,.s n4] n5 (.op .len [x2] n6 q')) Q _ w
 generalize hη4:upd (upd (upd (upd η n1 (goInt n)) n2 (goInt l.length)) n3 (.int .i64 ((n+l.length:Nat):Int))) n4 (.int .u32 ((n+l.length:Nat):Int))=η4
 have he4:EnvOk (clr [n1,n2,n3,n4] st.env) st.nj ρ η4:=hp.env.clr fun m hm=>by
  simp only [List.mem_cons,List.not_mem_nil,or_false,not_or] at hm
  rw [← hη4];simp [upd,hm.1,hm.2.1,hm.2.2.1,hm.2.2.2]
 have g4:η4 n4 = .int .u32 ((n+l.length:Nat):Int):=by rw [← hη4];simp [upd]
 obtain ⟨_,hdv⟩:=isO_val he4 hd
 rw [addOff_zero] at hdv
 refine np_op (vs:=[ρ dj,.int .u32 ((n+l.length:Nat):Int)]) (by simp only [List.map,hdv];rw [show SV.val η4 (.s n4)=η4 n4 from rfl,g4]) (hW.uv w B _ out (n+l.length) _ _ hp.own ⟨rfl,hn⟩ hl fun d5 w5 ho5 hb5 => ?_)
 obtain ⟨hbS,hnS⟩:=hb5.other hp.cur.row.lt hp.SB
 have hrow:Row w5 S cs:=by obtain ⟨ee,hr⟩:=hp.cur.row;exact ⟨ee,by rw [hbS];exact hr⟩
 have hp5:WPre e (({ st with env:=clr [n1,n2,n3,n4] st.env }).new n5) st.nj B S base cs (out++wrUv (n+l.length)) (upd ρ st.nj d5) (upd η4 n5 d5) w5:=
  ⟨he4.fresh n5 d5,hp.cur.move rfl rfl hp.sj (fun j hj=>by simp [upd,Nat.ne_of_lt hj]) hrow,by simp only [upd,if_true];exact ho5,by simp only [upd,if_true];exact hnS,Nat.lt_succ_self _,Nat.lt_succ_of_lt hp.sj⟩
 obtain ⟨_,hx2v⟩:=isO_val hp5.env hx2
 rw [addOff_zero] at hx2v
 have:upd ρ st.nj d5 jt = .slice a n c:=by simp [upd,Nat.ne_of_lt hjl,hjt]
 rw [this] at hx2v
 refine np_op (vs:=[.slice a n c]) (by simp only [List.map,hx2v]) ⟨a,n,c,rfl,?_⟩
 exact hk d5 _ w5 (hp5.new n6 (goInt n)) hb5
theorem eachS_some {W:WTab} {o dj:Nat} {q q':NP} {st st':St} (h:eachS W o dj q st=some (q',st')):∃ y d n,q = .op (.call W.each) [y,d] n q'∧isO st.env y st.sj o=true∧isO st.env d dj 0=true∧o+1≤st.cells.length∧st'=st.new n:=by
 unfold eachS at h
 split at h
 case h_2=>cases h
 split at h
 case isFalse=>cases h
 rename_i hc
 obtain ⟨rfl,h1,h2,h3⟩:=hc
 cases h
 exact ⟨_,_,_,rfl,h1,h2,h3,rfl⟩
theorem te_row {N:Nat} {w:World} {v:Value} {keys:List Nat} (h:Te N eG w v keys):∃ a c,v = .slice a keys.length c∧∀ i (hi:i<keys.length),∃ A acs,a=some ⟨A,0,none⟩∧N≤A∧Row w A acs∧i+1≤acs.length∧acs[i]?=some (ku keys[i]):=by
 rcases h.row.2 with ⟨rfl,h0⟩ | ⟨g,cap,cur,rfl,h2,h3,h4,h5,h6,h7⟩
 ·exact ⟨none,0,by rw [h0],fun i hi=>by omega⟩
 ·refine ⟨_,cap,rfl,fun i hi=>⟨g,cur.toList,rfl,h2,⟨eG,by simpa using h3⟩,?_,?_⟩⟩
  ·rw [Array.length_toList];omega
  ·have:=congrArg (fun l=>l[i]?) h7
   simp only [List.getElem?_take,List.getElem?_map] at this
   rw [if_pos (by omega)] at this
   rw [this,List.getElem?_eq_getElem hi];rfl
theorem tail_okW {W:WTab} (hW:WTabOk P W e) {cs0:List Value} {o:Nat} {ks:List KU} {dj:Nat} {p q:NP} {st st':St} {dj':Nat} (h:tailKS W eG o ks dj p st=some (q,st',dj')) (hu:ks.all (fun k=>uOk k cs0)=true) (hzz:∀ k∈ks,ZzAll P k) (hko:ksOk (ks.map KU.kt)=true) (hkl:ks.length≤1000)
  {vs:KV} {acc:Tg} (hvl:vs.length=ks.length) (hok:okK (ks.map KU.kt) vs) (hot:okTags acc) (hsz:∀ p∈Km.enc (ks.map KU.kt) vs,p.2.length<4294967296) :
  WApp P e (CT cs0 ks o vs acc) (wrE (ks.map KU.kt) (vs,acc)) p q st st' dj dj':=by
 unfold tailKS at h
 simp only [Option.bind_eq_some_iff] at h
 obtain ⟨⟨q1,st1,jt'⟩,h1,h⟩:=h
 dsimp only at h
 split at h
 case h_2=>cases h
 rename_i jt
 simp only [Option.bind_eq_some_iff,Option.map_eq_some_iff] at h
 obtain ⟨⟨q3,st3⟩,h3,⟨q5,st5,dj5⟩,h5,⟨q7,st7⟩,h7,h⟩:=h
 dsimp only at h5 h7
 cases h
 dsimp only
 have hko':=hko
 simp only [ksOk,Bool.and_eq_true,decide_eq_true_eq,List.all_eq_true] at hko'
 obtain ⟨hnd,hkk⟩:=hko'
 have huni:∀ k∈ks.map KU.kt,∀ k'∈ks.map KU.kt,k'.key=k.key→k'=k:=fun k hk k' hk' he=>by
  obtain ⟨i,hi,rfl⟩:=List.mem_iff_getElem.1 hk
  obtain ⟨j,hj,rfl⟩:=List.mem_iff_getElem.1 hk'
  have hij:j=i:=by
   refine (List.getElem_inj (xs:=keysK (ks.map KU.kt)) (h₀:=by simpa [keysK] using hj) (h₁:=by simpa [keysK] using hi) hnd).1 ?_
   simpa [keysK] using he
  subst hij;rfl
 have hkey:∀ k∈ks.map KU.kt,k.key<4294967296:=fun k hk=>(hkk k hk).2
 obtain ⟨a1,a2,a3,a4⟩:=cdAll_ok (P:=P) (e:=e) ks none p st h1
 have R2:=run_stt P (f:=KF) (p:=q1) (st:=st1)
 have R4:=run_stt P (f:=KF) (p:=q3) (st:=st3)
 have R6:=run_stt P (f:=KF) (p:=q5) (st:=st5)
 obtain ⟨_,_,_,_,_,_,_,m5,_,m6,_,_,_,_,_,_,_,e3⟩:=cntS_some h3
 obtain ⟨y7,d7,n7,hq7,hy7,hd7,ho7,e7⟩:=eachS_some h7
 have hn2:=R2.2.1
 have hs2:(runS KF q1 st1).2.sj=st.sj:=by rw [R2.1.sj,a2]
 have hc2:(runS KF q1 st1).2.cells=st.cells:=by rw [R2.2.2,a3]
 have hn3:st3.nj=st1.nj+2:=by rw [e3];show (runS KF q1 st1).2.nj+1+1=_;rw [hn2]
 have hs3:st3.sj=st.sj:=by rw [e3];exact hs2
 have hc3:st3.cells=st.cells:=by rw [e3];exact hc2
 have hn4:=R4.2.1
 have hs4:(runS KF q3 st3).2.sj=st.sj:=by rw [R4.1.sj,hs3]
 have hc4:(runS KF q3 st3).2.cells=st.cells:=by rw [R4.2.2,hc3]
 have WL:=fun (csT:List Value)=>wlSG_ok (P:=P) (e:=e) (cx:=fun ds=>ds=csT) (fun dj ji body s p' st' dj' hs hh=>teEl_ok hW huni hkey (csT:=csT) hs hh)
  (fun ok w w' (y:KT×Val) cs hr hs=>⟨hr.1,RepS.same hs _ _ _ hr.2⟩) h5
 obtain ⟨w1,w2,w3,w4,_⟩:=WL []
 have hn5:st5.nj=st1.nj+3:=by rw [w1,hn4,hn3]
 have hs5:st5.sj=st.sj:=by rw [w2,hs4]
 have hc5:st5.cells=st.cells:=by rw [w3,hc4]
 have hdj5:dj5=st1.nj+2:=by rw [w4,hn4,hn3]
 have hn6:(runS KF q5 st5).2.nj=st1.nj+3:=by rw [R6.2.1,hn5]
 have hs6:(runS KF q5 st5).2.sj=st.sj:=by rw [R6.1.sj,hs5]
 have hc6:(runS KF q5 st5).2.cells=st.cells:=by rw [R6.2.2,hc5]
 have hn7:st7.nj=st1.nj+4:=by rw [e7];show (runS KF q5 st5).2.nj+1=_;rw [hn6]
 have hs7:st7.sj=st.sj:=by rw [e7];exact hs6
 have hc7:st7.cells=st.cells:=by rw [e7];exact hc6
 refine ⟨⟨by omega,hs7,by rw [hc7]⟩,hc7,fun _=>by omega,?_⟩
 intro B S base cs out ρ η w Q hpre hct hlim hk
 obtain ⟨hcells,v0,hv0,hrep⟩:=hct
 rw [List.getElem?_drop] at hv0
 have hBN:=hpre.own.2
 have hold:Old w.heap.size S (ρ dj):=⟨hpre.cur.row.lt,fun g hg=>(own_own hpre.own g hg).2⟩
 have te0:Te w.heap.size eG w (teV none ρ) []:=⟨⟨by simp,.inl ⟨rfl,rfl⟩⟩,Nat.le_refl _⟩
 have hwr:wrE (ks.map KU.kt) (vs,acc)=wrUv (Km.enc (ks.map KU.kt) vs++acc).length++(wrTagL (Km.enc (ks.map KU.kt) vs)++wrTagL acc):=by
  simp only [wrE,wrTagL,List.map_append,List.flatten_append]
 have hkeysl:(encK ks vs).length=(encP ks vs).length:=by rw [← encP_keys,List.length_map]
 have hencl:(Km.enc (ks.map KU.kt) vs).length=(encP ks vs).length:=by rw [← encP_enc,List.length_map]
 have hpl:=encP_len ks vs
 have hml:=hot.many
 have hcnt:(Km.enc (ks.map KU.kt) vs++acc).length=(encP ks vs).length+acc.length:=by rw [List.length_append,hencl]
 rw [hwr,hcnt] at hlim hk
 simp only [List.length_append] at hlim
 have hflat:((encP ks vs).map (fun y:KT×Val=>wrTag (y.1.key,wr y.1.sh y.2))).flatten=wrTagL (Km.enc (ks.map KU.kt) vs):=by
  rw [← encP_enc,wrTagL,List.map_map];rfl
 refine a4 hu hzz hpre hold hBN te0 (by simp;omega) (fun j hj=>by cases hj) hvl hcells fun ρ1 η1 wa hp1 hρ1 hb1 ht1 hj1 => ?_
 rw [List.nil_append] at ht1
 have hjt:=hj1 jt rfl
 have hbA:Bl B w (ρ dj) wa (ρ1 dj):=by
  refine ⟨hb1.mono hBN,?_⟩
  rw [hρ1 dj hpre.dj]
  exact ⟨⟨hb1.os,hb1.tape,hb1.output,hb1.size,fun q hq _=>hb1.block q hq⟩,.inl rfl⟩
 refine runW_pre (f:=KF) hp1 fun η2 hp2 => ?_
 obtain ⟨a,c,hsl,hrow⟩:=te_row ht1
 have hsl':ρ1 jt = .slice a (encP ks vs).length c:=by rw [← hkeysl];exact hsl
 refine cntS_ok hW h3 hp2 hsl' (by rw [hn2];exact hjt) hv0 (rept_same hrep (below_same hbA)) (by omega) (by omega) fun d3 η3 wb hp3 hb3 => ?_
 refine runW_pre (f:=KF) hp3 fun η4 hp4 => ?_
 generalize hρ3:upd (upd ρ1 (runS KF q1 st1).2.nj d3) ((runS KF q1 st1).2.nj+1) (.int .i64 ((encP ks vs).length:Int))=ρ3 at hp4 hp3
 have hρ3l:∀ j,j<st1.nj→ρ3 j=ρ1 j:=fun j hj=>by
  have h1:j≠st1.nj:=by omega
  have h2:j≠st1.nj+1:=by omega
  rw [← hρ3,hn2];simp [upd,h1,h2]
 have hρ3d:ρ3 (runS KF q1 st1).2.nj=d3:=by rw [← hρ3];simp [upd]
 have hρ3n:ρ3 ((runS KF q1 st1).2.nj+1) = .int .i64 ((encP ks vs).length:Int):=by rw [← hρ3];simp [upd]
 have hbB:Bl B w (ρ dj) wb d3:=hbA.trans hb3
 obtain ⟨_,_,_,_,w5⟩:=WL (cs.drop base)
 refine w5 (vs:=encP ks vs) hp4 rfl hρ3n (by rw [hn4,hn3,hn2];omega) (by rw [hn4,hn3];omega) (by omega) ?_ ?_ ?_
 ·intro i hi
  obtain ⟨A,acs,hA1,hA2,hA3,hA4,hA5⟩:=hrow i (by omega)
  have hdA:(ρ1 dj).ownBlock≠some A:=fun e=>by
   rw [hρ1 dj hpre.dj] at e
   have:=hold.d A e;omega
  obtain ⟨hbA1,hnA⟩:=hb3.other hA3.lt hdA
  have hrowA:Row wb A acs:=by obtain ⟨ee,hr⟩:=hA3;exact ⟨ee,by rw [hbA1];exact hr⟩
  obtain ⟨i0,k0,hk1,hk2,hk3⟩:=encP_mem ks vs _ (List.getElem_mem hi)
  have hcell:=hcells i0 k0 hk1
  rw [hk3] at hcell
  have hkey0:(encK ks vs)[i]'(by omega)=(encP ks vs)[i].1.key:=by
   have:=encP_keys ks vs
   simp only [← this,List.getElem_map]
  refine ⟨A,c,acs,?_,?_,hrowA,by omega,⟨?_,?_⟩,?_,?_,?_⟩
  ·rw [hρ3l jt hjt,hsl',hA1]
  ·rw [hρ3d];exact hnA
  ·rw [List.getElem?_drop,Nat.mul_one,Nat.add_zero,hA5,hkey0]
  ·rw [hk2]
   exact RepS.same (below_same hbB) _ _ _ hcell
  ·rw [hk2];exact List.mem_map.2 ⟨k0,List.mem_of_getElem? hk1,rfl⟩
  ·rw [hk2]
   exact okK_get hok (by rw [List.getElem?_map,hk1];rfl) hk3
  ·have hm:((encP ks vs)[i].1.key,wr (encP ks vs)[i].1.sh (encP ks vs)[i].2)∈Km.enc (ks.map KU.kt) vs:=by
    rw [← encP_enc];exact List.mem_map.2 ⟨_,List.getElem_mem hi,rfl⟩
   exact hsz _ hm
 ·rw [hflat];simp only [List.length_append];omega
 ·intro d5 η5 wc he5 hb5 ho5
  rw [hρ3d] at hb5
  rw [hflat] at ho5
  have hbC:Bl B w (ρ dj) wc d5:=hbB.trans hb5
  obtain ⟨hbS,hnS⟩:=hbC.other hpre.cur.row.lt hpre.SB
  have hrow5:Row wc S cs:=by obtain ⟨ee,hr⟩:=hpre.cur.row;exact ⟨ee,by rw [hbS];exact hr⟩
  have hρ5:∀ j,j<st.nj→upd ρ3 (runS KF q3 st3).2.nj d5 j=ρ j:=fun j hj=>by
   have h1:j≠st1.nj+2:=by omega
   rw [hn4,hn3];simp only [upd,if_neg h1]
   rw [hρ3l j (by omega)];exact hρ1 j hj
  have hd5:upd ρ3 (runS KF q3 st3).2.nj d5 dj5=d5:=by rw [w4];simp [upd]
  have hp5:WPre e st5 dj5 B S base cs (out++wrUv ((encP ks vs).length+acc.length)++wrTagL (Km.enc (ks.map KU.kt) vs)) (upd ρ3 (runS KF q3 st3).2.nj d5) η5 wc:=
   ⟨he5,hpre.cur.move hs5 hc5 hpre.sj hρ5 hrow5,by rw [hd5];exact ho5,by rw [hd5];exact hnS,by omega,by have:=hpre.sj;omega⟩
  refine runW_pre (f:=KF) hp5 fun η6 hp6 => ?_
  rw [hq7]
  obtain ⟨_,hyv⟩:=isO_val hp6.env hy7
  obtain ⟨_,hdv⟩:=isO_val hp6.env hd7
  rw [hp6.cur.ptr] at hyv
  rw [addOff_zero,hd5] at hdv
  simp only [addOff,addr_at] at hyv
  have hcell7:wc.cell? ⟨S,base+o,none⟩=some v0:=hrow5.cell hv0
  refine np_op (vs:=[.pointer (some ⟨S,base+o,none⟩),d5]) (by simp only [List.map,hyv,hdv]) (hW.each wc B _ v0 acc d5 _ _ hcell7 hnS (rept_same hrep (below_same hbC)) hot ho5 (by simp only [List.length_append];omega) fun d7' wd ho7' hb7 => ?_)
  have he7:=hp6.env.fresh n7 d7'
  rw [hn6] at he7
  refine hk (upd (upd ρ3 (runS KF q3 st3).2.nj d5) (st1.nj+3) d7') _ wd ?_ (fun j hj => ?_) ?_ ?_
  ·rw [hn7,e7];simp only [St.new,hn6];exact he7
  ·have h1:j≠st1.nj+3:=by omega
   simp only [upd,if_neg h1];exact hρ5 j hj
  ·rw [hn6];simp only [upd,if_true];exact hbC.trans hb7
  ·rw [hn6];simp only [upd,if_true]
   have e9:out++(wrUv ((encP ks vs).length+acc.length)++(wrTagL (Km.enc (ks.map KU.kt) vs)++wrTagL acc))=out++wrUv ((encP ks vs).length+acc.length)++wrTagL (Km.enc (ks.map KU.kt) vs)++wrTagL acc:=by simp
   rw [e9];exact ho7'
end
end Go.Mr
namespace Go.Mr
open Go.Lx Go.Nx Go.Km Go.Mx Go.Kb
open Go.CX (T deep)
set_option linter.unusedSimpArgs false
set_option linter.unusedVariables false
structure OkE (ks:List KT) (s:KV×Tg):Prop where
 okk:okK ks s.1
 okt:okTags s.2
 sz:∀ p∈Km.enc ks s.1,p.2.length<4294967296
section
variable {P:Program} {g:Nat} {e eG:TypeId}
end
end Go.Mr
namespace Go.Mr
open Go.Lx Go.Nx Go.Km Go.Mx Go.Kb
open Go.CX (T deep)
set_option linter.unusedSimpArgs false
set_option linter.unusedVariables false
def rdV (flex:Nat) (fs:Nat→Fs) (ks:Nat→List KU) (v:Nat) (bs:Bs):Option (MV×Bs):=if flex≤v then rdM (fs v) ((ks v).map KU.kt) bs else (rdF (fs v) bs).map fun p=>((p.1,([],[])),p.2)
def wrVm (flex:Nat) (fs:Nat→Fs) (ks:Nat→List KU) (v:Nat) (m:MV):Bs:=if flex≤v then wrM (fs v) ((ks v).map KU.kt) m else wrF (fs v) m.1
section
variable (P:Program)
end
section
variable {P:Program} {g:Nat} {e eG:TypeId}
end
end Go.Mr

