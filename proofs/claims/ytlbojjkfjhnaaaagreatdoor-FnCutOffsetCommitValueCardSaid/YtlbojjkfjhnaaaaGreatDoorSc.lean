import Derived.Test.YtlbojjkfjhnaaaaGreatDoorSb
import Derived.Test.YtlbojjkfjhnaaaaGreatDoorMw
import Derived.Test.YtlbojjkfjhnaaaaGreatDoorMl
set_option linter.unusedSimpArgs false
set_option linter.unusedVariables false
namespace Go.Sp
open Go.Lx Go.Nx Go.Km Go.Mx Go.Kb Go.Mr
set_option linter.unusedSimpArgs false
set_option linter.unusedVariables false
def usUu:NP := .op (.bin .lss) [.s 14,.s 12] 15 <|
    .ite (.s 15)
     (.nil)
     (.exit) <|
    .op (.ia 1) [.s 11,.s 14] 16 <|
    .chk 16 <|
    .op .load [.q 16 0] 17 <|
    .op (.bin .lss) [.s 14,.k (.int .i64 16)] 18 <|
    .ite (.s 18)
     (.set 19 (.s 17) <|
     .nil)
     (.set 19 (.k (.tuple #[])) <|
     .nil) <|
    .ite (.s 18)
     (.op (.bin .neq) [.s 19,.k (.int .u8 0)] 20 <|
     .set 21 (.s 20) <|
     .nil)
     (.set 21 (.k (.tuple #[])) <|
     .nil) <|
    .ite (.s 18)
     (.set 22 (.s 21) <|
     .nil)
     (.set 22 (.k (.bool false)) <|
     .nil) <|
    .ite (.s 22)
     (.ret [.k (.bool false)])
     (.nil) <|
    .op (.bin .add) [.s 14,.k (.int .i64 1)] 23 <|
    .set 24 (.s 23) <|
    .set 14 (.s 24) <|
    .nil
def usTail (I:SI) (fS:FuncId):NP := .draw <|
 .look .load [.q 3 0] 60 <|
 .look .load [.q 2 0] 61 <|
 .look .load [.q 2 5] 62 <|
 .look .load [.q 2 0] 63 <|
 .op (.call I.width) [.s 61] 64 <|
 .keep .load [.q 2 0] 63 <|
 .keep .load [.q 2 5] 62 <|
 .keep .load [.q 2 0] 61 <|
 .keep .load [.q 3 0] 60 <|
 .op (.call I.fixed) [.s 60,.s 64] 65 <|
 .keep .load [.q 2 0] 63 <|
 .keep .load [.q 2 5] 62 <|
 .keep .load [.q 2 0] 61 <|
 .keep .load [.q 3 0] 60 <|
 .op (.call I.width) [.s 63] 66 <|
 .keep .load [.q 2 0] 63 <|
 .keep .load [.q 2 5] 62 <|
 .keep .load [.q 2 0] 61 <|
 .keep .load [.q 3 0] 60 <|
 .op (.call I.fixed) [.s 62,.s 66] 67 <|
 .keep .load [.q 2 0] 63 <|
 .keep .load [.q 2 5] 62 <|
 .keep .load [.q 2 0] 61 <|
 .keep .load [.q 3 0] 60 <|
 .op (.call fS) [.s 65,.s 67] 68 <|
 .keep .load [.q 2 0] 63 <|
 .keep .load [.q 2 5] 62 <|
 .keep .load [.q 2 0] 61 <|
 .keep .load [.q 3 0] 60 <|
 .ret [.s 68]
def q_usual (I:SI) (fS:FuncId):FnP:=⟨.op (.box 8) [.s 0] 2 <|
 .chk 2 <|
 .op (.box 5) [.s 1] 3 <|
 .chk 3 <|
 .op .load [.q 2 0] 4 <|
 .op (.bin .eql) [.s 4,.k (.int .i64 0)] 5 <|
 .ite (.s 5)
  (.op .load [.q 3 0] 6 <|
  .op (.bin .and) [.s 6,.k (.int .i64 1)] 7 <|
  .op .load [.q 2 5] 8 <|
  .op (.bin .eql) [.s 7,.s 8] 9 <|
  .ret [.s 9])
  (.op (.bin .eql) [.s 4,.k (.int .i64 7)] 10 <|
  .ite (.s 10)
   (.op .load [.q 3 1] 11 <|
   .op .len [.s 11] 12 <|
   .set 13 (.k (.bool false)) <|
   .set 14 (.k (.int .i64 0)) <|
   .loop
    (usUu) <|
   .ret [.k (.bool true)])
   (.op (.bin .eql) [.s 4,.k (.int .i64 8)] 25 <|
   .ite (.s 25)
    (.set 27 (.s 25) <|
    .nil)
    (.op (.bin .eql) [.s 4,.k (.int .i64 9)] 26 <|
    .set 27 (.s 26) <|
    .nil) <|
   .ite (.s 27)
    (.op .load [.q 2 3] 28 <|
    .op (.bin .geq) [.s 28,.k (.int .i64 0)] 29 <|
    .ite (.s 29)
     (.op .load [.q 3 2] 30 <|
     .ret [.s 30])
     (.nil) <|
    .op .load [.q 3 1] 31 <|
    .op .len [.s 31] 32 <|
    .op (.bin .eql) [.s 32,.k (.int .i64 0)] 33 <|
    .ret [.s 33])
    (.op (.bin .eql) [.s 4,.k (.int .i64 11)] 34 <|
    .ite (.s 34)
     (.op .load [.q 3 3] 35 <|
     .op .len [.s 35] 36 <|
     .op (.bin .eql) [.s 36,.k (.int .i64 0)] 37 <|
     .ret [.s 37])
     (.op (.bin .eql) [.s 4,.k (.int .i64 10)] 38 <|
     .ite (.s 38)
      (.op .load [.q 2 7] 39 <|
      .op .len [.s 39] 40 <|
      .set 41 (.k (.bool false)) <|
      .set 42 (.k (.int .i64 0)) <|
      .loop
       (.op (.bin .lss) [.s 42,.s 40] 43 <|
       .ite (.s 43)
        (.nil)
        (.exit) <|
       .op (.ia 8) [.s 39,.s 42] 44 <|
       .chk 44 <|
       .op (.loadN 8) [.q 44 0] 45 <|
       .op (.alloc zF) [] 46 <|
       .chk 46 <|
       .op (.store 8) [.q 46 0,.s 45] 47 <|
       .draw <|
       .look (.loadN 8) [.q 46 0] 48 <|
       .look (.loadN 5) [.q 3 0] 49 <|
       .op (.call I.atF) [.s 49,.s 42] 50 <|
       .keep (.loadN 5) [.q 3 0] 49 <|
       .keep (.loadN 8) [.q 46 0] 48 <|
       .op (.call I.usual) [.s 48,.s 50] 51 <|
       .keep (.loadN 5) [.q 3 0] 49 <|
       .keep (.loadN 8) [.q 46 0] 48 <|
       .look .not [.s 51] 52 <|
       .ite (.s 52)
        (.ret [.k (.bool false)])
        (.nil) <|
       .op (.bin .add) [.s 42,.k (.int .i64 1)] 53 <|
       .set 54 (.s 53) <|
       .set 42 (.s 54) <|
       .nil) <|
      .op .load [.q 2 7] 55 <|
      .op .load [.q 3 4] 56 <|
      .op (.call I.unknown) [.s 55,.s 56] 57 <|
      .op .len [.s 57] 58 <|
      .op (.bin .eql) [.s 58,.k (.int .i64 0)] 59 <|
      .ret [.s 59])
      (.nil) <|
     .nil) <|
    .nil) <|
   .nil) <|
  .nil) <|
 usTail I fS,[.direct]⟩
section
variable {P:Program}
theorem same_any (hn:Named P) {f:FuncId} (hf:fnP P f 2=some p_same) {ok:Nat→Prop} {w:World} {a b:Value} {ax bs:Bs} {K:Value→World→Prop} (ha:Sl ok w a ax) (hb:Sl ok w b bs) (hab:ax.length=bs.length) (hl:bs.length≤140737488355328) (hk:∀ r w',Keep [] w w'→K (.bool r) w'):In.wp P (.call f) [a,b] w K:=by
 refine calls_of_np hn (vs:=[a,b]) hf fun η hη => ?_
 have h0:η 0=a:=hη 0 (by simp)
 have h1:η 1=b:=hη 1 (by simp)
 obtain ⟨a0,c0,e0,_⟩:=sl_slice ha
 obtain ⟨a1,c1,e1,_⟩:=sl_slice hb
 rw [hab] at e0
 refine np_op (vs:=[.slice a0 bs.length c0]) (by simp [SV.val,h0,e0]) ⟨_,_,_,rfl,?_⟩
 refine np_op (vs:=[.slice a1 bs.length c1]) (by simp [SV.val,upd,h1,e1]) ⟨_,_,_,rfl,?_⟩
 refine np_op (vs:=[.int .i64 (bs.length:Int),.int .i64 (bs.length:Int)]) (by simp [SV.val,upd,goInt]) ⟨.i64,bs.length,bs.length,.bool false,rfl,by simp [binV],?_⟩
 refine np_ite false (by simp [SV.val,upd]) ?_
 simp only [Bool.false_eq_true,if_false]
 refine np_op (vs:=[.slice a0 bs.length c0]) (by simp [SV.val,upd,h0,e0]) ⟨_,_,_,rfl,?_⟩
 show ∃ n,roundsP _ _ n _ w
 refine ⟨bs.length+1,?_⟩
 have key:∀ m i (η:Nat→Value) (w1:World),bs.length - i=m→i≤bs.length→η 0=a→η 1=b→η 5 = .int .i64 (bs.length:Int)→η 7 = .int .i64 (i:Int)→Keep [] w w1 →
   roundsP (sameBody.wp P) (fun o η w=>match o with | .ext=>(NP.ret [.k (.bool true)]).wp P (postP [.direct] K) η w | o=>postP [.direct] K o η w) (m+1) η w1:=by
  intro m
  induction m with
  | zero=>
   intro i η w1 hm hi e0' e1' e5 e7 kw
   have hin:i=bs.length:=by omega
   subst hin
   show NP.wp P sameBody _ η w1
   refine np_op (vs:=[.int .i64 (bs.length:Int),.int .i64 (bs.length:Int)]) (by simp [SV.val,e5,e7]) ⟨.i64,bs.length,bs.length,.bool false,rfl,by simp [binV],?_⟩
   refine np_ite false (by simp [SV.val,upd]) ?_
   simp only [Bool.false_eq_true,if_false]
   show K (pack _) w1
   simpa [pack,SV.val] using hk true w1 kw
  | succ m ih=>
   intro i η w1 hm hi e0' e1' e5 e7 kw
   have hin:i<bs.length:=by omega
   have hia:i<ax.length:=by omega
   show NP.wp P sameBody _ η w1
   refine np_op (vs:=[.int .i64 (i:Int),.int .i64 (bs.length:Int)]) (by simp [SV.val,e5,e7]) ⟨.i64,i,bs.length,.bool true,rfl,by simp [binV,hin],?_⟩
   refine np_ite true (by simp [SV.val,upd]) ?_
   simp only [if_true]
   have kd:Keep [] w1 { w1 with drawn:=w1.drawn+1 }:=⟨rfl,rfl,rfl,Nat.le_refl _,fun _ _ _=>rfl⟩
   have kw2:=kw.then kd
   have hne:bs≠[]:=fun h=>by rw [h] at hin;simp at hin
   have hnea:ax≠[]:=fun h=>by rw [h] at hia;simp at hia
   obtain ⟨x,cx,ex,_,bx⟩:=sl_some (ha.same (kw2.same fun x hx=>by cases hx)) hnea
   obtain ⟨y,cy,ey,_,by'⟩:=sl_some (hb.same (kw2.same fun x hx=>by cases hx)) hne
   rw [hab] at ex
   show NP.wp P (.look (.ia 1) [.s 0,.s 7] 9 _) _ _ { w1 with drawn:=w1.drawn+1 }
   refine np_look (vs:=[.slice (some x) bs.length cx,.int .i64 (i:Int)]) (by simp [SV.val,upd,e0',e7,ex]) ⟨x,_,cx,.i64,i,rfl,hin,rfl,?_⟩
   refine ⟨⟨_,by simp only [upd];rfl⟩,?_⟩
   refine np_look (vs:=[.pointer (some (x.add i))]) (by simp [SV.val,upd,Addr.add]) ⟨x.add i,_,rfl,by simpa using bx.2.2 i hia,rfl,?_⟩
   refine np_look (vs:=[.slice (some y) bs.length cy,.int .i64 (i:Int)]) (by simp [SV.val,upd,e1',e7,ey]) ⟨y,_,cy,.i64,i,rfl,hin,rfl,?_⟩
   refine ⟨⟨_,by simp only [upd];rfl⟩,?_⟩
   refine np_look (vs:=[.pointer (some (y.add i))]) (by simp [SV.val,upd,Addr.add]) ⟨y.add i,_,rfl,by simpa using by'.2.2 i hin,rfl,?_⟩
   refine np_look (vs:=[u8 ax[i],u8 bs[i]]) (by simp [SV.val,upd]) ⟨.u8,(ax[i].toNat:Int),(bs[i].toNat:Int),.bool ((ax[i].toNat:Int) != (bs[i].toNat:Int)),rfl,rfl,rfl,?_⟩
   refine np_ite ((ax[i].toNat:Int) != (bs[i].toNat:Int)) (by simp [SV.val,upd]) ?_
   by_cases hne2:((ax[i].toNat:Int) != (bs[i].toNat:Int))=true
   ·rw [hne2]
    simp only [if_true]
    show K (pack _) _
    simpa [pack,SV.val] using hk false _ kw2
   ·have hf2:((ax[i].toNat:Int) != (bs[i].toNat:Int))=false:=by simpa using hne2
    rw [hf2]
    simp only [Bool.false_eq_true,if_false]
    refine np_op (vs:=[.int .i64 (i:Int),.int .i64 1]) (by simp [SV.val,upd,e7]) ⟨.i64,i,1,_,rfl,rfl,?_⟩
    rw [wrap64 _ (by omega) (by omega)]
    show roundsP _ _ _ _ _
    refine ih (i+1) _ _ (by omega) (by omega) (by simp [upd,e0']) (by simp [upd,e1']) (by simp [upd,e5]) (by simp [upd,SV.val]) kw2
 exact key bs.length 0 _ w (by omega) (Nat.zero_le _) (by simp [upd,h0]) (by simp [upd,h1]) (by simp [upd,goInt]) (by simp [upd,SV.val]) (Keep.refl _ _)
theorem usUu_ok {w:World} {v:Value} {s:Bs} {Q:Post} (hs:SlE (fun _=>True) w v s) (hl:s.length<9223372036854775808) {η:Nat→Value} (h11:η 11=v) (h12:η 12=i64 (s.length:Int)) (h14:η 14=i64 0)
  (hf:∀ η',Q (.ret [.bool false]) η' w) (ht:∀ η',Q .ext η' w):∃ n,roundsP (usUu.wp P) Q n η w:=by
 have key:∀ (m i:Nat) (η1:Nat→Value),s.length - i=m→i≤s.length→η1 11=v→η1 12=i64 (s.length:Int)→η1 14=i64 (i:Int)→roundsP (usUu.wp P) Q (m+1) η1 w:=by
  intro m
  induction m with
  | zero=>
   intro i η1 hm hi e11 e12 e14
   have hie:i=s.length:=by omega
   subst hie
   show NP.wp P usUu _ η1 w
   refine np_op (vs:=[i64 (s.length:Int),i64 (s.length:Int)]) (by simp [SV.val,e12,e14]) ⟨.i64,_,_,.bool false,rfl,by simp [binV],?_⟩
   refine np_F (by simp [SV.val,upd]) ?_
   exact ht _
  | succ m ih=>
   intro i η1 hm hi e11 e12 e14
   have hlt:i<s.length:=by omega
   have hne:s≠[]:=fun h=>by rw [h] at hlt;simp at hlt
   obtain ⟨x,cx,ex,bx⟩:∃ x c,v = .slice (some x) s.length c∧BytesIn (fun _=>True) w x s:=by
    rcases hs with h | ⟨h,_⟩
    ·obtain ⟨x,c,h1,_,h3⟩:=sl_some h hne
     exact ⟨x,c,h1,h3⟩
    ·exact (hne h).elim
   have fin:∀ (η2:Nat→Value),η2 11=v→η2 12=i64 (s.length:Int)→η2 14=i64 (i:Int)→NP.wp P (.op (.bin .add) [.s 14,.k (.int .i64 1)] 23 <| .set 24 (.s 23) <| .set 14 (.s 24) <| .nil) (fun o η w=>match o with | .nrm=>roundsP (usUu.wp P) Q (m+1) η w | o=>Q o η w) η2 w:=by
    intro η2 a11 a12 a14
    refine np_op (vs:=[i64 (i:Int),i64 1]) (by simp [SV.val,a14]) ⟨.i64,_,1,_,rfl,rfl,?_⟩
    rw [show ((i:Int)+1)=((i+1:Nat):Int) by omega,wrap64 _ (by omega) (by omega)]
    show roundsP _ _ _ _ _
    exact ih (i+1) _ (by omega) (by omega) (by simp [upd,a11]) (by simp [upd,a12]) (by simp [upd,SV.val])
   show NP.wp P usUu _ η1 w
   refine np_op (vs:=[i64 (i:Int),i64 (s.length:Int)]) (by simp [SV.val,e12,e14]) ⟨.i64,_,_,.bool true,rfl,by simp [binV];omega,?_⟩
   refine np_T (by simp [SV.val,upd]) ?_
   refine np_op (vs:=[.slice (some x) s.length cx,i64 (i:Int)]) (by simp [SV.val,upd,e11,e14,ex]) ⟨x,_,cx,.i64,i,rfl,hlt,?_⟩
   refine ⟨⟨_,by simp only [upd];rfl⟩,?_⟩
   refine np_op (vs:=[.pointer (some (x.add i))]) (by simp [SV.val,upd,Addr.add]) ⟨x.add i,_,rfl,by simpa using bx.2.2 i hlt,?_⟩
   refine np_op (vs:=[i64 (i:Int),i64 16]) (by simp [SV.val,upd,e14]) ⟨.i64,i,16,.bool (decide ((i:Int)<16)),rfl,rfl,?_⟩
   by_cases h16:(i:Int)<16
   ·refine np_T (by simp [SV.val,upd,h16]) ?_
    refine np_T (by simp [SV.val,upd,h16]) ?_
    refine np_op (vs:=[u8 s[i],.int .u8 0]) (by simp [SV.val,upd]) ⟨.u8,(s[i].toNat:Int),0,.bool ((s[i].toNat:Int) != 0),rfl,rfl,?_⟩
    refine np_T (by simp [SV.val,upd,h16]) ?_
    by_cases hz:((s[i].toNat:Int) != 0)=true
    ·refine np_T (by simp only [SV.val,upd];simpa using hz) ?_
     exact hf _
    ·refine np_F (by simp only [SV.val,upd];simpa using hz) ?_
     exact fin _ (by simp [upd,e11]) (by simp [upd,e12]) (by simp [upd,e14])
   ·refine np_F (by simp [SV.val,upd];omega) ?_
    refine np_F (by simp [SV.val,upd];omega) ?_
    refine np_F (by simp [SV.val,upd];omega) ?_
    refine np_F (by simp [SV.val,upd]) ?_
    exact fin _ (by simp [upd,e11]) (by simp [upd,e12]) (by simp [upd,e14])
 exact ⟨_,key s.length 0 η (by omega) (Nat.zero_le _) h11 h12 h14⟩
def usKind (kind:Int):Bool:=kind == 0 || kind == 1 || kind == 2 || kind == 3 || kind == 4 || kind == 5 || kind == 7 || kind == 11
theorem usual_ok {I:SI} (F:Fns P I) {fU fS:FuncId} (hU:fnP P fU 2=some (q_usual I fS)) (hS:fnP P fS 2=some p_same) {w:World} {kind frm to nul tag df of:Int} {vF:Value} {al:Option Addr} {nn cc:Nat} (hvF:vF = .slice al nn cc) {cs:List Value} {t:Tr} (ht:RepTr w cs t) (hkd:usKind kind=true) {K:Value→World→Prop} (hk:∀ r w',Keep [] w w'→K (.bool r) w') :
  In.wp P (.call fU) [.agg (fcells kind frm to nul tag df of vF).toArray,.agg cs.toArray] w K:=by
 refine calls_of_np F.named (vs:=[.agg (fcells kind frm to nul tag df of vF).toArray,.agg cs.toArray]) hU fun η hη => ?_
 have h0:η 0 = .agg (fcells kind frm to nul tag df of vF).toArray:=hη 0 (by simp)
 have h1:η 1 = .agg cs.toArray:=hη 1 (by simp)
 obtain ⟨n,vs,z,al5,c5,vu,hcs,hn,hz,hs,hu,_⟩:=rep_l ht
 have hcl:cs.length=5:=by rw [hcs];rfl
 refine np_op (vs:=[.agg (fcells kind frm to nul tag df of vF).toArray]) (by simp [SV.val,h0]) (wp_box rfl fun b2 w1 r2 hb2 k1 => ?_)
 refine ⟨⟨_,by simp only [upd];rfl⟩,?_⟩
 refine np_op (vs:=[.agg cs.toArray]) (by simp [SV.val,upd,h1]) (wp_box hcl fun b3 w2 r3 hb3 k2 => ?_)
 refine ⟨⟨_,by simp only [upd];rfl⟩,?_⟩
 have r2':=r2.keep k2 (by simp)
 have k12:=k1.then k2
 rw [hcs] at r3
 refine np_op (vs:=[ptrO b2 0]) (by simp [SV.val,upd,Addr.add]) (wp_load r2' rfl ?_)
 refine np_eq (a:=kind) (by simp [SV.val,upd]) ?_
 by_cases e0:kind=0
 ·refine np_T (by simp [SV.val,upd,e0]) ?_
  refine np_op (vs:=[ptrO b3 0]) (by simp [SV.val,upd,Addr.add]) (wp_load r3 rfl ?_)
  refine np_op (vs:=[i64 n,i64 1]) (by simp [SV.val,upd]) ⟨.i64,n,1,_,rfl,rfl,?_⟩
  refine np_op (vs:=[ptrO b2 5]) (by simp [SV.val,upd,Addr.add]) (wp_load r2' rfl ?_)
  refine np_op (vs:=[.int .i64 _,i64 df]) (by simp [SV.val,upd];rfl) ⟨.i64,_,df,_,rfl,rfl,?_⟩
  show K (pack _) w2
  simpa [pack,SV.val,upd] using hk _ w2 k12
 refine np_F (by simp [SV.val,upd,e0]) ?_
 refine np_eq (a:=kind) (by simp [SV.val,upd]) ?_
 by_cases e7:kind=7
 ·refine np_T (by simp [SV.val,upd,e7]) ?_
  refine np_op (vs:=[ptrO b3 1]) (by simp [SV.val,upd,Addr.add]) (wp_load r3 rfl ?_)
  obtain ⟨a0,c0,ev⟩:=hs.slice
  refine np_op (vs:=[.slice a0 t.s.length c0]) (by simp [SV.val,upd,ev]) ⟨_,_,_,rfl,?_⟩
  have hs2:SlE (fun _=>True) w2 vs t.s:=slE_keep hs k12
  refine usUu_ok hs2 ht.slen (by simp [upd]) (by simp [upd,goInt]) (by simp [upd,SV.val]) (fun η' => ?_) fun η' => ?_
  ·show K (pack _) w2
   simpa [pack,SV.val] using hk false w2 k12
  ·show K (pack _) w2
   simpa [pack,SV.val] using hk true w2 k12
 refine np_F (by simp [SV.val,upd,e7]) ?_
 refine np_eq (a:=kind) (by simp [SV.val,upd]) ?_
 have e8:kind≠8:=fun h=>by subst h;simp [usKind] at hkd
 have e9:kind≠9:=fun h=>by subst h;simp [usKind] at hkd
 have e10:kind≠10:=fun h=>by subst h;simp [usKind] at hkd
 refine np_F (by simp [SV.val,upd,e8]) ?_
 refine np_eq (a:=kind) (by simp [SV.val,upd]) ?_
 show NP.wp P (.ite (.s 27) _ _ _) _ _ w2
 refine np_F (by simp [SV.val,upd,e9]) ?_
 refine np_eq (a:=kind) (by simp [SV.val,upd]) ?_
 by_cases e11:kind=11
 ·refine np_T (by simp [SV.val,upd,e11]) ?_
  refine np_op (vs:=[ptrO b3 3]) (by simp [SV.val,upd,Addr.add]) (wp_load r3 rfl ?_)
  refine np_op (vs:=[.slice al5 t.l.length c5]) (by simp [SV.val,upd]) ⟨_,_,_,rfl,?_⟩
  refine np_op (vs:=[i64 (t.l.length:Int),i64 0]) (by simp [SV.val,upd,goInt]) ⟨.i64,_,0,_,rfl,rfl,?_⟩
  show K (pack _) w2
  simpa [pack,SV.val,upd] using hk _ w2 k12
 refine np_F (by simp [SV.val,upd,e11]) ?_
 refine np_eq (a:=kind) (by simp [SV.val,upd]) ?_
 refine np_F (by simp [SV.val,upd,e10]) ?_
 show NP.wp P (usTail I fS) _ _ w2
 have hwd:widthB kind≤8:=by unfold widthB;repeat (first | split | omega)
 refine np_draw ?_
 have kd:=keep_drawn w2
 have ra:=r2'.keep kd (by simp)
 have rb:=r3.keep kd (by simp)
 refine np_look (vs:=[ptrO b3 0]) (by simp [SV.val,upd,Addr.add]) (wp_load rb rfl ⟨rfl,?_⟩)
 refine np_look (vs:=[ptrO b2 0]) (by simp [SV.val,upd,Addr.add]) (wp_load ra rfl ⟨rfl,?_⟩)
 refine np_look (vs:=[ptrO b2 5]) (by simp [SV.val,upd,Addr.add]) (wp_load ra rfl ⟨rfl,?_⟩)
 refine np_look (vs:=[ptrO b2 0]) (by simp [SV.val,upd,Addr.add]) (wp_load ra rfl ⟨rfl,?_⟩)
 refine np_op (vs:=[i64 kind]) (by simp [SV.val,upd]) (width_ok F.named F.width ?_)
 refine np_keep (vs:=[ptrO b2 0]) (by simp [SV.val,upd,Addr.add]) (wp_load ra rfl ⟨by simp [upd],rfl⟩) ?_
 refine np_keep (vs:=[ptrO b2 5]) (by simp [SV.val,upd,Addr.add]) (wp_load ra rfl ⟨by simp [upd],rfl⟩) ?_
 refine np_keep (vs:=[ptrO b2 0]) (by simp [SV.val,upd,Addr.add]) (wp_load ra rfl ⟨by simp [upd],rfl⟩) ?_
 refine np_keep (vs:=[ptrO b3 0]) (by simp [SV.val,upd,Addr.add]) (wp_load rb rfl ⟨by simp [upd],rfl⟩) ?_
 refine np_op (vs:=[i64 n,i64 (widthB kind:Int)]) (by simp [SV.val,upd]) (fixed_ok F.named F.fixed hwd fun d3 w3 o3 k3 => ?_)
 have ra3:=ra.keep k3 (by simp)
 have rb3:=rb.keep k3 (by simp)
 refine np_keep (vs:=[ptrO b2 0]) (by simp [SV.val,upd,Addr.add]) (wp_load ra3 rfl ⟨by simp [upd],rfl⟩) ?_
 refine np_keep (vs:=[ptrO b2 5]) (by simp [SV.val,upd,Addr.add]) (wp_load ra3 rfl ⟨by simp [upd],rfl⟩) ?_
 refine np_keep (vs:=[ptrO b2 0]) (by simp [SV.val,upd,Addr.add]) (wp_load ra3 rfl ⟨by simp [upd],rfl⟩) ?_
 refine np_keep (vs:=[ptrO b3 0]) (by simp [SV.val,upd,Addr.add]) (wp_load rb3 rfl ⟨by simp [upd],rfl⟩) ?_
 refine np_op (vs:=[i64 kind]) (by simp [SV.val,upd]) (width_ok F.named F.width ?_)
 refine np_keep (vs:=[ptrO b2 0]) (by simp [SV.val,upd,Addr.add]) (wp_load ra3 rfl ⟨by simp [upd],rfl⟩) ?_
 refine np_keep (vs:=[ptrO b2 5]) (by simp [SV.val,upd,Addr.add]) (wp_load ra3 rfl ⟨by simp [upd],rfl⟩) ?_
 refine np_keep (vs:=[ptrO b2 0]) (by simp [SV.val,upd,Addr.add]) (wp_load ra3 rfl ⟨by simp [upd],rfl⟩) ?_
 refine np_keep (vs:=[ptrO b3 0]) (by simp [SV.val,upd,Addr.add]) (wp_load rb3 rfl ⟨by simp [upd],rfl⟩) ?_
 refine np_op (vs:=[i64 df,i64 (widthB kind:Int)]) (by simp [SV.val,upd]) (fixed_ok F.named F.fixed hwd fun d4 w4 o4 k4 => ?_)
 have ra4:=ra3.keep k4 (by simp)
 have rb4:=rb3.keep k4 (by simp)
 refine np_keep (vs:=[ptrO b2 0]) (by simp [SV.val,upd,Addr.add]) (wp_load ra4 rfl ⟨by simp [upd],rfl⟩) ?_
 refine np_keep (vs:=[ptrO b2 5]) (by simp [SV.val,upd,Addr.add]) (wp_load ra4 rfl ⟨by simp [upd],rfl⟩) ?_
 refine np_keep (vs:=[ptrO b2 0]) (by simp [SV.val,upd,Addr.add]) (wp_load ra4 rfl ⟨by simp [upd],rfl⟩) ?_
 refine np_keep (vs:=[ptrO b3 0]) (by simp [SV.val,upd,Addr.add]) (wp_load rb4 rfl ⟨by simp [upd],rfl⟩) ?_
 have s3:Sl (fun _=>True) w4 d3 (wrI (widthB kind) n):=((own_sl o3).weak fun _ _ _=>trivial).same (k4.same fun x hx=>by cases hx)
 have s4:Sl (fun _=>True) w4 d4 (wrI (widthB kind) df):=(own_sl o4).weak fun _ _ _=>trivial
 refine np_op (vs:=[d3,d4]) (by simp [SV.val,upd]) (same_any F.named hS s3 s4 (by rw [wrI_length,wrI_length]) (by rw [wrI_length];omega) fun r w5 k5 => ?_)
 have ra5:=ra4.keep k5 (by simp)
 have rb5:=rb4.keep k5 (by simp)
 refine np_keep (vs:=[ptrO b2 0]) (by simp [SV.val,upd,Addr.add]) (wp_load ra5 rfl ⟨by simp [upd],rfl⟩) ?_
 refine np_keep (vs:=[ptrO b2 5]) (by simp [SV.val,upd,Addr.add]) (wp_load ra5 rfl ⟨by simp [upd],rfl⟩) ?_
 refine np_keep (vs:=[ptrO b2 0]) (by simp [SV.val,upd,Addr.add]) (wp_load ra5 rfl ⟨by simp [upd],rfl⟩) ?_
 refine np_keep (vs:=[ptrO b3 0]) (by simp [SV.val,upd,Addr.add]) (wp_load rb5 rfl ⟨by simp [upd],rfl⟩) ?_
 show K (pack _) w5
 simpa [pack,SV.val,upd] using hk r w5 ((((k12.then kd).then k3).then k4).then k5)
end
end Go.Sp
namespace Go.Sp
open Go.Lx Go.Nx Go.Km Go.Mx Go.Kb Go.Mr
set_option linter.unusedSimpArgs false
set_option linter.unusedVariables false
def tagF (ver:Int) (T:Nat):Fl→Tr→Nat→Tg
 | .nil,_,_=>[]
 | .cons kind frm to nul tag _ of sub r,t,i=>(if tag=(T:Int) then [(T,fieldB kind nul of (partB ver true sub) ver true (t.at i))] else [])++tagF ver T r t (i+1)
def allT (ver:Int) (fl:Fl) (t:Tr):Nat→Nat→Tg
 | 0,_=>[]
 | m+1,T=>tagF ver T fl t 0++allT ver fl t m (T+1)
def usT:Fl→Bool
 | .nil=>true
 | .cons kind _ _ _ tag _ _ _ r=>(decide (tag<0) || usKind kind) && usT r
theorem wrTagL_sub {s A:Tg} (h:s.Sublist A):(wrTagL s).length≤(wrTagL A).length:=by
 induction h with
 | slnil=>exact Nat.le_refl _
 | cons a _ ih=>simp only [wrTagL,List.map_cons,List.flatten_cons,List.length_append] at ih ⊢;omega
 | cons_cons a _ ih=>simp only [wrTagL,List.map_cons,List.flatten_cons,List.length_append] at ih ⊢;omega
def tinBody (I:SI):NP:=match tagBody I with
 | .op _ _ _ (.ite _ _ _ (.op _ _ _ (.set _ _ (.set _ _ (.set _ _ (.loop b _))))))=>b
 | p=>p
section
variable {P:Program}
theorem gr_same {ok:Nat→Prop} {w w':World} {d d':Value} (g:Gr w d w' d') (h:∀ k,ok k→d.ownBlock≠some k):Same ok w w':=⟨g.1.size,fun k hk hok=>g.1.block k hk fun e=>h k hok e.symm⟩
theorem tin_ok {I:SI} (F:Fns P I) {fS:FuncId} (hU:fnP P I.usual 2=some (q_usual I fS)) (hS:fnP P fS 2=some p_same) {fl:Fl} (hsub:SubsOk P I fl) (hus:usT fl=true) (hlen:fl.len≤32767) {w0 wT w:World} {al:Option Addr} {c b4 T:Nat} {cs:List Value} {t:Tr} {ver:Int} {A R l0:Tg} {dt:Value}
  (hT:T<1000) (hF:RepF0 w0 al 0 fl) (ht:RepTr w0 cs t) (hw0:w0.heap.size≤wT.heap.size) (k0:Keep [] w0 w) (kT:RowKit.Below wT.heap.size wT w) (hb4:b4<wT.heap.size) (hr4:Row w b4 cs) {η:Nat→Value} (h0:η 0 = .slice al fl.len c) (h1:η 1=i64 ver) (h2:η 2 = .bool true) (h4:η 4=ptr b4) (h35:η 35=i64 (T:Int)) (h37:η 37=i64 (fl.len:Int)) (h38:η 38=dt) (h39:η 39=i64 (l0.length:Int)) (h40:η 40=i64 0)
  (ho:Own w wT.heap.size I.e8 dt (wrTagL l0)) (hA0:∀ s,s.Sublist (tagF ver T fl t 0++R)→(l0++s).Sublist A) (hAl:(wrTagL A).length≤lim) (hAn:A.length≤65536) (hAz:∀ p∈A,p.2.length<4294967296)
  (hsz:∀ p∈tagF ver T fl t 0,p.2.length<4294967296) {Q:Post}
  (hR:∀ η' w' d l,(∀ n,n<37→η' n=η n)→η' 38=d→η' 39=i64 (l.length:Int)→Own w' wT.heap.size I.e8 d (wrTagL l)→Keep [] w0 w'→RowKit.Below wT.heap.size wT w'→Row w' b4 cs→(∀ s,s.Sublist R→(l++s).Sublist A)→Q .ext η' w'):∃ n,roundsP ((tinBody I).wp P) Q n η w:=by
 have hcl:cs.length=5:=by obtain ⟨_,_,_,_,_,e⟩:=ht.cells;rw [e];rfl
 have key:∀ (g:Fl) (i:Nat) (η1:Nat→Value) (w1:World) (d:Value) (l:Tg),i+g.len=fl.len→SubsOk P I g→usT g=true→RepF0 w0 al i g→(∀ n,n<38→η1 n=η n)→η1 38=d→η1 39=i64 (l.length:Int)→η1 40=i64 (i:Int)→Own w1 wT.heap.size I.e8 d (wrTagL l)→Keep [] w0 w1→RowKit.Below wT.heap.size wT w1→Row w1 b4 cs →
   (∀ s,s.Sublist (tagF ver T g t i++R)→(l++s).Sublist A)→(∀ p∈tagF ver T g t i,p.2.length<4294967296)→roundsP ((tinBody I).wp P) Q (g.len+1) η1 w1:=by
  intro g
  induction g with
  | nil=>
   intro i η1 w1 d l hi _ _ _ hag e38 e39 e40 ho kw kT1 hr hA hz
   have hie:i=fl.len:=by simpa [Fl.len] using hi
   subst hie
   show NP.wp P (tinBody I) _ η1 w1
   refine np_op (vs:=[i64 (fl.len:Int),i64 (fl.len:Int)]) (by simp [SV.val,e40,hag 37 (by omega),h37]) ⟨.i64,_,_,.bool false,rfl,by simp [binV],?_⟩
   refine np_F (by simp [SV.val,upd]) ?_
   refine hR _ w1 d l (fun n hn => ?_) (by simp [upd,e38]) (by simp [upd,e39]) ho kw kT1 hr (fun s hs=>hA s (by simpa [tagF] using hs))
   simp only [upd]
   repeat rw [if_neg (by omega)]
   exact hag n (by omega)
  | cons kind frm to nul tag df of sub r _ ih=>
   intro i η1 w1 d l hi hsb hug hrep hag e38 e39 e40 ho kw kT1 hr hA hz
   simp only [Fl.len] at hi
   simp only [usT,Bool.and_eq_true] at hug
   have hlt:i<fl.len:=by omega
   obtain ⟨b,o,hal⟩:∃ b o,al=some ⟨b,o,none⟩:=by
    match al,hrep with
    | some ⟨b,o,none⟩,_=>exact ⟨b,o,rfl⟩
   have hrep':=hrep
   rw [hal] at hrep'
   obtain ⟨⟨vF,h10,al',c',hv',h12,h13⟩,h14⟩:=hrep'
   rw [← hal] at h14
   subst hv'
   have hFs:RepFl w0 (.slice al' sub.len c') sub:=⟨al',c',rfl,h12,h13⟩
   have e0:η1 0 = .slice (some ⟨b,o,none⟩) fl.len c:=by rw [hag 0 (by omega),h0,hal]
   have e35:η1 35=i64 (T:Int):=by rw [hag 35 (by omega),h35]
   have e4:η1 4=ptr b4:=by rw [hag 4 (by omega),h4]
   have hll:l.length≤65536:=by
    have:=(hA [] (List.nil_sublist _)).length_le
    simp only [List.append_nil] at this;omega
   have fin:∀ (η2:Nat→Value) (w2:World) (d2:Value) (l2:Tg),(∀ n,n<41→η2 n=η1 n)→η2 74=d2→η2 75=i64 (l2.length:Int)→Own w2 wT.heap.size I.e8 d2 (wrTagL l2)→Keep [] w0 w2→RowKit.Below wT.heap.size wT w2→Row w2 b4 cs→(∀ s,s.Sublist (tagF ver T r t (i+1)++R)→(l2++s).Sublist A) →
     NP.wp P (.op (.bin .add) [.s 40,.k (.int .i64 1)] 76 <| .set 77 (.s 74) <| .set 78 (.s 75) <| .set 79 (.s 76) <| .set 38 (.s 77) <| .set 39 (.s 78) <| .set 40 (.s 79) <| .nil) (fun o η w=>match o with | .nrm=>roundsP ((tinBody I).wp P) Q (r.len+1) η w | o=>Q o η w) η2 w2:=by
    intro η2 w2 d2 l2 hag2 e74 e75 ho2 kw2 kT2 hr2 hA2
    refine np_op (vs:=[i64 (i:Int),i64 1]) (by simp [SV.val,hag2 40 (by omega),e40]) ⟨.i64,_,1,_,rfl,rfl,?_⟩
    rw [show ((i:Int)+1)=((i+1:Nat):Int) by omega,wrap64 _ (by omega) (by omega)]
    show roundsP _ _ _ _ _
    refine ih (i+1) _ w2 d2 l2 (by omega) hsb.2 hug.2 h14 (fun n hn => ?_) (by simp [upd,SV.val,e74]) (by simp [upd,SV.val,e75]) (by simp [upd,SV.val]) ho2 kw2 kT2 hr2 hA2 (fun p hp=>hz p (by simp only [tagF];exact List.mem_append_right _ hp))
    simp only [upd]
    repeat rw [if_neg (by omega)]
    rw [hag2 n (by omega)];exact hag n hn
   show NP.wp P (tinBody I) _ η1 w1
   refine np_op (vs:=[i64 (i:Int),i64 (fl.len:Int)]) (by simp [SV.val,e40,hag 37 (by omega),h37]) ⟨.i64,_,_,.bool true,rfl,by simp [binV];omega,?_⟩
   refine np_T (by simp [SV.val,upd]) ?_
   refine np_op (vs:=[.slice (some ⟨b,o,none⟩) fl.len c,i64 (i:Int)]) (by simp [SV.val,upd,e0,e40]) (wp_ia hlt ?_)
   refine ⟨⟨_,by simp only [upd];rfl⟩,?_⟩
   refine np_op (vs:=[ptrO b (o+8*i)]) (by simp [SV.val,upd,Addr.add]) (wp_lds (range_keep h10 kw) rfl ?_)
   refine np_local (sz:=8) (cs:=fcells kind frm to nul tag df of (.slice al' sub.len c')) rfl rfl fcells_one (by simp [upd]) (by omega) fun b44 w2 r2 hb2 k2 => ?_
   have kw2:=kw.then k2
   have kT2:RowKit.Below wT.heap.size wT w2:=kT1.trans (k2.below (fun x hx=>by cases hx) kT1.size)
   have hr2:=hr.keep k2 (by simp)
   have ho2:Own w2 wT.heap.size I.e8 d (wrTagL l):=ho.keep k2 (fun _ _ h=>by cases h)
   have hne44:∀ x,d.ownBlock=some x→x≠b44:=fun x hx=>by have:=(own_own ho x hx).2;omega
   refine np_draw ?_
   have kd:=keep_drawn w2
   have r2d:=r2.keep kd (by simp)
   have hr2d:=hr2.keep kd (by simp)
   have kw2d:=kw2.then kd
   have kT2d:RowKit.Below wT.heap.size wT { w2 with drawn:=w2.drawn+1 }:=kT2.trans (kd.below (fun x hx=>by cases hx) kT2.size)
   refine np_look (vs:=[ptrO b44 4]) (by simp [SV.val,upd,Addr.add]) (wp_load r2d rfl ⟨rfl,?_⟩)
   refine np_look (vs:=[i64 tag,i64 (T:Int)]) (by simp [SV.val,upd,e35]) ⟨.i64,tag,(T:Int),.bool (tag == (T:Int)),rfl,rfl,rfl,?_⟩
   have r8:∀ {w:World},Row w b44 (fcells kind frm to nul tag df of (.slice al' sub.len c'))→w.rangeAt b44 0 (fcells kind frm to nul tag df of (.slice al' sub.len c')):=fun h=>h.range 0 8
   have r4r:∀ {w:World},Row w b4 cs→w.rangeAt b4 0 cs:=fun h=>by have h:=h.range 0 5;rw [List.drop_zero,List.take_of_length_le (by omega)] at h;exact h
   by_cases hTag:tag=(T:Int)
   rotate_left
   ·have hbe:(tag == (T:Int))=false:=by simpa using hTag
    have htf:tagF ver T (.cons kind frm to nul tag df of sub r) t i=tagF ver T r t (i+1):=by simp only [tagF,if_neg hTag,List.nil_append]
    rw [htf] at hA
    refine np_F (by simp [SV.val,upd,hTag]) ?_
    refine np_keep (vs:=[i64 tag,i64 (T:Int)]) (by simp [SV.val,upd,e35,fcells]) ⟨.i64,tag,(T:Int),.bool (tag == (T:Int)),rfl,rfl,by simp [upd],rfl⟩ ?_
    refine np_keep (vs:=[ptrO b44 4]) (by simp [SV.val,upd,Addr.add]) (wp_load r2d rfl ⟨by simp [upd],rfl⟩) ?_
    refine np_keep (vs:=[i64 tag,i64 (T:Int)]) (by simp [SV.val,upd,e35,fcells]) ⟨.i64,tag,(T:Int),.bool (tag == (T:Int)),rfl,rfl,by simp [upd],rfl⟩ ?_
    refine np_keep (vs:=[ptrO b44 4]) (by simp [SV.val,upd,Addr.add]) (wp_load r2d rfl ⟨by simp [upd],rfl⟩) ?_
    show NP.wp P (.ite (.s 60) _ _ _) _ _ _
    refine np_F (by simp [SV.val,upd]) ?_
    show NP.wp P (.op (.bin .add) [.s 40,.k (.int .i64 1)] 76 _) _ _ _
    refine fin _ _ d l (fun n hn => ?_) (by simp [upd,SV.val,e38]) (by simp [upd,SV.val,e39]) (ho2.keep kd (fun _ _ h=>by cases h)) kw2d kT2d hr2d hA
    simp only [upd]
    repeat rw [if_neg (by omega)]
   subst hTag
   have huk:usKind kind=true:=by
    rcases Bool.or_eq_true_iff.1 hug.1 with h | h
    ·simp at h;omega
    ·exact h
   have htf:tagF ver T (.cons kind frm to nul (T:Int) df of sub r) t i=(T,fieldB kind nul of (partB ver true sub) ver true (t.at i))::tagF ver T r t (i+1):=by simp [tagF]
   rw [htf] at hA
   have hbz:(fieldB kind nul of (partB ver true sub) ver true (t.at i)).length<4294967296:=hz (T,fieldB kind nul of (partB ver true sub) ver true (t.at i)) (by rw [htf];exact List.mem_cons_self)
   refine np_T (by simp [SV.val,upd,fcells]) ?_
   refine np_look (vs:=[ptrO b44 0]) (by simp [SV.val,upd,Addr.add]) (wp_lds (r8 r2d) rfl ⟨rfl,?_⟩)
   refine np_look (vs:=[ptrO b4 0]) (by simp [SV.val,upd,e4,Addr.add]) (wp_lds (r4r hr2d) hcl ⟨rfl,?_⟩)
   refine np_op (vs:=[.agg cs.toArray,i64 (i:Int)]) (by simp [SV.val,upd,e40]) (at_ok F.named F.at' (ht.keep kw2d) fun cs4 w4 k4 ht4 => ?_)
   have r4:=r2d.keep k4 (by simp)
   have hr4':=hr2d.keep k4 (by simp)
   have kw4:=kw2d.then k4
   have kT4:RowKit.Below wT.heap.size wT w4:=kT2d.trans (k4.below (fun x hx=>by cases hx) kT2d.size)
   refine np_keep (vs:=[ptrO b4 0]) (by simp [SV.val,upd,e4,Addr.add]) (wp_lds (r4r hr4') hcl ⟨by simp [upd],rfl⟩) ?_
   refine np_keep (vs:=[ptrO b44 0]) (by simp [SV.val,upd,Addr.add]) (wp_lds (r8 r4) rfl ⟨by simp [upd],rfl⟩) ?_
   refine np_keep (vs:=[i64 (T:Int),i64 (T:Int)]) (by simp [SV.val,upd,e35,fcells]) ⟨.i64,(T:Int),(T:Int),.bool ((T:Int) == (T:Int)),rfl,rfl,by simp [upd],rfl⟩ ?_
   refine np_keep (vs:=[ptrO b44 4]) (by simp [SV.val,upd,Addr.add]) (wp_load r4 rfl ⟨by simp [upd],rfl⟩) ?_
   refine np_op (vs:=[.agg (fcells kind frm to nul (T:Int) df of (.slice al' sub.len c')).toArray,.agg cs4.toArray]) (by simp [SV.val,upd]) (usual_ok F hU hS rfl ht4 huk fun ub w5 k5 => ?_)
   have r5:=r4.keep k5 (by simp)
   have hr5:=hr4'.keep k5 (by simp)
   have kw5:=kw4.then k5
   have kT5:RowKit.Below wT.heap.size wT w5:=kT4.trans (k5.below (fun x hx=>by cases hx) kT4.size)
   have ho5:Own w5 wT.heap.size I.e8 d (wrTagL l):=((ho2.keep kd (fun _ _ h=>by cases h)).keep k4 (fun _ _ h=>by cases h)).keep k5 (fun _ _ h=>by cases h)
   refine np_keep (vs:=[ptrO b4 0]) (by simp [SV.val,upd,e4,Addr.add]) (wp_lds (r4r hr5) hcl ⟨by simp [upd],rfl⟩) ?_
   refine np_keep (vs:=[ptrO b44 0]) (by simp [SV.val,upd,Addr.add]) (wp_lds (r8 r5) rfl ⟨by simp [upd],rfl⟩) ?_
   refine np_keep (vs:=[i64 (T:Int),i64 (T:Int)]) (by simp [SV.val,upd,e35,fcells]) ⟨.i64,(T:Int),(T:Int),.bool ((T:Int) == (T:Int)),rfl,rfl,by simp [upd],rfl⟩ ?_
   refine np_keep (vs:=[ptrO b44 4]) (by simp [SV.val,upd,Addr.add]) (wp_load r5 rfl ⟨by simp [upd],rfl⟩) ?_
   refine np_look (vs:=[.bool ub]) (by simp [SV.val,upd]) ⟨ub,rfl,rfl,?_⟩
   show NP.wp P (.ite (.s 60) _ _ _) _ _ _
   cases ub with
   | true=>
    refine np_F (by simp [SV.val,upd]) ?_
    show NP.wp P (.op (.bin .add) [.s 40,.k (.int .i64 1)] 76 _) _ _ _
    refine fin _ _ d l (fun n hn => ?_) (by simp [upd,SV.val,e38]) (by simp [upd,SV.val,e39]) ho5 kw5 kT5 hr5 (fun s hs=>hA s (List.Sublist.cons _ hs))
    simp only [upd]
    repeat rw [if_neg (by omega)]
   | false=>
    have hA2:∀ s,s.Sublist (tagF ver T r t (i+1)++R)→((l++[(T,fieldB kind nul of (partB ver true sub) ver true (t.at i))])++s).Sublist A:=fun s hs=>by
     have:=hA ((T,fieldB kind nul of (partB ver true sub) ver true (t.at i))::s) (by rw [List.cons_append];exact hs.cons_cons _)
     simpa using this
    have hlen2:(wrTagL (l++[(T,fieldB kind nul of (partB ver true sub) ver true (t.at i))])).length≤lim:=by
     have:=wrTagL_sub (hA2 [] (List.nil_sublist _))
     simp only [List.append_nil] at this;omega
    have hwt:wrTagL (l++[(T,fieldB kind nul of (partB ver true sub) ver true (t.at i))])=wrTagL l++wrUv T++wrUv (fieldB kind nul of (partB ver true sub) ver true (t.at i)).length++fieldB kind nul of (partB ver true sub) ver true (t.at i):=by
     simp [wrTagL,wrTag]
    rw [hwt] at hlen2
    simp only [List.length_append] at hlen2
    refine np_T (by simp [SV.val,upd]) ?_
    refine np_draw ?_
    have kd5:=keep_drawn w5
    have r5d:=r5.keep kd5 (by simp)
    have hr5d:=hr5.keep kd5 (by simp)
    have kw5d:=kw5.then kd5
    have kT5d:RowKit.Below wT.heap.size wT { w5 with drawn:=w5.drawn+1 }:=kT5.trans (kd5.below (fun x hx=>by cases hx) kT5.size)
    refine np_look (vs:=[ptrO b44 0]) (by simp [SV.val,upd,Addr.add]) (wp_lds (r8 r5d) rfl ⟨rfl,?_⟩)
    refine np_look (vs:=[ptrO b4 0]) (by simp [SV.val,upd,e4,Addr.add]) (wp_lds (r4r hr5d) hcl ⟨rfl,?_⟩)
    refine np_op (vs:=[.agg cs.toArray,i64 (i:Int)]) (by simp [SV.val,upd,e40]) (at_ok F.named F.at' (ht.keep kw5d) fun cs6 w6 k6 ht6 => ?_)
    have r6:=r5d.keep k6 (by simp)
    have hr6:=hr5d.keep k6 (by simp)
    have kw6:=kw5d.then k6
    have kT6:RowKit.Below wT.heap.size wT w6:=kT5d.trans (k6.below (fun x hx=>by cases hx) kT5d.size)
    refine np_keep (vs:=[ptrO b4 0]) (by simp [SV.val,upd,e4,Addr.add]) (wp_lds (r4r hr6) hcl ⟨by simp [upd],rfl⟩) ?_
    refine np_keep (vs:=[ptrO b44 0]) (by simp [SV.val,upd,Addr.add]) (wp_lds (r8 r6) rfl ⟨by simp [upd],rfl⟩) ?_
    refine np_op (vs:=[.agg (fcells kind frm to nul (T:Int) df of (.slice al' sub.len c')).toArray,i64 ver,.bool true,.agg cs6.toArray]) (by simp [SV.val,upd,hag 1 (by omega),h1,hag 2 (by omega),h2]) (field_ok F hsb.1 (hFs.keep kw6) ht6 (by unfold lim;omega) fun v7 w7 n7 k7 => ?_)
    have r7:=r6.keep k7 (by simp)
    have hr7:=hr6.keep k7 (by simp)
    have kw7:=kw6.then k7
    have kT7:RowKit.Below wT.heap.size wT w7:=kT6.trans (k7.below (fun x hx=>by cases hx) kT6.size)
    have ho7:Own w7 wT.heap.size I.e8 d (wrTagL l):=((ho5.keep kd5 (fun _ _ h=>by cases h)).keep k6 (fun _ _ h=>by cases h)).keep k7 (fun _ _ h=>by cases h)
    have hd7:∀ x,d.ownBlock=some x→x<w6.heap.size:=fun x hx=>by have:=(own_own ho2 x hx).2;have:=kd.size;have:=k4.size;have:=k5.size;have:=kd5.size;have:=k6.size;omega
    refine np_keep (vs:=[ptrO b4 0]) (by simp [SV.val,upd,e4,Addr.add]) (wp_lds (r4r hr7) hcl ⟨by simp [upd],rfl⟩) ?_
    refine np_keep (vs:=[ptrO b44 0]) (by simp [SV.val,upd,Addr.add]) (wp_lds (r8 r7) rfl ⟨by simp [upd],rfl⟩) ?_
    refine np_op (vs:=[i64 (T:Int)]) (by simp [SV.val,upd,e35]) ⟨.i64,_,rfl,?_⟩
    rw [wrap_nat .u64 rfl T (by show T<2^64;omega)]
    refine np_op (vs:=[.int .u64 (T:Int)]) (by simp [SV.val,upd]) (uvarint_ok F.named F.uvarint (by omega) fun d8 w8 o8 k8 => ?_)
    have ho8:Own w8 wT.heap.size I.e8 d (wrTagL l):=ho7.keep k8 (fun _ _ h=>by cases h)
    refine np_op (vs:=[d,d8]) (by simp [SV.val,upd,e38]) (wp_appG ho8 (own_sl o8).sl0 (by omega) fun d9 w9 o9 b9 g9 => ?_)
    generalize hbb:fieldB kind nul of (partB ver true sub) ver true (t.at i)=bb at *
    have n7':Sl (fun k=>w6.heap.size≤k∧k<w7.heap.size) w7 v7 bb:=n7.weak fun k h1 h2=>⟨h2,h1⟩
    have s8:=n7'.same (k8.same fun x hx=>by cases hx)
    have s9:Sl (fun k=>w6.heap.size≤k∧k<w7.heap.size) w9 v7 bb:=s8.same (gr_same g9 fun k hk e=>by have:=hd7 k e;omega)
    have hd9:∀ k,w6.heap.size≤k∧k<w7.heap.size→d9.ownBlock≠some k:=fun k hk e=>by
     rcases g9.2 with e9 | e9
     ·rw [e9] at e;have:=hd7 k e;omega
     ·have:=e9 k e;have:=k8.size;omega
    have r8:=r7.keep k8 (by simp)
    have kT8:RowKit.Below wT.heap.size wT w8:=kT7.trans (k8.below (fun x hx=>by cases hx) kT7.size)
    have kT9:RowKit.Below wT.heap.size wT w9:=kT8.trans b9
    obtain ⟨va,vc,hv7,_⟩:=sl_slice s9
    refine np_op (vs:=[.slice va bb.length vc]) (by simp [SV.val,upd,hv7]) ⟨_,_,_,rfl,?_⟩
    refine np_op (vs:=[i64 (bb.length:Int)]) (by simp [SV.val,upd,goInt]) ⟨.i64,_,rfl,?_⟩
    rw [wrap_nat .u64 rfl bb.length (by show bb.length<2^64;omega)]
    refine np_op (vs:=[.int .u64 (bb.length:Int)]) (by simp [SV.val,upd]) (uvarint_ok F.named F.uvarint (by omega) fun d11 w11 o11 k11 => ?_)
    have ho11:Own w11 wT.heap.size I.e8 d9 (wrTagL l++wrUv T):=o9.keep k11 (fun _ _ h=>by cases h)
    have s11:=s9.same (k11.same fun x hx=>by cases hx)
    refine np_op (vs:=[d9,d11]) (by simp [SV.val,upd]) (wp_appG ho11 (own_sl o11).sl0 (by rw [List.length_append];omega) fun d12 w12 o12 b12 g12 => ?_)
    have s12:Sl (fun k=>w6.heap.size≤k∧k<w7.heap.size) w12 v7 bb:=s11.same (gr_same g12 hd9)
    refine np_op (vs:=[d12,v7]) (by simp [SV.val,upd]) (wp_appG o12 s12.sl0 (by simp only [List.length_append];omega) fun d13 w13 o13 b13 g13 => ?_)
    refine np_op (vs:=[i64 (l.length:Int),i64 1]) (by simp [SV.val,upd,e39]) ⟨.i64,_,1,_,rfl,rfl,?_⟩
    rw [show ((l.length:Int)+1)=((l.length+1:Nat):Int) by omega,wrap64 _ (by omega) (by omega)]
    have kT11:RowKit.Below wT.heap.size wT w11:=kT9.trans (k11.below (fun x hx=>by cases hx) kT9.size)
    have kT13:RowKit.Below wT.heap.size wT w13:=(kT11.trans b12).trans b13
    have kw13:Keep [] w0 w13:=keep_below (keep_below ((keep_below (kw7.then k8) b9 hw0).then k11) b12 hw0) b13 hw0
    have hr13:Row w13 b4 cs:=row_below (row_below ((row_below (hr7.keep k8 (by simp)) b9 hb4).keep k11 (by simp)) b12 hb4) b13 hb4
    show NP.wp P (.op (.bin .add) [.s 40,.k (.int .i64 1)] 76 _) _ _ _
    refine fin _ _ d13 (l++[(T,bb)]) (fun n hn => ?_) (by simp [upd,SV.val]) (by simp [upd,SV.val]) (by rw [hwt];exact o13) kw13 kT13 hr13 hA2
    simp only [upd]
    repeat rw [if_neg (by omega)]
 exact ⟨_,key fl 0 η w dt l0 (by omega) hsub hus hF (fun n _=>rfl) h38 h39 h40 ho k0 kT hr4 hA0 hsz⟩
end
end Go.Sp
namespace Go.Sp
open Go.Lx Go.Nx Go.Km Go.Mx Go.Kb Go.Mr
set_option linter.unusedSimpArgs false
set_option linter.unusedVariables false
theorem tagBody_eq (I:SI):tagBody I=(.op (.bin .lss) [.s 35,.s 32] 36 <| .ite (.s 36) .nil .exit <| .op .len [.s 0] 37 <| .set 38 (.s 33) <| .set 39 (.s 34) <| .set 40 (.k (.int .i64 0)) <| .loop (tinBody I) <|
  .op (.bin .add) [.s 35,.k (.int .i64 1)] 80 <| .set 81 (.s 38) <| .set 82 (.s 39) <| .set 83 (.s 80) <| .set 33 (.s 81) <| .set 34 (.s 82) <| .set 35 (.s 83) <| .nil):=rfl
section
variable {P:Program}
theorem tout_ok {I:SI} (F:Fns P I) {fS:FuncId} (hU:fnP P I.usual 2=some (q_usual I fS)) (hS:fnP P fS 2=some p_same) {fl:Fl} (hsub:SubsOk P I fl) (hus:usT fl=true) (hlen:fl.len≤32767) {w0 wT:World} {al:Option Addr} {c b4 N:Nat} {cs:List Value} {t:Tr} {ver:Int} {A:Tg}
  (hN:N≤1000) (hF:RepF0 w0 al 0 fl) (ht:RepTr w0 cs t) (k0:Keep [] w0 wT) (hb4:b4<wT.heap.size) (hr4:Row wT b4 cs) {η:Nat→Value} (h0:η 0 = .slice al fl.len c) (h1:η 1=i64 ver) (h2:η 2 = .bool true) (h4:η 4=ptr b4) (h32:η 32=i64 (N:Int)) (h33:η 33 = .slice none 0 0) (h34:η 34=i64 0) (h35:η 35=i64 0)
  (hAe:A=allT ver fl t N 0) (hAl:(wrTagL A).length≤lim) (hAn:A.length≤65536) (hAz:∀ p∈A,p.2.length<4294967296) {Q:Post}
  (hR:∀ η' w' d l,(∀ n,n<33→η' n=η n)→η' 33=d→η' 34=i64 (l.length:Int)→Own w' wT.heap.size I.e8 d (wrTagL l)→Keep [] w0 w'→RowKit.Below wT.heap.size wT w'→Row w' b4 cs→l.Sublist A→Q .ext η' w'):∃ n,roundsP ((tagBody I).wp P) Q n η wT:=by
 rw [tagBody_eq]
 have key:∀ (m T:Nat) (η1:Nat→Value) (w1:World) (d:Value) (l:Tg),T+m=N→(∀ n,n<33→η1 n=η n)→η1 33=d→η1 34=i64 (l.length:Int)→η1 35=i64 (T:Int)→Own w1 wT.heap.size I.e8 d (wrTagL l)→Keep [] w0 w1→RowKit.Below wT.heap.size wT w1→Row w1 b4 cs →
   (∀ s,s.Sublist (allT ver fl t m T)→(l++s).Sublist A)→(∀ p∈allT ver fl t m T,p∈A)→roundsP ((tagBody I).wp P) Q (m+1) η1 w1:=by
  intro m
  induction m with
  | zero=>
   intro T η1 w1 d l hm hag e33 e34 e35 ho kw kT hr hA hmem
   have hTN:T=N:=by omega
   subst hTN
   show NP.wp P (tagBody I) _ η1 w1
   rw [tagBody_eq]
   refine np_op (vs:=[i64 (T:Int),i64 (T:Int)]) (by simp [SV.val,e35,hag 32 (by omega),h32]) ⟨.i64,_,_,.bool false,rfl,by simp [binV],?_⟩
   refine np_F (by simp [SV.val,upd]) ?_
   refine hR _ w1 d l (fun n hn => ?_) (by simp [upd,e33]) (by simp [upd,e34]) ho kw kT hr (by simpa using hA [] (List.nil_sublist _))
   simp only [upd]
   repeat rw [if_neg (by omega)]
   exact hag n hn
  | succ m ih=>
   intro T η1 w1 d l hm hag e33 e34 e35 ho kw kT hr hA hmem
   show NP.wp P (tagBody I) _ η1 w1
   rw [tagBody_eq]
   refine np_op (vs:=[i64 (T:Int),i64 (N:Int)]) (by simp [SV.val,e35,hag 32 (by omega),h32]) ⟨.i64,_,_,.bool true,rfl,by simp [binV];omega,?_⟩
   refine np_T (by simp [SV.val,upd]) ?_
   refine np_op (vs:=[.slice al fl.len c]) (by simp [SV.val,upd,hag 0 (by omega),h0]) ⟨_,_,_,rfl,?_⟩
   show ∃ n,roundsP _ _ n _ w1
   refine tin_ok F hU hS hsub hus hlen (T:=T) (al:=al) (c:=c) (b4:=b4) (t:=t) (ver:=ver) (A:=A) (R:=allT ver fl t m (T+1)) (l0:=l) (dt:=d) (wT:=wT) (by omega) hF ht k0.size kw kT hb4 hr (by simp [upd,hag 0 (by omega),h0]) (by simp [upd,hag 1 (by omega),h1]) (by simp [upd,hag 2 (by omega),h2]) (by simp [upd,hag 4 (by omega),h4]) (by simp [upd,e35]) (by simp [upd,goInt]) (by simp [upd,SV.val,e33]) (by simp [upd,SV.val,e34]) (by simp [upd,SV.val]) ho
    (fun s hs=>hA s (by simpa only [allT] using hs)) hAl hAn hAz (fun p hp=>hAz p (hmem p (by simp only [allT];exact List.mem_append_left _ hp))) fun η' w' d' l' hag' e38 e39 ho' kw' kT' hr' hA' => ?_
   show NP.wp P (.op (.bin .add) [.s 35,.k (.int .i64 1)] 80 _) _ η' w'
   refine np_op (vs:=[i64 (T:Int),i64 1]) (by simp [SV.val,hag' 35 (by omega),upd,e35]) ⟨.i64,_,1,_,rfl,rfl,?_⟩
   rw [show ((T:Int)+1)=((T+1:Nat):Int) by omega,wrap64 _ (by omega) (by omega)]
   show roundsP _ _ _ _ _
   refine ih (T+1) _ w' d' l' (by omega) (fun n hn => ?_) (by simp [upd,SV.val,e38]) (by simp [upd,SV.val,e39]) (by simp [upd,SV.val]) ho' kw' kT' hr' hA' (fun p hp=>hmem p (by simp only [allT];exact List.mem_append_right _ hp))
   simp only [upd]
   repeat rw [if_neg (by omega)]
   rw [hag' n (by omega)]
   simp only [upd]
   repeat rw [if_neg (by omega)]
   exact hag n hn
 exact ⟨_,key N 0 η wT (.slice none 0 0) [] (by omega) (fun n _=>rfl) h33 h34 h35 (own_nil wT) k0 (RowKit.Below.refl _ _) hr4 (fun s hs=>by rw [hAe];simpa using hs) (fun p hp=>by rw [hAe];exact hp)⟩
theorem range_at {w w':World} {b o:Nat} {cs:List Value} (h:w.rangeAt b o cs) (k:w'.heap[b]?=w.heap[b]?):w'.rangeAt b o cs:=fun j v hj=>by
 rw [World.cell?_of_block k];exact h j v hj
theorem utBody_okG {I:SI} (F:Fns P I) {w0:World} {vL d0:Value} {L:Tg} {B n0:Nat} {out0:Bs} (hL:RepUo (· < B) w0 vL L) (hLd:∀ g,vL.ownBlock=some g→d0.ownBlock≠some g) (hlen:L.length≤32767) {η:Nat→Value} (h85:η 85=vL) (h86:η 86=i64 (L.length:Int)) (h87:η 87=d0) (h88:η 88=i64 (n0:Int)) (h89:η 89=i64 0) (hn0:n0≤65536) (ho0:Own w0 B I.e8 d0 out0)
  (hlim:out0.length+(wrTagL (L.map fun p=>(p.1,p.2.take 32767))).length≤lim) {Q:Post} (hR:∀ η' w' d,(∀ n,n<87→η' n=η n)→η' 87=d→η' 88=i64 ((n0+L.length:Nat):Int)→Own w' B I.e8 d (out0++wrTagL (L.map fun p=>(p.1,p.2.take 32767)))→Bl B w0 d0 w' d→Q .ext η' w'):∃ n,roundsP ((utBody I).wp P) Q n η w0:=by
 obtain ⟨al,c,hvL,hc,_,hat⟩:=hL
 have key:∀ (m i:Nat) (η1:Nat→Value) (w1:World) (d:Value) (out:Bs),L.length - i=m→i≤L.length→(∀ n,n<87→η1 n=η n)→η1 87=d→η1 88=i64 ((n0+i:Nat):Int)→η1 89=i64 (i:Int)→Own w1 B I.e8 d out→Bl B w0 d0 w1 d →
   out++wrTagL ((L.map fun p=>(p.1,p.2.take 32767)).drop i)=out0++wrTagL (L.map fun p=>(p.1,p.2.take 32767))→roundsP ((utBody I).wp P) Q (m+1) η1 w1:=by
  intro m
  induction m with
  | zero=>
   intro i η1 w1 d out hm hi hag e87 e88 e89 ho hb hout
   have hie:i=L.length:=by omega
   subst hie
   show NP.wp P (utBody I) _ η1 w1
   refine np_op (vs:=[i64 (L.length:Int),i64 (L.length:Int)]) (by simp [SV.val,e89,hag 86 (by omega),h86]) ⟨.i64,_,_,.bool false,rfl,by simp [binV],?_⟩
   refine np_F (by simp [SV.val,upd]) ?_
   rw [List.drop_of_length_le (by simp),show wrTagL []=[] from rfl,List.append_nil] at hout
   rw [hout] at ho
   refine hR _ w1 d (fun n hn => ?_) (by simp [upd,e87]) (by simp [upd,e88]) ho hb
   simp only [upd]
   repeat rw [if_neg (by omega)]
   exact hag n hn
  | succ m ih=>
   intro i η1 w1 d out hm hi hag e87 e88 e89 ho hb hout
   have hlt:i<L.length:=by omega
   have hget:L[i]?=some L[i]:=List.getElem?_eq_getElem hlt
   obtain ⟨hk,b,o,vv,hal,hr0,hsl0⟩:=hat i _ hget
   have hblt:b<w0.heap.size:=Kb.cell_lt (hr0 0 _ rfl)
   have hdb:d0.ownBlock≠some b:=hLd b (by rw [hvL,hal];rfl)
   obtain ⟨hbb,hdb1⟩:=hb.other hblt hdb
   have hr:w1.rangeAt b (o+2*i) [.int .u32 (L[i].1:Int),vv]:=range_at hr0 hbb
   have hsl:SlE (fun q=>q<B) w1 vv L[i].2:=hsl0.same (Same.below hb.toBelow fun q hq=>hq)
   have hsplit:wrTagL ((L.map fun p=>(p.1,p.2.take 32767)).drop i)=wrTag (L[i].1,L[i].2.take 32767)++wrTagL ((L.map fun p=>(p.1,p.2.take 32767)).drop (i+1)):=by
    rw [wrTagL_drop _ i (by simpa using hlt)];simp
   rw [hsplit,← List.append_assoc] at hout
   have hlout:out.length+((wrUv L[i].1).length+((wrUv (L[i].2.take 32767).length).length+(L[i].2.take 32767).length))≤lim:=by
    have:=congrArg List.length hout
    simp only [List.length_append,wrTag] at this
    omega
   show NP.wp P (utBody I) _ η1 w1
   refine np_op (vs:=[i64 (i:Int),i64 (L.length:Int)]) (by simp [SV.val,e89,hag 86 (by omega),h86]) ⟨.i64,_,_,.bool true,rfl,by simp [binV];omega,?_⟩
   refine np_T (by simp [SV.val,upd]) ?_
   refine np_op (vs:=[.slice (some ⟨b,o,none⟩) L.length c,i64 (i:Int)]) (by simp [SV.val,upd,hag 85 (by omega),h85,hvL,hal,e89]) (wp_ia hlt ?_)
   refine ⟨⟨_,by simp only [upd];rfl⟩,?_⟩
   refine np_op (vs:=[ptrO b (o+2*i)]) (by simp [SV.val,upd,Addr.add]) (wp_lds hr rfl ?_)
   refine np_local (sz:=2) (cs:=[.int .u32 (L[i].1:Int),vv]) rfl rfl (zcons_one hsl) (by simp [upd]) (by omega) fun b93 w2 r2 hb2 k2 => ?_
   have ho2:Own w2 B I.e8 d out:=ho.keep k2 (fun _ _ h=>by cases h)
   have hBl2:Bl B w0 d0 w2 d:=hb.trans (Bl.of_keep k2 ho.2)
   have hslB:SlE (fun q=>q<B) w2 vv L[i].2:=hsl.same (k2.same fun x hx=>by cases hx)
   refine np_op (vs:=[ptrO b93 1]) (by simp [SV.val,upd,Addr.add]) (wp_load r2 rfl ?_)
   refine np_op (vs:=[vv]) (by simp [SV.val,upd]) (whole_ok F.named F.whole hslB fun v96 h96 => ?_)
   refine np_op (vs:=[ptrO b93 0]) (by simp [SV.val,upd,Addr.add]) (wp_load r2 rfl ?_)
   refine np_op (vs:=[.int .u32 (L[i].1:Int)]) (by simp [SV.val,upd]) ⟨.u32,_,rfl,?_⟩
   rw [wrap_nat .u64 rfl L[i].1 (by show L[i].1<2^64;omega)]
   refine np_op (vs:=[.int .u64 (L[i].1:Int)]) (by simp [SV.val,upd]) (uvarint_ok F.named F.uvarint (by omega) fun d3 w3 o3 k3 => ?_)
   have ho3:Own w3 B I.e8 d out:=ho2.keep k3 (fun _ _ h=>by cases h)
   refine np_op (vs:=[d,d3]) (by simp [SV.val,upd,e87]) (wp_appB ho3 (own_sl o3).sl0 (by omega) fun d4 w4 o4 b4 => ?_)
   have hBl4:Bl B w2 d w4 d4:=(Bl.of_keep k3 ho2.2).trans b4
   have h96':=h96.same (Same.below hBl4.toBelow fun q hq=>hq)
   obtain ⟨a6,c6,hv6⟩:=h96'.slice
   have hn6:(L[i].2.take 32767).length≤32767:=by rw [List.length_take];omega
   refine np_op (vs:=[.slice a6 (L[i].2.take 32767).length c6]) (by simp [SV.val,upd,hv6]) ⟨_,_,_,rfl,?_⟩
   refine np_op (vs:=[i64 ((L[i].2.take 32767).length:Int)]) (by simp [SV.val,upd,goInt]) ⟨.i64,_,rfl,?_⟩
   rw [wrap_nat .u64 rfl (L[i].2.take 32767).length (by show (L[i].2.take 32767).length<2^64;omega)]
   refine np_op (vs:=[.int .u64 ((L[i].2.take 32767).length:Int)]) (by simp [SV.val,upd]) (uvarint_ok F.named F.uvarint (by omega) fun d5 w5 o5 k5 => ?_)
   have ho5:Own w5 B I.e8 d4 (out++wrUv L[i].1):=o4.keep k5 (fun _ _ h=>by cases h)
   refine np_op (vs:=[d4,d5]) (by simp [SV.val,upd]) (wp_appB ho5 (own_sl o5).sl0 (by rw [List.length_append];omega) fun d6 w6 o6 b6 => ?_)
   have hBl6:Bl B w4 d4 w6 d6:=(Bl.of_keep k5 o4.2).trans b6
   have h96'':=h96'.same (Same.below hBl6.toBelow fun q hq=>hq)
   refine np_op (vs:=[d6,v96]) (by simp [SV.val,upd]) (wp_appB o6 h96''.sl0 (by simp only [List.length_append];omega) fun d7 w7 o7 b7 => ?_)
   refine np_op (vs:=[i64 ((n0+i:Nat):Int),i64 1]) (by simp [SV.val,upd,e88]) ⟨.i64,_,1,_,rfl,rfl,?_⟩
   refine np_op (vs:=[i64 (i:Int),i64 1]) (by simp [SV.val,upd,e89]) ⟨.i64,_,1,_,rfl,rfl,?_⟩
   rw [show ((i:Int)+1)=((i+1:Nat):Int) by omega,wrap64 _ (by omega) (by omega),show (((n0+i:Nat):Int)+1)=((n0+(i+1):Nat):Int) by omega,wrap64 _ (by omega) (by omega)]
   show roundsP _ _ _ _ _
   refine ih (i+1) _ w7 d7 (out++wrUv L[i].1++wrUv (L[i].2.take 32767).length++L[i].2.take 32767) (by omega) (by omega) (fun n hn => ?_) (by simp [upd,SV.val]) (by simp [upd,SV.val]) (by simp [upd,SV.val]) o7 (((hBl2.trans hBl4).trans hBl6).trans b7) ?_
   ·simp only [upd]
    repeat rw [if_neg (by omega)]
    exact hag n hn
   ·rw [← hout];simp [wrTag]
 exact ⟨_,key _ 0 η w0 d0 out0 rfl (Nat.zero_le _) (fun n _=>rfl) h87 (by simpa using h88) h89 ho0 (Bl.refl _ _ _) (by simp)⟩
def unkT (fl:Fl) (t:Tr):Tg:=(unkLn (knT fl 0) t.u).map fun p=>(p.1,p.2.take 32767)
def partTB (ver:Int) (fl:Fl) (t:Tr) (l:Tg):Bs:=partFB ver true fl t 0++(wrUv (l.length+(unkT fl t).length)++(wrTagL l++wrTagL (unkT fl t)))
theorem repUo {w:World} {v:Value} {u:Tg} (h:RepU w v u):RepUo (· < w.heap.size) w v u:=by
 obtain ⟨al,c,h1,h2,h3,h4⟩:=h
 refine ⟨al,c,h1,h2,h3,fun j p hj => ?_⟩
 obtain ⟨h5,b,o,vv,h6,h7,h8⟩:=h4 j p hj
 exact ⟨h5,b,o,vv,h6,h7,h8.weak fun k hk _=>hk⟩
theorem RepUo.mov {ok ok':Nat→Prop} {w w':World} {v:Value} {u:Tg} (h:RepUo ok w v u) (k:Keep [] w w') (hok:∀ b,b<w.heap.size→ok b→ok' b):RepUo ok' w' v u:=by
 obtain ⟨al,c,h1,h2,h3,h4⟩:=h
 refine ⟨al,c,h1,h2,h3,fun j p hj => ?_⟩
 obtain ⟨h5,b,o,vv,h6,h7,h8⟩:=h4 j p hj
 exact ⟨h5,b,o,vv,h6,range_keep h7 k,slE_keep (h8.weak hok) k⟩
theorem part_okT {I:SI} (F:Fns P I) {fS:FuncId} (hU:fnP P I.usual 2=some (q_usual I fS)) (hS:fnP P fS 2=some p_same) {fl:Fl} (hsub:SubsOk P I fl) (hus:usT fl=true) (hsm:smallT fl=true) (hN:knT fl 0≤1000) (hlen:fl.len≤32767) {w:World} {vF:Value} {cs:List Value} {t:Tr} {ver:Int} {A:Tg} {K:Value→World→Prop}
  (hF:RepFl w vF fl) (ht:RepTr w cs t) (hAe:A=allT ver fl t (knT fl 0) 0) (hAn:A.length≤65536) (hAz:∀ p∈A,p.2.length<4294967296) (hlim:(partFB ver true fl t 0).length+5+(wrTagL A).length+(wrTagL (unkT fl t)).length≤lim)
  (hk:∀ l v w',l.Sublist A→New w w' v (partTB ver fl t l)→Keep [] w w'→K v w'):In.wp P (.call I.partF) [vF,i64 ver,.bool true,.agg cs.toArray] w K:=by
 have hq:=F.part
 rw [q_part_eq] at hq
 refine calls_of_np F.named (vs:=[vF,i64 ver,.bool true,.agg cs.toArray]) hq fun η hη => ?_
 have h0:η 0=vF:=hη 0 (by simp)
 have h1:η 1=i64 ver:=hη 1 (by simp)
 have h2:η 2 = .bool true:=hη 2 (by simp)
 have h3:η 3 = .agg cs.toArray:=hη 3 (by simp)
 have hcl:cs.length=5:=by obtain ⟨_,_,_,_,_,e⟩:=ht.cells;rw [e];rfl
 obtain ⟨n,vs,z,al5,c5,vu,hcs,hn,hz,hs,hu,_⟩:=rep_l ht
 obtain ⟨al,c,hvF,hc,hF0⟩:=hF
 refine np_op (vs:=[.agg cs.toArray]) (by simp [SV.val,h3]) (wp_box hcl fun b4 w1 r4 hb4 k1 => ?_)
 refine ⟨⟨_,by simp only [upd];rfl⟩,?_⟩
 refine np_op (vs:=[.slice al fl.len c]) (by simp [SV.val,upd,h0,hvF]) ⟨_,_,_,rfl,?_⟩
 refine prtBody_ok (c:=c) (ver:=ver) (flex:=true) F hsub hlen hF0 ht k1 r4 (by simp [upd,SV.val,h0,hvF]) (by simp [upd,SV.val,h1]) (by simp [upd,SV.val,h2]) (by simp [upd,SV.val]) (by simp [upd,SV.val,goInt]) (by simp [upd,SV.val]) (by simp [upd,SV.val]) (by omega) fun η2 w2 d hag e6 o2 k2 r2 => ?_
 have a0:η2 0=vF:=by rw [hag 0 (by omega)];simp [upd,SV.val,h0]
 have a1:η2 1=i64 ver:=by rw [hag 1 (by omega)];simp [upd,SV.val,h1]
 have a2:η2 2 = .bool true:=by rw [hag 2 (by omega)];simp [upd,SV.val,h2]
 have a4:η2 4=ptr b4:=by rw [hag 4 (by omega)];simp [upd,SV.val]
 have hb4lt:b4<w1.heap.size:=r4.lt
 show NP.wp P (prtRest I) _ η2 w2
 refine np_op (vs:=[.bool true]) (by simp [SV.val,a2]) ⟨true,rfl,?_⟩
 obtain ⟨_,hukeys,hmany⟩:=unkLn_ok (knT fl 0) t.u
 have hFl:∀ {w'},Keep [] w w'→RepFl w' vF fl:=fun k=>RepFl.keep (w:=w) ⟨al,c,hvF,hc,hF0⟩ k
 refine np_F (by simp [SV.val,upd]) ?_
 show NP.wp P (prtTags I) _ _ w2
 refine np_op (vs:=[vF]) (by simp [SV.val,upd,a0]) (known_okT F.named F.known (hFl k2) hsm hlen fun w3 k3 => ?_)
 have k03:=k2.then k3
 have o3:Own w3 w1.heap.size I.e8 d (partFB ver true fl t 0):=o2.keep k3 (fun _ _ h=>by cases h)
 have r3:=r2.keep k3 (by simp)
 refine np_op (vs:=[.int .u32 (knT fl 0:Int)]) (by simp [SV.val,upd]) ⟨.u32,(knT fl 0:Int),rfl,?_⟩
 rw [show IntKind.i64.wrap (knT fl 0:Int)=(knT fl 0:Int) by rw [wrap64 _ (by omega) (by omega)]]
 have hb43:b4<w3.heap.size:=r3.lt
 refine tout_ok F hU hS hsub hus hlen (A:=A) (c:=c) (b4:=b4) (N:=knT fl 0) (ver:=ver) hN hF0 ht k03 hb43 r3 (by simp [upd,SV.val,a0,hvF]) (by simp [upd,SV.val,a1]) (by simp [upd,SV.val,a2]) (by simp [upd,SV.val,a4]) (by simp [upd,SV.val]) (by simp [upd,SV.val]) (by simp [upd,SV.val]) (by simp [upd,SV.val]) hAe (by omega) hAn hAz fun η3 wA dt l hagA e33 e34 oA kA bA rA hlA => ?_
 have hll:l.length≤65536:=Nat.le_trans hlA.length_le hAn
 have hwl:=wrTagL_sub hlA
 have c6:η3 6=d:=by rw [hagA 6 (by omega)];simp [upd,SV.val,e6]
 have c4:η3 4=ptr b4:=by rw [hagA 4 (by omega)];simp [upd,SV.val,a4]
 have c0:η3 0=vF:=by rw [hagA 0 (by omega)];simp [upd,SV.val,a0]
 have hd3:∀ g,d.ownBlock=some g→g<w3.heap.size:=fun g hg=>(own_own o3 g hg).2
 have odA:Own wA w1.heap.size I.e8 d (partFB ver true fl t 0):=own_below o3 bA (.inl (Nat.le_refl _))
 show NP.wp P (prtUnk I) _ η3 wA
 have rAn:Row wA b4 (tcells n vs z (.slice al5 t.l.length c5) vu):=by rw [hcs] at rA;exact rA
 refine np_op (vs:=[ptrO b4 4]) (by simp [SV.val,upd,c4,Addr.add]) (wp_load rAn rfl ?_)
 have huA:RepUo (· < w3.heap.size) wA vu t.u:=RepUo.mov (repUo hu) kA fun b hb _=>Nat.lt_of_lt_of_le hb k03.size
 refine np_op (vs:=[vF,vu]) (by simp [SV.val,upd,c0]) (unknown_okG F.named F.unknown (lo:=knT fl 0) (fun K' hK'=>known_okT F.named F.known (hFl kA) hsm hlen hK') huA fun v4 w4 k4 hUk hv4n => ?_)
 have k04:=kA.then k4
 have o4:Own w4 w1.heap.size I.e8 d (partFB ver true fl t 0):=odA.keep k4 (fun _ _ h=>by cases h)
 have ot4:Own w4 w3.heap.size I.e8 dt (wrTagL l):=oA.keep k4 (fun _ _ h=>by cases h)
 obtain ⟨a4s,c4s,hv4,_⟩:=id hUk
 refine np_op (vs:=[.slice a4s (unkLn (knT fl 0) t.u).length c4s]) (by simp [SV.val,upd,hv4]) ⟨_,_,_,rfl,?_⟩
 have hun:(unkT fl t).length=(unkLn (knT fl 0) t.u).length:=by simp [unkT]
 refine utBody_okG F (d0:=dt) (B:=w3.heap.size) (n0:=l.length) (out0:=wrTagL l) hUk (fun g hg e=>by have h1:=hv4n g hg;have h2:=(own_own oA g e).2;omega) hmany (by simp [upd,SV.val]) (by simp [upd,SV.val,goInt]) (by simp [upd,SV.val,e33]) (by simp [upd,SV.val,e34]) (by simp [upd,SV.val]) (by omega) ot4 (by show (wrTagL l).length+(wrTagL (unkT fl t)).length≤lim;omega) fun η5 w5 dtt hag5 e87 e88 ot bt => ?_
 have b6:η5 6=d:=by rw [hag5 6 (by omega)];simp [upd,SV.val,c6]
 have o5:Own w5 w1.heap.size I.e8 d (partFB ver true fl t 0):=own_below o4 bt.toBelow (.inr hd3)
 have k05:Keep [] w w5:=keep_below k04 bt.toBelow k03.size
 show NP.wp P (prtEnd I) _ η5 w5
 have hcn:l.length+(unkLn (knT fl 0) t.u).length<2^32:=by omega
 refine np_op (vs:=[i64 ((l.length+(unkLn (knT fl 0) t.u).length:Nat):Int)]) (by simp [SV.val,e88]) ⟨.i64,_,rfl,?_⟩
 rw [wrap_nat .u64 rfl (l.length+(unkLn (knT fl 0) t.u).length) (by show _<2^64;omega)]
 have hul:(wrUv (l.length+(unkLn (knT fl 0) t.u).length)).length≤5:=wrV_le 4 _
 refine np_op (vs:=[.int .u64 ((l.length+(unkLn (knT fl 0) t.u).length:Nat):Int)]) (by simp [SV.val,upd]) (uvarint_ok F.named F.uvarint hcn fun d6 w6 o6 k6 => ?_)
 have o5':Own w6 w1.heap.size I.e8 d (partFB ver true fl t 0):=o5.keep k6 (fun _ _ h=>by cases h)
 have ot6:Own w6 w3.heap.size I.e8 dtt _:=ot.keep k6 (fun _ _ h=>by cases h)
 refine np_op (vs:=[d,d6]) (by simp [SV.val,upd,b6]) (wp_appG o5' (own_sl o6).sl0 (by omega) fun d7 w7 o7 b7 g7 => ?_)
 have st7:Sl (fun q=>w3.heap.size≤q) w7 dtt (wrTagL l++wrTagL (unkT fl t)):=by
  refine (own_sl ot6).same ⟨g7.1.size,fun q hq hq4=>g7.1.block q hq fun h => ?_⟩
  have:=hd3 q h.symm
  omega
 refine np_op (vs:=[d7,dtt]) (by simp [SV.val,upd,e87,hag5]) (wp_app o7 st7.sl0 (by simp only [List.length_append];omega) fun d8 w8 o8 b8 => ?_)
 show K (pack _) w8
 rw [List.append_assoc] at o8
 have k08:Keep [] w w8:=keep_below (k05.then k6) (b7.trans b8) k1.size
 have e9:partTB ver fl t l=partFB ver true fl t 0++(wrUv (l.length+(unkLn (knT fl 0) t.u).length)++(wrTagL l++wrTagL (unkT fl t))):=by rw [partTB,hun]
 have:=hk l d8 w8 hlA (by rw [e9];exact Own.low o8 k1.size) k08
 simpa [pack,SV.val,upd] using this
end
end Go.Sp
namespace Go.Sp
open Go.Lx Go.Nx Go.Km Go.Mx Go.Kb Go.Mr
set_option linter.unusedSimpArgs false
set_option linter.unusedVariables false
def fitN (ver:Int) (flex:Bool):Fl→Fs→Bool
 | .nil,fs=>match fs with
  | .nil=>true
  | _=>false
 | .cons kind frm to nul tag _ of sub r,fs=>
  if tag<0∧has frm to ver=true then match fs with
   | .cons _ s fs'=>fitS ver flex kind nul of (fun fs''=>fitF ver flex sub fs'') s && fitN ver flex r fs'
   | _=>false
  else fitN ver flex r fs
def convN (ver:Int) (flex:Bool):Fl→Fs→Tr→Nat→List Val
 | .nil,_,_,_=>[]
 | .cons kind frm to nul tag _ of sub r,fs,t,i=>
  if tag<0∧has frm to ver=true then match fs with
   | .cons _ s fs'=>convS (can nul ver) (fun fs'' t'=>convF ver flex sub fs'' t' 0) (t.at i) s::convN ver flex r fs' t (i+1)
   | _=>[]
  else convN ver flex r fs t (i+1)
theorem fitN_ok {ver:Int} {flex:Bool}:∀ (fl:Fl) (fs:Fs) (t:Tr) (i:Nat),fitN ver flex fl fs=true→partFB ver flex fl t i=wrF fs (convN ver flex fl fs t i)∧okF fs (convN ver flex fl fs t i):=by
 intro fl
 induction fl with
 | nil=>
  intro fs t i h
  cases fs with
  | nil=>simp [partFB,convN,wrF,okF]
  | tags o=>simp [fitN] at h
  | cons o s r=>simp [fitN] at h
 | cons kind frm to nul tag def' of sub r _ ih2=>
  intro fs t i h
  simp only [fitN] at h
  simp only [partFB,convN]
  by_cases hh:tag<0∧has frm to ver=true
  ·simp only [if_pos hh] at h ⊢
   cases fs with
   | nil=>simp at h
   | tags o=>simp at h
   | cons o s fs'=>
    simp only [Bool.and_eq_true] at h
    have hp:PartIs (fun t'=>partFB ver flex sub t' 0++endB flex t') (fun fs''=>fitF ver flex sub fs'') (fun fs'' t'=>convF ver flex sub fs'' t' 0):=fun fs t h=>fitF_ok sub fs t 0 h
    have g:=fitS_ok hp s (t.at i) h.1
    have g2:=ih2 fs' t (i+1) h.2
    simp only [wrF,okF]
    exact ⟨by rw [g2.1,g.1],g.2,g2.2⟩
  ·simp only [if_neg hh] at h ⊢
   rw [List.nil_append]
   exact ih2 fs t (i+1) h
def findK:List KU→Nat→Option KU
 | [],_=>none
 | k::r,n=>if k.key=n then some k else findK r n
def fitK (ver:Int) (ks:List KU):Fl→Bool
 | .nil=>true
 | .cons kind frm to nul tag _ of sub r=>(if tag<0 then true else match findK ks tag.toNat with
   | some k=>fitS ver true kind nul of (fun fs''=>fitF ver true sub fs'') k.sh
   | none=>false) && fitK ver ks r
theorem findK_mem {ks:List KU} {n:Nat} {k:KU} (h:findK ks n=some k):k∈ks∧k.key=n:=by
 induction ks with
 | nil=>cases h
 | cons a r ih=>
  simp only [findK] at h
  split at h
  ·rename_i he;cases h;exact ⟨by simp,he⟩
  ·obtain ⟨h1,h2⟩:=ih h;exact ⟨by simp [h1],h2⟩
theorem tagF_fit {ver:Int} {ks:List KU} {T:Nat}:∀ (fl:Fl) (t:Tr) (i:Nat),fitK ver ks fl=true→∀ p∈tagF ver T fl t i,∃ k x,k∈ks∧p=(k.key,wr k.sh x)∧ok k.sh x:=by
 intro fl
 induction fl with
 | nil=>intro t i _ p hp;simp [tagF] at hp
 | cons kind frm to nul tag df of sub r _ ih=>
  intro t i h p hp
  simp only [fitK,Bool.and_eq_true] at h
  simp only [tagF,List.mem_append] at hp
  rcases hp with hp | hp
  ·split at hp
   ·rename_i hT
    rw [List.mem_singleton] at hp
    subst hp
    have h1:=h.1
    rw [if_neg (by omega)] at h1
    split at h1
    ·rename_i k hk
     obtain ⟨hm,hke⟩:=findK_mem hk
     have hpt:PartIs (fun t'=>partFB ver true sub t' 0++endB true t') (fun fs''=>fitF ver true sub fs'') (fun fs'' t'=>convF ver true sub fs'' t' 0):=fun fs t h=>fitF_ok sub fs t 0 h
     have g:=fitS_ok hpt k.sh (t.at i) h1
     refine ⟨k,_,hm,?_,g.2⟩
     rw [hke,hT,Int.toNat_natCast]
     congr 1
     exact g.1
    ·cases h1
   ·simp at hp
  ·exact ih t (i+1) h.2 p hp
theorem allT_fit {ver:Int} {ks:List KU} {fl:Fl} {t:Tr} (h:fitK ver ks fl=true):∀ (m T:Nat),∀ p∈allT ver fl t m T,∃ k x,k∈ks∧p=(k.key,wr k.sh x)∧ok k.sh x:=by
 intro m
 induction m with
 | zero=>intro T p hp;simp [allT] at hp
 | succ m ih=>
  intro T p hp
  simp only [allT,List.mem_append] at hp
  rcases hp with hp | hp
  ·exact tagF_fit fl t 0 h p hp
  ·exact ih (T+1) p hp
theorem fold_ok (ks:List KT) (hwf:∀ k∈ks,wf k.sh=true):∀ (l:Tg) (s:KV×Tg),GoodK ks s→(∀ i k x,ks[i]?=some k→s.1.getD i none=some x→(wr k.sh x).length<4294967296) →
  (∀ p∈l,(∃ j k x,kIdx ks p.1=some (j,k)∧p.2=wr k.sh x∧ok k.sh x∧p.2.length<4294967296)∨(kIdx ks p.1=none∧p.1<4294967296∧p.2.length≤32767)) →
  ∃ s',l.foldlM (stepK ks) s=some s'∧GoodK ks s'∧(∀ i k x,ks[i]?=some k→s'.1.getD i none=some x→(wr k.sh x).length<4294967296)∧s'.2.length≤s.2.length+l.length∧szK ks s'≤szK ks s+tl l:=by
 intro l
 induction l with
 | nil=>intro s hg hz _;exact ⟨s,rfl,hg,hz,Nat.le_refl _,by simp [tl,wrTagL]⟩
 | cons p r ih=>
  intro s hg hz hp
  have step:∃ s1,stepK ks s p=some s1∧GoodK ks s1∧(∀ i k x,ks[i]?=some k→s1.1.getD i none=some x→(wr k.sh x).length<4294967296)∧s1.2.length≤s.2.length+1∧szK ks s1≤szK ks s+(wrTag p).length:=by
   rcases hp p (by simp) with ⟨j,k,x,h1,h2,h3,h4⟩ | ⟨h1,h2,h3⟩
   ·obtain ⟨k1,k2⟩:=kIdx_some h1
    have hrd:=rd_wr k.sh x [] (hwf k (List.mem_of_getElem? k1)) h3
    rw [List.append_nil] at hrd
    refine ⟨(s.1.set j (some x),s.2),by simp only [stepK,h1];rw [h2,hrd];rfl,⟨okK_set hg.okk k1 h3,hg.sorted,hg.apart,hg.keys⟩,fun i k' x' hi hx => ?_,Nat.le_succ _,?_⟩
    ·dsimp only at hx
     by_cases hij:i=j
     ·subst hij
      rw [k1] at hi
      cases hi
      rw [List.getD_eq_getElem?_getD,List.getElem?_set_self'] at hx
      cases hs:s.1[i]? with
      | none=>rw [hs] at hx;simp at hx
      | some y=>rw [hs] at hx;simp at hx;subst hx;rw [← h2];exact h4
     ·rw [List.getD_eq_getElem?_getD,List.getElem?_set_ne (Ne.symm hij),← List.getD_eq_getElem?_getD] at hx
      exact hz i k' x' hi hx
    ·obtain ⟨t1,_⟩:=tl_enc_set ks s.1 j k x k1
     have hpe:p=(k.key,wr k.sh x):=by rw [k2,← h2]
     rw [hpe]
     unfold szK
     dsimp only
     omega
   ·refine ⟨(s.1,tagSet p.1 p.2 s.2),by simp only [stepK,h1],⟨hg.okk,tagSet_sorted hg.sorted,fun q hq => ?_,fun q hq => ?_⟩,hz,tagSet_length,?_⟩
    ·rcases tagSet_mem hq with rfl | hq
     ·exact kIdx_none_iff h1
     ·exact hg.apart q hq
    ·rcases tagSet_mem hq with rfl | hq
     ·exact ⟨h2,h3⟩
     ·exact hg.keys q hq
    ·have:=tl_set p.1 p.2 s.2
     unfold szK
     dsimp only
     have hpe:(p.1,p.2)=p:=rfl
     rw [hpe] at this
     omega
  obtain ⟨s1,e1,g1,z1,c1,sz1⟩:=step
  obtain ⟨s',e2,g2,z2,c2,sz2⟩:=ih s1 g1 z1 fun q hq=>hp q (by simp [hq])
  refine ⟨s',by rw [List.foldlM_cons,e1];exact e2,g2,z2,by simp only [List.length_cons];omega,?_⟩
  rw [tl_cons];omega
end Go.Sp
namespace Go.Sp
open Go.Lx Go.Nx Go.Km Go.Mx Go.Kb Go.Mr
set_option linter.unusedSimpArgs false
set_option linter.unusedVariables false
theorem kIdx_mem {ks:List KT} (hnd:(keysK ks).Nodup) {k:KT} (h:k∈ks):∃ j,kIdx ks k.key=some (j,k):=by
 obtain ⟨pre,post,rfl⟩:=List.append_of_mem h
 refine ⟨pre.length,kIdx_at fun hm => ?_⟩
 simp only [keysK,List.map_append,List.map_cons] at hnd
 exact (List.nodup_append.1 hnd).2.2 k.key hm k.key (by simp) rfl
theorem tagF_len {ver:Int} {T:Nat}:∀ (fl:Fl) (t:Tr) (i:Nat),(tagF ver T fl t i).length≤fl.len:=by
 intro fl
 induction fl with
 | nil=>intro t i;simp [tagF,Fl.len]
 | cons kind frm to nul tag df of sub r _ ih=>
  intro t i
  have:=ih t (i+1)
  simp only [tagF,List.length_append,Fl.len]
  split<;>simp<;>omega
theorem allT_len {ver:Int} {fl:Fl} {t:Tr}:∀ (m T:Nat),(allT ver fl t m T).length≤m*fl.len:=by
 intro m
 induction m with
 | zero=>intro T;simp [allT]
 | succ m ih=>
  intro T
  have h1:=ih (T+1)
  have h2 := @tagF_len ver T fl t 0
  simp only [allT,List.length_append,Nat.succ_mul];omega
def tabT (ver:Int) (fl:Fl) (fs:Fs) (ks:List KU):Bool:=
 fitN ver true fl fs && fitK ver ks fl && wfF fs && ksOk (ks.map KU.kt) && ks.all (fun k=>decide (k.key<knT fl 0)) && decide (knT fl 0*fl.len≤1000)
theorem unkT_keys (fl:Fl) (t:Tr):∀ p∈unkT fl t,p.1<4294967296∧knT fl 0≤p.1∧p.2.length≤32767:=fun p hp=>by
 unfold unkT at hp
 rw [List.mem_map] at hp
 obtain ⟨q,hq,rfl⟩:=hp
 have h:=(unkLn_ok (knT fl 0) t.u).2.1 q hq
 exact ⟨h.1,h.2,by dsimp only;rw [List.length_take];omega⟩
theorem unkT_len (fl:Fl) (t:Tr):(unkT fl t).length≤32767:=by
 unfold unkT;rw [List.length_map];exact (unkLn_ok (knT fl 0) t.u).2.2
theorem partTB_rd {ver:Int} {fl:Fl} {fs:Fs} {ks:List KU} (h:tabT ver fl fs ks=true) {t:Tr} {A l:Tg} (hA:A=allT ver fl t (knT fl 0) 0) (hl:l.Sublist A) (hAz:∀ p∈A,p.2.length<4294967296) (hlim:(partFB ver true fl t 0).length+5+(wrTagL A).length+(wrTagL (unkT fl t)).length+2≤lim) :
  ∃ m,rdM fs (ks.map KU.kt) (partTB ver fl t l)=some (m,[])∧okF fs m.1∧OkE (ks.map KU.kt) m.2∧(wrM fs (ks.map KU.kt) m).length+2≤lim:=by
 simp only [tabT,Bool.and_eq_true,List.all_eq_true,decide_eq_true_eq] at h
 obtain ⟨⟨⟨⟨⟨h1,h2⟩,h3⟩,h4⟩,h5⟩,h6⟩:=h
 have h4':=h4
 simp only [ksOk,Bool.and_eq_true,decide_eq_true_eq,List.all_eq_true] at h4'
 obtain ⟨hnd,hkk⟩:=h4'
 have hfn:=fitN_ok fl fs t 0 h1
 have hll:l.length≤1000:=by
  have a1:=hl.length_le
  have a2 := @allT_len ver fl t (knT fl 0) 0
  rw [← hA] at a2
  omega
 have hul:=unkT_len fl t
 have hall:∀ p∈l++unkT fl t,(∃ j k x,kIdx (ks.map KU.kt) p.1=some (j,k)∧p.2=wr k.sh x∧ok k.sh x∧p.2.length<4294967296)∨(kIdx (ks.map KU.kt) p.1=none∧p.1<4294967296∧p.2.length≤32767):=by
  intro p hp
  rcases List.mem_append.1 hp with hp | hp
  ·have hpA:=hl.subset hp
   rw [hA] at hpA
   obtain ⟨k,x,k1,k2,k3⟩:=allT_fit h2 _ _ p hpA
   obtain ⟨j,hj⟩:=kIdx_mem hnd (List.mem_map_of_mem (f:=KU.kt) k1)
   refine .inl ⟨j,k.kt,x,?_,?_,k3,hAz p (hl.subset hp)⟩
   ·rw [k2];exact hj
   ·rw [k2];rfl
  ·obtain ⟨u1,u2,u3⟩:=unkT_keys fl t p hp
   refine .inr ⟨kIdx_none fun hm => ?_,u1,u3⟩
   simp only [keysK,List.map_map,List.mem_map] at hm
   obtain ⟨k,hk,he⟩:=hm
   have:=h5 k hk
   have he':k.key=p.1:=he
   omega
 obtain ⟨s',e1,g1,z1,c1,sz1⟩:=fold_ok (ks.map KU.kt) (fun k hk=>(hkk k hk).1) (l++unkT fl t) _ (goodK_nil _) (fun i k x hi hx=>by
  simp only [List.getD_eq_getElem?_getD,List.getElem?_replicate] at hx
  split at hx<;>simp at hx) hall
 have hkeys:∀ p∈l++unkT fl t,p.1<2^32∧p.2.length<2^32:=by
  intro p hp
  rcases List.mem_append.1 hp with hp | hp
  ·have hpA:=hl.subset hp
   have hz:=hAz p hpA
   rw [hA] at hpA
   obtain ⟨k,x,k1,k2,k3⟩:=allT_fit h2 _ _ p hpA
   have:=(hkk k.kt (List.mem_map_of_mem (f:=KU.kt) k1)).2
   refine ⟨?_,by omega⟩
   rw [k2];exact this
  ·obtain ⟨u1,u2,u3⟩:=unkT_keys fl t p hp
   exact ⟨by omega,by omega⟩
 have hwl:wrTagL l++wrTagL (unkT fl t)=wrTagL (l++unkT fl t):=by simp [wrTagL]
 have hz0:szK (ks.map KU.kt) (List.replicate (ks.map KU.kt).length none,[])=0:=by unfold szK;dsimp only;rw [enc_none];rfl
 rw [hz0] at sz1
 have hrd:rdM fs (ks.map KU.kt) (partTB ver fl t l)=some ((convN ver true fl fs t 0,s'),[]):=by
  unfold rdM partTB
  rw [hfn.1,rdF_wrF fs _ _ h3 hfn.2]
  simp only [Option.bind_some]
  have hre:rdE (ks.map KU.kt) (wrUv (l.length+(unkT fl t).length)++(wrTagL l++wrTagL (unkT fl t)))=some (s',[]):=by
   unfold rdE
   rw [rdUv_wrUv _ (by omega)]
   simp only [Option.bind_some]
   have hr:=rdK_wr (ks.map KU.kt) (l++unkT fl t) (List.replicate (ks.map KU.kt).length none,[]) [] hkeys
   rw [List.append_nil,List.length_append] at hr
   rw [hwl,hr,e1];rfl
  rw [hre];rfl
 refine ⟨_,hrd,hfn.2,⟨g1.okk,⟨g1.sorted,g1.keys,?_⟩,fun p hp => ?_⟩,?_⟩
 ·dsimp only at c1 ⊢
  simp only [List.length_append,List.length_nil] at c1
  omega
 ·dsimp only at hp
  have hsm:=enc_small (ks.map KU.kt) s'.1 (fun k hk=>(hkk k hk).2) p hp
  have key:∀ (ks:List KT) (vs:KV),(∀ i k x,ks[i]?=some k→vs.getD i none=some x→(wr k.sh x).length<4294967296)→∀ p∈Km.enc ks vs,p.2.length<4294967296:=by
   intro ks
   induction ks with
   | nil=>intro vs _ p hp;cases vs<;>simp [Km.enc] at hp
   | cons a r ih=>
    intro vs hz p hp
    cases vs with
    | nil=>simp [Km.enc] at hp
    | cons v vs=>
     simp only [Km.enc,List.mem_append] at hp
     rcases hp with hp | hp
     ·cases v with
      | none=>simp at hp
      | some x=>
       dsimp only at hp
       split at hp
       ·simp at hp
       ·rw [List.mem_singleton] at hp
        subst hp
        exact hz 0 a x rfl rfl
     ·exact ih vs (fun i k x hi hx=>hz (i+1) k x (by simpa using hi) (by simpa using hx)) p hp
  exact key _ _ z1 p hp
 ·have hlen:(wrE (ks.map KU.kt) s').length=(wrUv (ctK (ks.map KU.kt) s')).length+szK (ks.map KU.kt) s':=by
   unfold wrE szK ctK
   rw [List.length_append,List.length_append]
   have:=tl_append (Km.enc (ks.map KU.kt) s'.1) s'.2
   unfold tl at this ⊢
   omega
  have hu5:(wrUv (ctK (ks.map KU.kt) s')).length≤5:=wrV_le 4 _
  have htl:tl (l++unkT fl t)=(wrTagL l).length+(wrTagL (unkT fl t)).length:=by
   rw [tl_append];rfl
  have hsub:=wrTagL_sub hl
  simp only [wrM,List.length_append]
  rw [hlen,← hfn.1]
  omega
theorem rdM_cut {fs:Fs} {ks:List KT} {bs:Bs} {m:MV} (h:rdM fs ks bs=some (m,[])) {n:Nat} (hn:n<bs.length):rdM fs ks (bs.take n)=none:=by
 cases hr:rdM fs ks (bs.take n) with
 | none=>rfl
 | some y=>
  obtain ⟨y,r⟩:=y
  have:=mono_rdM fs ks _ _ _ (bs.drop n) hr
  rw [List.take_append_drop,h] at this
  simp only [Option.some.injEq,Prod.mk.injEq] at this
  have h2:=this.2.symm
  have h3:bs.drop n=[]:=(List.append_eq_nil_iff.1 h2).2
  have:=congrArg List.length h3
  simp at this;omega
end Go.Sp
namespace Go.Sp
open Go.Lx Go.Nx Go.Km Go.Mx Go.Kb Go.Mr
set_option linter.unusedSimpArgs false
set_option linter.unusedVariables false
section
variable {P:Program} {g:Nat} {e:TypeId}
structure LawT (P:Program) (I:SI) (e:TypeId) (g:Nat) (fZz fMax fMsg fVer fA:FuncId) (fl:Fl) (fx:Int) (m:Nat) {α:Type} (dec:Nat→Bs→Option (α×Bs)) (enc:Nat→α→Bs) (pre:Nat→Bs→Prop) (H:Nat→Tr→Prop) (R:Nat→Tr→Bs→Prop):Prop where
 F:Fns P I
 zz:fnP P fZz 1=some (q_zzFits2 I)
 ver:fnP P fVer 2=some p_version
 max:∀ (w:World) (K:Value→World→Prop),(∀ w',Keep [] w w'→K (.int .i64 (m:Int)) w')→In.wp P (.call fMax) [] w K
 many:m<1000
 msg:∀ (w:World) (K:Value→World→Prop),(∀ vF w',RepFl w' vF fl→Keep [] w w'→K (.agg (mcells vF fx).toArray) w')→In.wp P (.call fMsg) [] w K
 write:∀ v,v≤m→∀ (w:World) (vF:Value) (cs:List Value) (t:Tr) (K:Value→World→Prop),H v t→RepFl w vF fl→RepTr w cs t→(∀ bs d w',R v t bs→New w w' d bs→Keep [] w w'→K d w')→In.wp P (.call I.write) [.agg (mcells vF fx).toArray,i64 (v:Int),.agg cs.toArray] w K
 again:∀ v,v≤m→AgainG P e g fA (dec v) (enc v) (pre v) (v:Int)
 rd:∀ v,v≤m→∀ t bs,H v t→R v t bs→∃ x,dec v bs=some (x,[])∧pre v bs∧bs.length≤lim∧∀ k,k<bs.length→dec v (bs.take k)=none∧pre v (bs.take k)
theorem write_okG {I:SI} (F:Fns P I) {w:World} {vF:Value} {flex ver:Int} {cs:List Value} {t:Tr} {R:Bs→Prop} (ht:RepTr w cs t) {K:Value→World→Prop}
  (hpart:∀ (w':World) (K':Value→World→Prop),Keep [] w w'→(∀ bs v w'',R bs→New w' w'' v bs→Keep [] w' w''→K' v w'')→In.wp P (.call I.partF) [vF,i64 ver,.bool (isFlex flex ver),.agg cs.toArray] w' K')
  (hk:∀ bs v w',R bs→New w w' v bs→Keep [] w w'→K v w'):In.wp P (.call I.write) [.agg (mcells vF flex).toArray,i64 ver,.agg cs.toArray] w K:=by
 refine calls_of_np F.named (vs:=[.agg (mcells vF flex).toArray,i64 ver,.agg cs.toArray]) F.write fun η hη => ?_
 have h0:η 0 = .agg (mcells vF flex).toArray:=hη 0 (by simp)
 have h1:η 1=i64 ver:=hη 1 (by simp)
 have h2:η 2 = .agg cs.toArray:=hη 2 (by simp)
 have hcl:cs.length=5:=by obtain ⟨_,_,_,_,_,e⟩:=ht.cells;rw [e];rfl
 refine np_op (vs:=[.agg (mcells vF flex).toArray]) (by simp [SV.val,h0]) (wp_box rfl fun b3 w1 r3 hb3 k1 => ?_)
 refine ⟨⟨_,by simp only [upd];rfl⟩,?_⟩
 refine np_op (vs:=[.agg cs.toArray]) (by simp [SV.val,upd,h2]) (wp_box hcl fun b4 w2 r4 hb4 k2 => ?_)
 refine ⟨⟨_,by simp only [upd];rfl⟩,?_⟩
 have r3':=r3.keep k2 (by simp)
 have k12:=k1.then k2
 refine np_op (vs:=[ptrO b3 0]) (by simp [SV.val,upd,Addr.add]) (wp_load r3' rfl ?_)
 refine np_op (vs:=[ptrO b3 1]) (by simp [SV.val,upd,Addr.add]) (wp_load r3' rfl ?_)
 refine np_op (vs:=[i64 flex,i64 0]) (by simp [SV.val,upd]) ⟨.i64,flex,0,.bool (decide (flex≥0)),rfl,rfl,?_⟩
 have fin:∀ (η1:Nat→Value) (fb:Bool),fb=isFlex flex ver→η1 5=vF→η1 1=i64 ver→η1 14 = .bool fb→η1 4=ptr b4→NP.wp P (.op (.loadN 5) [.q 4 0] 15 <| .op (.call I.partF) [.s 5,.s 1,.s 14,.s 15] 16 <| .ret [.s 16]) (postP [.direct] K) η1 w2:=by
  intro η1 fb hfb e5 e1 e14 e4
  subst hfb
  refine np_op (vs:=[ptrO b4 0]) (by simp [SV.val,e4,Addr.add]) (wp_lds (by have h:=r4.range 0 5;rw [List.drop_zero,List.take_of_length_le (by omega)] at h;exact h) hcl ?_)
  refine np_op (vs:=[vF,i64 ver,.bool (isFlex flex ver),.agg cs.toArray]) (by simp [SV.val,upd,e5,e1,e14]) (hpart w2 _ k12 fun bs v w3 hR n3 k3 => ?_)
  show K (pack _) w3
  have:=hk bs v w3 hR (n3.weak fun q _ hq=>Nat.le_trans k12.size hq) (k12.then k3)
  simpa [pack,SV.val,upd] using this
 by_cases hf:0≤flex
 ·refine np_T (by simp [SV.val,upd,hf]) ?_
  refine np_T (by simp [SV.val,upd,hf]) ?_
  refine np_T (by simp [SV.val,upd,hf]) ?_
  refine np_op (vs:=[ptrO b3 1]) (by simp [SV.val,upd,Addr.add]) (wp_load r3' rfl ?_)
  refine np_T (by simp [SV.val,upd,hf]) ?_
  refine np_op (vs:=[i64 ver,i64 flex]) (by simp [SV.val,upd,h1]) ⟨.i64,ver,flex,.bool (decide (ver≥flex)),rfl,rfl,?_⟩
  refine np_T (by simp [SV.val,upd,hf]) ?_
  show NP.wp P (.op (.loadN 5) [.q 4 0] 15 _) _ _ w2
  exact fin _ (decide (ver≥flex)) (by simp [isFlex,hf]) (by simp [upd]) (by simp [upd,h1]) (by simp [upd,SV.val]) (by simp [upd])
 ·refine np_F (by simp [SV.val,upd,hf];try omega) ?_
  refine np_F (by simp [SV.val,upd,hf];try omega) ?_
  refine np_F (by simp [SV.val,upd,hf];try omega) ?_
  refine np_F (by simp [SV.val,upd,hf];try omega) ?_
  refine np_F (by simp [SV.val,upd,hf];try omega) ?_
  show NP.wp P (.op (.loadN 5) [.q 4 0] 15 _) _ _ w2
  exact fin _ false (by simp [isFlex,hf]) (by simp [upd]) (by simp [upd,h1]) (by simp [upd,SV.val]) (by simp [upd])
end
end Go.Sp
namespace Go.Sp
open Go.Lx Go.Nx Go.Km Go.Mx Go.Kb Go.Mr
set_option linter.unusedSimpArgs false
set_option linter.unusedVariables false
def okSub:Fl→Bool
 | .nil=>true
 | .cons _ _ _ _ _ _ _ sub r=>okFl sub && decide (sub.len≤32767) && okSub r
def HT (fx:Int) (fl:Fl) (v:Nat) (t:Tr):Prop:=if isFlex fx (v:Int)=true then
  (partFB (v:Int) true fl t 0).length+5+(wrTagL (allT (v:Int) fl t (knT fl 0) 0)).length+(wrTagL (unkT fl t)).length+2≤lim∧∀ p∈allT (v:Int) fl t (knT fl 0) 0,p.2.length<4294967296
 else (partFB (v:Int) false fl t 0).length+2≤lim
def RT (fx:Int) (fl:Fl) (v:Nat) (t:Tr) (bs:Bs):Prop:=if isFlex fx (v:Int)=true then ∃ l,l.Sublist (allT (v:Int) fl t (knT fl 0) 0)∧bs=partTB (v:Int) fl t l
 else bs=partFB (v:Int) false fl t 0
theorem rdF_cut {fs:Fs} {bs:Bs} {x:List Val} (h:rdF fs bs=some (x,[])) {n:Nat} (hn:n<bs.length):rdF fs (bs.take n)=none:=by
 cases hr:rdF fs (bs.take n) with
 | none=>rfl
 | some y=>
  obtain ⟨y,r⟩:=y
  have:=mono_rdF fs _ _ _ (bs.drop n) hr
  rw [List.take_append_drop,h] at this
  simp only [Option.some.injEq,Prod.mk.injEq] at this
  have h2:=this.2.symm
  have h3:bs.drop n=[]:=(List.append_eq_nil_iff.1 h2).2
  have:=congrArg List.length h3
  simp at this;omega
section
variable {P:Program} {g:Nat} {e eG:TypeId}
theorem subs_okT {I:SI} (F:Fns P I):∀ {fl:Fl},okSub fl=true→SubsOk P I fl:=by
 intro fl
 induction fl with
 | nil=>intro _;trivial
 | cons kind frm to nul tag df of sub r _ ih2=>
  intro h
  simp only [okSub,Bool.and_eq_true,decide_eq_true_eq] at h
  exact ⟨part_ok F h.1.1 h.1.2,ih2 h.2⟩
theorem part_okF {I:SI} (F:Fns P I) {fl:Fl} (hsub:SubsOk P I fl) (hlen:fl.len≤32767) {w:World} {vF:Value} {cs:List Value} {t:Tr} {ver:Int} {K:Value→World→Prop}
  (hF:RepFl w vF fl) (ht:RepTr w cs t) (hlim:(partFB ver false fl t 0).length≤lim) (hk:∀ v w',New w w' v (partFB ver false fl t 0)→Keep [] w w'→K v w'):In.wp P (.call I.partF) [vF,i64 ver,.bool false,.agg cs.toArray] w K:=by
 have hq:=F.part
 rw [q_part_eq] at hq
 refine calls_of_np F.named (vs:=[vF,i64 ver,.bool false,.agg cs.toArray]) hq fun η hη => ?_
 have h0:η 0=vF:=hη 0 (by simp)
 have h1:η 1=i64 ver:=hη 1 (by simp)
 have h2:η 2 = .bool false:=hη 2 (by simp)
 have h3:η 3 = .agg cs.toArray:=hη 3 (by simp)
 have hcl:cs.length=5:=by obtain ⟨_,_,_,_,_,e⟩:=ht.cells;rw [e];rfl
 obtain ⟨al,c,hvF,hc,hF0⟩:=hF
 refine np_op (vs:=[.agg cs.toArray]) (by simp [SV.val,h3]) (wp_box hcl fun b4 w1 r4 hb4 k1 => ?_)
 refine ⟨⟨_,by simp only [upd];rfl⟩,?_⟩
 refine np_op (vs:=[.slice al fl.len c]) (by simp [SV.val,upd,h0,hvF]) ⟨_,_,_,rfl,?_⟩
 refine prtBody_ok (c:=c) (ver:=ver) (flex:=false) F hsub hlen hF0 ht k1 r4 (by simp [upd,SV.val,h0,hvF]) (by simp [upd,SV.val,h1]) (by simp [upd,SV.val,h2]) (by simp [upd,SV.val]) (by simp [upd,SV.val,goInt]) (by simp [upd,SV.val]) (by simp [upd,SV.val]) hlim fun η2 w2 d hag e6 o2 k2 r2 => ?_
 have a2:η2 2 = .bool false:=by rw [hag 2 (by omega)];simp [upd,SV.val,h2]
 show NP.wp P (prtRest I) _ η2 w2
 refine np_op (vs:=[.bool false]) (by simp [SV.val,a2]) ⟨false,rfl,?_⟩
 refine np_T (by simp [SV.val,upd]) ?_
 show K (pack _) w2
 have:=hk d w2 (Own.low o2 k1.size) k2
 simpa [pack,SV.val,upd,e6] using this
theorem write_ofT {I:SI} (F:Fns P I) {fS:FuncId} {flex m:Nat} {fl:Fl} (hUs:fnP P I.usual 2=some (q_usual I fS)) (hS:fnP P fS 2=some p_same) (hok:(okSub fl && usT fl && smallT fl && decide (knT fl 0≤1000) && decide (fl.len≤32767))=true) {v:Nat} {w:World} {vF:Value} {cs:List Value} {t:Tr} {K:Value→World→Prop}
  (hAn:flex≤v→(allT (v:Int) fl t (knT fl 0) 0).length≤65536) (hH:HT (flex:Int) fl v t) (hF:RepFl w vF fl) (ht:RepTr w cs t) (hK:∀ bs d w',RT (flex:Int) fl v t bs→New w w' d bs→Keep [] w w'→K d w'):In.wp P (.call I.write) [.agg (mcells vF (flex:Int)).toArray,i64 (v:Int),.agg cs.toArray] w K:=by
 simp only [Bool.and_eq_true,decide_eq_true_eq] at hok
 obtain ⟨⟨⟨⟨hs,hus⟩,hsm⟩,hkn⟩,hlen⟩:=hok
 have hsub:=subs_okT F hs
 refine write_okG F (R:=RT (flex:Int) fl v t) ht (fun w' K' k' hK' => ?_) (fun bs d w' hR hN hKp=>hK bs d w' hR hN hKp)
 unfold HT at hH
 by_cases hf:isFlex (flex:Int) (v:Int)=true
 ·rw [if_pos hf] at hH
  rw [hf]
  have hf':flex≤v:=by simpa [isFlex] using hf
  refine part_okT F hUs hS hsub hus hsm hkn hlen (hF.keep k') (ht.keep k') rfl (hAn hf') hH.2 (by have:=hH.1;omega) fun l v' w'' hl' hN hKp=>hK' (partTB (v:Int) fl t l) v' w'' ?_ hN hKp
  unfold RT
  rw [if_pos hf]
  exact ⟨l,hl',rfl⟩
 ·have hf2:isFlex (flex:Int) (v:Int)=false:=by simpa using hf
  rw [if_neg hf] at hH
  rw [hf2]
  refine part_okF F hsub hlen (hF.keep k') (ht.keep k') (by omega) fun v' w'' hN hKp=>hK' (partFB (v:Int) false fl t 0) v' w'' ?_ hN hKp
  unfold RT
  rw [if_neg hf]
theorem tabT_len {flex m:Nat} {fs:Nat→Fs} {ks:Nat→List KU} {fl:Fl} (htab:((List.range (m+1)).all fun v=>if flex≤v then tabT (v:Int) fl (fs v) (ks v) else fitN (v:Int) false fl (fs v) && wfF (fs v))=true) (v:Nat) (t:Tr) (hf:flex≤v) (hv:v≤m):(allT (v:Int) fl t (knT fl 0) 0).length≤65536:=by
 simp only [List.all_eq_true,List.mem_range] at htab
 have h1:=htab v (by omega)
 rw [if_pos hf] at h1
 simp only [tabT,Bool.and_eq_true,decide_eq_true_eq] at h1
 have := @allT_len (v:Int) fl t (knT fl 0) 0
 omega
theorem rd_ofT {flex m:Nat} {fs:Nat→Fs} {ks:Nat→List KU} {fl:Fl} (htab:((List.range (m+1)).all fun v=>if flex≤v then tabT (v:Int) fl (fs v) (ks v) else fitN (v:Int) false fl (fs v) && wfF (fs v))=true) {v:Nat} (hv:v≤m) {t:Tr} {bs:Bs} (hH:HT (flex:Int) fl v t) (hR:RT (flex:Int) fl v t bs) :
  ∃ x,rdV flex fs ks v bs=some (x,[])∧(okF (fs v) x.1∧(flex≤v→OkE ((ks v).map KU.kt) x.2)∧(wrVm flex fs ks v x).length+2≤lim)∧bs.length+2≤lim∧∀ k,k<bs.length→rdV flex fs ks v (bs.take k)=none:=by
 simp only [List.all_eq_true,List.mem_range] at htab
 have h1:=htab v (by omega)
 unfold HT at hH
 unfold RT at hR
 by_cases hf:flex≤v
 ·have hfx:isFlex (flex:Int) (v:Int)=true:=by simpa [isFlex] using hf
  rw [if_pos hfx] at hH hR
  rw [if_pos hf] at h1
  obtain ⟨l,hls,rfl⟩:=hR
  obtain ⟨mm,r1,r2,r3,r4⟩:=partTB_rd h1 rfl hls hH.2 hH.1
  have hbl:(partTB (v:Int) fl t l).length+2≤lim:=by
   have h2:=wrTagL_sub hls
   have h3:(wrUv (l.length+(unkT fl t).length)).length≤5:=wrV_le 4 _
   unfold partTB
   simp only [List.length_append]
   omega
  have hdec:∀ b,rdV flex fs ks v b=rdM (fs v) ((ks v).map KU.kt) b:=fun b=>by unfold Mr.rdV;rw [if_pos hf]
  have henc:∀ x,wrVm flex fs ks v x=wrM (fs v) ((ks v).map KU.kt) x:=fun x=>by unfold wrVm;rw [if_pos hf]
  exact ⟨mm,by rw [hdec];exact r1,⟨r2,fun _=>r3,by rw [henc];exact r4⟩,hbl,fun k hk'=>by rw [hdec];exact rdM_cut r1 hk'⟩
 ·have hfx:¬ isFlex (flex:Int) (v:Int)=true:=by simpa [isFlex] using hf
  rw [if_neg hfx] at hH hR
  rw [if_neg hf] at h1
  simp only [Bool.and_eq_true] at h1
  subst hR
  have hfn:=fitN_ok fl (fs v) t 0 h1.1
  have hrd:=rdF_wrF (fs v) _ [] h1.2 hfn.2
  rw [List.append_nil,← hfn.1] at hrd
  have hdec:∀ b,rdV flex fs ks v b=(rdF (fs v) b).map fun p=>((p.1,([],[])),p.2):=fun b=>by unfold Mr.rdV;rw [if_neg hf]
  have henc:∀ x,wrVm flex fs ks v x=wrF (fs v) x.1:=fun x=>by unfold wrVm;rw [if_neg hf]
  exact ⟨(convN (v:Int) false fl (fs v) t 0,([],[])),by rw [hdec,hrd];rfl,⟨hfn.2,fun h=>absurd h hf,by rw [henc];rw [← hfn.1];exact hH⟩,hH,fun k hk'=>by rw [hdec,rdF_cut hrd hk'];rfl⟩
end
end Go.Sp
namespace Go.Sp
open Go.Lx Go.Nx Go.Km Go.Mx Go.Kb Go.Mr
set_option linter.unusedSimpArgs false
set_option linter.unusedVariables false
theorem wrTagL_bound (l:Tg) (b:Nat) (h:∀ p∈l,p.2.length≤b):(wrTagL l).length≤(b+10)*l.length:=by
 induction l with
 | nil=>simp [wrTagL]
 | cons x r ih=>
  have e:wrTagL (x::r)=wrTag x++wrTagL r:=by simp [wrTagL]
  rw [e]
  have h1:=wrUv_le x.1
  have h2:=wrUv_le x.2.length
  have h3:=h x (by simp)
  have h4:=ih fun p hp=>h p (by simp [hp])
  simp only [List.length_append,wrTag,List.length_cons,Nat.mul_succ];omega
end Go.Sp

