import Derived.Test.YtmlmiljgbaalgaaGreatDoorSa
import Derived.Test.YtmlmiljgbaalgaaGreatDoorKm
import Derived.Test.YtmlmiljgbaalgaaGreatDoorMw
import Derived.ChangeArms
import Derived.ChangeShapes
import Derived.Test.YtmlmiljgbaalgaaGreatDoorMs
set_option linter.unusedSimpArgs false
set_option linter.unusedVariables false
namespace Go.Sp
open Go.Lx Go.Nx Go.Km Go.Mx Go.Kb Go.Mr
set_option linter.unusedSimpArgs false
set_option linter.unusedVariables false
def prtBody (I:SI):NP := .op (.bin .lss) [.s 7,.s 5] 8 <|
  .ite (.s 8)
   (.nil)
   (.exit) <|
  .op (.ia 8) [.s 0,.s 7] 9 <|
  .chk 9 <|
  .op (.loadN 8) [.q 9 0] 10 <|
  .op (.alloc zF) [] 11 <|
  .chk 11 <|
  .op (.store 8) [.q 11 0,.s 10] 12 <|
  .op .load [.q 11 4] 13 <|
  .op (.bin .lss) [.s 13,.k (.int .i64 0)] 14 <|
  .ite (.s 14)
   (.op (.loadN 8) [.q 11 0] 15 <|
   .set 16 (.s 15) <|
   .nil)
   (.set 16 (.k (.tuple #[])) <|
   .nil) <|
  .ite (.s 14)
   (.set 17 (.s 1) <|
   .nil)
   (.set 17 (.k (.tuple #[])) <|
   .nil) <|
  .ite (.s 14)
   (.op (.call I.hasF) [.s 16,.s 17] 18 <|
   .set 19 (.s 18) <|
   .nil)
   (.set 19 (.k (.tuple #[])) <|
   .nil) <|
  .ite (.s 14)
   (.set 20 (.s 19) <|
   .nil)
   (.set 20 (.k (.bool false)) <|
   .nil) <|
  .ite (.s 20)
   (.draw <|
   .look (.loadN 8) [.q 11 0] 21 <|
   .look (.loadN 5) [.q 4 0] 22 <|
   .op (.call I.atF) [.s 22,.s 7] 23 <|
   .keep (.loadN 5) [.q 4 0] 22 <|
   .keep (.loadN 8) [.q 11 0] 21 <|
   .op (.call I.fieldF) [.s 21,.s 1,.s 2,.s 23] 24 <|
   .keep (.loadN 5) [.q 4 0] 22 <|
   .keep (.loadN 8) [.q 11 0] 21 <|
   .op (.app I.e8) [.s 6,.s 24] 25 <|
   .keep (.loadN 5) [.q 4 0] 22 <|
   .keep (.loadN 8) [.q 11 0] 21 <|
   .set 26 (.s 25) <|
   .nil)
   (.set 26 (.s 6) <|
   .nil) <|
  .op (.bin .add) [.s 7,.k (.int .i64 1)] 27 <|
  .set 28 (.s 26) <|
  .set 29 (.s 27) <|
  .set 6 (.s 28) <|
  .set 7 (.s 29) <|
  .nil
def tagBody (I:SI):NP := .op (.bin .lss) [.s 35,.s 32] 36 <|
  .ite (.s 36)
   (.nil)
   (.exit) <|
  .op .len [.s 0] 37 <|
  .set 38 (.s 33) <|
  .set 39 (.s 34) <|
  .set 40 (.k (.int .i64 0)) <|
  .loop
   (.op (.bin .lss) [.s 40,.s 37] 41 <|
   .ite (.s 41)
    (.nil)
    (.exit) <|
   .op (.ia 8) [.s 0,.s 40] 42 <|
   .chk 42 <|
   .op (.loadN 8) [.q 42 0] 43 <|
   .op (.alloc zF) [] 44 <|
   .chk 44 <|
   .op (.store 8) [.q 44 0,.s 43] 45 <|
   .draw <|
   .look .load [.q 44 4] 46 <|
   .look (.bin .eql) [.s 46,.s 35] 47 <|
   .ite (.s 47)
    (.look (.loadN 8) [.q 44 0] 48 <|
    .look (.loadN 5) [.q 4 0] 49 <|
    .op (.call I.atF) [.s 49,.s 40] 50 <|
    .keep (.loadN 5) [.q 4 0] 49 <|
    .keep (.loadN 8) [.q 44 0] 48 <|
    .keep (.bin .eql) [.s 46,.s 35] 47 <|
    .keep .load [.q 44 4] 46 <|
    .op (.call I.usual) [.s 48,.s 50] 51 <|
    .keep (.loadN 5) [.q 4 0] 49 <|
    .keep (.loadN 8) [.q 44 0] 48 <|
    .keep (.bin .eql) [.s 46,.s 35] 47 <|
    .keep .load [.q 44 4] 46 <|
    .look .not [.s 51] 52 <|
    .set 53 (.k (.bool true)) <|
    .set 54 (.s 48) <|
    .set 55 (.s 49) <|
    .set 56 (.s 40) <|
    .set 57 (.s 50) <|
    .set 58 (.s 51) <|
    .set 59 (.s 52) <|
    .set 60 (.s 52) <|
    .nil)
    (.keep (.bin .eql) [.s 46,.s 35] 47 <|
    .keep .load [.q 44 4] 46 <|
    .keep (.bin .eql) [.s 46,.s 35] 47 <|
    .keep .load [.q 44 4] 46 <|
    .set 53 (.k (.bool false)) <|
    .set 54 (.k (.tuple #[])) <|
    .set 55 (.k (.tuple #[])) <|
    .set 56 (.k (.tuple #[])) <|
    .set 57 (.k (.tuple #[])) <|
    .set 58 (.k (.tuple #[])) <|
    .set 59 (.k (.tuple #[])) <|
    .set 60 (.k (.bool false)) <|
    .nil) <|
   .ite (.s 60)
    (.draw <|
    .look (.loadN 8) [.q 44 0] 61 <|
    .look (.loadN 5) [.q 4 0] 62 <|
    .op (.call I.atF) [.s 62,.s 40] 63 <|
    .keep (.loadN 5) [.q 4 0] 62 <|
    .keep (.loadN 8) [.q 44 0] 61 <|
    .op (.call I.fieldF) [.s 61,.s 1,.s 2,.s 63] 64 <|
    .keep (.loadN 5) [.q 4 0] 62 <|
    .keep (.loadN 8) [.q 44 0] 61 <|
    .op (.cv .u64) [.s 35] 65 <|
    .op (.call I.uvarint) [.s 65] 66 <|
    .op (.app I.e8) [.s 38,.s 66] 67 <|
    .op .len [.s 64] 68 <|
    .op (.cv .u64) [.s 68] 69 <|
    .op (.call I.uvarint) [.s 69] 70 <|
    .op (.app I.e8) [.s 67,.s 70] 71 <|
    .op (.app I.e8) [.s 71,.s 64] 72 <|
    .op (.bin .add) [.s 39,.k (.int .i64 1)] 73 <|
    .set 74 (.s 72) <|
    .set 75 (.s 73) <|
    .nil)
    (.set 74 (.s 38) <|
    .set 75 (.s 39) <|
    .nil) <|
   .op (.bin .add) [.s 40,.k (.int .i64 1)] 76 <|
   .set 77 (.s 74) <|
   .set 78 (.s 75) <|
   .set 79 (.s 76) <|
   .set 38 (.s 77) <|
   .set 39 (.s 78) <|
   .set 40 (.s 79) <|
   .nil) <|
  .op (.bin .add) [.s 35,.k (.int .i64 1)] 80 <|
  .set 81 (.s 38) <|
  .set 82 (.s 39) <|
  .set 83 (.s 80) <|
  .set 33 (.s 81) <|
  .set 34 (.s 82) <|
  .set 35 (.s 83) <|
  .nil
def utBody (I:SI):NP := .op (.bin .lss) [.s 89,.s 86] 90 <|
  .ite (.s 90)
   (.nil)
   (.exit) <|
  .op (.ia 2) [.s 85,.s 89] 91 <|
  .chk 91 <|
  .op (.loadN 2) [.q 91 0] 92 <|
  .op (.alloc [.int .u32 0,.slice none 0 0]) [] 93 <|
  .chk 93 <|
  .op (.store 2) [.q 93 0,.s 92] 94 <|
  .op .load [.q 93 1] 95 <|
  .op (.call I.whole) [.s 95] 96 <|
  .op .load [.q 93 0] 97 <|
  .op (.cv .u64) [.s 97] 98 <|
  .op (.call I.uvarint) [.s 98] 99 <|
  .op (.app I.e8) [.s 87,.s 99] 100 <|
  .op .len [.s 96] 101 <|
  .op (.cv .u64) [.s 101] 102 <|
  .op (.call I.uvarint) [.s 102] 103 <|
  .op (.app I.e8) [.s 100,.s 103] 104 <|
  .op (.app I.e8) [.s 104,.s 96] 105 <|
  .op (.bin .add) [.s 88,.k (.int .i64 1)] 106 <|
  .op (.bin .add) [.s 89,.k (.int .i64 1)] 107 <|
  .set 108 (.s 105) <|
  .set 109 (.s 106) <|
  .set 110 (.s 107) <|
  .set 87 (.s 108) <|
  .set 88 (.s 109) <|
  .set 89 (.s 110) <|
  .nil
def prtEnd (I:SI):NP := .op (.cv .u64) [.s 88] 111 <|
 .op (.call I.uvarint) [.s 111] 112 <|
 .op (.app I.e8) [.s 6,.s 112] 113 <|
 .op (.app I.e8) [.s 113,.s 87] 114 <|
 .ret [.s 114]
def prtUnk (I:SI):NP := .op .load [.q 4 4] 84 <|
 .op (.call I.unknown) [.s 0,.s 84] 85 <|
 .op .len [.s 85] 86 <|
 .set 87 (.s 33) <|
 .set 88 (.s 34) <|
 .set 89 (.k (.int .i64 0)) <|
 .loop (utBody I)<|prtEnd I
def prtTags (I:SI):NP := .op (.call I.knownF) [.s 0] 31 <|
 .op (.cv .i64) [.s 31] 32 <|
 .set 33 (.k (.slice none 0 0)) <|
 .set 34 (.k (.int .i64 0)) <|
 .set 35 (.k (.int .i64 0)) <|
 .loop (tagBody I)<|prtUnk I
def prtRest (I:SI):NP := .op .not [.s 2] 30 <|
 .ite (.s 30)
  (.ret [.s 6])
  (.nil)<|prtTags I
theorem q_part_eq (I:SI):q_part I=⟨.op (.box 5) [.s 3] 4 <|
 .chk 4 <|
 .op .len [.s 0] 5 <|
 .set 6 (.k (.slice none 0 0)) <|
 .set 7 (.k (.int .i64 0)) <|
 .loop (prtBody I)<|prtRest I,[.direct]⟩:=rfl
theorem own_below {w w':World} {B B2:Nat} {e:TypeId} {d:Value} {out:Bs} (h:Own w B e d out) (k:RowKit.Below B2 w w') (hB:w.heap.size≤B2∨∀ g,d.ownBlock=some g→g<B2):Own w' B e d out:=by
 refine ⟨⟨h.1.1,?_⟩,Nat.le_trans h.2 k.size⟩
 rcases h.1.2 with h1 | ⟨g,cap,cur,h1,h2,h3,h4⟩
 ·exact .inl h1
 ·refine .inr ⟨g,cap,cur,h1,h2,?_,h4⟩
  have hg:g<B2:=by
   rcases hB with hB | hB
   ·have:=(Array.getElem?_eq_some_iff.1 h3).1;omega
   ·exact hB g (by rw [h1];rfl)
  rw [k.block g hg];exact h3
theorem keep_below {w0 w w':World} {B:Nat} (h:Keep [] w0 w) (k:RowKit.Below B w w') (hB:w0.heap.size≤B):Keep [] w0 w':=
 Keep.of_below ((h.below (fun x hx=>by cases hx) (Nat.le_refl _)).trans ⟨k.os,k.tape,k.output,k.size,fun q hq=>k.block q (Nat.lt_of_lt_of_le hq hB)⟩)
section
variable {P:Program}
def SubsOk (P:Program) (I:SI):Fl→Prop
 | .nil=>True
 | .cons _ _ _ _ _ _ _ sub r=>PartOk P I sub∧SubsOk P I r
theorem prtBody_ok {I:SI} (F:Fns P I) {fl:Fl} (hsub:SubsOk P I fl) (hlen:fl.len≤32767) {w0 w:World} {al:Option Addr} {c b4:Nat} {cs:List Value} {t:Tr} {ver:Int} {flex:Bool}
  (hF:RepF0 w0 al 0 fl) (ht:RepTr w0 cs t) (k0:Keep [] w0 w) (hr4:Row w b4 cs) {η:Nat→Value} (h0:η 0 = .slice al fl.len c) (h1:η 1=i64 ver) (h2:η 2 = .bool flex) (h4:η 4=ptr b4) (h5:η 5=i64 (fl.len:Int)) (h6:η 6 = .slice none 0 0) (h7:η 7=i64 0)
  (hlim:(partFB ver flex fl t 0).length≤lim) {Q:Post} (hR:∀ η' w' d,(∀ n,n<6→η' n=η n)→η' 6=d→Own w' w.heap.size I.e8 d (partFB ver flex fl t 0)→Keep [] w0 w'→Row w' b4 cs→Q .ext η' w'):∃ n,roundsP ((prtBody I).wp P) Q n η w:=by
 have hb4:b4<w.heap.size:=hr4.lt
 have hcl:cs.length=5:=by obtain ⟨_,_,_,_,_,e⟩:=ht.cells;rw [e];rfl
 have key:∀ (g:Fl) (i:Nat) (η1:Nat→Value) (w1:World) (d:Value) (out:Bs),i+g.len=fl.len→SubsOk P I g→RepF0 w0 al i g→(∀ n,n<6→η1 n=η n)→η1 6=d→η1 7=i64 (i:Int)→Own w1 w.heap.size I.e8 d out→Keep [] w0 w1→Row w1 b4 cs →
   out++partFB ver flex g t i=partFB ver flex fl t 0→roundsP ((prtBody I).wp P) Q (g.len+1) η1 w1:=by
  intro g
  induction g with
  | nil=>
   intro i η1 w1 d out hi _ _ hag e6 e7 ho kw hr hout
   have hie:i=fl.len:=by simpa [Fl.len] using hi
   subst hie
   show NP.wp P (prtBody I) _ η1 w1
   refine np_op (vs:=[i64 (fl.len:Int),i64 (fl.len:Int)]) (by simp [SV.val,e7,hag 5 (by omega),h5]) ⟨.i64,_,_,.bool false,rfl,by simp [binV],?_⟩
   refine np_F (by simp [SV.val,upd]) ?_
   simp only [partFB,List.append_nil] at hout
   rw [hout] at ho
   refine hR _ w1 d (fun n hn => ?_) (by simp [upd,e6]) ho kw hr
   simp only [upd]
   repeat rw [if_neg (by omega)]
   exact hag n hn
  | cons kind frm to nul tag df of sub r _ ih=>
   intro i η1 w1 d out hi hsb hrep hag e6 e7 ho kw hr hout
   simp only [Fl.len] at hi
   have hlt:i<fl.len:=by omega
   obtain ⟨b,o,hal⟩:∃ b o,al=some ⟨b,o,none⟩:=by
    match al,hrep with
    | some ⟨b,o,none⟩,_=>exact ⟨b,o,rfl⟩
   have hrep':=hrep
   rw [hal] at hrep'
   obtain ⟨⟨vF,h10,al',c',hv',h12,h13⟩,h14⟩:=hrep'
   rw [← hal] at h14
   subst hv'
   have hFs:RepFl w0 (.slice al' sub.len c') sub:=⟨al',c',rfl,h12,h13⟩
   have e0:η1 0 = .slice (some ⟨b,o,none⟩) fl.len c:=by rw [hag 0 (by omega),h0,hal]
   have fin:∀ (η2:Nat→Value) (w2:World) (d2:Value) (out2:Bs),(∀ n,n<8→n≠6→η2 n=η1 n)→η2 26=d2→Own w2 w.heap.size I.e8 d2 out2→Keep [] w0 w2→Row w2 b4 cs→out2++partFB ver flex r t (i+1)=partFB ver flex fl t 0 →
     NP.wp P (.op (.bin .add) [.s 7,.k (.int .i64 1)] 27 <| .set 28 (.s 26) <| .set 29 (.s 27) <| .set 6 (.s 28) <| .set 7 (.s 29) <| .nil) (fun o η w=>match o with | .nrm=>roundsP ((prtBody I).wp P) Q (r.len+1) η w | o=>Q o η w) η2 w2:=by
    intro η2 w2 d2 out2 hag2 e26 ho2 kw2 hr2 hout2
    refine np_op (vs:=[i64 (i:Int),i64 1]) (by simp [SV.val,hag2 7 (by omega) (by omega),e7]) ⟨.i64,_,1,_,rfl,rfl,?_⟩
    rw [show ((i:Int)+1)=((i+1:Nat):Int) by omega,wrap64 _ (by omega) (by omega)]
    show roundsP _ _ _ _ _
    refine ih (i+1) _ w2 d2 out2 (by omega) hsb.2 h14 (fun n hn => ?_) (by simp [upd,SV.val,e26]) (by simp [upd,SV.val]) ho2 kw2 hr2 hout2
    simp only [upd]
    repeat rw [if_neg (by omega)]
    rw [hag2 n (by omega) (by omega)];exact hag n hn
   show NP.wp P (prtBody I) _ η1 w1
   refine np_op (vs:=[i64 (i:Int),i64 (fl.len:Int)]) (by simp [SV.val,e7,hag 5 (by omega),h5]) ⟨.i64,_,_,.bool true,rfl,by simp [binV];omega,?_⟩
   refine np_T (by simp [SV.val,upd]) ?_
   refine np_op (vs:=[.slice (some ⟨b,o,none⟩) fl.len c,i64 (i:Int)]) (by simp [SV.val,upd,e0,e7]) (wp_ia hlt ?_)
   refine ⟨⟨_,by simp only [upd];rfl⟩,?_⟩
   refine np_op (vs:=[ptrO b (o+8*i)]) (by simp [SV.val,upd,Addr.add]) (wp_lds (range_keep h10 kw) rfl ?_)
   refine np_local (sz:=8) (cs:=fcells kind frm to nul tag df of (.slice al' sub.len c')) rfl rfl fcells_one (by simp [upd]) (by omega) fun b11 w2 r2 hb2 k2 => ?_
   have kw2:=kw.then k2
   have hr2:=hr.keep k2 (by simp)
   have ho2:Own w2 w.heap.size I.e8 d out:=ho.keep k2 (fun _ _ h=>by cases h)
   have hne11:∀ x,d.ownBlock=some x→x≠b11:=fun x hx=>by have:=(own_own ho x hx).2;omega
   refine np_op (vs:=[ptrO b11 4]) (by simp [SV.val,upd,Addr.add]) (wp_load r2 rfl ?_)
   by_cases htag:tag<0
   rotate_left
   ·refine np_op (vs:=[i64 tag,i64 0]) (by simp [SV.val,upd]) ⟨.i64,tag,0,.bool false,rfl,by simp [binV];omega,?_⟩
    refine np_F (by simp [SV.val,upd]) ?_
    refine np_F (by simp [SV.val,upd]) ?_
    refine np_F (by simp [SV.val,upd]) ?_
    refine np_F (by simp [SV.val,upd]) ?_
    refine np_F (by simp [SV.val,upd]) ?_
    show NP.wp P (.op (.bin .add) [.s 7,.k (.int .i64 1)] 27 _) _ _ w2
    refine fin _ w2 d out (fun n hn hn6 => ?_) (by simp [upd,SV.val,e6]) ho2 kw2 hr2 ?_
    ·simp only [upd]
     repeat rw [if_neg (by omega)]
    ·have hpart:partFB ver flex (.cons kind frm to nul tag df of sub r) t i=partFB ver flex r t (i+1):=by
      simp only [partFB,htag,false_and,if_false,List.nil_append]
     rw [hpart] at hout;exact hout
   have hng:tag<0∧True:=⟨htag,trivial⟩
   refine np_op (vs:=[i64 tag,i64 0]) (by simp [SV.val,upd]) ⟨.i64,tag,0,.bool true,rfl,by simp [binV];omega,?_⟩
   refine np_T (by simp [SV.val,upd]) ?_
   refine np_op (vs:=[ptrO b11 0]) (by simp [SV.val,upd,Addr.add]) (wp_lds (cs:=fcells kind frm to nul tag df of (.slice al' sub.len c')) (r2.range 0 8) rfl ?_)
   refine np_T (by simp [SV.val,upd]) ?_
   refine np_T (by simp [SV.val,upd]) ?_
   refine np_op (vs:=[.agg (fcells kind frm to nul tag df of (.slice al' sub.len c')).toArray,i64 ver]) (by simp [SV.val,upd,hag 1 (by omega),h1]) (has_ok F.named F.has fun w3 k3 => ?_)
   have r3:=r2.keep k3 (by simp)
   have kw3:=kw2.then k3
   have hr3:=hr2.keep k3 (by simp)
   have ho3:Own w3 w.heap.size I.e8 d out:=ho2.keep k3 (fun _ _ h=>by cases h)
   refine np_T (by simp [SV.val,upd]) ?_
   have hpart:partFB ver flex (.cons kind frm to nul tag df of sub r) t i=(if has frm to ver=true then fieldB kind nul of (partB ver flex sub) ver flex (t.at i) else [])++partFB ver flex r t (i+1):=by
    simp only [partFB,hng.1,true_and];rfl
   rw [hpart] at hout
   by_cases hh:has frm to ver=true
   ·rw [if_pos hh] at hout
    have hl1:out.length+(fieldB kind nul of (partB ver flex sub) ver flex (t.at i)).length≤lim:=by
     have:=congrArg List.length hout
     simp only [List.length_append] at this
     omega
    refine np_T (by simp [SV.val,upd,hh]) ?_
    refine np_draw ?_
    have kd:=keep_drawn w3
    have r3d:=r3.keep kd (by simp)
    have hr3d:=hr3.keep kd (by simp)
    have kw3d:=kw3.then kd
    have e4:η1 4=ptr b4:=by rw [hag 4 (by omega),h4]
    refine np_look (vs:=[ptrO b11 0]) (by simp [SV.val,upd,Addr.add]) (wp_lds (cs:=fcells kind frm to nul tag df of (.slice al' sub.len c')) (r3d.range 0 8) rfl ⟨rfl,?_⟩)
    have r4r:∀ {w:World},Row w b4 cs→w.rangeAt b4 0 cs:=fun h=>by have h:=h.range 0 5;rw [List.drop_zero,List.take_of_length_le (by omega)] at h;exact h
    refine np_look (vs:=[ptrO b4 0]) (by simp [SV.val,upd,e4,Addr.add]) (wp_lds (r4r hr3d) hcl ⟨rfl,?_⟩)
    refine np_op (vs:=[.agg cs.toArray,i64 (i:Int)]) (by simp [SV.val,upd,e7]) (at_ok F.named F.at' (ht.keep kw3d) fun cs4 w4 k4 ht4 => ?_)
    have r4:=r3d.keep k4 (by simp)
    have hr4':=hr3d.keep k4 (by simp)
    have kw4:=kw3d.then k4
    refine np_keep (vs:=[ptrO b4 0]) (by simp [SV.val,upd,e4,Addr.add]) (wp_lds (r4r hr4') hcl ⟨by simp [upd],rfl⟩) ?_
    refine np_keep (vs:=[ptrO b11 0]) (by simp [SV.val,upd,Addr.add]) (wp_lds (cs:=fcells kind frm to nul tag df of (.slice al' sub.len c')) (r4.range 0 8) rfl ⟨by simp [upd],rfl⟩) ?_
    refine np_op (vs:=[.agg (fcells kind frm to nul tag df of (.slice al' sub.len c')).toArray,i64 ver,.bool flex,.agg cs4.toArray]) (by simp [SV.val,upd,hag 1 (by omega),h1,hag 2 (by omega),h2]) (field_ok F hsb.1 (hFs.keep kw4) ht4 (by omega) fun v5 w5 n5 k5 => ?_)
    have r5:=r4.keep k5 (by simp)
    have hr5:=hr4'.keep k5 (by simp)
    have kw5:=kw4.then k5
    refine np_keep (vs:=[ptrO b4 0]) (by simp [SV.val,upd,e4,Addr.add]) (wp_lds (r4r hr5) hcl ⟨by simp [upd],rfl⟩) ?_
    refine np_keep (vs:=[ptrO b11 0]) (by simp [SV.val,upd,Addr.add]) (wp_lds (cs:=fcells kind frm to nul tag df of (.slice al' sub.len c')) (r5.range 0 8) rfl ⟨by simp [upd],rfl⟩) ?_
    have ho5:Own w5 w.heap.size I.e8 d out:=ho3.keep ((kd.then k4).then k5) (fun _ _ h=>by cases h)
    refine np_op (vs:=[d,v5]) (by simp [SV.val,upd,e6]) (wp_appG ho5 n5.sl0 hl1 fun d6 w6 o6 b6 g6 => ?_)
    obtain ⟨r6,_⟩:=gr_row g6 r5 hne11
    have hr6:=row_below hr5 b6 hb4
    have kw6:=keep_below kw5 b6 k0.size
    refine np_keep (vs:=[ptrO b4 0]) (by simp [SV.val,upd,e4,Addr.add]) (wp_lds (r4r hr6) hcl ⟨by simp [upd],rfl⟩) ?_
    refine np_keep (vs:=[ptrO b11 0]) (by simp [SV.val,upd,Addr.add]) (wp_lds (cs:=fcells kind frm to nul tag df of (.slice al' sub.len c')) (r6.range 0 8) rfl ⟨by simp [upd],rfl⟩) ?_
    show NP.wp P (.op (.bin .add) [.s 7,.k (.int .i64 1)] 27 _) _ _ w6
    refine fin _ w6 d6 (out++fieldB kind nul of (partB ver flex sub) ver flex (t.at i)) (fun n hn hn6 => ?_) (by simp [upd,SV.val]) o6 kw6 hr6 (by rw [List.append_assoc];exact hout)
    simp only [upd]
    repeat rw [if_neg (by omega)]
   ·rw [if_neg hh,List.nil_append] at hout
    refine np_F (by simp [SV.val,upd,hh]) ?_
    show NP.wp P (.op (.bin .add) [.s 7,.k (.int .i64 1)] 27 _) _ _ w3
    refine fin _ w3 d out (fun n hn hn6 => ?_) (by simp [upd,SV.val,e6]) ho3 kw3 hr3 hout
    simp only [upd]
    repeat rw [if_neg (by omega)]
 exact ⟨_,key fl 0 η w (.slice none 0 0) [] (by omega) hsub hF (fun n _=>rfl) h6 h7 (own_nil w) k0 hr4 (by simp)⟩
theorem wrTagL_drop (l:Tg) (i:Nat) (h:i<l.length):wrTagL (l.drop i)=wrTag l[i]++wrTagL (l.drop (i+1)):=by
 rw [List.drop_eq_getElem_cons h];rfl
theorem utBody_ok {I:SI} (F:Fns P I) {w0:World} {vL:Value} {L:Tg} (hL:RepU w0 vL L) (hlen:L.length≤32767) {η:Nat→Value} (h85:η 85=vL) (h86:η 86=i64 (L.length:Int)) (h87:η 87 = .slice none 0 0) (h88:η 88=i64 0) (h89:η 89=i64 0)
  (hlim:(wrTagL (L.map fun p=>(p.1,p.2.take 32767))).length≤lim) {Q:Post} (hR:∀ η' w' d,(∀ n,n<87→η' n=η n)→η' 87=d→η' 88=i64 (L.length:Int)→Own w' w0.heap.size I.e8 d (wrTagL (L.map fun p=>(p.1,p.2.take 32767)))→RowKit.Below w0.heap.size w0 w'→Q .ext η' w'):∃ n,roundsP ((utBody I).wp P) Q n η w0:=by
 obtain ⟨al,c,hvL,hc,_,hat⟩:=hL
 have key:∀ (m i:Nat) (η1:Nat→Value) (w1:World) (d:Value) (out:Bs),L.length - i=m→i≤L.length→(∀ n,n<87→η1 n=η n)→η1 87=d→η1 88=i64 (i:Int)→η1 89=i64 (i:Int)→Own w1 w0.heap.size I.e8 d out→RowKit.Below w0.heap.size w0 w1 →
   out++wrTagL ((L.map fun p=>(p.1,p.2.take 32767)).drop i)=wrTagL (L.map fun p=>(p.1,p.2.take 32767))→roundsP ((utBody I).wp P) Q (m+1) η1 w1:=by
  intro m
  induction m with
  | zero=>
   intro i η1 w1 d out hm hi hag e87 e88 e89 ho hb hout
   have hie:i=L.length:=by omega
   subst hie
   show NP.wp P (utBody I) _ η1 w1
   refine np_op (vs:=[i64 (L.length:Int),i64 (L.length:Int)]) (by simp [SV.val,e89,hag 86 (by omega),h86]) ⟨.i64,_,_,.bool false,rfl,by simp [binV],?_⟩
   refine np_F (by simp [SV.val,upd]) ?_
   rw [List.drop_of_length_le (by simp),show wrTagL []=[] from rfl,List.append_nil] at hout
   rw [hout] at ho
   refine hR _ w1 d (fun n hn => ?_) (by simp [upd,e87]) (by simp [upd,e88]) ho hb
   simp only [upd]
   repeat rw [if_neg (by omega)]
   exact hag n hn
  | succ m ih=>
   intro i η1 w1 d out hm hi hag e87 e88 e89 ho hb hout
   have hlt:i<L.length:=by omega
   have hget:L[i]?=some L[i]:=List.getElem?_eq_getElem hlt
   obtain ⟨hk,b,o,vv,hal,hr,hsl⟩:=hat i _ hget
   have kw:Keep [] w0 w1:=Keep.of_below hb
   have hsplit:wrTagL ((L.map fun p=>(p.1,p.2.take 32767)).drop i)=wrTag (L[i].1,L[i].2.take 32767)++wrTagL ((L.map fun p=>(p.1,p.2.take 32767)).drop (i+1)):=by
    rw [wrTagL_drop _ i (by simpa using hlt)];simp
   rw [hsplit] at hout
   have hlout:out.length+((wrUv L[i].1).length+((wrUv (L[i].2.take 32767).length).length+(L[i].2.take 32767).length))≤lim:=by
    have:=congrArg List.length hout
    simp only [List.length_append,wrTag] at this
    omega
   show NP.wp P (utBody I) _ η1 w1
   refine np_op (vs:=[i64 (i:Int),i64 (L.length:Int)]) (by simp [SV.val,e89,hag 86 (by omega),h86]) ⟨.i64,_,_,.bool true,rfl,by simp [binV];omega,?_⟩
   refine np_T (by simp [SV.val,upd]) ?_
   refine np_op (vs:=[.slice (some ⟨b,o,none⟩) L.length c,i64 (i:Int)]) (by simp [SV.val,upd,hag 85 (by omega),h85,hvL,hal,e89]) (wp_ia hlt ?_)
   refine ⟨⟨_,by simp only [upd];rfl⟩,?_⟩
   refine np_op (vs:=[ptrO b (o+2*i)]) (by simp [SV.val,upd,Addr.add]) (wp_lds (range_keep hr kw) rfl ?_)
   refine np_local (sz:=2) (cs:=[.int .u32 (L[i].1:Int),vv]) rfl rfl (zcons_one hsl) (by simp [upd]) (by omega) fun b93 w2 r2 hb2 k2 => ?_
   have kw2:=kw.then k2
   have ho2:Own w2 w0.heap.size I.e8 d out:=ho.keep k2 (fun _ _ h=>by cases h)
   have hb2':RowKit.Below w0.heap.size w0 w2:=kw2.below (fun x hx=>by cases hx) (Nat.le_refl _)
   have hslB:SlE (fun q=>q<w0.heap.size) w2 vv L[i].2:=(hsl.weak (ok':=fun q=>q<w0.heap.size) fun q hq _=>hq).same (Same.below hb2' fun q hq=>hq)
   refine np_op (vs:=[ptrO b93 1]) (by simp [SV.val,upd,Addr.add]) (wp_load r2 rfl ?_)
   refine np_op (vs:=[vv]) (by simp [SV.val,upd]) (whole_ok F.named F.whole hslB fun v96 h96 => ?_)
   refine np_op (vs:=[ptrO b93 0]) (by simp [SV.val,upd,Addr.add]) (wp_load r2 rfl ?_)
   refine np_op (vs:=[.int .u32 (L[i].1:Int)]) (by simp [SV.val,upd]) ⟨.u32,_,rfl,?_⟩
   rw [wrap_nat .u64 rfl L[i].1 (by show L[i].1<2^64;omega)]
   refine np_op (vs:=[.int .u64 (L[i].1:Int)]) (by simp [SV.val,upd]) (uvarint_ok F.named F.uvarint (by omega) fun d3 w3 o3 k3 => ?_)
   have ho3:Own w3 w0.heap.size I.e8 d out:=ho2.keep k3 (fun _ _ h=>by cases h)
   refine np_op (vs:=[d,d3]) (by simp [SV.val,upd,e87]) (wp_app ho3 (own_sl o3).sl0 (by omega) fun d4 w4 o4 b4 => ?_)
   have hb4:RowKit.Below w0.heap.size w2 w4:=(k3.below (fun x hx=>by cases hx) hb2'.size).trans b4
   have h96':=h96.same (Same.below hb4 fun q hq=>hq)
   obtain ⟨a6,c6,hv6⟩:=h96'.slice
   have hn6:(L[i].2.take 32767).length≤32767:=by rw [List.length_take];omega
   refine np_op (vs:=[.slice a6 (L[i].2.take 32767).length c6]) (by simp [SV.val,upd,hv6]) ⟨_,_,_,rfl,?_⟩
   refine np_op (vs:=[i64 ((L[i].2.take 32767).length:Int)]) (by simp [SV.val,upd,goInt]) ⟨.i64,_,rfl,?_⟩
   rw [wrap_nat .u64 rfl (L[i].2.take 32767).length (by show (L[i].2.take 32767).length<2^64;omega)]
   refine np_op (vs:=[.int .u64 ((L[i].2.take 32767).length:Int)]) (by simp [SV.val,upd]) (uvarint_ok F.named F.uvarint (by omega) fun d5 w5 o5 k5 => ?_)
   have ho5:Own w5 w0.heap.size I.e8 d4 (out++wrUv L[i].1):=o4.keep k5 (fun _ _ h=>by cases h)
   refine np_op (vs:=[d4,d5]) (by simp [SV.val,upd]) (wp_app ho5 (own_sl o5).sl0 (by rw [List.length_append];omega) fun d6 w6 o6 b6 => ?_)
   have hb6:RowKit.Below w0.heap.size w4 w6:=(k5.below (fun x hx=>by cases hx) (hb2'.trans hb4).size).trans b6
   have h96'':=h96'.same (Same.below hb6 fun q hq=>hq)
   refine np_op (vs:=[d6,v96]) (by simp [SV.val,upd]) (wp_app o6 h96''.sl0 (by simp only [List.length_append];omega) fun d7 w7 o7 b7 => ?_)
   refine np_op (vs:=[i64 (i:Int),i64 1]) (by simp [SV.val,upd,e88]) ⟨.i64,_,1,_,rfl,rfl,?_⟩
   refine np_op (vs:=[i64 (i:Int),i64 1]) (by simp [SV.val,upd,e89]) ⟨.i64,_,1,_,rfl,rfl,?_⟩
   rw [show ((i:Int)+1)=((i+1:Nat):Int) by omega,wrap64 _ (by omega) (by omega)]
   show roundsP _ _ _ _ _
   refine ih (i+1) _ w7 d7 (out++wrUv L[i].1++wrUv (L[i].2.take 32767).length++L[i].2.take 32767) (by omega) (by omega) (fun n hn => ?_) (by simp [upd,SV.val]) (by simp [upd,SV.val]) (by simp [upd,SV.val]) o7 (((hb2'.trans hb4).trans hb6).trans b7) ?_
   ·simp only [upd]
    repeat rw [if_neg (by omega)]
    exact hag n hn
   ·rw [← hout];simp [wrTag]
 exact ⟨_,key _ 0 η w0 (.slice none 0 0) [] rfl (Nat.zero_le _) (fun n _=>rfl) h87 h88 h89 (own_nil w0) (RowKit.Below.refl _ _) (by simp)⟩
theorem part_of_subs {I:SI} (F:Fns P I) {fl:Fl} (hsub:SubsOk P I fl) (hneg:negT fl=true) (hlen:fl.len≤32767):PartOk P I fl:=by
 intro w vF cs t ver flex K hF ht hlim hk
 have hq:=F.part
 rw [q_part_eq] at hq
 refine calls_of_np F.named (vs:=[vF,i64 ver,.bool flex,.agg cs.toArray]) hq fun η hη => ?_
 have h0:η 0=vF:=hη 0 (by simp)
 have h1:η 1=i64 ver:=hη 1 (by simp)
 have h2:η 2 = .bool flex:=hη 2 (by simp)
 have h3:η 3 = .agg cs.toArray:=hη 3 (by simp)
 have hcl:cs.length=5:=by obtain ⟨_,_,_,_,_,e⟩:=ht.cells;rw [e];rfl
 obtain ⟨n,vs,z,al5,c5,vu,hcs,hn,hz,hs,hu,_⟩:=rep_l ht
 obtain ⟨al,c,hvF,hc,hF0⟩:=hF
 refine np_op (vs:=[.agg cs.toArray]) (by simp [SV.val,h3]) (wp_box hcl fun b4 w1 r4 hb4 k1 => ?_)
 refine ⟨⟨_,by simp only [upd];rfl⟩,?_⟩
 refine np_op (vs:=[.slice al fl.len c]) (by simp [SV.val,upd,h0,hvF]) ⟨_,_,_,rfl,?_⟩
 have hlim1:(partFB ver flex fl t 0).length≤lim:=by unfold partB at hlim;rw [List.length_append] at hlim;omega
 refine prtBody_ok (c:=c) F hsub hlen hF0 ht k1 r4 (by simp [upd,SV.val,h0,hvF]) (by simp [upd,SV.val,h1]) (by simp [upd,SV.val,h2]) (by simp [upd,SV.val]) (by simp [upd,SV.val,goInt]) (by simp [upd,SV.val]) (by simp [upd,SV.val]) hlim1 fun η2 w2 d hag e6 o2 k2 r2 => ?_
 have a0:η2 0=vF:=by rw [hag 0 (by omega)];simp [upd,SV.val,h0]
 have a2:η2 2 = .bool flex:=by rw [hag 2 (by omega)];simp [upd,SV.val,h2]
 have a4:η2 4=ptr b4:=by rw [hag 4 (by omega)];simp [upd,SV.val]
 have hb4lt:b4<w1.heap.size:=r4.lt
 show NP.wp P (prtRest I) _ η2 w2
 refine np_op (vs:=[.bool flex]) (by simp [SV.val,a2]) ⟨flex,rfl,?_⟩
 cases flex with
 | false=>
  refine np_T (by simp [SV.val,upd]) ?_
  show K (pack _) w2
  have he:partB ver false fl t=partFB ver false fl t 0:=by simp [partB,endB]
  rw [he] at hk
  have:=hk d w2 (Own.low o2 k1.size) k2
  simpa [pack,SV.val,upd,e6] using this
 | true=>
  have he:partB ver true fl t=partFB ver true fl t 0++wrTags (unkB t.u):=by simp [partB,endB]
  rw [he] at hk hlim
  have hwt:wrTags (unkB t.u)=wrUv (unkL t.u).length++wrTagL ((unkL t.u).map fun p=>(p.1,p.2.take 32767)):=by simp [wrTags,unkB]
  rw [hwt] at hk hlim
  simp only [List.length_append] at hlim
  obtain ⟨_,_,hmany⟩:=unkL_ok t.u
  have hFl:∀ {w'},Keep [] w w'→RepFl w' vF fl:=fun k=>RepFl.keep (w:=w) ⟨al,c,hvF,hc,hF0⟩ k
  refine np_F (by simp [SV.val,upd]) ?_
  show NP.wp P (prtTags I) _ _ w2
  refine np_op (vs:=[vF]) (by simp [SV.val,upd,a0]) (known_ok F.named F.known (hFl k2) hneg hlen fun w3 k3 => ?_)
  have k03:=k2.then k3
  have o3:Own w3 w1.heap.size I.e8 d (partFB ver true fl t 0):=o2.keep k3 (fun _ _ h=>by cases h)
  have r3:=r2.keep k3 (by simp)
  refine np_op (vs:=[.int .u32 0]) (by simp [SV.val,upd]) ⟨.u32,0,rfl,?_⟩
  refine ⟨1,?_⟩
  show NP.wp P (tagBody I) _ _ w3
  refine np_op (vs:=[i64 0,i64 0]) (by simp [SV.val,upd];rfl) ⟨.i64,0,0,.bool false,rfl,rfl,?_⟩
  refine np_F (by simp [SV.val,upd]) ?_
  show NP.wp P (prtUnk I) _ _ w3
  have r3n:Row w3 b4 (tcells n vs z (.slice al5 t.l.length c5) vu):=by rw [hcs] at r3;exact r3
  refine np_op (vs:=[ptrO b4 4]) (by simp [SV.val,upd,a4,Addr.add]) (wp_load r3n rfl ?_)
  refine np_op (vs:=[vF,vu]) (by simp [SV.val,upd,a0]) (unknown_ok F.named F.unknown F.known (hFl k03) hneg hlen (hu.keep k03) fun v4 w4 k4 hU => ?_)
  have k04:=k03.then k4
  have o4:Own w4 w1.heap.size I.e8 d (partFB ver true fl t 0):=o3.keep k4 (fun _ _ h=>by cases h)
  obtain ⟨a4s,c4s,hv4,_⟩:=id hU
  refine np_op (vs:=[.slice a4s (unkL t.u).length c4s]) (by simp [SV.val,upd,hv4]) ⟨_,_,_,rfl,?_⟩
  refine utBody_ok F hU hmany (by simp [upd,SV.val]) (by simp [upd,SV.val,goInt]) (by simp [upd,SV.val]) (by simp [upd,SV.val]) (by simp [upd,SV.val]) (by omega) fun η5 w5 dt hag5 e87 e88 ot bt => ?_
  have b6:η5 6=d:=by rw [hag5 6 (by omega)];simp [upd,SV.val,e6]
  have o5:Own w5 w1.heap.size I.e8 d (partFB ver true fl t 0):=own_below o4 bt (.inl (Nat.le_refl _))
  have k05:Keep [] w w5:=keep_below k04 bt k04.size
  show NP.wp P (prtEnd I) _ η5 w5
  refine np_op (vs:=[i64 ((unkL t.u).length:Int)]) (by simp [SV.val,e88]) ⟨.i64,_,rfl,?_⟩
  rw [wrap_nat .u64 rfl (unkL t.u).length (by show (unkL t.u).length<2^64;omega)]
  refine np_op (vs:=[.int .u64 ((unkL t.u).length:Int)]) (by simp [SV.val,upd]) (uvarint_ok F.named F.uvarint (by omega) fun d6 w6 o6 k6 => ?_)
  have o5':Own w6 w1.heap.size I.e8 d (partFB ver true fl t 0):=o5.keep k6 (fun _ _ h=>by cases h)
  have ot6:Own w6 w4.heap.size I.e8 dt _:=ot.keep k6 (fun _ _ h=>by cases h)
  refine np_op (vs:=[d,d6]) (by simp [SV.val,upd,b6]) (wp_appG o5' (own_sl o6).sl0 (by omega) fun d7 w7 o7 b7 g7 => ?_)
  have hdlt:∀ x,d.ownBlock=some x→x<w4.heap.size:=fun x hx=>(own_own o4 x hx).2
  have st7:Sl (fun q=>w4.heap.size≤q) w7 dt (wrTagL ((unkL t.u).map fun p=>(p.1,p.2.take 32767))):=by
   refine (own_sl ot6).same ⟨g7.1.size,fun q hq hq4=>g7.1.block q hq fun h => ?_⟩
   have:=hdlt q h.symm
   omega
  refine np_op (vs:=[d7,dt]) (by simp [SV.val,upd,e87,hag5]) (wp_app o7 st7.sl0 (by rw [List.length_append];omega) fun d8 w8 o8 b8 => ?_)
  show K (pack _) w8
  rw [List.append_assoc] at o8
  have k08:Keep [] w w8:=keep_below (k05.then k6) (b7.trans b8) k1.size
  have:=hk d8 w8 (Own.low o8 k1.size) k08
  simpa [pack,SV.val,upd] using this
def okFl:Fl→Bool
 | .nil=>true
 | .cons _ _ _ _ tag _ _ sub r=>decide (tag<0) && decide (sub.len≤32767) && okFl sub && okFl r
theorem okFl_neg:∀ {fl:Fl},okFl fl=true→negT fl=true:=by
 intro fl
 induction fl with
 | nil=>intro _;rfl
 | cons kind frm to nul tag df of sub r _ ih=>
  intro h
  simp only [okFl,Bool.and_eq_true,decide_eq_true_eq] at h
  simp only [negT,Bool.and_eq_true,decide_eq_true_eq]
  exact ⟨h.1.1.1,ih h.2⟩
theorem subs_ok {I:SI} (F:Fns P I):∀ {fl:Fl},okFl fl=true→SubsOk P I fl:=by
 intro fl
 induction fl with
 | nil=>intro _;trivial
 | cons kind frm to nul tag df of sub r ih1 ih2=>
  intro h
  simp only [okFl,Bool.and_eq_true,decide_eq_true_eq] at h
  exact ⟨part_of_subs F (ih1 h.1.2) (okFl_neg h.1.2) h.1.1.2,ih2 h.2⟩
theorem part_ok {I:SI} (F:Fns P I) {fl:Fl} (h:okFl fl=true) (hlen:fl.len≤32767):PartOk P I fl:=part_of_subs F (subs_ok F h) (okFl_neg h) hlen
def mcells (vF:Value) (flex:Int):List Value:=[vF,i64 flex]
def isFlex (flex ver:Int):Bool:=decide (0≤flex) && decide (flex≤ver)
theorem write_ok {I:SI} (F:Fns P I) {fl:Fl} (h:okFl fl=true) (hlen:fl.len≤32767) {w:World} {vF:Value} {flex ver:Int} {cs:List Value} {t:Tr} (hF:RepFl w vF fl) (ht:RepTr w cs t) {K:Value→World→Prop} (hlim:(partB ver (isFlex flex ver) fl t).length≤lim)
  (hk:∀ v w',New w w' v (partB ver (isFlex flex ver) fl t)→Keep [] w w'→K v w'):In.wp P (.call I.write) [.agg (mcells vF flex).toArray,i64 ver,.agg cs.toArray] w K:=by
 refine calls_of_np F.named (vs:=[.agg (mcells vF flex).toArray,i64 ver,.agg cs.toArray]) F.write fun η hη => ?_
 have h0:η 0 = .agg (mcells vF flex).toArray:=hη 0 (by simp)
 have h1:η 1=i64 ver:=hη 1 (by simp)
 have h2:η 2 = .agg cs.toArray:=hη 2 (by simp)
 have hcl:cs.length=5:=by obtain ⟨_,_,_,_,_,e⟩:=ht.cells;rw [e];rfl
 refine np_op (vs:=[.agg (mcells vF flex).toArray]) (by simp [SV.val,h0]) (wp_box rfl fun b3 w1 r3 hb3 k1 => ?_)
 refine ⟨⟨_,by simp only [upd];rfl⟩,?_⟩
 refine np_op (vs:=[.agg cs.toArray]) (by simp [SV.val,upd,h2]) (wp_box hcl fun b4 w2 r4 hb4 k2 => ?_)
 refine ⟨⟨_,by simp only [upd];rfl⟩,?_⟩
 have r3':=r3.keep k2 (by simp)
 have k12:=k1.then k2
 refine np_op (vs:=[ptrO b3 0]) (by simp [SV.val,upd,Addr.add]) (wp_load r3' rfl ?_)
 refine np_op (vs:=[ptrO b3 1]) (by simp [SV.val,upd,Addr.add]) (wp_load r3' rfl ?_)
 refine np_op (vs:=[i64 flex,i64 0]) (by simp [SV.val,upd]) ⟨.i64,flex,0,.bool (decide (flex≥0)),rfl,rfl,?_⟩
 have fin:∀ (η1:Nat→Value) (fb:Bool),fb=isFlex flex ver→η1 5=vF→η1 1=i64 ver→η1 14 = .bool fb→η1 4=ptr b4→NP.wp P (.op (.loadN 5) [.q 4 0] 15 <| .op (.call I.partF) [.s 5,.s 1,.s 14,.s 15] 16 <| .ret [.s 16]) (postP [.direct] K) η1 w2:=by
  intro η1 fb hfb e5 e1 e14 e4
  subst hfb
  refine np_op (vs:=[ptrO b4 0]) (by simp [SV.val,e4,Addr.add]) (wp_lds (by have h:=r4.range 0 5;rw [List.drop_zero,List.take_of_length_le (by omega)] at h;exact h) hcl ?_)
  refine np_op (vs:=[vF,i64 ver,.bool (isFlex flex ver),.agg cs.toArray]) (by simp [SV.val,upd,e5,e1,e14]) (part_ok F h hlen w2 vF cs t ver (isFlex flex ver) _ (hF.keep k12) (ht.keep k12) hlim fun v w3 n3 k3 => ?_)
  show K (pack _) w3
  have:=hk v w3 (n3.weak fun q _ hq=>Nat.le_trans k12.size hq) (k12.then k3)
  simpa [pack,SV.val,upd] using this
 by_cases hf:0≤flex
 ·refine np_T (by simp [SV.val,upd,hf]) ?_
  refine np_T (by simp [SV.val,upd,hf]) ?_
  refine np_T (by simp [SV.val,upd,hf]) ?_
  refine np_op (vs:=[ptrO b3 1]) (by simp [SV.val,upd,Addr.add]) (wp_load r3' rfl ?_)
  refine np_T (by simp [SV.val,upd,hf]) ?_
  refine np_op (vs:=[i64 ver,i64 flex]) (by simp [SV.val,upd,h1]) ⟨.i64,ver,flex,.bool (decide (ver≥flex)),rfl,rfl,?_⟩
  refine np_T (by simp [SV.val,upd,hf]) ?_
  show NP.wp P (.op (.loadN 5) [.q 4 0] 15 _) _ _ w2
  exact fin _ (decide (ver≥flex)) (by simp [isFlex,hf]) (by simp [upd]) (by simp [upd,h1]) (by simp [upd,SV.val]) (by simp [upd])
 ·refine np_F (by simp [SV.val,upd,hf];try omega) ?_
  refine np_F (by simp [SV.val,upd,hf];try omega) ?_
  refine np_F (by simp [SV.val,upd,hf];try omega) ?_
  refine np_F (by simp [SV.val,upd,hf];try omega) ?_
  refine np_F (by simp [SV.val,upd,hf];try omega) ?_
  show NP.wp P (.op (.loadN 5) [.q 4 0] 15 _) _ _ w2
  exact fin _ false (by simp [isFlex,hf]) (by simp [upd]) (by simp [upd,h1]) (by simp [upd,SV.val]) (by simp [upd])
end
end Go.Sp
namespace Go.Sp
open Go.Lx Go.Nx Go.Km Go.Mx Go.Kb Go.Mr
set_option linter.unusedSimpArgs false
set_option linter.unusedVariables false
structure FS where
 kind:Int
 frm:Int
 to:Int
 nul:Int
 tag:Int
 df:Int
 of:Int
def FS.cells (s:FS) (v:Value):List Value:=fcells s.kind s.frm s.to s.nul s.tag s.df s.of v
def FS.set (s:FS) (o:Nat) (x:Int):FS:=match o with
 | 0=>{ s with kind:=x } | 1=>{ s with frm:=x } | 2=>{ s with to:=x } | 3=>{ s with nul:=x } | 4=>{ s with tag:=x } | 5=>{ s with df:=x } | _=>{ s with of:=x }
theorem FS.set_cells (s:FS) (v:Value) (o:Nat) (x:Int) (h:o<7):(s.cells v).set o (i64 x)=(s.set o x).cells v:=by
 match o,h with
 | 0,_=>rfl | 1,_=>rfl | 2,_=>rfl | 3,_=>rfl | 4,_=>rfl | 5,_=>rfl | 6,_=>rfl
inductive TV where
 | fl (f:Fl)
 | fd (s:FS) (sub:Fl)
abbrev TE:=List (Nat×TV)
def getT (n:Nat):TE→Option TV
 | []=>none
 | (m,t)::r=>if m=n then some t else getT n r
def litT (env:TE):List Nat→List SV→FS→Fl→Option (FS×Fl)
 | [],[],s,sub=>some (s,sub)
 | o::os,.k (.int .i64 x)::r,s,sub=>if o<7 then litT env os r (s.set o x) sub else none
 | o::os,.s m::r,s,sub=>if o=7 then match getT m env with
   | some (.fl f)=>litT env os r s f
   | _=>none
  else none
 | _,_,_,_=>none
def fldsT (env:TE):List SV→Option Fl
 | []=>some .nil
 | .s m::r=>match getT m env with
  | some (.fd s sub)=>(fldsT env r).map fun f => .cons s.kind s.frm s.to s.nul s.tag s.df s.of sub f
  | _=>none
 | _=>none
def isZF:List Value→Bool
 | [.int .i64 0,.int .i64 0,.int .i64 0,.int .i64 0,.int .i64 0,.int .i64 0,.int .i64 0,.slice none 0 0]=>true
 | _=>false
def runT (tabs:FuncId→Option Fl):NP→TE→Option (NP×TE)
 | .op (.call f) [] n k,env=>(tabs f).bind fun fl=>runT tabs k ((n,.fl fl)::env)
 | .op (.lit z offs) args n k,env=>if isZF z then (litT env offs args ⟨0,0,0,0,0,0,0⟩ .nil).bind fun x=>runT tabs k ((n,.fd x.1 x.2)::env) else some (.op (.lit z offs) args n k,env)
 | .op (.bslG sz) args n k,env=>if sz=8 then (fldsT env args).bind fun x=>runT tabs k ((n,.fl x)::env) else none
 | p,env=>some (p,env)
def tabC (P:Program):Nat→FuncId→Option Fl
 | 0,_=>none
 | d+1,f=>match fnP P f 0 with
  | some ⟨p,[.direct]⟩=>(runT (tabC P d) p []).bind fun x=>match x.1 with
   | .ret [.s n]=>match getT n x.2 with
    | some (.fl fl)=>some fl
    | _=>none
   | _=>none
  | _=>none
def msgC (P:Program) (d:Nat) (f:FuncId):Option (Fl×Int):=match fnP P f 0 with
 | some ⟨.op (.alloc [.slice none 0 0,.int .i64 0]) [] 0 (.chk 0 p),[.cells 2]⟩=>(runT (tabC P d) p []).bind fun x=>match x.1 with
  | .op (.lit [.slice none 0 0,.int .i64 0] [1,0]) [.k (.int .i64 fx),.s n] m (.op (.store 2) [.q 0 0,.s m'] j (.ret [.q 0 0]))=>
   if m=m'∧m≠0∧j≠0∧(x.2.all fun e=>e.1 != 0)=true then match getT n x.2 with
    | some (.fl fl)=>some (fl,fx)
    | _=>none
   else none
  | _=>none
 | _=>none
def TVRep (w:World) (v:Value):TV→Prop
 | .fl f=>RepFl w v f
 | .fd s sub=>∃ u,v = .agg (s.cells u).toArray∧RepFl w u sub
theorem TVRep.keep {w w':World} {v:Value} {t:TV} (h:TVRep w v t) (k:Keep [] w w'):TVRep w' v t:=by
 cases t with
 | fl f=>exact RepFl.keep h k
 | fd s sub=>obtain ⟨u,h1,h2⟩:=h;exact ⟨u,h1,h2.keep k⟩
def TERep (w:World) (η:Nat→Value) (env:TE):Prop:=∀ n t,getT n env=some t→TVRep w (η n) t
theorem TERep.next {w w':World} {η:Nat→Value} {env:TE} {n:Nat} {v:Value} {t:TV} (h:TERep w η env) (k:Keep [] w w') (ht:TVRep w' v t):TERep w' (upd η n v) ((n,t)::env):=by
 intro m t' hm
 simp only [getT] at hm
 by_cases hmn:n=m
 ·subst hmn
  simp only [if_true,Option.some.injEq] at hm
  subst hm
  simpa [upd] using ht
 ·rw [if_neg hmn] at hm
  simpa [upd,Ne.symm hmn] using (h m t' hm).keep k
theorem repF0_but {w w':World} {b:Nat} {cs:List Value} (k:Keep [b] w w') (r:Row w b cs) (hl:cs.length<8):∀ {fl:Fl} {al:Option Addr} {i:Nat},RepF0 w al i fl→RepF0 w' al i fl:=by
 intro fl
 induction fl with
 | nil=>intro al i _;cases al<;>trivial
 | cons kind frm to nul tag df of sub rr ih1 ih2=>
  intro al i h
  match al,h with
  | some ⟨bb,o,none⟩,⟨⟨v,h1,al',c,h2,h3,h4⟩,h5⟩=>
   have hne:bb≠b:=by
    rintro rfl
    have hc:=h1 7 v rfl
    obtain ⟨e,r⟩:=r
    simp only [World.cell?,r] at hc
    have hc':cs[o+8*i+7]?=some v:=by simpa using hc
    have:=(List.getElem?_eq_some_iff.1 hc').1
    omega
   refine ⟨⟨v,fun j u hj => ?_,al',c,h2,h3,ih1 h4⟩,ih2 h5⟩
   have hj':=h1 j u hj
   rw [World.cell?_of_block (k.block bb (Kb.cell_lt hj') (by simpa using hne))];exact hj'
theorem repFl_but {w w':World} {b:Nat} {cs:List Value} (k:Keep [b] w w') (r:Row w b cs) (hl:cs.length<8) {v:Value} {fl:Fl} (h:RepFl w v fl):RepFl w' v fl:=by
 obtain ⟨al,c,h1,h2,h3⟩:=h
 exact ⟨al,c,h1,h2,repF0_but k r hl h3⟩
section
variable {P:Program}
def TabFn (P:Program) (f:FuncId) (fl:Fl):Prop:=∀ (w:World) (K:Value→World→Prop),(∀ v w',RepFl w' v fl→Keep [] w w'→K v w')→In.wp P (.call f) [] w K
theorem repFl_one {w:World} {v:Value} {fl:Fl} (h:RepFl w v fl):v.cells = #[v]:=by
 obtain ⟨al,c,rfl,_⟩:=h;rfl
theorem litT_ok {w:World} {η:Nat→Value} {env:TE} (he:TERep w η env):∀ (offs:List Nat) (args:List SV) (s:FS) (sub:Fl) (u:Value) (x:FS×Fl),litT env offs args s sub=some x→RepFl w u sub →
  (args.map (SV.val η)).length=offs.length∧(∀ v∈args.map (SV.val η),v.cells.size=1∧v.cells.toList=[v])∧∃ u',putAll (s.cells u) (offs.zip (args.map (SV.val η)))=x.1.cells u'∧RepFl w u' x.2:=by
 intro offs
 induction offs with
 | nil=>
  intro args s sub u x h hu
  cases args with
  | nil=>cases h;exact ⟨rfl,fun v hv=>(by cases hv),u,rfl,hu⟩
  | cons a r=>simp [litT] at h
 | cons o os ih=>
  intro args s sub u x h hu
  cases args with
  | nil=>simp [litT] at h
  | cons a r=>
   unfold litT at h
   split at h
   ·rename_i heq
    cases heq
   ·rename_i heq1 heq2
    cases heq1;cases heq2
    split at h
    ·rename_i h7
     obtain ⟨h1,h2,u',h3,h4⟩:=ih _ _ _ u _ h hu
     refine ⟨by simpa using h1,fun v hv => ?_,u',?_,h4⟩
     ·simp only [List.map_cons,List.mem_cons] at hv
      rcases hv with rfl | hv
      ·exact ⟨rfl,rfl⟩
      ·exact h2 v hv
     ·simp only [List.map_cons,List.zip_cons_cons,putAll,SV.val]
      rw [FS.set_cells _ _ _ _ h7]
      exact h3
    ·cases h
   ·rename_i heq1 heq2
    cases heq1;cases heq2
    split at h
    ·rename_i h7
     subst h7
     split at h
     ·rename_i f hf
      have hm:=he _ _ hf
      obtain ⟨h1,h2,u',h3,h4⟩:=ih _ _ _ _ _ h hm
      have hc:=repFl_one hm
      refine ⟨by simpa using h1,fun v hv => ?_,u',?_,h4⟩
      ·simp only [List.map_cons,List.mem_cons] at hv
       rcases hv with rfl | hv
       ·simp only [SV.val];rw [hc];exact ⟨rfl,rfl⟩
       ·exact h2 v hv
      ·simp only [List.map_cons,List.zip_cons_cons,putAll,SV.val]
       exact h3
     ·cases h
    ·cases h
   ·cases h
theorem fldsT_ok {w:World} {η:Nat→Value} {env:TE} (he:TERep w η env):∀ (args:List SV) (fl:Fl),fldsT env args=some fl →
  (∀ v∈args.map (SV.val η),v.cells.size=8)∧args.length=fl.len∧∀ (w':World) (b i:Nat),Keep [] w w'→w'.rangeAt b (0+8*i) ((args.map (SV.val η)).map (·.cells.toList)).flatten→RepF0 w' (some ⟨b,0,none⟩) i fl:=by
 intro args
 induction args with
 | nil=>intro fl h;cases h;exact ⟨fun v hv=>(by cases hv),rfl,fun w' b i _ _=>trivial⟩
 | cons a r ih=>
  intro fl h
  unfold fldsT at h
  split at h
  ·rename_i heq;cases heq
  ·rename_i heq
   cases heq
   split at h
   ·rename_i s sub hs
    simp only [Option.map_eq_some_iff] at h
    obtain ⟨f,hf,rfl⟩:=h
    obtain ⟨u,h1,h2⟩:=he _ _ hs
    obtain ⟨g1,g2,g3⟩:=ih f hf
    refine ⟨fun v hv => ?_,by simp [Fl.len,g2],fun w' b i k hr => ?_⟩
    ·simp only [List.map_cons,List.mem_cons] at hv
     rcases hv with rfl | hv
     ·simp only [SV.val];rw [h1];rfl
     ·exact g1 v hv
    ·simp only [List.map_cons,SV.val,h1,List.flatten_cons] at hr
     have hcell:(Value.agg (s.cells u).toArray).cells.toList=s.cells u:=by simp [Value.cells]
     rw [hcell] at hr
     obtain ⟨al,c,hu,hc,hf0⟩:=h2.keep k
     refine ⟨⟨u,fun j v hj=>hr j v ?_,al,c,hu,hc,hf0⟩,g3 w' b (i+1) k fun j v hj => ?_⟩
     ·have:j<(s.cells u).length:=(List.getElem?_eq_some_iff.1 hj).1
      rw [List.getElem?_append_left this];exact hj
     ·have:=hr (8+j) v (by
       have hl:(s.cells u).length=8:=rfl
       rw [List.getElem?_append_right (by omega),hl,Nat.add_sub_cancel_left];exact hj)
      rw [show 0+8*(i+1)+j=0+8*i+(8+j) by omega];exact this
   ·cases h
  ·cases h
theorem isZF_eq {z:List Value} (h:isZF z=true):z=(FS.mk 0 0 0 0 0 0 0).cells (.slice none 0 0):=by
 unfold isZF at h
 split at h
 ·rfl
 ·cases h
theorem repFl_nil (w:World):RepFl w (.slice none 0 0) .nil:=⟨none,0,rfl,Nat.le_refl _,trivial⟩
theorem runT_ok {tabs:FuncId→Option Fl} (ht:∀ f fl,tabs f=some fl→TabFn P f fl):∀ (p:NP) (env:TE) (x:NP×TE) {w0 w:World} {η:Nat→Value} {Q:Post},runT tabs p env=some x→TERep w η env→Keep [] w0 w →
  (∀ η' w',TERep w' η' x.2→Keep [] w0 w'→(∀ n,(∀ e∈x.2,e.1≠n)→η' n=η n)→x.1.wp P Q η' w')→p.wp P Q η w:=by
 intro p
 have stay:∀ (p:NP) (env:TE) (x:NP×TE) {w0 w:World} {η:Nat→Value} {Q:Post},some (p,env)=some x→TERep w η env→Keep [] w0 w →
   (∀ η' w',TERep w' η' x.2→Keep [] w0 w'→(∀ n,(∀ e∈x.2,e.1≠n)→η' n=η n)→x.1.wp P Q η' w')→p.wp P Q η w:=by
  intro p env x w0 w η Q h he k hk
  cases h
  exact hk η w he k fun n _=>rfl
 have grow:∀ {tabs:FuncId→Option Fl} (k:NP) (env:TE) (x:NP×TE),runT tabs k env=some x→∀ e∈env,e∈x.2:=by
  intro tabs k
  induction k with
  | op i args n k ih=>
   intro env x h e he
   unfold runT at h
   split at h
   ·rename_i heq;cases heq
    simp only [Option.bind_eq_some_iff] at h
    obtain ⟨fl,_,h⟩:=h
    exact ih _ _ h e (by simp [he])
   ·rename_i heq;cases heq
    split at h
    ·simp only [Option.bind_eq_some_iff] at h
     obtain ⟨y,_,h⟩:=h
     exact ih _ _ h e (by simp [he])
    ·cases h;exact he
   ·rename_i heq;cases heq
    split at h
    ·simp only [Option.bind_eq_some_iff] at h
     obtain ⟨y,_,h⟩:=h
     exact ih _ _ h e (by simp [he])
    ·cases h
   ·cases h;exact he
  | _=>intro env x h e he;simp only [runT,Option.some.injEq] at h;subst h;exact he
 induction p with
 | op i args n k ih=>
  intro env x w0 w η Q h he kw hk
  unfold runT at h
  split at h
  ·rename_i heq
   cases heq
   simp only [Option.bind_eq_some_iff] at h
   obtain ⟨fl,hfl,h⟩:=h
   refine np_op (vs:=[]) rfl (ht _ _ hfl w _ fun v w' hv k' => ?_)
   refine ih _ x h (he.next (t := .fl fl) k' hv) (kw.then k') fun η' w'' he' kw' hag=>hk η' w'' he' kw' fun m hm => ?_
   rw [hag m hm]
   have:=hm _ (grow _ _ _ h (n,.fl fl) (by simp))
   simp [upd,Ne.symm this]
  ·rename_i z offs args' n' k' heq
   cases heq
   split at h
   ·rename_i hz
    simp only [Option.bind_eq_some_iff] at h
    obtain ⟨y,hy,h⟩:=h
    have hze:=isZF_eq hz
    obtain ⟨g1,g2,u',g3,g4⟩:=litT_ok he _ _ _ _ (.slice none 0 0) _ hy (repFl_nil w)
    refine np_op rfl ⟨g1,g2,?_⟩
    rw [hze,g3]
    refine ih _ x h (he.next (t := .fd y.1 y.2) (Keep.refl _ _) ⟨u',rfl,g4⟩) kw fun η' w'' he' kw' hag=>hk η' w'' he' kw' fun m hm => ?_
    rw [hag m hm]
    have:=hm _ (grow _ _ _ h (n,.fd y.1 y.2) (by simp))
    simp [upd,Ne.symm this]
   ·exact stay _ _ _ h he kw hk
  ·rename_i sz args' n' k' heq
   cases heq
   split at h
   ·rename_i hz
    subst hz
    simp only [Option.bind_eq_some_iff] at h
    obtain ⟨y,hy,h⟩:=h
    obtain ⟨g1,g2,g3⟩:=fldsT_ok he _ _ hy
    refine np_op rfl ⟨g1,fun e => ?_⟩
    obtain ⟨r2,k2⟩:=alloc_row (w:=w) ((args.map (SV.val η)).map (·.cells.toList)).flatten e
    refine ih _ x h (he.next (t := .fl y) k2 ⟨some ⟨w.heap.size,0,none⟩,y.len,by rw [List.length_map,g2],Nat.le_refl _,g3 _ _ 0 k2 (fun j v hj => ?_)⟩) (kw.then k2) fun η' w'' he' kw' hag=>hk η' w'' he' kw' fun m hm => ?_
    ·rw [show 0+8*0+j=j by omega];exact r2.cell hj
    ·rw [hag m hm]
     have:=hm _ (grow _ _ _ h (n,.fl y) (by simp))
     simp [upd,Ne.symm this]
   ·cases h
  ·exact stay _ _ _ h he kw hk
 | _=>intro env x w0 w η Q h he kw hk;exact stay _ _ _ (by simpa [runT] using h) he kw hk
theorem tabC_ok (hn:Named P):∀ (d:Nat) (f:FuncId) (fl:Fl),tabC P d f=some fl→TabFn P f fl:=by
 intro d
 induction d with
 | zero=>intro f fl h;cases h
 | succ d ih=>
  intro f fl h w K hk
  simp only [tabC] at h
  split at h
  ·rename_i p hp
   simp only [Option.bind_eq_some_iff] at h
   obtain ⟨x,hx,h⟩:=h
   split at h
   ·rename_i n hret
    split at h
    ·rename_i fl' hget
     cases h
     refine calls_of_np hn (vs:=[]) hp fun η _ => ?_
     refine runT_ok (w0:=w) ih p [] x hx (fun n t h=>by cases h) (Keep.refl _ _) fun η' w' he kw _ => ?_
     rw [hret]
     show K (pack _) w'
     have:=hk _ w' (he n _ hget) kw
     simpa [pack,SV.val] using this
    ·cases h
   ·cases h
  ·cases h
theorem msgC_ok (hn:Named P) {d:Nat} {f:FuncId} {fl:Fl} {fx:Int} (h:msgC P d f=some (fl,fx)) {w:World} {K:Value→World→Prop} (hk:∀ vF w',RepFl w' vF fl→Keep [] w w'→K (.agg (mcells vF fx).toArray) w'):In.wp P (.call f) [] w K:=by
 unfold msgC at h
 split at h
 ·rename_i p hp
  simp only [Option.bind_eq_some_iff] at h
  obtain ⟨x,hx,h⟩:=h
  split at h
  ·rename_i fx' n m m' j hx1
   split at h
   ·rename_i hc
    obtain ⟨rfl,hm0,hj0,hall⟩:=hc
    split at h
    ·rename_i fl' hget
     cases h
     refine calls_of_np hn (vs:=[]) hp fun η _ => ?_
     refine np_op (vs:=[]) rfl (wp_alloc fun b w1 r1 hb k1 => ?_)
     refine ⟨⟨_,by simp only [upd];rfl⟩,?_⟩
     refine runT_ok (w0:=w1) (tabC_ok hn d) p [] x hx (fun n t h=>by cases h) (Keep.refl _ _) fun η' w' he kw hag => ?_
     rw [hx1]
     have e0:η' 0=ptr b:=by
      rw [hag 0 fun e he => ?_]
      ·simp [upd]
      ·simp only [List.all_eq_true,bne_iff_ne] at hall;exact hall e he
     have hF:RepFl w' (η' n) fl:=he n _ hget
     have r1':=r1.keep kw (by simp)
     refine np_op (vs:=[i64 fx,η' n]) (by simp [SV.val]) ⟨rfl,fun v hv => ?_,?_⟩
     ·simp only [List.mem_cons,List.not_mem_nil,or_false] at hv
      rcases hv with rfl | rfl
      ·exact ⟨rfl,rfl⟩
      ·rw [repFl_one hF];exact ⟨rfl,rfl⟩
     have hput:putAll [.slice none 0 0,.int .i64 0] ([1,0].zip [i64 fx,η' n])=mcells (η' n) fx:=rfl
     rw [hput]
     have hone:(η' n).oneCell'=true:=by obtain ⟨al,c,h,_⟩:=hF;rw [h];rfl
     refine np_op (vs:=[ptr b,.agg (mcells (η' n) fx).toArray]) (by simp [SV.val,upd,Ne.symm hm0,e0,Addr.add]) (wp_store r1' ⟨by simp [Value.cells,mcells],by simp [Value.cells,mcells,hone,show (i64 fx).oneCell'=true from rfl]⟩ (by simp) fun w3 r3 k3 => ?_)
     have k03:Keep [] w w3:=(k1.then kw).trans k3 fun x hx hlt=>by rw [List.mem_singleton.1 hx] at hlt;omega
     have r3':Row w3 b (mcells (η' n) fx):=by simpa [Value.cells,put,mcells] using r3
     have hbb:SV.val (upd (upd η' m (.agg (mcells (η' n) fx).toArray)) j undef) (.q 0 0)=ptr b:=by simp [SV.val,upd,Ne.symm hm0,Ne.symm hj0,e0,Addr.add]
     refine ⟨b,0,mcells (η' n) fx,hbb,r3'.range 0 2,rfl,?_⟩
     exact hk (η' n) w3 (repFl_but k3 r1' (by decide) hF) k03
    ·cases h
   ·cases h
  ·cases h
 ·cases h
end
end Go.Sp
namespace Go.Sp
open Go.Lx Go.Nx Go.Km Go.Mx Go.Kb Go.Mr
set_option linter.unusedSimpArgs false
set_option linter.unusedVariables false
section
variable {P:Program}
theorem zz4_ok {I:SI} (F:Fns P I) {w:World} {k:Int} {vv:Value} {bs:Bs} (hs:SlE (fun _=>True) w vv bs) {K:Value→World→Prop} (hk:∀ b w',Keep [] w w'→K (.bool b) w'):In.wp P (.call I.zzFits4) [.agg [.int .u32 k,vv].toArray] w K:=by
 refine calls_of_np F.named (vs:=[.agg [.int .u32 k,vv].toArray]) F.zz4 fun η hη => ?_
 have h0:η 0 = .agg [.int .u32 k,vv].toArray:=hη 0 (by simp)
 obtain ⟨a,c,rfl⟩:=hs.slice
 refine np_op (vs:=[.agg [.int .u32 k,.slice a bs.length c].toArray]) (by simp [SV.val,h0]) (wp_box rfl fun b w1 r1 hb k1 => ?_)
 refine ⟨⟨_,by simp only [upd];rfl⟩,?_⟩
 refine np_op (vs:=[ptrO b 1]) (by simp [SV.val,upd,Addr.add]) (wp_load r1 rfl ?_)
 refine np_op (vs:=[.slice a bs.length c]) (by simp [SV.val,upd]) ⟨_,_,_,rfl,?_⟩
 refine np_op (vs:=[i64 (bs.length:Int),i64 2147483647]) (by simp [SV.val,upd,goInt]) ⟨.i64,_,_,.bool (decide ((bs.length:Int) > 2147483647)),rfl,rfl,?_⟩
 by_cases h:(bs.length:Int) > 2147483647
 ·refine np_T (by simp [SV.val,upd];omega) ?_
  show K (.bool false) w1
  exact hk _ w1 k1
 ·refine np_F (by simp [SV.val,upd];omega) ?_
  show K (.bool true) w1
  exact hk _ w1 k1
def zz3Body (I:SI):NP := .op (.bin .lss) [.s 5,.s 3] 6 <|
  .ite (.s 6)
   (.nil)
   (.exit) <|
  .op (.ia 2) [.s 0,.s 5] 7 <|
  .chk 7 <|
  .op (.loadN 2) [.q 7 0] 8 <|
  .op (.alloc [.int .u32 0,.slice none 0 0]) [] 9 <|
  .chk 9 <|
  .op (.store 2) [.q 9 0,.s 8] 10 <|
  .op (.loadN 2) [.q 9 0] 11 <|
  .op (.call I.zzFits4) [.s 11] 12 <|
  .op .not [.s 12] 13 <|
  .ite (.s 13)
   (.ret [.k (.bool false)])
   (.nil) <|
  .op (.bin .add) [.s 5,.k (.int .i64 1)] 14 <|
  .set 15 (.s 14) <|
  .set 5 (.s 15) <|
  .nil
theorem q_zz3_eq (I:SI):q_zzFits3 I=⟨.op .len [.s 0] 1 <|
 .op (.bin .gtr) [.s 1,.k (.int .i64 2147483647)] 2 <|
 .ite (.s 2)
  (.ret [.k (.bool false)])
  (.nil) <|
 .op .len [.s 0] 3 <|
 .set 4 (.k (.bool false)) <|
 .set 5 (.k (.int .i64 0)) <|
 .loop (zz3Body I) <| .ret [.k (.bool true)],[.direct]⟩:=rfl
theorem zz3_ok {I:SI} (F:Fns P I) {w:World} {vu:Value} {u:Tg} (hu:RepU w vu u) {K:Value→World→Prop} (hk:∀ b w',Keep [] w w'→K (.bool b) w'):In.wp P (.call I.zzFits3) [vu] w K:=by
 have hq:=F.zz3
 rw [q_zz3_eq] at hq
 refine calls_of_np F.named (vs:=[vu]) hq fun η hη => ?_
 have h0:η 0=vu:=hη 0 (by simp)
 obtain ⟨al,c,rfl,hc,_,hat⟩:=hu
 refine np_op (vs:=[.slice al u.length c]) (by simp [SV.val,h0]) ⟨_,_,_,rfl,?_⟩
 refine np_op (vs:=[i64 (u.length:Int),i64 2147483647]) (by simp [SV.val,upd,goInt]) ⟨.i64,_,_,.bool (decide ((u.length:Int) > 2147483647)),rfl,rfl,?_⟩
 by_cases h:(u.length:Int) > 2147483647
 ·refine np_T (by simp [SV.val,upd];omega) ?_
  show K (.bool false) w
  exact hk _ w (Keep.refl _ _)
 refine np_F (by simp [SV.val,upd];omega) ?_
 show NP.wp P (.op .len [.s 0] 3 _) _ _ w
 refine np_op (vs:=[.slice al u.length c]) (by simp [SV.val,upd,h0]) ⟨_,_,_,rfl,?_⟩
 show ∃ m,roundsP _ _ m _ w
 refine ⟨u.length+1,?_⟩
 have key:∀ (m i:Nat) (η1:Nat→Value) (w1:World),u.length - i=m→i≤u.length→η1 0 = .slice al u.length c→η1 3=i64 (u.length:Int)→η1 5=i64 (i:Int)→Keep [] w w1 →
   roundsP ((zz3Body I).wp P) (fun o η w=>match o with | .ext=>(NP.ret [.k (.bool true)]).wp P (postP [.direct] K) η w | o=>postP [.direct] K o η w) (m+1) η1 w1:=by
  intro m
  induction m with
  | zero=>
   intro i η1 w1 hm hi e0 e3 e5 kw
   have hie:i=u.length:=by omega
   subst hie
   show NP.wp P (zz3Body I) _ η1 w1
   refine np_op (vs:=[i64 (u.length:Int),i64 (u.length:Int)]) (by simp [SV.val,e5,e3]) ⟨.i64,_,_,.bool false,rfl,by simp [binV],?_⟩
   refine np_F (by simp [SV.val,upd]) ?_
   show K (.bool true) w1
   exact hk _ w1 kw
  | succ m ih=>
   intro i η1 w1 hm hi e0 e3 e5 kw
   have hlt:i<u.length:=by omega
   obtain ⟨_,b,o,vv,hal,hr,hsl⟩:=hat i _ (List.getElem?_eq_getElem hlt)
   show NP.wp P (zz3Body I) _ η1 w1
   refine np_op (vs:=[i64 (i:Int),i64 (u.length:Int)]) (by simp [SV.val,e5,e3]) ⟨.i64,_,_,.bool true,rfl,by simp [binV];omega,?_⟩
   refine np_T (by simp [SV.val,upd]) ?_
   refine np_op (vs:=[.slice (some ⟨b,o,none⟩) u.length c,i64 (i:Int)]) (by simp [SV.val,upd,e0,hal,e5]) (wp_ia hlt ?_)
   refine ⟨⟨_,by simp only [upd];rfl⟩,?_⟩
   refine np_op (vs:=[ptrO b (o+2*i)]) (by simp [SV.val,upd,Addr.add]) (wp_lds (range_keep hr kw) rfl ?_)
   refine np_local (sz:=2) (cs:=[.int .u32 (u[i].1:Int),vv]) rfl rfl (zcons_one hsl) (by simp [upd]) (by omega) fun b9 w2 r2 hb2 k2 => ?_
   refine np_op (vs:=[ptrO b9 0]) (by simp [SV.val,upd,Addr.add]) (wp_lds (cs:=[.int .u32 (u[i].1:Int),vv]) (r2.range 0 2) rfl ?_)
   refine np_op (vs:=[.agg [.int .u32 (u[i].1:Int),vv].toArray]) (by simp [SV.val,upd]) (zz4_ok F (slE_keep hsl (kw.then k2)) fun bb w3 k3 => ?_)
   refine np_op (vs:=[.bool bb]) (by simp [SV.val,upd]) ⟨bb,rfl,?_⟩
   have kw3:=(kw.then k2).then k3
   cases bb with
   | false=>
    refine np_T (by simp [SV.val,upd]) ?_
    show K (.bool false) w3
    exact hk _ w3 kw3
   | true=>
    refine np_F (by simp [SV.val,upd]) ?_
    show NP.wp P (.op (.bin .add) [.s 5,.k (.int .i64 1)] 14 _) _ _ w3
    refine np_op (vs:=[i64 (i:Int),i64 1]) (by simp [SV.val,upd,e5]) ⟨.i64,_,1,_,rfl,rfl,?_⟩
    rw [show ((i:Int)+1)=((i+1:Nat):Int) by omega,wrap64 _ (by omega) (by omega)]
    show roundsP _ _ _ _ _
    exact ih (i+1) _ w3 (by omega) (by omega) (by simp [upd,e0]) (by simp [upd,e3]) (by simp [upd,SV.val]) kw3
 exact key u.length 0 _ w (by omega) (Nat.zero_le _) (by simp [upd,h0]) (by simp [upd,goInt]) (by simp [upd,SV.val]) (Keep.refl _ _)
theorem zz2_ok {I:SI} (F:Fns P I) {f:FuncId} (hf:fnP P f 1=some (q_zzFits2 I)) {w:World} {cs:List Value} {t:Tr} (ht:RepTr w cs t) {K:Value→World→Prop} (hk:∀ b w',Keep [] w w'→K (.bool b) w'):In.wp P (.call f) [.agg cs.toArray] w K:=by
 refine calls_of_np F.named (vs:=[.agg cs.toArray]) hf fun η hη => ?_
 have h0:η 0 = .agg cs.toArray:=hη 0 (by simp)
 obtain ⟨n,vs,z,al,c,vu,rfl,_,_,hs,hu,hc,_,_⟩:=rep_l ht
 obtain ⟨a,c1,rfl⟩:=hs.slice
 refine np_op (vs:=[.agg (tcells n (.slice a t.s.length c1) z (.slice al t.l.length c) vu).toArray]) (by simp [SV.val,h0]) (wp_box rfl fun b w1 r1 hb k1 => ?_)
 refine ⟨⟨_,by simp only [upd];rfl⟩,?_⟩
 refine np_op (vs:=[ptrO b 1]) (by simp [SV.val,upd,Addr.add]) (wp_load r1 rfl ?_)
 refine np_op (vs:=[.slice a t.s.length c1]) (by simp [SV.val,upd]) ⟨_,_,_,rfl,?_⟩
 refine np_op (vs:=[i64 (t.s.length:Int),i64 2147483647]) (by simp [SV.val,upd,goInt]) ⟨.i64,_,_,.bool (decide ((t.s.length:Int) > 2147483647)),rfl,rfl,?_⟩
 by_cases h:(t.s.length:Int) > 2147483647
 ·refine np_T (by simp [SV.val,upd];omega) ?_
  show K (.bool false) w1
  exact hk _ w1 k1
 refine np_F (by simp [SV.val,upd];omega) ?_
 show NP.wp P (.op .load [.q 1 3] 5 _) _ _ w1
 refine np_op (vs:=[ptrO b 3]) (by simp [SV.val,upd,Addr.add]) (wp_load r1 rfl ?_)
 refine np_op (vs:=[.slice al t.l.length c]) (by simp [SV.val,upd]) ⟨_,_,_,rfl,?_⟩
 refine np_op (vs:=[i64 (t.l.length:Int),i64 2147483647]) (by simp [SV.val,upd,goInt]) ⟨.i64,_,_,.bool (decide ((t.l.length:Int) > 2147483647)),rfl,rfl,?_⟩
 by_cases h:(t.l.length:Int) > 2147483647
 ·refine np_T (by simp [SV.val,upd];omega) ?_
  show K (.bool false) w1
  exact hk _ w1 k1
 refine np_F (by simp [SV.val,upd];omega) ?_
 show NP.wp P (.op .load [.q 1 4] 8 _) _ _ w1
 refine np_op (vs:=[ptrO b 4]) (by simp [SV.val,upd,Addr.add]) (wp_load r1 rfl ?_)
 refine np_op (vs:=[vu]) (by simp [SV.val,upd]) (zz3_ok F (hu.keep k1) fun bb w2 k2 => ?_)
 refine np_op (vs:=[.bool bb]) (by simp [SV.val,upd]) ⟨bb,rfl,?_⟩
 cases bb with
 | false=>
  refine np_T (by simp [SV.val,upd]) ?_
  show K (.bool false) w2
  exact hk _ w2 (k1.then k2)
 | true=>
  refine np_F (by simp [SV.val,upd]) ?_
  show K (.bool true) w2
  exact hk _ w2 (k1.then k2)
end
end Go.Sp
namespace Go.Sp
open Go.Lx Go.Nx Go.Km Go.Mx Go.Kb Go.Mr
set_option linter.unusedSimpArgs false
set_option linter.unusedVariables false
section
variable {P:Program} {g:Nat} {e:TypeId}
structure Law (P:Program) (I:SI) (e:TypeId) (g:Nat) (fZz fMax fMsg fVer fA:FuncId) (fl:Fl) (fx:Int) (m:Nat) (fs:Nat→Fs):Prop where
 F:Fns P I
 zz:fnP P fZz 1=some (q_zzFits2 I)
 ver:fnP P fVer 2=some p_version
 max:∀ (w:World) (K:Value→World→Prop),(∀ w',Keep [] w w'→K (.int .i64 (m:Int)) w')→In.wp P (.call fMax) [] w K
 many:m<1000
 msg:∀ (w:World) (K:Value→World→Prop),(∀ vF w',RepFl w' vF fl→Keep [] w w'→K (.agg (mcells vF fx).toArray) w')→In.wp P (.call fMsg) [] w K
 okfl:okFl fl=true
 len:fl.len≤32767
 again:∀ v,v≤m→AgainOk2 P e g fA (fs v) (v:Int)
 fit:∀ v,v≤m→fitF (v:Int) (isFlex fx (v:Int)) fl (fs v)=true
 wf:∀ v,v≤m→wfF (fs v)=true
end
end Go.Sp
namespace Go.Sp
open Go.Lx Go.Nx Go.Km Go.Mx Go.Kb Go.Mr
set_option linter.unusedSimpArgs false
set_option linter.unusedVariables false
def tsum (u:Tg):Nat:=(u.map fun p=>1+p.2.length).sum
mutual
def Tr.bulk:Tr→Nat
 | .mk n s z l u=>1+s.length+bulkL l+tsum u
def bulkL:List Tr→Nat
 | []=>0
 | t::r=>t.bulk+bulkL r
end
theorem wrUv_le (n:Nat):(wrUv n).length≤5:=wrV_le 4 n
theorem wrTagL_max (l:Tg) (h:∀ p∈l,p.2.length≤32767):(wrTagL l).length≤32777*l.length:=by
 induction l with
 | nil=>simp [wrTagL]
 | cons x r ih=>
  have e:wrTagL (x::r)=wrTag x++wrTagL r:=by simp [wrTagL]
  rw [e]
  have h1:=wrUv_le x.1
  have h2:=wrUv_le x.2.length
  have h3:=h x (by simp)
  have h4:=ih fun p hp=>h p (by simp [hp])
  simp only [List.length_append,wrTag,List.length_cons];omega
theorem endB_max (flex:Bool) (t:Tr):(endB flex t).length≤5+32777*32767:=by
 unfold endB
 split
 ·have h:=okTags_unkB t.u
  have h1:=wrTagL_max (unkB t.u) fun p hp=>(h.keys p hp).2
  have h3:=wrUv_le (unkB t.u).length
  have h5:(unkB t.u).length≤32767:=by unfold unkB;rw [List.length_map];exact (unkL_ok t.u).2.2
  have h6:32777*(unkB t.u).length≤32777*32767:=Nat.mul_le_mul_left _ h5
  simp only [wrTags,List.length_append];omega
 ·simp
theorem countB_le (flex null:Bool) (n size:Nat) (h:size≤8):(countB flex null n size).length≤8:=by
 unfold countB wrNull wrLen
 have h1:=wrUv_le 0
 have h2:=wrUv_le (n+1)
 split<;>split<;>simp [wrI,be_length]<;>omega
theorem octB_le (k:Nat) (flex null:Bool) (s:Bs) (hk:k≤8):(octB k flex null s).length≤8+min 32767 s.length:=by
 unfold octB
 rw [List.length_append]
 have h:=countB_le flex null (if null then [] else s.take 32767).length k hk
 have h2:(if null then [] else s.take 32767).length≤min 32767 s.length:=by split<;>simp
 omega
def mxVal (kind:Int) (m:Nat):Nat:=if kind=10 then m else if kind=8∨kind=9 then 32775 else 16
def mxField (kind nul of:Int) (m:Nat):Nat:=if kind=11 then 8+32767*mxVal of m else 1+mxVal kind m
def mxF (ver:Int) (flex:Bool):Fl→Nat
 | .nil=>0
 | .cons kind frm to nul tag _ of sub r=>(if has frm to ver then mxField kind nul of (mxF ver flex sub+if flex then 1074004164 else 0) else 0)+mxF ver flex r
theorem mxVal_ok {kind:Int} {pB:Tr→Bs} {m:Nat} (hp:∀ t,(pB t).length≤m) (null flex:Bool) (t:Tr):(valB kind pB null flex t).length≤mxVal kind m:=by
 unfold valB mxVal
 split
 ·rename_i h;subst h;simp
 ·split
  ·rename_i h;subst h;simp;omega
  ·split
   ·have:=octB_le 2 flex null t.s (by omega)
    rw [if_neg (by omega),if_pos (by omega)];omega
   ·split
    ·have:=octB_le 4 flex null t.s (by omega)
     rw [if_neg (by omega),if_pos (by omega)];omega
    ·split
     ·exact hp t
     ·rw [if_neg (by omega),wrI,be_length]
      unfold widthB
      split;omega;split;omega;split<;>omega
theorem flat_max {f:Tr→Bs} {m:Nat} (hf:∀ t,(f t).length≤m):∀ l:List Tr,((l.map f).flatten).length≤l.length*m:=by
 intro l
 induction l with
 | nil=>simp
 | cons x r ih=>
  have:=hf x
  simp only [List.map_cons,List.flatten_cons,List.length_append,List.length_cons,Nat.add_mul,Nat.one_mul];omega
theorem mxField_ok {kind nul of:Int} {pB:Tr→Bs} {m:Nat} (hp:∀ t,(pB t).length≤m) (ver:Int) (flex:Bool) (t:Tr):(fieldB kind nul of pB ver flex t).length≤mxField kind nul of m:=by
 unfold fieldB mxField
 split
 ·have h1:=countB_le flex (t.z && can nul ver) (if t.z && can nul ver then [] else t.l.take 32767).length 4 (by omega)
  have h2:=flat_max (mxVal_ok (kind:=of) hp false flex) (if t.z && can nul ver then [] else t.l.take 32767)
  have h3:(if t.z && can nul ver then [] else t.l.take 32767).length≤32767:=by split<;>simp;omega
  have h4:(if t.z && can nul ver then [] else t.l.take 32767).length*mxVal of m≤32767*mxVal of m:=Nat.mul_le_mul_right _ h3
  rw [List.length_append];omega
 ·split
  ·rename_i h
   have hm:mxVal kind m=m:=by unfold mxVal;rw [if_pos h.1]
   rw [hm]
   split
   ·simp
   ·have:=hp t;simp only [List.length_cons];omega
  ·have:=mxVal_ok (kind:=kind) hp (t.z && can nul ver) flex t;omega
theorem mxF_ok {ver:Int} {flex:Bool}:∀ (fl:Fl) (t:Tr) (i:Nat),(partFB ver flex fl t i).length≤mxF ver flex fl:=by
 intro fl
 induction fl with
 | nil=>intro t i;simp [partFB]
 | cons kind frm to nul tag df of sub r ih1 ih2=>
  intro t i
  have hp:∀ t',(partFB ver flex sub t' 0++endB flex t').length≤mxF ver flex sub+if flex then 1074004164 else 0:=by
   intro t'
   rw [List.length_append]
   have h1:=ih1 t' 0
   have h2:=endB_max flex t'
   cases flex with
   | true=>simp only [if_true];omega
   | false=>simp only [endB,Bool.false_eq_true,if_false,List.length_nil];omega
  simp only [partFB,mxF,List.length_append]
  have h2:=ih2 t (i+1)
  by_cases hh:has frm to ver=true
  ·simp only [hh,and_true,if_true]
   have h3:=mxField_ok (kind:=kind) (nul:=nul) (of:=of) hp ver flex (t.at i)
   split
   ·omega
   ·simp only [List.length_nil];omega
  ·simp only [hh,and_false,Bool.false_eq_true,if_false,List.length_nil];omega
theorem partB_max (ver:Int) (flex:Bool) (fl:Fl) (t:Tr):(partB ver flex fl t).length≤mxF ver flex fl+1074004164:=by
 unfold partB
 rw [List.length_append]
 have h1:=mxF_ok (ver:=ver) (flex:=flex) fl t 0
 have h2:=endB_max flex t
 omega
end Go.Sp
namespace Go.Sp
open Go.Lx Go.Nx Go.Km Go.Mx Go.Kb Go.Mr
set_option linter.unusedSimpArgs false
set_option linter.unusedVariables false
structure TyOk (P:Program) (tT tI tS t8 tB tL tU tG tK:TypeId) (fsT fsG:Array Go.Field):Prop where
 hT:P.underlying tT=some (.struct fsT)
 fT:fsT.toList.map (fun f=>(f.type,f.offset))=[(tI,0),(tS,1),(tB,2),(tL,3),(tU,4)]
 hG:P.underlying tG=some (.struct fsG)
 fG:fsG.toList.map (fun f=>(f.type,f.offset))=[(tK,0),(tS,1)]
 hI:P.underlying tI=some (.int .i64)
 hB:P.underlying tB=some .bool
 hK:P.underlying tK=some (.int .u32)
 h8:P.underlying t8=some (.int .u8)
 hS:P.underlying tS=some (.slice t8)
 hL:P.underlying tL=some (.slice tT)
 hU:P.underlying tU=some (.slice tG)
 cs:[tI,tS,t8,tB,tL,tU,tK].all (fun t=>P.cellsOf t == 1)=true
 cT:P.cellsOf tT=5
 cG:P.cellsOf tG=2
structure Meas {H:Type} (b:DataW H→Nat) (bA:List (DataW H)→Nat):Prop where
 one:∀ d,1≤b d
 sl:∀ es sp,bA es+1≤b (.slice es sp)
 ag:∀ ps,bA ps+1≤b (.agg ps)
 nil:bA []=0
 cons:∀ d r,bA (d::r)=b d+bA r
section
variable {H:Type} {enc:TypeId×Value→H} {P:Program} {w:World} {b:DataW H→Nat} {bA:List (DataW H)→Nat}
abbrev RD (enc:TypeId×Value→H) (P:Program) (w:World) (n:Nat) (t:TypeId) (cs:List Value):Option (DataW H×List MemPlace):=DataW.trod enc P w 0 (fun _=>true) true n t cs
theorem meas_len (M:Meas b bA):∀ l,l.length≤bA l:=by
 intro l
 induction l with
 | nil=>simp
 | cons d r ih=>rw [M.cons];have:=M.one d;simp only [List.length_cons];omega
theorem meas_sum (M:Meas b bA) {α:Type} {m:α→Nat}:∀ (l:List α) (es:List (DataW H)),l.length=es.length→(∀ (i:Nat) (p:α) (d:DataW H),l[i]?=some p→es[i]?=some d→m p≤b d)→(l.map m).sum≤bA es:=by
 intro l
 induction l with
 | nil=>intro es _ _;simp
 | cons x r ih=>
  intro es hl h
  cases es with
  | nil=>simp at hl
  | cons d es=>
   have h1:=h 0 x d rfl rfl
   have h2:=ih es (by simpa using hl) fun i p d h1 h2=>h (i+1) p d (by simpa using h1) (by simpa using h2)
   rw [M.cons];simp only [List.map_cons,List.sum_cons];omega
theorem choose_list {α:Type} {R:Nat→α→Prop}:∀ n,(∀ i,i<n→∃ p,R i p)→∃ l:List α,l.length=n∧∀ i p,l[i]?=some p→R i p:=by
 intro n
 induction n with
 | zero=>intro _;exact ⟨[],rfl,fun i p h=>by simp at h⟩
 | succ n ih=>
  intro h
  obtain ⟨l,h1,h2⟩:=ih fun i hi=>h i (by omega)
  obtain ⟨x,hx⟩:=h n (by omega)
  refine ⟨l++[x],by simp [h1],fun i p hp => ?_⟩
  by_cases hi:i<n
  ·rw [List.getElem?_append_left (by omega)] at hp;exact h2 i p hp
  ·rw [List.getElem?_append_right (by omega)] at hp
   have:i - l.length=0:=by
    have:=(List.getElem?_eq_some_iff.1 hp).1
    simp at this;omega
   rw [this] at hp
   cases hp
   have:i=n:=by omega
   subst this;exact hx
theorem cells_at {a:Addr} {n:Nat} {cs:List Value} (h:w.cells? 0 a n=some cs):cs.length=n∧∀ j v,cs[j]?=some v→w.cell? (a.add j)=some v:=by
 obtain ⟨_,hl,hc⟩:=World.cells?_some h
 refine ⟨hl,fun j v hj => ?_⟩
 have:=(List.getElem?_eq_some_iff.1 hj).1
 rw [hc j (by omega)];exact hj
theorem cell_spot {a:Addr} {v:Value} (h:w.cell? a=some v):a=⟨a.block,a.off,none⟩:=by
 unfold World.cell? at h
 split at h
 ·split at h
  ·cases h
  ·rename_i hs
   obtain ⟨x,y,z⟩:=a
   simp at hs
   subst hs;rfl
 ·cases h
theorem five {α:Type}:∀ {l:List α},l.length=5→∃ a b c d e,l=[a,b,c,d,e]
 | [a,b,c,d,e],_=>⟨a,b,c,d,e,rfl⟩
theorem two {α:Type}:∀ {l:List α},l.length=2→∃ a b,l=[a,b]
 | [a,b],_=>⟨a,b,rfl⟩
theorem open_bytes (M:Meas b bA) {tS t8:TypeId} (hS:P.underlying tS=some (.slice t8)) (h8:P.underlying t8=some (.int .u8)) (c8:P.cellsOf t8=1) {n:Nat} {v:Value} {x:DataW H×List MemPlace} (h:RD enc P w n tS [v]=some x) :
  ∃ bs:Bs,SlE (fun _=>True) w v bs∧bs.length+1≤b x.1∧bs.length<9223372036854775808:=by
 rcases DataW.trod_slice hS h with ⟨hcs,rfl⟩ | ⟨a,len,cap,elems,rest,n',_,hcs,rfl,_,hlc,hcm,hel,hat,_⟩
 ·cases hcs
  exact ⟨[],.inl (.inl ⟨rfl,rfl⟩),M.one _,by simp⟩
 ·cases hcs
  have hb:len+1≤b (.slice (elems.map (·.1)) (rest.map (·.1))):=by
   have h1:=M.sl (elems.map (·.1)) (rest.map (·.1))
   have h2:=meas_len M (elems.map (·.1))
   rw [List.length_map,hel] at h2;omega
  have each:∀ i,i<len→∃ u:UInt8,w.cell? (a.add i)=some (u8 u):=by
   intro i hi
   have h1:=hat i hi
   rw [c8] at h1
   have he:∃ y,elems[i]?=some y:=⟨elems[i]'(by omega),List.getElem?_eq_getElem (by omega)⟩
   obtain ⟨y,hy⟩:=he
   rw [hy,Option.bind_eq_some_iff] at h1
   obtain ⟨cs1,h2,h3⟩:=h1
   obtain ⟨m,rfl,_,hwf⟩:=DataW.trod_int h8 h3
   obtain ⟨_,h4⟩:=cells_at h2
   have h5:=h4 0 _ rfl
   have hm:0≤m∧m≤255:=by simpa [Lit.wf,IntKind.min,IntKind.max,IntKind.signed,IntKind.bits] using hwf
   refine ⟨UInt8.ofNat m.toNat,?_⟩
   rw [Nat.mul_one] at h5
   have e:(a.add i).add 0=a.add i:=by simp [Addr.add]
   rw [e] at h5
   rw [h5]
   simp only [u8,UInt8.toNat_ofNat']
   congr 2
   omega
  obtain ⟨bs,hl,hbs⟩:=choose_list (R:=fun i (u:UInt8)=>w.cell? (a.add i)=some (u8 u)) len each
  refine ⟨bs,?_,by rw [hl];exact hb,by have:maxLen=9223372036854775807:=rfl;omega⟩
  rcases Nat.eq_zero_or_pos len with h0 | hp
  ·subst h0
   exact .inr ⟨List.length_eq_zero_iff.1 hl,a,cap,rfl⟩
  ·have hc0:w.cell? a=some (u8 (bs[0]'(by omega))):=by
    have:=hbs 0 _ (List.getElem?_eq_getElem (by omega))
    simpa [Addr.add] using this
   exact .inl (.inr ⟨a,cap,by rw [hl],by rw [hl];exact hlc,Kb.cell_lt hc0,trivial,fun j hj=>hbs j _ (List.getElem?_eq_getElem hj)⟩)
theorem open_rows (M:Meas b bA) {tL tE:TypeId} {sz:Nat} (hL:P.underlying tL=some (.slice tE)) (hsz:P.cellsOf tE=sz) (hpos:0<sz) {n:Nat} {v:Value} {x:DataW H×List MemPlace} (h:RD enc P w n tL [v]=some x) :
  ∃ (al:Option Addr) (c len n':Nat) (es:List (DataW H)),v = .slice al len c∧len≤c∧(len=0→al=none→c=0)∧es.length=len∧bA es+1≤b x.1+(if al=none then 1 else 0)∧n'+1=n ∧
   ∀ i,i<len→∃ bb o cs d ps,al=some ⟨bb,o,none⟩∧w.rangeAt bb (o+sz*i) cs∧cs.length=sz∧es[i]?=some d∧RD enc P w n' tE cs=some (d,ps):=by
 rcases DataW.trod_slice hL h with ⟨hcs,rfl⟩ | ⟨a,len,cap,elems,rest,n',hn,hcs,rfl,_,hlc,_,hel,hat,_⟩
 ·cases hcs
  refine ⟨none,0,0,n - 1,[],rfl,Nat.le_refl _,fun _ _=>rfl,rfl,by rw [M.nil];simp,?_,fun i hi=>by omega⟩
  cases n with
  | zero=>simp [RD,DataW.trod] at h
  | succ n=>rfl
 ·cases hcs
  subst hn
  have hM:bA (elems.map (·.1))+1≤b (.slice (elems.map (·.1)) (rest.map (·.1)))+(if (some a:Option Addr)=none then 1 else 0):=by
   have h1:=M.sl (elems.map (·.1)) (rest.map (·.1))
   simp;exact h1
  refine ⟨some a,cap,len,n',elems.map (·.1),rfl,hlc,(fun _ h=>by cases h),by rw [List.length_map,hel],hM,rfl,fun i hi => ?_⟩
  have h1:=hat i hi
  rw [hsz] at h1
  obtain ⟨y,hy⟩:∃ y,elems[i]?=some y:=⟨elems[i]'(by omega),List.getElem?_eq_getElem (by omega)⟩
  rw [hy,Option.bind_eq_some_iff] at h1
  obtain ⟨cs1,h2,h3⟩:=h1
  obtain ⟨hl,h4⟩:=cells_at h2
  have spot0:a=⟨a.block,a.off,none⟩:=by
   obtain ⟨y0,hy0⟩:∃ y,elems[0]?=some y:=⟨elems[0]'(by omega),List.getElem?_eq_getElem (by omega)⟩
   have h10:=hat 0 (by omega)
   rw [hsz,hy0,Option.bind_eq_some_iff] at h10
   obtain ⟨cs0,h20,_⟩:=h10
   obtain ⟨hl0,h40⟩:=cells_at h20
   have:=h40 0 _ (List.getElem?_eq_getElem (by omega))
   have e:(a.add (0*sz)).add 0=a:=by simp [Addr.add]
   rw [e] at this
   exact cell_spot this
  refine ⟨a.block,a.off,cs1,y.1,y.2,by rw [← spot0],fun j u hj => ?_,hl,by rw [List.getElem?_map,hy];rfl,h3⟩
  have:=h4 j u hj
  rw [spot0,Addr.add_mid,Addr.add_mid] at this
  rw [Nat.mul_comm sz i];exact this
theorem open_tags {tT tI tS t8 tB tL tU tG tK:TypeId} {fsT fsG:Array Go.Field} (T:TyOk P tT tI tS t8 tB tL tU tG tK fsT fsG) (M:Meas b bA) {n:Nat} {v:Value} {x:DataW H×List MemPlace} (h:RD enc P w n tU [v]=some x) :
  ∃ u:Tg,RepU w v u∧tsum u+1≤b x.1+1:=by
 obtain ⟨al,c,len,n',es,rfl,h1,h2,h3,h4,h5,h6⟩:=open_rows M T.hU T.cG (by omega) h
 have c1:∀ t,t∈[tI,tS,t8,tB,tL,tU,tK]→P.cellsOf t=1:=fun t ht=>by
  have:=List.all_eq_true.1 T.cs t ht
  simpa using this
 have each:∀ i,i<len→∃ p:Nat×Bs,(p.1<4294967296∧∃ b o vv,al=some ⟨b,o,none⟩∧w.rangeAt b (o+2*i) [.int .u32 (p.1:Int),vv]∧SlE (fun _=>True) w vv p.2)∧∀ d,es[i]?=some d→1+p.2.length≤b d:=by
  intro i hi
  obtain ⟨bb,o,cs,d,ps,rfl,hr,hl,hd,hx⟩:=h6 i hi
  obtain ⟨xs,m,rfl,hxe,hcl,hxl,hf⟩:=DataW.trod_struct T.hG hx
  obtain ⟨c0,c1',rfl⟩:=two hl
  have hfl:=congrArg List.length T.fG
  simp at hfl
  obtain ⟨f0,f1,hfs⟩:=two (l:=fsG.toList) (by simpa using hfl)
  have hfg:=T.fG
  rw [hfs] at hfg
  simp only [List.map_cons,List.map_nil,List.cons.injEq,Prod.mk.injEq,and_true] at hfg
  obtain ⟨⟨t0,o0⟩,t1,o1⟩:=hfg
  obtain ⟨x0,x1,rfl⟩:=two (l:=xs) (by rw [hxl];simpa using hfl)
  have q0:=hf 0 f0 (by rw [← Array.getElem?_toList,hfs];rfl)
  have q1:=hf 1 f1 (by rw [← Array.getElem?_toList,hfs];rfl)
  rw [t0,o0,c1 tK (by simp)] at q0
  rw [t1,o1,c1 tS (by simp)] at q1
  have q0':DataW.trod enc P w 0 (fun _=>true) true m tK [c0]=some x0:=q0
  have q1':DataW.trod enc P w 0 (fun _=>true) true m tS [c1']=some x1:=q1
  obtain ⟨k,hk,_,hwf⟩:=DataW.trod_int T.hK q0'
  cases hk
  obtain ⟨bs,hs,hbl,_⟩:=open_bytes M T.hS T.h8 (c1 t8 (by simp)) q1'
  have hm:0≤k∧k≤4294967295:=by simpa [Lit.wf,IntKind.min,IntKind.max,IntKind.signed,IntKind.bits] using hwf
  have hkn:((k.toNat:Nat):Int)=k:=Int.toNat_of_nonneg hm.1
  refine ⟨(k.toNat,bs),⟨by simp only;omega,bb,o,c1',rfl,by rw [hkn];exact hr,hs⟩,fun d' hd' => ?_⟩
  rw [hd] at hd'
  cases hd'
  have e:d = .agg ([x0,x1].map (·.1)):=congrArg Prod.fst hxe
  rw [e]
  have h1:=M.ag ([x0,x1].map (·.1))
  simp only [List.map_cons,List.map_nil,M.cons,M.nil] at h1
  have:=M.one x0.1
  simp only [List.map_cons,List.map_nil];omega
 obtain ⟨u,hl,hu⟩:=choose_list len each
 refine ⟨u,⟨al,c,by rw [hl],by rw [hl];exact h1,fun h0=>h2 (by rw [← hl,h0];rfl),fun j p hj=>(hu j p hj).1⟩,?_⟩
 have hs:=meas_sum M (m:=fun p:Nat×Bs=>1+p.2.length) u es (by rw [hl,h3]) fun i p d h1 h2=>(hu i p h1).2 d h2
 have:(if al=none then 1 else 0)≤1:=by split<;>omega
 unfold tsum
 omega
theorem open_tree {tT tI tS t8 tB tL tU tG tK:TypeId} {fsT fsG:Array Go.Field} (T:TyOk P tT tI tS t8 tB tL tU tG tK fsT fsG) (M:Meas b bA):∀ (n:Nat) (cs:List Value) (x:DataW H×List MemPlace),RD enc P w n tT cs=some x →
  ∃ t,RepTr w cs t∧t.bulk≤b x.1:=by
 intro n
 induction n using Nat.strongRecOn with
 | ind n ih=>
  intro cs x h
  have c1:∀ t,t∈[tI,tS,t8,tB,tL,tU,tK]→P.cellsOf t=1:=fun t ht=>by
   have:=List.all_eq_true.1 T.cs t ht
   simpa using this
  obtain ⟨xs,m,rfl,rfl,hcl,hxl,hf⟩:=DataW.trod_struct T.hT h
  rw [T.cT] at hcl
  obtain ⟨v0,v1,v2,v3,v4,rfl⟩:=five hcl
  have hfl:=congrArg List.length T.fT
  simp at hfl
  obtain ⟨f0,f1,f2,f3,f4,hfs⟩:=five (l:=fsT.toList) (by simpa using hfl)
  have hfg:=T.fT
  rw [hfs] at hfg
  simp only [List.map_cons,List.map_nil,List.cons.injEq,Prod.mk.injEq,and_true] at hfg
  obtain ⟨⟨t0,o0⟩,⟨t1,o1⟩,⟨t2,o2⟩,⟨t3,o3⟩,t4,o4⟩:=hfg
  obtain ⟨x0,x1,x2,x3,x4,rfl⟩:=five (l:=xs) (by rw [hxl];simpa using hfl)
  have q0:=hf 0 f0 (by rw [← Array.getElem?_toList,hfs];rfl)
  have q1:=hf 1 f1 (by rw [← Array.getElem?_toList,hfs];rfl)
  have q2:=hf 2 f2 (by rw [← Array.getElem?_toList,hfs];rfl)
  have q3:=hf 3 f3 (by rw [← Array.getElem?_toList,hfs];rfl)
  have q4:=hf 4 f4 (by rw [← Array.getElem?_toList,hfs];rfl)
  rw [t0,o0,c1 tI (by simp)] at q0
  rw [t1,o1,c1 tS (by simp)] at q1
  rw [t2,o2,c1 tB (by simp)] at q2
  rw [t3,o3,c1 tL (by simp)] at q3
  rw [t4,o4,c1 tU (by simp)] at q4
  obtain ⟨k,hk,_,_⟩:=DataW.trod_int T.hI (show DataW.trod enc P w 0 (fun _=>true) true m tI [v0]=some x0 from q0)
  cases hk
  obtain ⟨s,hs,hsl,hsm⟩:=open_bytes M T.hS T.h8 (c1 t8 (by simp)) (show RD enc P w m tS [v1]=some x1 from q1)
  obtain ⟨z,hz,_⟩:=DataW.trod_bool T.hB (show DataW.trod enc P w 0 (fun _=>true) true m tB [v2]=some x2 from q2)
  cases hz
  obtain ⟨u,hu,hul⟩:=open_tags T M (show RD enc P w m tU [v4]=some x4 from q4)
  obtain ⟨al,c,len,n',es,rfl,g1,g2,g3,g4,g5,g6⟩:=open_rows M T.hL T.cT (by omega) (show RD enc P w m tL [v3]=some x3 from q3)
  have each:∀ i,i<len→∃ p:List Value×Tr,((∃ b o,al=some ⟨b,o,none⟩∧w.rangeAt b (o+5*i) p.1)∧RepTr w p.1 p.2)∧∀ d,es[i]?=some d→p.2.bulk≤b d:=by
   intro i hi
   obtain ⟨bb,o,cs,d,ps,rfl,hr,hl,hd,hx⟩:=g6 i hi
   obtain ⟨t,ht,htb⟩:=ih n' (by omega) cs (d,ps) hx
   exact ⟨(cs,t),⟨⟨bb,o,rfl,hr⟩,ht⟩,fun d' hd'=>by rw [hd] at hd';cases hd';exact htb⟩
  obtain ⟨l,hl,hat⟩:=choose_list len each
  have hcsl:∀ j,j<(l.map (·.2)).length→∃ p,l[j]?=some p:=fun j hj=>⟨l[j]'(by simpa using hj),List.getElem?_eq_getElem (by simpa using hj)⟩
  refine ⟨.mk k s z (l.map (·.2)) u,?_,?_⟩
  ·have:=RepTr.mk (w:=w) k v1 s z al c (l.map (·.2)) v4 u (fun j=>((l[j]?).map (·.1)).getD []) hs (by rw [List.length_map,hl];exact g1) (fun h0=>g2 (by rw [← hl];simpa using congrArg List.length h0)) (fun j hj => ?_) (fun j t hj => ?_) hu hsm
   ·rw [List.length_map,hl] at this;exact this
   ·obtain ⟨p,hp⟩:=hcsl j hj
    obtain ⟨⟨bb,o,e1,e2⟩,_⟩:=(hat j p hp).1
    exact ⟨bb,o,e1,by rw [hp];exact e2⟩
   ·rw [List.getElem?_map,Option.map_eq_some_iff] at hj
    obtain ⟨p,hp,rfl⟩:=hj
    rw [hp]
    exact (hat j p hp).1.2
  ·have hsum:=meas_sum M (m:=fun p:List Value×Tr=>p.2.bulk) l es (by rw [hl,g3]) fun i p d h1 h2=>(hat i p h1).2 d h2
   have hbl:∀ l:List (List Value×Tr),bulkL (l.map (·.2))=(l.map fun p=>p.2.bulk).sum:=by
    intro l
    induction l with
    | nil=>rfl
    | cons y r ih=>simp only [List.map_cons,bulkL,List.sum_cons,ih]
   have hag:=M.ag ([x0,x1,x2,x3,x4].map (·.1))
   simp only [List.map_cons,List.map_nil,M.cons,M.nil] at hag
   have:(if al=none then 1 else 0)≤1:=by split<;>omega
   have o0:=M.one x0.1
   have o2:=M.one x2.1
   simp only [Tr.bulk,hbl,List.map_cons,List.map_nil]
   omega
end
end Go.Sp
namespace Go.Sp
open Go.Lx Go.Nx Go.Km Go.Mx Go.Kb Go.Mr
set_option linter.unusedSimpArgs false
set_option linter.unusedVariables false
section
variable {P:Program} {g:Nat} {e:TypeId}
end
end Go.Sp
namespace Go.Sp
open Go.Lx Go.Nx Go.Km Go.Mx Go.Kb Go.Mr
set_option linter.unusedSimpArgs false
set_option linter.unusedVariables false
section
variable {P:Program} {g:Nat} {e:TypeId}
def AgainKOk (P:Program) (e:TypeId) (g:Nat) (fA:FuncId) (fs:Fs):Prop:=
 ∀ (ok:Nat→Prop) (w:World) (src:Value) (bs:Bs) (K:Value→World→Prop) (et:TypeId) (ev:Value),SlE ok w src bs→bs.length≤lim→(∀ vs rest,rdF fs bs=some (vs,rest)→okF fs vs)→w.cell? ⟨g,0,none⟩=some (.iface et ev) →
  (rdF fs bs=none→∀ w',Keep [] w w'→K (.tuple #[.slice none 0 0,.bool false]) w') →
  (∀ vs rest,rdF fs bs=some (vs,rest)→∀ d w',Keep [] w w'→Own w' w.heap.size e d (wrF fs vs)→K (.tuple #[d,.bool true]) w')→In.wp P (.call fA) [src] w K
structure LawK (P:Program) (I:SI) (e:TypeId) (g:Nat) (fMsg fKept fA:FuncId) (fl:Fl) (fx:Int) (m:Nat) (fs:Fs):Prop where
 F:Fns P I
 msg:∀ (w:World) (K:Value→World→Prop),(∀ vF w',RepFl w' vF fl→Keep [] w w'→K (.agg (mcells vF fx).toArray) w')→In.wp P (.call fMsg) [] w K
 okfl:okFl fl=true
 len:fl.len≤32767
 kept:fnP P fKept 3=some (q_kept I)
 again:AgainKOk P e g fA (.cons 0 (.prim .i16) fs)
 pos:0<m
 many:m≤256
 fit:∀ v,v<m→fitF (v:Int) (isFlex fx (v:Int)) fl fs=true
 wf:wfF fs=true
end
end Go.Sp

