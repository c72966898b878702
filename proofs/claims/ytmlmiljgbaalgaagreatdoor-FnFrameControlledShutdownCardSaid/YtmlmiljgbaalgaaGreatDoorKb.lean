import Derived.Test.YtmlmiljgbaalgaaGreatDoorKa
set_option linter.unusedSimpArgs false
set_option linter.unusedVariables false
namespace Go.Kb
open Go.Lx Go.Nx
structure J extends Ids where
 appendEach1:FuncId
 be:Nat
 eG:TypeId
 each:FuncId
 each1:FuncId
 set:FuncId
 slice:FuncId
 tSl:TypeId
 uint16:FuncId
 uint32:FuncId
 uint64:FuncId
def p_len (I:J):FnP:=⟨.chk 0 <|
 .op .load [.q 0 0] 1 <|
 .op .lenM [.s 1] 2 <|
 .ret [.s 2],[.direct]⟩
def p_appendEach (I:J):FnP:=⟨.op (.box 1) [.s 1] 2 <|
 .chk 2 <|
 .op (.mkfn I.appendEach1) [.q 2 0] 3 <|
 .op (.call I.each) [.s 0,.s 3] 4 <|
 .op .load [.q 2 0] 5 <|
 .ret [.s 5],[.direct]⟩
def p_rInt32 (I:J):FnP:=⟨.chk 0 <|
 .op .load [.q 0 0] 1 <|
 .op .len [.s 1] 2 <|
 .op (.bin .lss) [.s 2,.k (.int .i64 4)] 3 <|
 .ite (.s 3)
  (.op (.store 1) [.q 0 1,.k (.bool true)] 4 <|
  .op (.store 1) [.q 0 0,.k (.slice none 0 0)] 5 <|
  .ret [.k (.int .i32 0)])
  (.nil) <|
 .draw <|
 .look (.loadN 0) [.k (.pointer (some ⟨I.be,0,none⟩))] 6 <|
 .look .load [.q 0 0] 7 <|
 .op (.call I.uint32) [.s 6,.s 7] 8 <|
 .keep .load [.q 0 0] 7 <|
 .keep (.loadN 0) [.k (.pointer (some ⟨I.be,0,none⟩))] 6 <|
 .look (.cv .i32) [.s 8] 9 <|
 .op .load [.q 0 0] 10 <|
 .op (.sl 1 true false false) [.s 10,.k (.int .i64 4)] 11 <|
 .op (.store 1) [.q 0 0,.s 11] 12 <|
 .ret [.s 9],[.direct]⟩
def p_internalReadTags (I:J):FnP:=⟨.op (.alloc [.map none]) [] 1 <|
 .chk 1 <|
 .op (.alloc [.map none]) [] 2 <|
 .chk 2 <|
 .op (.call I.rUvarint) [.s 0] 3 <|
 .set 4 (.s 3) <|
 .loop
  (.op (.bin .gtr) [.s 4,.k (.int .u32 0)] 5 <|
  .ite (.s 5)
   (.nil)
   (.exit) <|
  .op (.call I.rUvarint) [.s 0] 6 <|
  .op (.call I.rUvarint) [.s 0] 7 <|
  .op (.cv .i64) [.s 7] 8 <|
  .op (.call I.rSpan) [.s 0,.s 8] 9 <|
  .op (.call I.set) [.q 2 0,.s 6,.s 9] 10 <|
  .op (.bin .sub) [.s 4,.k (.int .u32 1)] 11 <|
  .set 12 (.s 11) <|
  .set 4 (.s 12) <|
  .nil) <|
 .op (.loadN 1) [.q 2 0] 13 <|
 .op (.store 1) [.q 1 0,.s 13] 14 <|
 .ret [.q 1 0],[.cells 1]⟩
def p_each (I:J):FnP:=⟨.chk 0 <|
 .op .load [.q 0 0] 2 <|
 .op .lenM [.s 2] 3 <|
 .op (.bin .eql) [.s 3,.k (.int .i64 0)] 4 <|
 .ite (.s 4)
  (.ret [])
  (.nil) <|
 .op .load [.q 0 0] 5 <|
 .op .lenM [.s 5] 6 <|
 .op (.mk I.eG [.int .u32 0]) [.k (.int .i64 0),.s 6] 7 <|
 .op (.alloc [.slice none 0 0]) [] 8 <|
 .chk 8 <|
 .op (.store 1) [.q 8 0,.s 7] 9 <|
 .op .load [.q 0 0] 10 <|
 .op .rangeM [.s 10] 11 <|
 .loop
  (.op .nextM [.s 11] 12 <|
  .op (.ex 0) [.s 12] 13 <|
  .ite (.s 13)
   (.nil)
   (.exit) <|
  .op .entM [.s 11] 14 <|
  .op (.ex 0) [.s 14] 15 <|
  .op .load [.q 8 0] 16 <|
  .op (.bslG 1) [.s 15] 17 <|
  .op (.appG I.eG 1) [.s 16,.s 17] 18 <|
  .op (.store 1) [.q 8 0,.s 18] 19 <|
  .nil) <|
 .op .load [.q 8 0] 20 <|
 .op (.mkif I.tSl) [.s 20] 21 <|
 .op (.mkfn I.each1) [.q 8 0] 22 <|
 .op (.call I.slice) [.s 21,.s 22] 23 <|
 .op .load [.q 8 0] 24 <|
 .op .len [.s 24] 25 <|
 .set 26 (.k (.int .i64 0)) <|
 .loop
  (.op (.bin .lss) [.s 26,.s 25] 27 <|
  .ite (.s 27)
   (.nil)
   (.exit) <|
  .op (.ia 1) [.s 24,.s 26] 28 <|
  .chk 28 <|
  .op .load [.q 28 0] 29 <|
  .op .load [.q 0 0] 30 <|
  .op (.lookM (.slice none 0 0)) [.s 30,.s 29] 31 <|
  .op .callV [.s 1,.s 29,.s 31] 32 <|
  .op (.bin .add) [.s 26,.k (.int .i64 1)] 33 <|
  .set 34 (.s 33) <|
  .set 26 (.s 34) <|
  .nil) <|
 .nil,[]⟩
def p_appendEach1 (I:J):FnP:=⟨.op .load [.s 2] 3 <|
 .op (.call I.appendUvarint) [.s 3,.s 0] 4 <|
 .op (.store 1) [.s 2,.s 4] 5 <|
 .op .load [.s 2] 6 <|
 .op .len [.s 1] 7 <|
 .op (.cv .u32) [.s 7] 8 <|
 .op (.call I.appendUvarint) [.s 6,.s 8] 9 <|
 .op (.store 1) [.s 2,.s 9] 10 <|
 .op .load [.s 2] 11 <|
 .op (.app I.e8) [.s 11,.s 1] 12 <|
 .op (.store 1) [.s 2,.s 12] 13 <|
 .nil,[]⟩
def p_set (I:J):FnP:=⟨.chk 0 <|
 .op .load [.q 0 0] 3 <|
 .op (.isNil 3 false) [.s 3] 4 <|
 .ite (.s 4)
  (.op .mkMap [] 5 <|
  .op (.store 1) [.q 0 0,.s 5] 6 <|
  .nil)
  (.nil) <|
 .op .load [.q 0 0] 7 <|
 .op .mapSet [.s 7,.s 1,.s 2] 8 <|
 .nil,[]⟩
def p_uint32 (I:J):FnP:=⟨.op (.box 0) [.s 0] 2 <|
 .chk 2 <|
 .op (.ia 1) [.s 1,.k (.int .i64 3)] 3 <|
 .chk 3 <|
 .op .load [.q 3 0] 4 <|
 .draw <|
 .look (.ia 1) [.s 1,.k (.int .i64 3)] 5 <|
 .chk 5 <|
 .look .load [.q 5 0] 6 <|
 .look (.cv .u32) [.s 6] 7 <|
 .look (.ia 1) [.s 1,.k (.int .i64 2)] 8 <|
 .chk 8 <|
 .look .load [.q 8 0] 9 <|
 .look (.cv .u32) [.s 9] 10 <|
 .look (.sh .shl) [.s 10,.k (.int .u64 8)] 11 <|
 .look (.bin .or) [.s 7,.s 11] 12 <|
 .look (.ia 1) [.s 1,.k (.int .i64 1)] 13 <|
 .chk 13 <|
 .look .load [.q 13 0] 14 <|
 .look (.cv .u32) [.s 14] 15 <|
 .look (.sh .shl) [.s 15,.k (.int .u64 16)] 16 <|
 .look (.bin .or) [.s 12,.s 16] 17 <|
 .look (.ia 1) [.s 1,.k (.int .i64 0)] 18 <|
 .chk 18 <|
 .look .load [.q 18 0] 19 <|
 .look (.cv .u32) [.s 19] 20 <|
 .look (.sh .shl) [.s 20,.k (.int .u64 24)] 21 <|
 .look (.bin .or) [.s 17,.s 21] 22 <|
 .ret [.s 22],[.direct]⟩
def p_rreadUint64 (I:J):FnP:=⟨.chk 0 <|
 .op .load [.q 0 0] 1 <|
 .op .len [.s 1] 2 <|
 .op (.bin .lss) [.s 2,.k (.int .i64 8)] 3 <|
 .ite (.s 3)
  (.op (.store 1) [.q 0 1,.k (.bool true)] 4 <|
  .op (.store 1) [.q 0 0,.k (.slice none 0 0)] 5 <|
  .ret [.k (.int .u64 0)])
  (.nil) <|
 .draw <|
 .look (.loadN 0) [.k (.pointer (some ⟨I.be,0,none⟩))] 6 <|
 .look .load [.q 0 0] 7 <|
 .op (.call I.uint64) [.s 6,.s 7] 8 <|
 .keep .load [.q 0 0] 7 <|
 .keep (.loadN 0) [.k (.pointer (some ⟨I.be,0,none⟩))] 6 <|
 .op .load [.q 0 0] 9 <|
 .op (.sl 1 true false false) [.s 9,.k (.int .i64 8)] 10 <|
 .op (.store 1) [.q 0 0,.s 10] 11 <|
 .ret [.s 8],[.direct]⟩
def p_each1 (I:J):FnP:=⟨.draw <|
 .look .load [.s 2] 3 <|
 .look (.ia 1) [.s 3,.s 0] 4 <|
 .chk 4 <|
 .look .load [.q 4 0] 5 <|
 .look .load [.s 2] 6 <|
 .look (.ia 1) [.s 6,.s 1] 7 <|
 .chk 7 <|
 .look .load [.q 7 0] 8 <|
 .look (.bin .lss) [.s 5,.s 8] 9 <|
 .ret [.s 9],[.direct]⟩
def p_uvarint (I:J):FnP:=⟨.op .len [.s 0] 1 <|
 .op (.bin .lss) [.s 1,.k (.int .i64 1)] 2 <|
 .ite (.s 2)
  (.ret [.k (.int .u32 0),.k (.int .i64 0)])
  (.op (.ia 1) [.s 0,.k (.int .i64 0)] 3 <|
  .chk 3 <|
  .op .load [.q 3 0] 4 <|
  .op (.bin .and) [.s 4,.k (.int .u8 127)] 5 <|
  .op (.cv .u32) [.s 5] 6 <|
  .op (.ia 1) [.s 0,.k (.int .i64 0)] 7 <|
  .chk 7 <|
  .op .load [.q 7 0] 8 <|
  .op (.bin .and) [.s 8,.k (.int .u8 128)] 9 <|
  .op (.bin .eql) [.s 9,.k (.int .u8 0)] 10 <|
  .ite (.s 10)
   (.ret [.s 6,.k (.int .i64 1)])
   (.op .len [.s 0] 11 <|
   .op (.bin .lss) [.s 11,.k (.int .i64 2)] 12 <|
   .ite (.s 12)
    (.ret [.k (.int .u32 0),.k (.int .i64 0)])
    (.op (.ia 1) [.s 0,.k (.int .i64 1)] 13 <|
    .chk 13 <|
    .op .load [.q 13 0] 14 <|
    .op (.bin .and) [.s 14,.k (.int .u8 127)] 15 <|
    .op (.cv .u32) [.s 15] 16 <|
    .op (.sh .shl) [.s 16,.k (.int .u64 7)] 17 <|
    .op (.bin .or) [.s 6,.s 17] 18 <|
    .op (.ia 1) [.s 0,.k (.int .i64 1)] 19 <|
    .chk 19 <|
    .op .load [.q 19 0] 20 <|
    .op (.bin .and) [.s 20,.k (.int .u8 128)] 21 <|
    .op (.bin .eql) [.s 21,.k (.int .u8 0)] 22 <|
    .ite (.s 22)
     (.ret [.s 18,.k (.int .i64 2)])
     (.op .len [.s 0] 23 <|
     .op (.bin .lss) [.s 23,.k (.int .i64 3)] 24 <|
     .ite (.s 24)
      (.ret [.k (.int .u32 0),.k (.int .i64 0)])
      (.op (.ia 1) [.s 0,.k (.int .i64 2)] 25 <|
      .chk 25 <|
      .op .load [.q 25 0] 26 <|
      .op (.bin .and) [.s 26,.k (.int .u8 127)] 27 <|
      .op (.cv .u32) [.s 27] 28 <|
      .op (.sh .shl) [.s 28,.k (.int .u64 14)] 29 <|
      .op (.bin .or) [.s 18,.s 29] 30 <|
      .op (.ia 1) [.s 0,.k (.int .i64 2)] 31 <|
      .chk 31 <|
      .op .load [.q 31 0] 32 <|
      .op (.bin .and) [.s 32,.k (.int .u8 128)] 33 <|
      .op (.bin .eql) [.s 33,.k (.int .u8 0)] 34 <|
      .ite (.s 34)
       (.ret [.s 30,.k (.int .i64 3)])
       (.op .len [.s 0] 35 <|
       .op (.bin .lss) [.s 35,.k (.int .i64 4)] 36 <|
       .ite (.s 36)
        (.ret [.k (.int .u32 0),.k (.int .i64 0)])
        (.op (.ia 1) [.s 0,.k (.int .i64 3)] 37 <|
        .chk 37 <|
        .op .load [.q 37 0] 38 <|
        .op (.bin .and) [.s 38,.k (.int .u8 127)] 39 <|
        .op (.cv .u32) [.s 39] 40 <|
        .op (.sh .shl) [.s 40,.k (.int .u64 21)] 41 <|
        .op (.bin .or) [.s 30,.s 41] 42 <|
        .op (.ia 1) [.s 0,.k (.int .i64 3)] 43 <|
        .chk 43 <|
        .op .load [.q 43 0] 44 <|
        .op (.bin .and) [.s 44,.k (.int .u8 128)] 45 <|
        .op (.bin .eql) [.s 45,.k (.int .u8 0)] 46 <|
        .ite (.s 46)
         (.ret [.s 42,.k (.int .i64 4)])
         (.op .len [.s 0] 47 <|
         .op (.bin .lss) [.s 47,.k (.int .i64 5)] 48 <|
         .ite (.s 48)
          (.ret [.k (.int .u32 0),.k (.int .i64 0)])
          (.op (.ia 1) [.s 0,.k (.int .i64 4)] 49 <|
          .chk 49 <|
          .op .load [.q 49 0] 50 <|
          .op (.cv .u32) [.s 50] 51 <|
          .op (.sh .shl) [.s 51,.k (.int .u64 28)] 52 <|
          .op (.bin .or) [.s 42,.s 52] 53 <|
          .op (.ia 1) [.s 0,.k (.int .i64 4)] 54 <|
          .chk 54 <|
          .op .load [.q 54 0] 55 <|
          .op (.bin .leq) [.s 55,.k (.int .u8 15)] 56 <|
          .ite (.s 56)
           (.ret [.s 53,.k (.int .i64 5)])
           (.nil) <|
          .ret [.k (.int .u32 0),.k (.int .i64 (-5))]) <|
         .nil) <|
        .nil) <|
       .nil) <|
      .nil) <|
     .nil) <|
    .nil) <|
   .nil) <|
  .nil) <|
 .nil,[.direct,.direct]⟩
def p_uint64 (I:J):FnP:=⟨.op (.box 0) [.s 0] 2 <|
 .chk 2 <|
 .op (.ia 1) [.s 1,.k (.int .i64 7)] 3 <|
 .chk 3 <|
 .op .load [.q 3 0] 4 <|
 .draw <|
 .look (.ia 1) [.s 1,.k (.int .i64 7)] 5 <|
 .chk 5 <|
 .look .load [.q 5 0] 6 <|
 .look (.cv .u64) [.s 6] 7 <|
 .look (.ia 1) [.s 1,.k (.int .i64 6)] 8 <|
 .chk 8 <|
 .look .load [.q 8 0] 9 <|
 .look (.cv .u64) [.s 9] 10 <|
 .look (.sh .shl) [.s 10,.k (.int .u64 8)] 11 <|
 .look (.bin .or) [.s 7,.s 11] 12 <|
 .look (.ia 1) [.s 1,.k (.int .i64 5)] 13 <|
 .chk 13 <|
 .look .load [.q 13 0] 14 <|
 .look (.cv .u64) [.s 14] 15 <|
 .look (.sh .shl) [.s 15,.k (.int .u64 16)] 16 <|
 .look (.bin .or) [.s 12,.s 16] 17 <|
 .look (.ia 1) [.s 1,.k (.int .i64 4)] 18 <|
 .chk 18 <|
 .look .load [.q 18 0] 19 <|
 .look (.cv .u64) [.s 19] 20 <|
 .look (.sh .shl) [.s 20,.k (.int .u64 24)] 21 <|
 .look (.bin .or) [.s 17,.s 21] 22 <|
 .look (.ia 1) [.s 1,.k (.int .i64 3)] 23 <|
 .chk 23 <|
 .look .load [.q 23 0] 24 <|
 .look (.cv .u64) [.s 24] 25 <|
 .look (.sh .shl) [.s 25,.k (.int .u64 32)] 26 <|
 .look (.bin .or) [.s 22,.s 26] 27 <|
 .look (.ia 1) [.s 1,.k (.int .i64 2)] 28 <|
 .chk 28 <|
 .look .load [.q 28 0] 29 <|
 .look (.cv .u64) [.s 29] 30 <|
 .look (.sh .shl) [.s 30,.k (.int .u64 40)] 31 <|
 .look (.bin .or) [.s 27,.s 31] 32 <|
 .look (.ia 1) [.s 1,.k (.int .i64 1)] 33 <|
 .chk 33 <|
 .look .load [.q 33 0] 34 <|
 .look (.cv .u64) [.s 34] 35 <|
 .look (.sh .shl) [.s 35,.k (.int .u64 48)] 36 <|
 .look (.bin .or) [.s 32,.s 36] 37 <|
 .look (.ia 1) [.s 1,.k (.int .i64 0)] 38 <|
 .chk 38 <|
 .look .load [.q 38 0] 39 <|
 .look (.cv .u64) [.s 39] 40 <|
 .look (.sh .shl) [.s 40,.k (.int .u64 56)] 41 <|
 .look (.bin .or) [.s 37,.s 41] 42 <|
 .ret [.s 42],[.direct]⟩
end Go.Kb
namespace Go.Kb
open Go.Lx Go.Nx Go.Km Go.Mx
set_option linter.unusedSimpArgs false
set_option linter.unusedVariables false
section
variable {P:Program}
theorem np_look {i:In} {args:List SV} {n:Nat} {k:NP} {Q:Out→(Nat→Value)→World→Prop} {η:Nat→Value} {w:World} {vs:List Value} (hv:args.map (SV.val η)=vs) (h:In.wp P i vs w fun v w'=>w'=w∧k.wp P Q (upd η n v) w') :
  (NP.look i args n k).wp P Q η w:=by
 show In.wp P i (args.map (SV.val η)) w _
 rw [hv]
 exact h
theorem np_keep {i:In} {args:List SV} {n:Nat} {k:NP} {Q:Out→(Nat→Value)→World→Prop} {η:Nat→Value} {w:World} {vs:List Value} (hv:args.map (SV.val η)=vs) (h:In.wp P i vs w fun v w'=>v=η n∧w'=w) (hk:k.wp P Q η w) :
  (NP.keep i args n k).wp P Q η w:=by
 refine ⟨?_,hk⟩
 show In.wp P i (args.map (SV.val η)) w _
 rw [hv]
 exact h
theorem np_draw {k:NP} {Q:Out→(Nat→Value)→World→Prop} {η:Nat→Value} {w:World} (h:k.wp P Q η { w with drawn:=w.drawn+1 }):(NP.draw k).wp P Q η w:=h
theorem or_nat (k:IntKind) (hk:k.signed=false) (x y:Nat) (hx:x<2^k.bits) (hy:y<2^k.bits):binV .or k (x:Int) (y:Int)=some (.int k ((x ||| y:Nat):Int)):=by
 have e:∀ m:Nat,BitVec.ofInt k.bits (m:Int)=BitVec.ofNat k.bits m:=by intro m;simp
 have e2:(BitVec.ofInt k.bits (x:Int) ||| BitVec.ofInt k.bits (y:Int)).toNat=(x ||| y):=by
  rw [e,e,BitVec.toNat_or,BitVec.toNat_ofNat,BitVec.toNat_ofNat,Nat.mod_eq_of_lt hx,Nat.mod_eq_of_lt hy]
 show some (Value.int k (k.wrap (((BitVec.ofInt k.bits (x:Int) ||| BitVec.ofInt k.bits (y:Int)).toNat:Nat):Int)))=_
 rw [e2,wrap_usn k hk]
 have h:(x ||| y)<2^k.bits:=Nat.or_lt_two_pow hx hy
 have:usn k.bits ((x ||| y:Nat):Int)=(x ||| y):=by
  unfold usn
  have h2:(((x ||| y:Nat):Int))%((2:Int)^k.bits)=((x ||| y:Nat):Int):=Int.emod_eq_of_lt (by omega) (by exact_mod_cast h)
  rw [h2];rfl
 rw [this]
theorem wrap_nat (k:IntKind) (hk:k.signed=false) (x:Nat) (hx:x<2^k.bits):k.wrap (x:Int)=(x:Int):=by
 rw [wrap_usn k hk]
 unfold usn
 have h2:((x:Int))%((2:Int)^k.bits)=(x:Int):=Int.emod_eq_of_lt (by omega) (by exact_mod_cast hx)
 rw [h2];rfl
theorem shl_nat (k:IntKind) (hk:k.signed=false) (x s:Nat) (hs:s≤k.bits) (hx:x*2^s<2^k.bits):shV .shl k (x:Int) s=some (.int k ((x*2^s:Nat):Int)):=by
 have e:(x:Int)*(2:Int)^s=((x*2^s:Nat):Int):=by simp
 show some (Value.int k (k.wrap ((x:Int)*2^(min s k.bits))))=_
 rw [Nat.min_eq_left hs,e,wrap_nat k hk _ hx]
theorem or_add (A b s:Nat) (hA:A<2^s):(A ||| (b*2^s))=A+b*2^s:=by
 have:=Nat.shiftLeft_add_eq_or_of_lt hA b
 rw [Nat.shiftLeft_eq] at this
 rw [Nat.or_comm,← this,Nat.add_comm]
theorem byteL {η:Nat→Value} {w:World} {k:NP} {Q:Out→(Nat→Value)→World→Prop} {x n m j:Nat} {a:Addr} {bs:Bs} {c:Nat} (hx:η x = .slice (some a) bs.length c) (hb:BytesAt w a bs) (hj:j<bs.length) (hxn:x≠n) (hxm:x≠m)
  (hk:∀ η':Nat→Value,η' m=u8 bs[j]→(∀ i,i≠n→i≠m→η' i=η i)→k.wp P Q η' w) :
  (NP.look (.ia 1) [.s x,.k (.int .i64 (j:Int))] n <| .chk n <| .look .load [.q n 0] m k).wp P Q η w:=by
 refine np_look (vs:=[.slice (some a) bs.length c,.int .i64 (j:Int)]) (by simp [SV.val,hx]) ⟨a,_,c,.i64,j,rfl,hj,rfl,?_⟩
 refine ⟨⟨_,by simp only [upd];rfl⟩,?_⟩
 refine np_look (vs:=[.pointer (some (a.add (j*1)))]) (by simp [SV.val,upd,add0]) ⟨_,u8 bs[j],rfl,by rw [Nat.mul_one];exact hb j hj,rfl,?_⟩
 exact hk _ (by simp [upd]) fun i h1 h2=>by simp [upd,h1,h2]
theorem byteO {η:Nat→Value} {w:World} {k:NP} {Q:Out→(Nat→Value)→World→Prop} {x n m j:Nat} {a:Addr} {bs:Bs} {c:Nat} (hx:η x = .slice (some a) bs.length c) (hb:BytesAt w a bs) (hj:j<bs.length) (hxn:x≠n) (hxm:x≠m)
  (hk:∀ η':Nat→Value,η' m=u8 bs[j]→(∀ i,i≠n→i≠m→η' i=η i)→k.wp P Q η' w) :
  (NP.op (.ia 1) [.s x,.k (.int .i64 (j:Int))] n <| .chk n <| .op .load [.q n 0] m k).wp P Q η w:=by
 refine np_op (vs:=[.slice (some a) bs.length c,.int .i64 (j:Int)]) (by simp [SV.val,hx]) ⟨a,_,c,.i64,j,rfl,hj,?_⟩
 refine ⟨⟨_,by simp only [upd];rfl⟩,?_⟩
 refine np_op (vs:=[.pointer (some (a.add (j*1)))]) (by simp [SV.val,upd,add0]) ⟨_,u8 bs[j],rfl,by rw [Nat.mul_one];exact hb j hj,?_⟩
 exact hk _ (by simp [upd]) fun i h1 h2=>by simp [upd,h1,h2]
theorem cvL {η:Nat→Value} {w:World} {k:NP} {Q:Out→(Nat→Value)→World→Prop} {kd:IntKind} (hkd:kd.signed=false) (h8:8≤kd.bits) {x n:Nat} {b:UInt8} (hx:η x=u8 b)
  (hk:∀ η':Nat→Value,η' n = .int kd (b.toNat:Int)→(∀ i,i≠n→η' i=η i)→k.wp P Q η' w):(NP.look (.cv kd) [.s x] n k).wp P Q η w:=by
 have hb:b.toNat<2^kd.bits:=Nat.lt_of_lt_of_le b.toNat_lt (Nat.pow_le_pow_right (by omega) h8)
 refine np_look (vs:=[u8 b]) (by simp [SV.val,hx]) ⟨.u8,_,rfl,rfl,?_⟩
 exact hk _ (by simp [upd,wrap_nat kd hkd _ hb]) fun i h1=>by simp [upd,h1]
theorem accL {η:Nat→Value} {w:World} {k:NP} {Q:Out→(Nat→Value)→World→Prop} {kd:IntKind} (hkd:kd.signed=false) {x n1 n2 n3 n4 n5 acc j s A:Nat} {a:Addr} {bs:Bs} {c:Nat} (hx:η x = .slice (some a) bs.length c) (hb:BytesAt w a bs) (hj:j<bs.length)
  (hne:x∉[n1,n2,n3,n4,n5]∧acc∉[n1,n2,n3,n4]) (hnd:[n1,n2,n3,n4].Nodup) (hs:s+8≤kd.bits) (hA:A<2^s) (hacc:η acc = .int kd (A:Int))
  (hk:∀ η':Nat→Value,η' n5 = .int kd ((A+bs[j].toNat*2^s:Nat):Int)→η' x=η x→(A+bs[j].toNat*2^s<2^(s+8))→k.wp P Q η' w) :
  (NP.look (.ia 1) [.s x,.k (.int .i64 (j:Int))] n1 <| .chk n1 <| .look .load [.q n1 0] n2 <| .look (.cv kd) [.s n2] n3 <| .look (.sh .shl) [.s n3,.k (.int .u64 (s:Int))] n4 <| .look (.bin .or) [.s acc,.s n4] n5 k).wp P Q η w:=by
 simp only [List.mem_cons,List.not_mem_nil,or_false,not_or] at hne
 obtain ⟨⟨x1,x2,x3,x4,x5⟩,y1,y2,y3,y4⟩:=hne
 simp only [List.nodup_cons,List.mem_cons,List.not_mem_nil,or_false,not_or,List.nodup_nil,and_true,not_false_eq_true] at hnd
 obtain ⟨⟨d12,d13,d14⟩,⟨d23,d24⟩,d34⟩:=hnd
 have hb8:=bs[j].toNat_lt
 have hlt:bs[j].toNat*2^s<2^(s+8):=by rw [Nat.pow_add,Nat.mul_comm (2^s)];exact Nat.mul_lt_mul_of_pos_right hb8 (Nat.pow_pos (by omega))
 have hle:2^(s+8)≤2^kd.bits:=Nat.pow_le_pow_right (by omega) hs
 have hA':A<2^kd.bits:=Nat.lt_of_lt_of_le hA (Nat.pow_le_pow_right (by omega) (by omega))
 have hsum:A+bs[j].toNat*2^s<2^(s+8):=by
  have h1:bs[j].toNat*2^s≤255*2^s:=Nat.mul_le_mul_right _ (by omega)
  have h2:2^(s+8)=256*2^s:=by rw [Nat.pow_add,Nat.mul_comm]
  omega
 refine byteL hx hb hj x1 x2 fun η1 e1 f1 => ?_
 refine cvL hkd (by omega) e1 fun η2 e2 f2 => ?_
 refine np_look (vs:=[.int kd (bs[j].toNat:Int),.int .u64 (s:Int)]) (by simp [SV.val,e2]) ⟨kd,_,.u64,s,_,rfl,shl_nat kd hkd _ s (by omega) (by omega),rfl,?_⟩
 refine np_look (vs:=[.int kd (A:Int),.int kd ((bs[j].toNat*2^s:Nat):Int)]) (by simp only [List.map,SV.val,upd,if_true,if_neg y4];rw [f2 acc y3,f1 acc y1 y2,hacc]) ⟨kd,_,_,_,rfl,or_nat kd hkd _ _ hA' (by omega),rfl,?_⟩
 refine hk _ (by simp [upd,or_add A _ s hA]) ?_ hsum
 simp only [upd,if_neg x5,if_neg x4]
 rw [f2 x x3,f1 x x1 x2]
def BeOk (P:Program) (f:FuncId) (k:Nat) (kd:IntKind):Prop:=
 ∀ (w:World) (a:Addr) (bs:Bs) (c:Nat) (K:Value→World→Prop),BytesIn (fun _=>True) w a bs→k≤bs.length→(∀ w',Keep [] w w'→K (.int kd ((ofBe (bs.take k):Nat):Int)) w')→In.wp P (.call f) [.agg #[],.slice (some a) bs.length c] w K
theorem keep_drawn (w:World):Keep [] w { w with drawn:=w.drawn+1 }:=⟨rfl,rfl,rfl,Nat.le_refl _,fun _ _ _=>rfl⟩
theorem be_head {w:World} {a:Addr} {bs:Bs} {c j:Nat} {k:NP} {Q:Out→(Nat→Value)→World→Prop} {η:Nat→Value} (h0:η 0 = .agg #[]) (h1:η 1 = .slice (some a) bs.length c) (hb:BytesIn (fun _=>True) w a bs) (hj:j<bs.length)
  (hk:∀ η' w',Keep [] w w'→η' 1 = .slice (some a) bs.length c→BytesAt w' a bs→k.wp P Q η' w') :
  (NP.op (.box 0) [.s 0] 2 <| .chk 2 <| .op (.ia 1) [.s 1,.k (.int .i64 (j:Int))] 3 <| .chk 3 <| .op .load [.q 3 0] 4 <| .draw k).wp P Q η w:=by
 refine np_op (vs:=[.agg #[]]) (by simp [SV.val,h0]) ⟨_,rfl,rfl,fun e => ?_⟩
 refine ⟨⟨_,by simp only [upd];rfl⟩,?_⟩
 have k1:Keep [] w (w.alloc (.cells (Value.agg #[]).cells e)):=⟨rfl,rfl,rfl,by simp,fun q hq _=>heap_alloc_old w _ q hq⟩
 have hb1:=hb.same (k1.same fun x hx=>by simp at hx)
 refine byteO (x:=1) (n:=3) (m:=4) (j:=j) (c:=c) (by simp [upd,h1]) hb1.2.2 hj (by decide) (by decide) fun η1 _ f1 => ?_
 have k2:=keep_drawn (w.alloc (.cells (Value.agg #[]).cells e))
 have hb2:=hb1.same (k2.same fun x hx=>by simp at hx)
 exact hk _ _ (k1.then k2) (by rw [f1 1 (by decide) (by decide)];simp [upd,h1]) hb2.2.2
theorem uint32_ok (hn:Named P) {I:J} {f:FuncId} (hf:fnP P f 2=some (p_uint32 I)):BeOk P f 4 .u32:=by
 intro w a bs c K hb hlen hk
 refine calls_of_np hn (vs:=[.agg #[],.slice (some a) bs.length c]) hf fun η hη => ?_
 refine be_head (j:=3) (hη 0 (by simp)) (hη 1 (by simp)) hb (by omega) fun η1 w1 k1 h1 hb1 => ?_
 refine byteL (j:=3) h1 hb1 (by omega) (by decide) (by decide) fun η2 e2 f2 => ?_
 refine cvL rfl (by decide) e2 fun η3 e3 f3 => ?_
 have h3:η3 1 = .slice (some a) bs.length c:=by rw [f3 1 (by decide),f2 1 (by decide) (by decide),h1]
 refine accL (j:=2) (s:=8) (A:=bs[3].toNat) (kd := .u32) rfl h3 hb1 (by omega) (by decide) (by decide) (by decide) bs[3].toNat_lt e3 fun η4 e4 f4 l4 => ?_
 rw [h3] at f4
 refine accL (j:=1) (s:=16) (kd := .u32) rfl f4 hb1 (by omega) (by decide) (by decide) (by decide) l4 e4 fun η5 e5 f5 l5 => ?_
 rw [f4] at f5
 refine accL (j:=0) (s:=24) (kd := .u32) rfl f5 hb1 (by omega) (by decide) (by decide) (by decide) l5 e5 fun η6 e6 f6 l6 => ?_
 have e:ofBe (bs.take 4)=bs[3].toNat+bs[2].toNat*2^8+bs[1].toNat*2^16+bs[0].toNat*2^24:=by
  match bs,hlen with
  | b0::b1::b2::b3::r,_=>simp [ofBe];omega
 have:=hk w1 k1
 rw [e,← e6] at this
 exact this
theorem uint64_ok (hn:Named P) {I:J} {f:FuncId} (hf:fnP P f 2=some (p_uint64 I)):BeOk P f 8 .u64:=by
 intro w a bs c K hb hlen hk
 refine calls_of_np hn (vs:=[.agg #[],.slice (some a) bs.length c]) hf fun η hη => ?_
 refine be_head (j:=7) (hη 0 (by simp)) (hη 1 (by simp)) hb (by omega) fun η1 w1 k1 h1 hb1 => ?_
 refine byteL (j:=7) h1 hb1 (by omega) (by decide) (by decide) fun η2 e2 f2 => ?_
 refine cvL rfl (by decide) e2 fun η3 e3 f3 => ?_
 have h3:η3 1 = .slice (some a) bs.length c:=by rw [f3 1 (by decide),f2 1 (by decide) (by decide),h1]
 refine accL (j:=6) (s:=8) (A:=bs[7].toNat) (kd := .u64) rfl h3 hb1 (by omega) (by decide) (by decide) (by decide) bs[7].toNat_lt e3 fun η4 e4 f4 l4 => ?_
 rw [h3] at f4
 refine accL (j:=5) (s:=16) (kd := .u64) rfl f4 hb1 (by omega) (by decide) (by decide) (by decide) l4 e4 fun η5 e5 f5 l5 => ?_
 rw [f4] at f5
 refine accL (j:=4) (s:=24) (kd := .u64) rfl f5 hb1 (by omega) (by decide) (by decide) (by decide) l5 e5 fun η6 e6 f6 l6 => ?_
 rw [f5] at f6
 refine accL (j:=3) (s:=32) (kd := .u64) rfl f6 hb1 (by omega) (by decide) (by decide) (by decide) l6 e6 fun η7 e7 f7 l7 => ?_
 rw [f6] at f7
 refine accL (j:=2) (s:=40) (kd := .u64) rfl f7 hb1 (by omega) (by decide) (by decide) (by decide) l7 e7 fun η8 e8 f8 l8 => ?_
 rw [f7] at f8
 refine accL (j:=1) (s:=48) (kd := .u64) rfl f8 hb1 (by omega) (by decide) (by decide) (by decide) l8 e8 fun η9 e9 f9 l9 => ?_
 rw [f8] at f9
 refine accL (j:=0) (s:=56) (kd := .u64) rfl f9 hb1 (by omega) (by decide) (by decide) (by decide) l9 e9 fun η10 e10 f10 l10 => ?_
 have e:ofBe (bs.take 8)=bs[7].toNat+bs[6].toNat*2^8+bs[5].toNat*2^16+bs[4].toNat*2^24+bs[3].toNat*2^32+bs[2].toNat*2^40+bs[1].toNat*2^48+bs[0].toNat*2^56:=by
  match bs,hlen with
  | b0::b1::b2::b3::b4::b5::b6::b7::r,_=>simp [ofBe];omega
 have:=hk w1 k1
 rw [e,← e10] at this
 exact this
theorem wp_load0 {w:World} {b:Nat} {K:Value→World→Prop} (hk:K (.agg #[]) w):In.wp P (.loadN 0) [.pointer (some ⟨b,0,none⟩)] w K:=
 ⟨b,0,[],rfl,fun j v hj=>by simp at hj,rfl,hk⟩
theorem big_head {k:Nat} {kd0:IntKind} {fb:FuncId} (hbe:BeOk P fb k kd0) {be:Nat} {zr:Value} {ok:Nat→Prop} {w:World} {R:Nat} {nn:Bool} {s:Option Bs} (he:Env ok w R) (hs:Rd ok w R nn s) {η:Nat→Value} (h0:η 0=ptr R) {cont:NP} {Q:Out→(Nat→Value)→World→Prop} (hk0:0<k)
  (bad:∀ η' w',Keep [R] w w'→s.bind (cut k)=none→Rd ok w' R false none→Q (.ret [zr]) η' w')
  (good:∀ η' w' bs src,s=some bs→k≤bs.length→Keep [R] w w'→η' 0=ptr R→η' 8 = .int kd0 ((ofBe (bs.take k):Nat):Int)→Row w' R [src,.bool false]→Sl ok w' src bs→cont.wp P Q η' w') :
  (NP.chk 0 <|
 .op .load [.q 0 0] 1 <|
 .op .len [.s 1] 2 <|
 .op (.bin .lss) [.s 2,.k (.int .i64 (k:Int))] 3 <|
 .ite (.s 3)
  (.op (.store 1) [.q 0 1,.k (.bool true)] 4 <|
  .op (.store 1) [.q 0 0,.k (.slice none 0 0)] 5 <|
  .ret [.k zr])
  (.nil) <|
 .draw <|
 .look (.loadN 0) [.k (.pointer (some ⟨be,0,none⟩))] 6 <|
 .look .load [.q 0 0] 7 <|
 .op (.call fb) [.s 6,.s 7] 8 <|
 .keep .load [.q 0 0] 7 <|
 .keep (.loadN 0) [.k (.pointer (some ⟨be,0,none⟩))] 6 cont).wp P Q η w:=by
 obtain ⟨src,hrow,hsl,hbad⟩:=rd_row hs
 obtain ⟨a,c,hsrc,hc⟩:=sl_slice hsl
 refine ⟨⟨_,h0⟩,?_⟩
 refine np_op (vs:=[ptr R]) (by simp [SV.val,h0,Addr.add]) (wp_load hrow rfl ?_)
 refine np_op (vs:=[src]) (by simp [SV.val,upd]) ⟨a,_,c,by rw [hsrc],?_⟩
 refine np_op (vs:=[goInt (s.getD []).length,.int .i64 (k:Int)]) (by simp [SV.val,upd]) ⟨.i64,_,_,_,rfl,rfl,?_⟩
 refine np_ite (decide (((s.getD []).length:Int)<(k:Int))) (by simp [SV.val,upd]) ?_
 by_cases hlt:((s.getD []).length:Int)<(k:Int)
 ·simp only [hlt,decide_true,if_true]
  refine spoil hrow (by simp [upd,h0]) (by simp) fun w1 k1 r1 => ?_
  exact bad _ w1 k1 (short_cut (by omega)) r1
 ·simp only [hlt,decide_false,Bool.false_eq_true,if_false]
  cases s with
  | none=>simp at hlt;omega
  | some bs=>
   simp only [Option.getD_some] at hsl hsrc hc hlt
   have hlen:k≤bs.length:=by omega
   have hne:bs≠[]:=fun h=>by subst h;simp at hlen;omega
   obtain ⟨a,c,hsrc,hc,hb⟩:=sl_some hsl hne
   have k1:=keep_drawn w
   have hrow1:Row { w with drawn:=w.drawn+1 } R [src,.bool false]:=hrow.keep k1 (by simp)
   show NP.wp P (NP.draw _) Q _ w
   refine np_draw ?_
   refine np_look (vs:=[.pointer (some ⟨be,0,none⟩)]) (by simp [SV.val]) (wp_load0 ⟨rfl,?_⟩)
   refine np_look (vs:=[ptr R]) (by simp [SV.val,upd,h0,Addr.add]) (wp_load hrow1 rfl ⟨rfl,?_⟩)
   have hb1:BytesIn (fun _=>True) { w with drawn:=w.drawn+1 } a bs:=⟨hb.1,trivial,hb.2.2⟩
   refine np_op (vs:=[.agg #[],.slice (some a) bs.length c]) (by simp [SV.val,upd,hsrc]) (hbe _ a bs c _ hb1 hlen fun w2 k2 => ?_)
   have hrow2:=hrow1.keep k2 (by simp)
   refine np_keep (vs:=[ptr R]) (by simp [SV.val,upd,h0,Addr.add]) (wp_load hrow2 rfl ⟨by simp [upd],rfl⟩) ?_
   refine np_keep (vs:=[.pointer (some ⟨be,0,none⟩)]) (by simp [SV.val]) (wp_load0 ⟨by simp [upd],rfl⟩) ?_
   have k12:Keep [] w w2:=k1.then k2
   refine good _ w2 bs src rfl hlen (k12.mono fun x hx=>by simp at hx) (by simp [upd,h0]) (by simp [upd]) hrow2 (hsl.same (k12.same fun x hx=>by simp at hx))
theorem big_tail {k:Nat} {ok:Nat→Prop} {w0 w:World} {R:Nat} {bs:Bs} {src:Value} (he:Env ok w0 R) (hrow:Row w R [src,.bool false]) (hsl:Sl ok w src bs) (hk0:0<k) (hlen:k≤bs.length) (hkw:Keep [R] w0 w) {η:Nat→Value} (h0:η 0=ptr R) {i10 i11 i12 r:Nat} (hne:0≠i10∧0≠i11∧r∉[i10,i11,i12])
  {Q:Out→(Nat→Value)→World→Prop} (hq:∀ η' w',Keep [R] w0 w'→Rd ok w' R true (some (bs.drop k))→Q (.ret [η r]) η' w') :
  (NP.op .load [.q 0 0] i10 <| .op (.sl 1 true false false) [.s i10,.k (.int .i64 (k:Int))] i11 <| .op (.store 1) [.q 0 0,.s i11] i12 <| .ret [.s r]).wp P Q η w:=by
 simp only [List.mem_cons,List.not_mem_nil,or_false,not_or] at hne
 obtain ⟨n1,n2,n3,n4,n5⟩:=hne
 have hnil:bs≠[]:=fun h=>by subst h;simp at hlen;omega
 obtain ⟨a,c,hsrc,hc,hb⟩:=sl_some hsl hnil
 refine np_op (vs:=[ptr R]) (by simp [SV.val,h0,Addr.add]) (wp_load hrow rfl ?_)
 refine np_op (vs:=[src,.int .i64 (k:Int)]) (by simp [SV.val,upd]) ⟨some a,_,c,[.int .i64 (k:Int)],by rw [hsrc],?_⟩
 simp only [bnd,if_true,Bool.false_eq_true,if_false]
 refine ⟨.i64,k,[],rfl,rfl,hlen,hc,Nat.le_refl _,?_⟩
 obtain ⟨g1,g2⟩:=sl_drop (n:=k) hb hc hlen
 refine np_op (vs:=[ptr R,_]) (by simp [SV.val,upd,h0,n1,n2,Addr.add]) (wp_store hrow (Sl.fit g1) (by simp) fun w1 r1 k1 => ?_)
 have hq':=hq (upd (upd (upd η i10 src) i11 (.slice (if c=k then some a else (some a).map (·.add (k*1))) (bs.length - k) (c - k))) i12 undef) w1 (hkw.then k1) ⟨_,by simpa [put,Value.cells] using r1,g1.same ((he.keep hkw).same k1),fun _=>g2⟩
 show Q (.ret [_]) _ w1
 have e:([SV.s r].map (SV.val (upd (upd (upd η i10 src) i11 (.slice (if c=k then some a else (some a).map (·.add (k*1))) (bs.length - k) (c - k))) i12 undef)))=[η r]:=by simp [SV.val,upd,n3,n4,n5]
 simp only [List.map] at e
 rw [e]
 exact hq'
theorem rInt32_ok (hn:Named P) {I:J} {f:FuncId} (hf:fnP P f 1=some (p_rInt32 I)) (hb:BeOk P I.uint32 4 .u32):Reads P f (rdI 4) (intRep .i32) (· = .int .i32 0):=by
 intro ok w R nn s K he hs hk
 refine calls_of_np hn (vs:=[ptr R]) hf fun η hη => ?_
 refine big_head (k:=4) (kd0 := .u32) hb he hs (hη 0 (by simp)) (by omega) (fun η' w' k1 hcut hr => ?_) (fun η' w' bs src hsb hlen k1 h0 h8 hrow hsl => ?_)
 ·refine hk _ w' k1 ?_
  have:s.bind (rdI 4)=none:=by cases s<;>simp_all [rdI,rdU]
  unfold ReadEnd
  rw [this]
  exact ⟨hr,rfl⟩
 ·subst hsb
  have hlt:ofBe (bs.take 4)<2^32:=by have:=ofBe_lt (bs.take 4);rwa [List.length_take,Nat.min_eq_left hlen] at this
  refine np_look (vs:=[.int .u32 ((ofBe (bs.take 4):Nat):Int)]) (by simp [SV.val,h8]) ⟨.u32,_,rfl,rfl,?_⟩
  refine big_tail (k:=4) he hrow hsl (by omega) hlen k1 (by simp [upd,h0]) (by decide) fun η'' w'' k2 hr => ?_
  refine hk _ w'' k2 ?_
  have hrd:rdI 4 bs=some (sgn 32 (ofBe (bs.take 4)),bs.drop 4):=by simp [rdI,rdU,cut,hlen]
  simp only [ReadEnd,Option.bind_some,hrd]
  refine ⟨hr,?_⟩
  simp only [intRep,pack,upd,if_true]
  rw [wrap_sgn .i32 rfl _ hlt];rfl
theorem rreadUint64_ok (hn:Named P) {I:J} {f:FuncId} (hf:fnP P f 1=some (p_rreadUint64 I)) (hb:BeOk P I.uint64 8 .u64):Reads P f (rdU 8) (natRep .u64) (· = .int .u64 0):=by
 intro ok w R nn s K he hs hk
 refine calls_of_np hn (vs:=[ptr R]) hf fun η hη => ?_
 refine big_head (k:=8) (kd0 := .u64) hb he hs (hη 0 (by simp)) (by omega) (fun η' w' k1 hcut hr => ?_) (fun η' w' bs src hsb hlen k1 h0 h8 hrow hsl => ?_)
 ·refine hk _ w' k1 ?_
  have:s.bind (rdU 8)=none:=by cases s<;>simp_all [rdU]
  unfold ReadEnd
  rw [this]
  exact ⟨hr,rfl⟩
 ·subst hsb
  refine big_tail (k:=8) he hrow hsl (by omega) hlen k1 h0 (by decide) fun η'' w'' k2 hr => ?_
  refine hk _ w'' k2 ?_
  have hrd:rdU 8 bs=some (ofBe (bs.take 8),bs.drop 8):=by simp [rdU,cut,hlen]
  simp only [ReadEnd,Option.bind_some,hrd]
  exact ⟨hr,by simp only [natRep,pack,h8]⟩
end
end Go.Kb
namespace Go.Kb
open Go.Lx Go.Nx Go.Km Go.Mx
set_option linter.unusedSimpArgs false
set_option linter.unusedVariables false
section
variable {P:Program}
theorem and_nat (k:IntKind) (hk:k.signed=false) (x y:Nat) (hx:x<2^k.bits) (hy:y<2^k.bits):binV .and k (x:Int) (y:Int)=some (.int k ((x &&& y:Nat):Int)):=by
 have e:∀ m:Nat,BitVec.ofInt k.bits (m:Int)=BitVec.ofNat k.bits m:=by intro m;simp
 have e2:(BitVec.ofInt k.bits (x:Int) &&& BitVec.ofInt k.bits (y:Int)).toNat=(x &&& y):=by
  rw [e,e,BitVec.toNat_and,BitVec.toNat_ofNat,BitVec.toNat_ofNat,Nat.mod_eq_of_lt hx,Nat.mod_eq_of_lt hy]
 show some (Value.int k (k.wrap (((BitVec.ofInt k.bits (x:Int) &&& BitVec.ofInt k.bits (y:Int)).toNat:Nat):Int)))=_
 rw [e2,wrap_nat k hk _ (Nat.and_lt_two_pow _ hy)]
theorem and127' (b:Nat):b<256→b &&& 127=b%128:=fun _=>Nat.and_two_pow_sub_one_eq_mod b 7
set_option maxRecDepth 100000 in
theorem and128':∀ b,b<256→b &&& 128=if b<128 then 0 else 128:=by decide
theorem lowO {η:Nat→Value} {w:World} {k:NP} {Q:Out→(Nat→Value)→World→Prop} {x n m j c1 c2:Nat} {v:Value} {bs:Bs} {c:Nat} {a:Addr} (hx:η x = .slice (some a) bs.length c) (hb:BytesAt w a bs) (hj:j<bs.length) (hxn:x∉[n,m,c1,c2]) (hnm:c1≠m)
  (hk:∀ η':Nat→Value,η' c2 = .int .u32 ((bs[j].toNat%128:Nat):Int)→(∀ i,i∉[n,m,c1,c2]→η' i=η i)→k.wp P Q η' w) :
  (NP.op (.ia 1) [.s x,.k (.int .i64 (j:Int))] n <| .chk n <| .op .load [.q n 0] m <| .op (.bin .and) [.s m,.k (.int .u8 127)] c1 <| .op (.cv .u32) [.s c1] c2 k).wp P Q η w:=by
 simp only [List.mem_cons,List.not_mem_nil,or_false,not_or] at hxn hk
 refine byteO hx hb hj hxn.1 hxn.2.1 fun η1 e1 f1 => ?_
 have hb8:=bs[j].toNat_lt
 have hand:=and_nat .u8 rfl bs[j].toNat 127 hb8 (by decide)
 rw [and127' _ hb8] at hand
 refine np_op (vs:=[u8 bs[j],.int .u8 127]) (by simp [SV.val,e1]) ⟨.u8,_,_,_,rfl,hand,?_⟩
 refine np_op (vs:=[.int .u8 ((bs[j].toNat%128:Nat):Int)]) (by simp [SV.val,upd]) ⟨.u8,_,rfl,?_⟩
 refine hk _ (by simp only [upd,if_true];rw [wrap_nat .u32 rfl _ (by have:(2:Nat)^IntKind.u32.bits=4294967296:=rfl;omega)]) fun i hi => ?_
 simp only [upd,if_neg hi.2.2.2,if_neg hi.2.2.1]
 exact f1 i hi.1 hi.2.1
theorem moreO {η:Nat→Value} {w:World} {k:NP} {Q:Out→(Nat→Value)→World→Prop} {x n m j c1 c2:Nat} {bs:Bs} {c:Nat} {a:Addr} (hx:η x = .slice (some a) bs.length c) (hb:BytesAt w a bs) (hj:j<bs.length) (hxn:x∉[n,m,c1,c2])
  (hk:∀ η':Nat→Value,η' c2 = .bool (decide (bs[j].toNat<128))→(∀ i,i∉[n,m,c1,c2]→η' i=η i)→k.wp P Q η' w) :
  (NP.op (.ia 1) [.s x,.k (.int .i64 (j:Int))] n <| .chk n <| .op .load [.q n 0] m <| .op (.bin .and) [.s m,.k (.int .u8 128)] c1 <| .op (.bin .eql) [.s c1,.k (.int .u8 0)] c2 k).wp P Q η w:=by
 simp only [List.mem_cons,List.not_mem_nil,or_false,not_or] at hxn hk
 refine byteO hx hb hj hxn.1 hxn.2.1 fun η1 e1 f1 => ?_
 have hb8:=bs[j].toNat_lt
 have hand:=and_nat .u8 rfl bs[j].toNat 128 hb8 (by decide)
 rw [and128' _ hb8] at hand
 refine np_op (vs:=[u8 bs[j],.int .u8 128]) (by simp [SV.val,e1]) ⟨.u8,_,_,_,rfl,hand,?_⟩
 refine np_op (vs:=[.int .u8 ((if bs[j].toNat<128 then 0 else 128:Nat):Int),.int .u8 0]) (by simp [SV.val,upd]) ⟨.u8,_,_,_,rfl,rfl,?_⟩
 refine hk _ ?_ fun i hi => ?_
 ·simp only [upd,if_true]
  by_cases h:bs[j].toNat<128<;>simp [h]
 ·simp only [upd,if_neg hi.2.2.2,if_neg hi.2.2.1]
  exact f1 i hi.1 hi.2.1
def UvEnd (bs:Bs) (n k:Int):Prop:=match rdUv bs with
 | some (x,r)=>n=x∧k=((bs.length - r.length:Nat):Int)
 | none=>k≤0
abbrev uvBad:NP := .ret [.k (.int .u32 0),.k (.int .i64 0)]
def UvAt (bs:Bs) (j A:Nat):Prop:=A<2^(7*j)∧rdUv bs=(rdV (4 - j) (bs.drop j)).map fun p=>(A+2^(7*j)*p.1,p.2)
theorem uvAt_step {bs:Bs} {j A:Nat} (h:UvAt bs j A) (hj:j<4) (hlt:j<bs.length) (hb:¬ bs[j].toNat<128):UvAt bs (j+1) (A+bs[j].toNat%128*2^(7*j)):=by
 obtain ⟨h1,h2⟩:=h
 have e7:2^(7*(j+1))=2^(7*j)*128:=by rw [Nat.mul_add,Nat.pow_add]
 refine ⟨?_,?_⟩
 ·have h3:bs[j].toNat%128*2^(7*j)≤127*2^(7*j):=Nat.mul_le_mul_right _ (by omega)
  rw [e7];omega
 ·rw [h2,List.drop_eq_getElem_cons hlt]
  have e4:4 - j=(4 - (j+1))+1:=by omega
  rw [e4]
  simp only [rdV,hb,if_false,Option.map_map]
  congr 1
  funext p
  simp only [Function.comp]
  rw [e7,Nat.mul_add,← Nat.add_assoc,Nat.mul_comm (2^(7*j)) (bs[j].toNat%128),Nat.mul_assoc]
theorem uvAt_stop {bs:Bs} {j A:Nat} (h:UvAt bs j A) (hj:j<4) (hlt:j<bs.length) (hb:bs[j].toNat<128):UvEnd bs ((A+bs[j].toNat%128*2^(7*j):Nat):Int) ((j+1:Nat):Int):=by
 obtain ⟨h1,h2⟩:=h
 have e4:4 - j=(4 - (j+1))+1:=by omega
 rw [List.drop_eq_getElem_cons hlt,e4] at h2
 simp only [rdV,hb,if_true,Option.map_some] at h2
 unfold UvEnd
 rw [h2]
 refine ⟨?_,?_⟩
 ·rw [Nat.mod_eq_of_lt hb,Nat.mul_comm]
 ·simp only [List.length_drop];omega
theorem uvAt_short {bs:Bs} {j A:Nat} (h:UvAt bs j A) (hlt:¬ j<bs.length):UvEnd bs 0 0:=by
 obtain ⟨h1,h2⟩:=h
 rw [List.drop_of_length_le (by omega)] at h2
 have:rdV (4 - j) []=none:=by cases 4 - j<;>rfl
 rw [this] at h2
 unfold UvEnd
 rw [h2]
 exact Int.le_refl _
def uvG (j acc i:Nat) (next:NP):NP:=
 .op .len [.s 0] i <| .op (.bin .lss) [.s i,.k (.int .i64 ((j+1:Nat):Int))] (i+1) <| .ite (.s (i+1)) uvBad
   (.op (.ia 1) [.s 0,.k (.int .i64 (j:Int))] (i+2) <| .chk (i+2) <| .op .load [.q (i+2) 0] (i+3) <| .op (.bin .and) [.s (i+3),.k (.int .u8 127)] (i+4) <| .op (.cv .u32) [.s (i+4)] (i+5) <|
    .op (.sh .shl) [.s (i+5),.k (.int .u64 ((7*j:Nat):Int))] (i+6) <| .op (.bin .or) [.s acc,.s (i+6)] (i+7) <|
    .op (.ia 1) [.s 0,.k (.int .i64 (j:Int))] (i+8) <| .chk (i+8) <| .op .load [.q (i+8) 0] (i+9) <| .op (.bin .and) [.s (i+9),.k (.int .u8 128)] (i+10) <| .op (.bin .eql) [.s (i+10),.k (.int .u8 0)] (i+11) <|
    .ite (.s (i+11)) (.ret [.s (i+7),.k (.int .i64 ((j+1:Nat):Int))]) next .nil) .nil
def uv0 (next:NP):NP:=
 .op .len [.s 0] 1 <| .op (.bin .lss) [.s 1,.k (.int .i64 1)] 2 <| .ite (.s 2) uvBad
  (.op (.ia 1) [.s 0,.k (.int .i64 ((0:Nat):Int))] 3 <| .chk 3 <| .op .load [.q 3 0] 4 <| .op (.bin .and) [.s 4,.k (.int .u8 127)] 5 <| .op (.cv .u32) [.s 5] 6 <|
   .op (.ia 1) [.s 0,.k (.int .i64 ((0:Nat):Int))] 7 <| .chk 7 <| .op .load [.q 7 0] 8 <| .op (.bin .and) [.s 8,.k (.int .u8 128)] 9 <| .op (.bin .eql) [.s 9,.k (.int .u8 0)] 10 <|
   .ite (.s 10) (.ret [.s 6,.k (.int .i64 1)]) next .nil) .nil
def uvL:NP:=
 .op .len [.s 0] 47 <| .op (.bin .lss) [.s 47,.k (.int .i64 5)] 48 <| .ite (.s 48) uvBad
  (.op (.ia 1) [.s 0,.k (.int .i64 ((4:Nat):Int))] 49 <| .chk 49 <| .op .load [.q 49 0] 50 <| .op (.cv .u32) [.s 50] 51 <| .op (.sh .shl) [.s 51,.k (.int .u64 28)] 52 <| .op (.bin .or) [.s 42,.s 52] 53 <|
   .op (.ia 1) [.s 0,.k (.int .i64 ((4:Nat):Int))] 54 <| .chk 54 <| .op .load [.q 54 0] 55 <| .op (.bin .leq) [.s 55,.k (.int .u8 15)] 56 <|
   .ite (.s 56) (.ret [.s 53,.k (.int .i64 5)]) .nil <| .ret [.k (.int .u32 0),.k (.int .i64 (-5))]) .nil
theorem p_uvarint_eq (I:J):p_uvarint I=⟨uv0 (uvG 1 6 11 (uvG 2 18 23 (uvG 3 30 35 uvL))),[.direct,.direct]⟩:=rfl
theorem uv_grp {j A acc i:Nat} {next:NP} {η:Nat→Value} {w:World} {Q:Out→(Nat→Value)→World→Prop} {ok:Nat→Prop} {v:Value} {bs:Bs} (hsl:Sl ok w v bs) (h0:η 0=v) (hA:UvAt bs j A) (hacc:η acc = .int .u32 (A:Int)) (hj1:1≤j) (hj:j<4) (hi0:acc<i) (hi:0<i)
  (hret:∀ n k η',UvEnd bs n k→Q (.ret [.int .u32 n,.int .i64 k]) η' w)
  (hnext:∀ (Q':Out→(Nat→Value)→World→Prop) η' A',(∀ vs η w,Q (.ret vs) η w→Q' (.ret vs) η w)→η' 0=v→η' (i+7) = .int .u32 (A':Int)→UvAt bs (j+1) A'→next.wp P Q' η' w):(uvG j acc i next).wp P Q η w:=by
 unfold uvG
 obtain ⟨a,c,hv,hc⟩:=sl_slice hsl
 refine np_op (vs:=[v]) (by simp [SV.val,h0]) ⟨a,_,c,by rw [hv],?_⟩
 refine np_op (vs:=[goInt bs.length,.int .i64 ((j+1:Nat):Int)]) (by simp [SV.val,upd]) ⟨.i64,_,_,_,rfl,rfl,?_⟩
 refine np_ite (decide ((bs.length:Int)<((j+1:Nat):Int))) (by simp [SV.val,upd]) ?_
 by_cases hlt:j<bs.length
 ·have hd:¬ ((bs.length:Int)<((j+1:Nat):Int)):=by omega
  simp only [hd,decide_false,Bool.false_eq_true,if_false]
  obtain ⟨a,c,hv,hc,hb⟩:=sl_some hsl (by intro h;subst h;simp at hlt)
  have hb8:=bs[j].toNat_lt
  have h7j:7*j+7≤28:=by omega
  have hbits:(2:Nat)^IntKind.u32.bits=2^32:=rfl
  have hle28:2^(7*j+7)≤2^28:=Nat.pow_le_pow_right (by omega) h7j
  have e77:2^(7*j+7)=2^(7*j)*128:=Nat.pow_add 2 (7*j) 7
  have hmul:bs[j].toNat%128*2^(7*j)≤127*2^(7*j):=Nat.mul_le_mul_right _ (by omega)
  have hAlt:=hA.1
  refine lowO (v:=v) (a:=a) (c:=c) (bs:=bs) (j:=j) (by simp [upd,h0,hv];omega) hb.2.2 hlt (by simp) (by omega) fun η1 e1 f1 => ?_
  have hshl:=shl_nat .u32 rfl (bs[j].toNat%128) (7*j) (by show 7*j≤32;omega) (by rw [hbits];omega)
  refine np_op (vs:=[.int .u32 ((bs[j].toNat%128:Nat):Int),.int .u64 ((7*j:Nat):Int)]) (by simp [SV.val,e1]) ⟨.u32,_,.u64,7*j,_,rfl,hshl,?_⟩
  have hor:=or_nat .u32 rfl A (bs[j].toNat%128*2^(7*j)) (by rw [hbits];omega) (by rw [hbits];omega)
  rw [or_add A _ _ hAlt] at hor
  have hf1:∀ q,q<i→η1 q=η q:=fun q hq=>by
   rw [f1 q (by simp;omega)]
   simp [upd,show q≠i by omega,show q≠i+1 by omega]
  refine np_op (vs:=[.int .u32 (A:Int),.int .u32 ((bs[j].toNat%128*2^(7*j):Nat):Int)]) (by simp [SV.val,upd,show acc≠i+6 by omega,hf1 acc hi0,hacc]) ⟨.u32,_,_,_,rfl,hor,?_⟩
  refine moreO (a:=a) (c:=c) (bs:=bs) (j:=j) (by simp [upd,show (0:Nat)≠i+7 by omega,hf1 0 hi,h0,hv]) hb.2.2 hlt (by simp) fun η2 e2 f2 => ?_
  refine np_ite (decide (bs[j].toNat<128)) (by simp [SV.val,e2]) ?_
  by_cases hb7:bs[j].toNat<128
  ·simp only [hb7,decide_true,if_true]
   have:=hret _ _ η2 (uvAt_stop hA hj hlt hb7)
   show Q (.ret [η2 (i+7),_]) η2 w
   rw [f2 (i+7) (by simp)]
   simpa [upd,SV.val] using this
  ·simp only [hb7,decide_false,Bool.false_eq_true,if_false]
   refine hnext _ η2 _ (fun vs η w h=>h) ?_ ?_ (uvAt_step hA hj hlt hb7)
   ·rw [f2 0 (by simp)]
    simp [upd,hf1 0 hi,h0]
   ·rw [f2 (i+7) (by simp)]
    simp [upd]
 ·have hd:((bs.length:Int)<((j+1:Nat):Int)):=by omega
  simp only [hd,decide_true,if_true]
  exact hret _ _ _ (uvAt_short hA hlt)
theorem uvarint_ok (hn:Named P) {I:J} {f:FuncId} (hf:fnP P f 1=some (p_uvarint I)):KUv P f:=by
 intro ok w v bs K hsl hk
 rw [p_uvarint_eq] at hf
 refine calls_of_np hn (vs:=[v]) hf fun η hη => ?_
 have hret:∀ n k η',UvEnd bs n k→postP [.direct,.direct] K (.ret [.int .u32 n,.int .i64 k]) η' w:=fun n k η' h=>hk n k h
 dsimp only
 generalize postP [RK.direct,RK.direct] K=QR at hret ⊢
 unfold uv0
 have h0:η 0=v:=hη 0 (by simp)
 obtain ⟨a,c,hv,hc⟩:=sl_slice hsl
 refine np_op (vs:=[v]) (by simp [SV.val,h0]) ⟨a,_,c,by rw [hv],?_⟩
 refine np_op (vs:=[goInt bs.length,.int .i64 1]) (by simp [SV.val,upd]) ⟨.i64,_,_,_,rfl,rfl,?_⟩
 refine np_ite (decide ((bs.length:Int)<1)) (by simp [SV.val,upd]) ?_
 by_cases hlt:0<bs.length
 ·have hd:¬ ((bs.length:Int)<1):=by omega
  simp only [hd,decide_false,Bool.false_eq_true,if_false]
  obtain ⟨a,c,hv,hc,hb⟩:=sl_some hsl (by intro h;subst h;simp at hlt)
  have hA0:UvAt bs 0 0:=⟨by simp,by simp [rdUv]⟩
  have hb8:=bs[0].toNat_lt
  refine lowO (v:=v) (a:=a) (c:=c) (bs:=bs) (j:=0) (by simp [upd,h0,hv]) hb.2.2 hlt (by decide) (by decide) fun η1 e1 f1 => ?_
  refine moreO (a:=a) (c:=c) (bs:=bs) (j:=0) (by rw [f1 0 (by decide)];simp [upd,h0,hv]) hb.2.2 hlt (by decide) fun η2 e2 f2 => ?_
  refine np_ite (decide (bs[0].toNat<128)) (by simp [SV.val,e2]) ?_
  by_cases hb7:bs[0].toNat<128
  ·simp only [hb7,decide_true,if_true]
   have:=hret _ _ η2 (uvAt_stop hA0 (by omega) hlt hb7)
   show QR (.ret [η2 6,_]) η2 w
   rw [f2 6 (by decide),e1]
   simpa [SV.val] using this
  ·simp only [hb7,decide_false,Bool.false_eq_true,if_false]
   have h20:η2 0=v:=by rw [f2 0 (by decide),f1 0 (by decide)];simp [upd,h0]
   have h26:η2 6 = .int .u32 ((0+bs[0].toNat%128*2^(7*0):Nat):Int):=by rw [f2 6 (by decide),e1];simp
   have hA1:=uvAt_step hA0 (by omega) hlt hb7
   refine uv_grp (j:=1) (acc:=6) (i:=11) hsl h20 hA1 h26 (by omega) (by omega) (by omega) (by omega) (fun n k η' h=>hret n k η' h) fun Q1 η3 A1 hQ1 h30 h318 hA2 => ?_
   refine uv_grp (j:=2) (acc:=18) (i:=23) hsl h30 hA2 h318 (by omega) (by omega) (by omega) (by omega) (fun n k η' h=>hQ1 _ _ _ (hret n k η' h)) fun Q2 η4 A2 hQ2 h40 h430 hA3 => ?_
   refine uv_grp (j:=3) (acc:=30) (i:=35) hsl h40 hA3 h430 (by omega) (by omega) (by omega) (by omega) (fun n k η' h=>hQ2 _ _ _ (hQ1 _ _ _ (hret n k η' h))) fun Q3 η5 A3 hQ3 h50 h542 hA4 => ?_
   unfold uvL
   have hfin:∀ n k η',UvEnd bs n k→Q3 (.ret [.int .u32 n,.int .i64 k]) η' w:=fun n k η' h=>hQ3 _ _ _ (hQ2 _ _ _ (hQ1 _ _ _ (hret n k η' h)))
   refine np_op (vs:=[v]) (by simp [SV.val,h50]) ⟨some a,_,c,by rw [hv],?_⟩
   refine np_op (vs:=[goInt bs.length,.int .i64 5]) (by simp [SV.val,upd]) ⟨.i64,_,_,_,rfl,rfl,?_⟩
   refine np_ite (decide ((bs.length:Int)<5)) (by simp [SV.val,upd]) ?_
   by_cases hl5:4<bs.length
   ·have hd:¬ ((bs.length:Int)<5):=by omega
    simp only [hd,decide_false,Bool.false_eq_true,if_false]
    have hb84:=bs[4].toNat_lt
    refine byteO (x:=0) (n:=49) (m:=50) (j:=4) (a:=a) (c:=c) (bs:=bs) (by simp [upd,h50,hv]) hb.2.2 hl5 (by decide) (by decide) fun η6 e6 f6 => ?_
    refine np_op (vs:=[u8 bs[4]]) (by simp [SV.val,e6]) ⟨.u8,_,rfl,?_⟩
    rw [wrap_nat .u32 rfl _ (show bs[4].toNat<2^32 by omega)]
    refine np_op (vs:=[.int .u32 (bs[4].toNat:Int),.int .u64 28]) (by simp [SV.val,upd]) ⟨.u32,_,.u64,28,_,rfl,rfl,?_⟩
    have h642:η6 42 = .int .u32 (A3:Int):=by rw [f6 42 (by decide) (by decide)];simp [upd,h542]
    refine np_op (vs:=[.int .u32 (A3:Int),.int .u32 (IntKind.u32.wrap ((bs[4].toNat:Int)*2^(min 28 IntKind.u32.bits)))]) (by simp [SV.val,upd,h642]) ⟨.u32,_,_,_,rfl,rfl,?_⟩
    refine byteO (x:=0) (n:=54) (m:=55) (j:=4) (a:=a) (c:=c) (bs:=bs) (by simp only [upd];simp;rw [f6 0 (by decide) (by decide)];simp [upd,h50,hv]) hb.2.2 hl5 (by decide) (by decide) fun η7 e7 f7 => ?_
    refine np_op (vs:=[u8 bs[4],.int .u8 15]) (by simp [SV.val,e7]) ⟨.u8,_,_,_,rfl,rfl,?_⟩
    have hcmp:decide (((bs[4].toNat:Nat):Int)≤15)=decide (bs[4].toNat≤15):=by rw [Bool.eq_iff_iff];simp only [decide_eq_true_eq];omega
    refine np_ite (decide (bs[4].toNat≤15)) (by simp [SV.val,upd,hcmp]) ?_
    have hrd:=hA4.2
    rw [List.drop_eq_getElem_cons hl5] at hrd
    simp only [Nat.sub_self,rdV] at hrd
    by_cases h15:bs[4].toNat≤15
    ·simp only [h15,decide_true,if_true] at hrd ⊢
     have hA3lt:=hA4.1
     have hval:η7 53 = .int .u32 ((A3+bs[4].toNat*2^28:Nat):Int):=by
      rw [f7 53 (by decide) (by decide)]
      have hshl:=shl_nat .u32 rfl bs[4].toNat 28 (by decide) (show bs[4].toNat*2^28<2^32 by omega)
      simp only [shV,Option.some.injEq,Value.int.injEq,true_and] at hshl
      have hor:=or_nat .u32 rfl A3 (bs[4].toNat*2^28) (show A3<2^32 by omega) (show bs[4].toNat*2^28<2^32 by omega)
      rw [or_add A3 _ _ hA3lt] at hor
      simp only [binV,Option.some.injEq] at hor
      simp only [upd,if_true]
      rw [hshl]
      exact hor
     have:UvEnd bs ((A3+bs[4].toNat*2^28:Nat):Int) 5:=by
      unfold UvEnd
      rw [hrd]
      simp only [Option.map_some]
      refine ⟨by rw [Nat.mul_comm],by simp only [List.length_drop];omega⟩
     show Q3 (.ret [_,_]) _ w
     have:=hfin _ _ (upd η7 56 (.bool (decide (((bs[4].toNat:Nat):Int)≤15)))) this
     simpa [SV.val,upd,hval] using this
    ·simp only [h15,decide_false,Bool.false_eq_true,if_false,Option.map_none] at hrd ⊢
     have:UvEnd bs 0 (-5):=by unfold UvEnd;rw [hrd];show (-5:Int)≤0;omega
     exact hfin _ _ _ this
   ·have hd:((bs.length:Int)<5):=by omega
    simp only [hd,decide_true,if_true]
    exact hfin _ _ _ (uvAt_short hA4 hl5)
 ·have hd:((bs.length:Int)<1):=by omega
  simp only [hd,decide_true,if_true]
  have hA0:UvAt bs 0 0:=⟨by simp,by simp [rdUv]⟩
  exact hret _ _ _ (uvAt_short hA0 hlt)
theorem Own.keep {w w':World} {B:Nat} {e:TypeId} {d:Value} {out:Bs} (h:Own w B e d out) {A:List Nat} (k:Keep A w w') (hA:∀ g,d.ownBlock=some g→g∉A):Own w' B e d out:=by
 refine ⟨⟨h.1.1,?_⟩,Nat.le_trans h.2 k.size⟩
 rcases h.1.2 with hn | ⟨g,cap,cur,hd,hb,hgg,rest⟩
 ·exact .inl hn
 ·refine .inr ⟨g,cap,cur,hd,hb,?_,rest⟩
  rw [k.block g (Array.getElem?_eq_some_iff.1 hgg).1 (hA g (by rw [hd];rfl))]
  exact hgg
end
end Go.Kb
namespace Go.Kb
open Go.Lx Go.Nx Go.Km Go.Mx
set_option linter.unusedSimpArgs false
set_option linter.unusedVariables false
theorem tagSet_perm (k:Nat) (v:Bs):∀ l:Tg,l.Pairwise (·.1 < ·.1)→(tagSet k v l).Perm ((k,v)::l.filter (fun p=>p.1 != k)):=by
 intro l
 induction l with
 | nil=>intro _;exact List.Perm.refl _
 | cons x r ih=>
  intro h
  obtain ⟨j,u⟩:=x
  rw [List.pairwise_cons] at h
  simp only [tagSet]
  split
  ·rename_i hk
   have:((j,u)::r).filter (fun p=>p.1 != k)=(j,u)::r:=by
    rw [List.filter_eq_self]
    intro p hp
    rcases List.mem_cons.1 hp with rfl | hp
    ·simp;omega
    ·have:=h.1 p hp;simp at this ⊢;omega
   rw [this]
  ·split
   ·rename_i hk
    subst hk
    have:((k,u)::r).filter (fun p=>p.1 != k)=r:=by
     rw [List.filter_cons]
     simp only [bne_self_eq_false,Bool.false_eq_true,if_false]
     rw [List.filter_eq_self]
     intro p hp
     have:=h.1 p hp;simp at this ⊢;omega
    rw [this]
   ·rename_i h1 h2
    have hf:((j,u)::r).filter (fun p=>p.1 != k)=(j,u)::r.filter (fun p=>p.1 != k):=by
     rw [List.filter_cons,if_pos (by simp;omega)]
    rw [hf]
    exact ((ih h.2).cons (j,u)).trans (List.Perm.swap _ _ _)
theorem set_perm (k:Nat) (v:Bs):∀ (l:Tg) (i:Nat),(l.map (·.1)).Nodup→(∀ h:i<l.length,l[i].1=k)→i<l.length→(l.set i (k,v)).Perm ((k,v)::l.filter (fun p=>p.1 != k)):=by
 intro l
 induction l with
 | nil=>intro i _ _ h;simp at h
 | cons x r ih=>
  intro i hn hk hi
  simp only [List.map_cons,List.nodup_cons,List.mem_map,not_exists,not_and] at hn
  cases i with
  | zero=>
   have hx:=hk hi
   simp only [List.getElem_cons_zero] at hx
   simp only [List.set_cons_zero]
   rw [List.filter_cons,if_neg (by simp [hx])]
   have:r.filter (fun p=>p.1 != k)=r:=by
    rw [List.filter_eq_self]
    intro p hp
    have:=hn.1 p hp
    simpa [← hx] using this
   rw [this]
  | succ i=>
   simp only [List.set_cons_succ]
   have hi':i<r.length:=by simpa using hi
   have hk':∀ h:i<r.length,r[i].1=k:=fun h=>by have:=hk (Nat.succ_lt_succ h);rwa [List.getElem_cons_succ] at this
   have hx:x.1≠k:=fun h=>hn.1 _ (List.getElem_mem hi') (by rw [hk' hi',h])
   rw [List.filter_cons,if_pos (by simpa using hx)]
   exact ((ih i hn.2 hk' hi').cons x).trans (List.Perm.swap _ _ _)
inductive Two {α β:Type} (R:α→β→Prop):List α→List β→Prop
 | nil:Two R [] []
 | cons {a b l m}:R a b→Two R l m→Two R (a::l) (b::m)
theorem Two.length {α β:Type} {R:α→β→Prop} {l:List α} {m:List β} (h:Two R l m):l.length=m.length:=by
 induction h with
 | nil=>rfl
 | cons _ _ ih=>simp [ih]
theorem Two.imp {α β:Type} {R S:α→β→Prop} (hRS:∀ a b,R a b→S a b) {l:List α} {m:List β} (h:Two R l m):Two S l m:=by
 induction h with
 | nil=>exact .nil
 | cons h _ ih=>exact .cons (hRS _ _ h) ih
theorem Two.append {α β:Type} {R:α→β→Prop} {l l':List α} {m m':List β} (h:Two R l m) (h':Two R l' m'):Two R (l++l') (m++m'):=by
 induction h with
 | nil=>exact h'
 | cons h _ ih=>exact .cons h ih
theorem Two.set {α β:Type} {R:α→β→Prop} {l:List α} {m:List β} (h:Two R l m) (i:Nat) (a:α) (b:β) (hab:i<l.length→R a b):Two R (l.set i a) (m.set i b):=by
 induction h generalizing i with
 | nil=>exact .nil
 | cons h t ih=>
  cases i with
  | zero=>exact .cons (hab (by simp)) t
  | succ i=>exact .cons h (ih i (fun hi=>hab (by simpa using hi)))
theorem Two.get {α β:Type} {R:α→β→Prop} {l:List α} {m:List β} (h:Two R l m):∀ (i:Nat) (h1:i<l.length) (h2:i<m.length),R l[i] m[i]:=by
 induction h with
 | nil=>intro i h1;simp at h1
 | cons h t ih=>
  intro i h1 h2
  cases i with
  | zero=>exact h
  | succ i=>exact ih i (by simpa using h1) (by simpa using h2)
def EntR (ok:Nat→Prop) (w:World) (e:MapEntry) (p:Nat×Bs):Prop:=e.key = .int .u32 (p.1:Int)∧Sl ok w e.val p.2
structure Ents (ok:Nat→Prop) (w:World) (r:Nat) (es:Array MapEntry) (l:Tg):Prop where
 at':w.heap[r]?=some (.map es es.size)
 born:∀ i (h:i<es.size),es[i].born=i
 ents:∃ m:Tg,Two (EntR ok w) es.toList m∧m.Perm l
 sorted:l.Pairwise (·.1 < ·.1)
theorem Ents.keys {ok:Nat→Prop} {w:World} {r:Nat} {es:Array MapEntry} {l:Tg} (h:Ents ok w r es l):KeysInt .u32 es:=by
 obtain ⟨m,hm,_⟩:=h.ents
 intro e he
 obtain ⟨i,hi,rfl⟩:=List.mem_iff_getElem.1 he
 exact ⟨_,(hm.get i hi (by rw [← hm.length];exact hi)).1⟩
theorem Ents.lt {ok:Nat→Prop} {w:World} {r:Nat} {es:Array MapEntry} {l:Tg} (h:Ents ok w r es l):r<w.heap.size:=(Array.getElem?_eq_some_iff.1 h.at').1
theorem Ents.keep {ok:Nat→Prop} {w w':World} {r:Nat} {es:Array MapEntry} {l:Tg} (h:Ents ok w r es l) {A:List Nat} (k:Keep A w w') (hr:r∉A) (hA:∀ x∈A,¬ ok x):Ents ok w' r es l:=by
 refine ⟨by rw [k.block r h.lt hr];exact h.at',h.born,?_,h.sorted⟩
 obtain ⟨m,hm,hp⟩:=h.ents
 exact ⟨m,hm.imp fun e p he=>⟨he.1,he.2.same (k.same hA)⟩,hp⟩
theorem Ents.weak {ok ok':Nat→Prop} {w:World} {r:Nat} {es:Array MapEntry} {l:Tg} (h:Ents ok w r es l) (k:∀ b,b<w.heap.size→ok b→ok' b):Ents ok' w r es l:=by
 refine ⟨h.at',h.born,?_,h.sorted⟩
 obtain ⟨m,hm,hp⟩:=h.ents
 exact ⟨m,hm.imp fun e p he=>⟨he.1,he.2.weak k⟩,hp⟩
def RepT (own ok:Nat→Prop) (w:World) (l:Tg) (v:Value):Prop:=(v = .map none∧l=[])∨∃ r es,v = .map (some r)∧own r∧Ents ok w r es l
theorem RepT.fit {own ok:Nat→Prop} {w:World} {l:Tg} {v:Value} (h:RepT own ok w l v):Fit 1 v:=by
 rcases h with ⟨rfl,_⟩ | ⟨r,es,rfl,_⟩<;>exact Fit.one rfl rfl
theorem keyIs_int (n:Int) (e:MapEntry) (m:Int) (h:e.key = .int .u32 m):keyIs .u32 n e=(n == m):=by simp [keyIs,h]
theorem Ents.set {ok:Nat→Prop} {w:World} {r:Nat} {es:Array MapEntry} {l:Tg} (h:Ents ok w r es l) (k:Nat) (bs:Bs) {val:Value} (hv:Sl ok w val bs) (hr:¬ ok r) :
  ∃ es',putE es .u32 (k:Int) val es.size = .map es' es'.size∧Ents ok (setO w r (.map es' es'.size)) r es' (tagSet k bs l):=by
 obtain ⟨m,hm,hp⟩:=h.ents
 have hsorted:=tagSet_sorted (k:=k) (v:=bs) h.sorted
 have hnodup:(m.map (·.1)).Nodup:=by
  have h1:(l.map (·.1)).Nodup:=by
   refine List.Pairwise.map _ (S:=fun a b:Nat=>a≠b) ?_ h.sorted
   intro a b hab;omega
  exact (hp.map (·.1)).nodup_iff.2 h1
 have hlen:=hm.length
 have same:∀ es':Array MapEntry,Same ok w (setO w r (.map es' es'.size)):=fun es'=>⟨by simp [setO],fun q hq hoq=>by
  have hne:r≠q:=fun e=>hr (e ▸ hoq)
  simp [setO,Array.getElem?_setIfInBounds_ne hne]⟩
 have at':∀ es':Array MapEntry,(setO w r (.map es' es'.size)).heap[r]?=some (.map es' es'.size):=fun es'=>by simp [setO,h.lt]
 unfold putE
 cases hidx:es.toList.findIdx? (keyIs .u32 (k:Int)) with
 | some i=>
  obtain ⟨hlt,hkey,_⟩:=List.findIdx?_eq_some_iff_getElem.1 hidx
  have hmi:i<m.length:=by omega
  have hg:=hm.get i hlt hmi
  rw [keyIs_int _ _ _ hg.1] at hkey
  have hki:m[i].1=k:=by simp only [beq_iff_eq] at hkey;omega
  let es':=es.modify i fun e=>{ e with key := .int .u32 (k:Int),val:=val }
  have hsz:es'.size=es.size:=by simp [es']
  have htl:es'.toList=es.toList.set i { es.toList[i] with key := .int .u32 (k:Int),val:=val }:=by
   simp only [es',Array.toList_modify]
   rw [List.modify_eq_set]
   simp [List.getElem?_eq_getElem hlt]
  refine ⟨es',by show Obj.map es' es.size=_;rw [hsz],at' es',?_,?_,hsorted⟩
  ·intro j hj
   have hj':j<es.size:=by rw [← hsz];exact hj
   have:=h.born j hj'
   simp only [es',Array.getElem_modify]
   split
   ·exact this
   ·exact this
  ·refine ⟨m.set i (k,bs),?_,?_⟩
   ·rw [htl]
    refine Two.set (hm.imp fun e p he=>⟨he.1,he.2.same (same es')⟩) i _ _ fun _=>⟨rfl,hv.same (same es')⟩
   ·have h1:=set_perm k bs m i hnodup (fun _=>hki) hmi
    have h2:=tagSet_perm k bs l h.sorted
    exact h1.trans (((hp.filter _).cons _).trans h2.symm)
 | none=>
  have hno:∀ p∈m,p.1≠k:=by
   intro p hpm hpk
   obtain ⟨i,hi,rfl⟩:=List.mem_iff_getElem.1 hpm
   have hi':i<es.toList.length:=by omega
   have hg:=hm.get i hi' hi
   have:=List.findIdx?_eq_none_iff.1 hidx _ (List.getElem_mem hi')
   rw [keyIs_int _ _ _ hg.1] at this
   simp [hpk] at this
  let es':=es.push { key := .int .u32 (k:Int),val:=val,born:=es.size }
  have hsz:es'.size=es.size+1:=by simp [es']
  refine ⟨es',by show Obj.map es' (es.size+1)=_;rw [hsz],at' es',?_,?_,hsorted⟩
  ·intro j hj
   by_cases hj':j<es.size
   ·have:=h.born j hj'
    simp only [es',Array.getElem_push,hj',dite_true];exact this
   ·have:j=es.size:=by omega
    subst this
    simp [es']
  ·refine ⟨m++[(k,bs)],?_,?_⟩
   ·have:es'.toList=es.toList++[{ key := .int .u32 (k:Int),val:=val,born:=es.size }]:=by simp [es']
    rw [this]
    exact Two.append (hm.imp fun e p he=>⟨he.1,he.2.same (same es')⟩) (.cons ⟨rfl,hv.same (same es')⟩ .nil)
   ·have h2:=tagSet_perm k bs l h.sorted
    have hfl:l.filter (fun p=>p.1 != k)=l:=by
     rw [List.filter_eq_self]
     intro p hpl
     have:=hno p (hp.symm.subset hpl)
     simpa using this
    rw [hfl] at h2
    exact (List.perm_append_comm.trans (hp.cons (k,bs))).trans h2.symm
end Go.Kb
namespace Go.Kb
open Go.Lx Go.Nx Go.Km Go.Mx
set_option linter.unusedSimpArgs false
set_option linter.unusedVariables false
section
variable {P:Program}
def SetOk (P:Program) (f:FuncId):Prop:=
 ∀ (ok:Nat→Prop) (w:World) (b:Nat) (v:Value) (k:Nat) (bs:Bs) (val:Value) (l:Tg) (K:Value→World→Prop),Row w b [v]→RepT (fun r=>¬ ok r∧r≠b) ok w l v→Sl ok w val bs→¬ ok b →
  (∀ v' w' r es,v' = .map (some r)→(v = .map none→w.heap.size≤r)→(∀ q,v = .map (some q)→r=q)→Keep [b,r] w w'→Row w' b [v']→r≠b→Ents (fun k=>ok k∧k≠r) w' r es (tagSet k bs l)→K (.tuple #[]) w') →
  In.wp P (.call f) [ptr b,.int .u32 (k:Int),val] w K
theorem setO_keep (w:World) (r:Nat) (o:Obj):Keep [r] w (setO w r o):=
 ⟨rfl,rfl,rfl,by simp [setO],fun k hk hn=>by simp only [List.mem_singleton] at hn;simp [setO,Array.getElem?_setIfInBounds_ne (Ne.symm hn)]⟩
theorem ents_new (ok:Nat→Prop) (w:World) (r:Nat) (h:w.heap[r]?=some (.map #[] 0)):Ents ok w r #[] []:=
 ⟨h,fun i hi=>by simp at hi,⟨[],.nil,List.Perm.refl _⟩,List.Pairwise.nil⟩
theorem set_ok (hn:Named P) {I:J} {f:FuncId} (hf:fnP P f 3=some (p_set I)):SetOk P f:=by
 intro ok w b v k bs val l K hrow hrep hsl hb hk
 refine calls_of_np hn (vs:=[ptr b,.int .u32 (k:Int),val]) hf fun η hη => ?_
 have h0:η 0=ptr b:=hη 0 (by simp)
 have h1:η 1 = .int .u32 (k:Int):=hη 1 (by simp)
 have h2:η 2=val:=hη 2 (by simp)
 have last:∀ (η':Nat→Value) (w1:World) (r:Nat) (es:Array MapEntry) (ok1:Nat→Prop),η' 0=ptr b→η' 1 = .int .u32 (k:Int)→η' 2=val→Row w1 b [.map (some r)]→Ents ok1 w1 r es l→¬ ok1 r→Sl ok1 w1 val bs→r≠b→(∀ q,ok1 q→ok q∧q≠r) →
   (v = .map none→w.heap.size≤r)→(∀ q,v = .map (some q)→r=q)→Keep [b,r] w w1 →
   (NP.op .load [.q 0 0] 7 <| .op .mapSet [.s 7,.s 1,.s 2] 8 .nil).wp P (postP (p_set I).ks K) η' w1:=by
  intro η' w1 r es ok1 e0 e1 e2 hr1 hents hno hsl1 hrb hok1 hn1 hn2 hkp
  refine np_op (vs:=[ptr b]) (by simp [SV.val,e0,Addr.add]) (wp_load hr1 rfl ?_)
  obtain ⟨es',g1,g2⟩:=hents.set k bs hsl1 hno
  refine np_op (vs:=[.map (some r),.int .u32 (k:Int),val]) (by simp [SV.val,upd,e1,e2]) ⟨r,es,es.size,.u32,_,_,rfl,hents.at',hents.keys,?_⟩
  rw [g1]
  refine ⟨rfl,?_⟩
  have kk:=setO_keep w1 r (.map es' es'.size)
  refine hk (.map (some r)) _ r es' rfl hn1 hn2 (hkp.trans kk fun x hx hlt=>by simp only [List.mem_singleton] at hx;subst hx;simp) (hr1.keep kk (by simpa using Ne.symm hrb)) hrb ?_
  exact g2.weak fun q _ hq=>hok1 q hq
 refine ⟨⟨_,h0⟩,?_⟩
 refine np_op (vs:=[ptr b]) (by simp [SV.val,h0,Addr.add]) (wp_load hrow rfl ?_)
 rcases hrep with ⟨rfl,rfl⟩ | ⟨r,es,rfl,⟨hrok,hrb⟩,hents⟩
 ·refine np_op (vs:=[.map none]) (by simp [SV.val,upd]) ⟨_,true,rfl,rfl,?_⟩
  refine np_ite true (by simp [SV.val,upd]) ?_
  simp only [if_true]
  refine np_op (vs:=[]) rfl ?_
  show NP.wp P _ _ _ _
  have hal:(w.alloc (.map #[] 0)).heap[w.heap.size]?=some (.map #[] 0):=heap_alloc_new w _
  have k1:Keep [] w (w.alloc (.map #[] 0)):=⟨rfl,rfl,rfl,by simp,fun q hq _=>heap_alloc_old w _ q hq⟩
  have hrow1:=hrow.keep k1 (by simp)
  have hbl:=hrow.lt
  refine np_op (vs:=[ptr b,.map (some w.heap.size)]) (by simp [SV.val,upd,h0,Addr.add]) (wp_store hrow1 (Fit.one rfl rfl) (by simp) fun w2 r2 k2 => ?_)
  have r2':Row w2 b [.map (some w.heap.size)]:=by simpa [put,Value.cells] using r2
  have hm2:w2.heap[w.heap.size]?=some (.map #[] 0):=by
   rw [k2.block w.heap.size (by simp) (by simp only [List.mem_singleton];omega)];exact hal
  have hkw:Keep [b] w w2:=(k1.mono fun x hx=>by simp at hx).then k2
  refine last _ w2 w.heap.size #[] (fun q=>ok q∧q≠w.heap.size) (by simp [upd,h0]) (by simp [upd,h1]) (by simp [upd,h2]) r2' (ents_new _ _ _ hm2) (fun h=>h.2 rfl) ?_ (by omega) (fun q h=>h) (fun _=>Nat.le_refl _) (fun q h=>by cases h) (hkw.mono fun x hx _=>by simp only [List.mem_singleton] at hx;simp [hx])
  exact (Sl.weak hsl (fun q hq hoq=>(⟨hoq,by omega⟩:ok q∧q≠w.heap.size))).same (hkw.same fun x hx h=>by simp only [List.mem_singleton] at hx;subst hx;exact hb h.1)
 ·refine np_op (vs:=[.map (some r)]) (by simp [SV.val,upd]) ⟨_,false,rfl,rfl,?_⟩
  refine np_ite false (by simp [SV.val,upd]) ?_
  simp only [Bool.false_eq_true,if_false]
  exact last _ w r es ok (by simp [upd,h0]) (by simp [upd,h1]) (by simp [upd,h2]) hrow hents hrok hsl hrb (fun q hq=>⟨hq,fun e=>hrok (e ▸ hq)⟩) (fun h=>by cases h) (fun q h=>by cases h;rfl) (Keep.refl _ _)
theorem tagSet_ne {k:Nat} {v:Bs} {l:Tg}:tagSet k v l≠[]:=by
 cases l with
 | nil=>simp [tagSet]
 | cons x r=>
  obtain ⟨j,u⟩:=x
  simp only [tagSet]
  split
  ·simp
  ·split<;>simp
def TagsEnd (ok:Nat→Prop) (R:Nat) (s:Option Bs) (v:Value) (w':World):Prop:=
 match s.bind rdTags with
 | some (l,rest)=>Rd ok w' R true (some rest)∧RepT ok ok w' l v∧(l=[]→v = .map none)
 | none=>Rd ok w' R false none∧v.oneCell'=true
def TagsOk (P:Program) (f:FuncId):Prop:=
 ∀ (ok:Nat→Prop) (w:World) (R:Nat) (nn:Bool) (s:Option Bs) (K:Value→World→Prop),Env ok w R→Rd ok w R nn s →
  (∀ v w',Keep [R] w w'→TagsEnd ok R s v w'→K (.agg #[v]) w')→In.wp P (.call f) [ptr R] w K
theorem rd_lt {ok:Nat→Prop} {w:World} {R:Nat} {nn:Bool} {s:Option Bs} (h:Rd ok w R nn s):R<w.heap.size:=by
 obtain ⟨v,hr,_⟩:=rd_row h
 exact hr.lt
theorem uv_any {f:FuncId} (hu:Reads P f rdUv (natRep .u32) (· = .int .u32 0)) {ok:Nat→Prop} {w:World} {R:Nat} {z:Option Bs} {K:Value→World→Prop} (he:Env ok w R) (hs:Rd ok w R true z)
  (hk:∀ (k:Nat) (z':Option Bs) w',Keep [R] w w'→k<2^32→Rd ok w' R true z'→(z.bind rdUv=z'.map fun r=>(k,r))→K (.int .u32 (k:Int)) w'):In.wp P (.call f) [ptr R] w K:=by
 refine hu ok w R true z K he hs fun v w' k1 hend => ?_
 unfold ReadEnd at hend
 cases hz:z.bind rdUv with
 | none=>
  rw [hz] at hend
  obtain ⟨h1,rfl⟩:=hend
  exact hk 0 none w' k1 (by decide) h1 (by rw [hz];rfl)
 | some p=>
  obtain ⟨k,r⟩:=p
  rw [hz] at hend
  obtain ⟨h1,rfl⟩:=hend
  have hlt:k<2^32:=by
   cases z with
   | none=>cases hz
   | some bs=>exact (rdUv_some hz).1
  exact hk k (some r) w' k1 hlt h1 (by rw [hz];rfl)
theorem span_any {f:FuncId} (hsp:Spans P f) {ok:Nat→Prop} {w:World} {R:Nat} {z:Option Bs} {n:Nat} {K:Value→World→Prop} (he:Env ok w R) (hs:Rd ok w R true z)
  (hk:∀ (q:Bs) (z':Option Bs) v w',Keep [R] w w'→Rd ok w' R true z'→Sl ok w' v q→(z.bind (cut n)=z'.map fun r=>(q,r))→K v w'):In.wp P (.call f) [ptr R,.int .i64 (n:Int)] w K:=by
 refine hsp ok w R true z n K he hs fun v w' k1 hend => ?_
 unfold SpanEnd at hend
 have hc:z.bind (rdSpan (n:Int))=z.bind (cut n):=by
  cases z with
  | none=>rfl
  | some bs=>simp [rdSpan]
 rw [hc] at hend
 cases hz:z.bind (cut n) with
 | none=>
  rw [hz] at hend
  exact hk [] none v w' k1 hend.1 (.inl ⟨hend.2,rfl⟩) (by rw [hz];rfl)
 | some p=>
  obtain ⟨q,r⟩:=p
  rw [hz] at hend
  exact hk q (some r) v w' k1 hend.1 hend.2.1 (by rw [hz];rfl)
structure TagInv (ok:Nat→Prop) (w0:World) (R b1 b2:Nat) (s:Option Bs) (n:Nat) (okL:Nat→Prop) (acc:Tg) (z:Option Bs) (v:Value) (η:Nat→Value) (w:World):Prop where
 sub:∀ q,okL q→ok q
 env:Env okL w R
 nb1:¬ okL b1
 nb2:¬ okL b2
 r1:Row w b1 [.map none]
 r2:Row w b2 [v]
 keep:Keep [R] w0 w
 rep:RepT (fun r=>¬ okL r∧r≠b2∧r≠b1∧r≠R∧w0.heap.size≤r) okL w acc v
 rd:Rd okL w R true z
 link:s.bind rdTags=z.bind (rdTagN n acc)
 lt:n<2^32
 e0:η 0=ptr R
 e1:η 1=ptr b1
 e2:η 2=ptr b2
 e4:η 4 = .int .u32 (n:Int)
 hR:R<w0.heap.size
 nil:acc=[]→v = .map none
def rtBody (I:J):NP:=
  (.op (.bin .gtr) [.s 4,.k (.int .u32 0)] 5 <|
  .ite (.s 5)
   (.nil)
   (.exit) <|
  .op (.call I.rUvarint) [.s 0] 6 <|
  .op (.call I.rUvarint) [.s 0] 7 <|
  .op (.cv .i64) [.s 7] 8 <|
  .op (.call I.rSpan) [.s 0,.s 8] 9 <|
  .op (.call I.set) [.q 2 0,.s 6,.s 9] 10 <|
  .op (.bin .sub) [.s 4,.k (.int .u32 1)] 11 <|
  .set 12 (.s 11) <|
  .set 4 (.s 12) <|
  .nil)
def rtTail:NP := .op (.loadN 1) [.q 2 0] 13 <|
 .op (.store 1) [.q 1 0,.s 13] 14 <|
 .ret [.q 1 0]
theorem p_rt_eq (I:J):p_internalReadTags I=⟨.op (.alloc [.map none]) [] 1 <| .chk 1 <| .op (.alloc [.map none]) [] 2 <| .chk 2 <| .op (.call I.rUvarint) [.s 0] 3 <| .set 4 (.s 3) <| .loop (rtBody I) rtTail,[.cells 1]⟩:=rfl
theorem rt_rounds {I:J} {ok:Nat→Prop} {w0:World} {R b1 b2:Nat} {s:Option Bs} (hb1:w0.heap.size≤b1) (hb2:w0.heap.size≤b2) (hb12:b1≠b2) (hu:Reads P I.rUvarint rdUv (natRep .u32) (· = .int .u32 0)) (hsp:Spans P I.rSpan) (hset:SetOk P I.set) (Q:Out→(Nat→Value)→World→Prop)
  (hq:∀ okL acc z v η w,TagInv ok w0 R b1 b2 s 0 okL acc z v η w→Q .ext η w) :
  ∀ n okL acc z v η w,TagInv ok w0 R b1 b2 s n okL acc z v η w→roundsP ((rtBody I).wp P) Q (n+1) η w:=by
 intro n
 induction n with
 | zero=>
  intro okL acc z v η w hi
  show (rtBody I).wp P _ η w
  unfold rtBody
  refine np_op (vs:=[.int .u32 0,.int .u32 0]) (by simp [SV.val,hi.e4]) ⟨.u32,_,_,_,rfl,rfl,?_⟩
  refine np_ite false (by simp [SV.val,upd]) ?_
  simp only [Bool.false_eq_true,if_false]
  exact hq okL acc z v _ w { hi with e0:=by simp [upd,hi.e0],e1:=by simp [upd,hi.e1],e2:=by simp [upd,hi.e2],e4:=by simp [upd,hi.e4] }
 | succ n ih=>
  intro okL acc z v η w hi
  show (rtBody I).wp P _ η w
  unfold rtBody
  refine np_op (vs:=[.int .u32 ((n+1:Nat):Int),.int .u32 0]) (by simp [SV.val,hi.e4]) ⟨.u32,_,_,_,rfl,rfl,?_⟩
  refine np_ite true (by simp [SV.val,upd]) ?_
  simp only [if_true]
  refine np_op (vs:=[ptr R]) (by simp [SV.val,upd,hi.e0]) (uv_any hu hi.env hi.rd fun k z1 w1 k1 hk32 hr1 hz1 => ?_)
  have he1:=hi.env.keep k1
  refine np_op (vs:=[ptr R]) (by simp [SV.val,upd,hi.e0]) (uv_any hu he1 hr1 fun sz z2 w2 k2 hs32 hr2 hz2 => ?_)
  have he2:=he1.keep k2
  refine np_op (vs:=[.int .u32 (sz:Int)]) (by simp [SV.val,upd]) ⟨.u32,_,rfl,?_⟩
  rw [wrap64 _ (by omega) (by omega)]
  refine np_op (vs:=[ptr R,.int .i64 (sz:Int)]) (by simp [SV.val,upd,hi.e0]) (span_any hsp he2 hr2 fun q z3 val w3 k3 hr3 hq3 hz3 => ?_)
  have he3:=he2.keep k3
  have k13:Keep [R] w w3:=(k1.then k2).then k3
  have hRb1:R≠b1:=by have:=hi.hR;omega
  have hRb2:R≠b2:=by have:=hi.hR;omega
  have r13:=hi.r1.keep k13 (by simpa using Ne.symm hRb1)
  have r23:=hi.r2.keep k13 (by simpa using Ne.symm hRb2)
  have hnR:∀ x∈[R],¬ okL x:=fun x hx=>by rw [List.mem_singleton.1 hx];exact hi.env.notR
  have hrep3:RepT (fun r=>¬ okL r∧r≠b2∧r≠b1∧r≠R∧w0.heap.size≤r) okL w3 acc v:=by
   rcases hi.rep with h | ⟨r,es,h1,h2,h3⟩
   ·exact .inl h
   ·exact .inr ⟨r,es,h1,h2,h3.keep k13 (by simpa using h2.2.2.2.1) hnR⟩
  have hrepS:RepT (fun r=>¬ okL r∧r≠b2) okL w3 acc v:=by
   rcases hrep3 with h | ⟨r,es,h1,h2,h3⟩
   ·exact .inl h
   ·exact .inr ⟨r,es,h1,⟨h2.1,h2.2.1⟩,h3⟩
  refine np_op (vs:=[ptr b2,.int .u32 (k:Int),val]) (by simp [SV.val,upd,hi.e2,Addr.add]) (hset okL w3 b2 v k q val acc _ r23 hrepS hq3 hi.nb2 fun v' w4 r es hv' hnew hold k4 r24 hrb hents => ?_)
  subst hv'
  have hr:r≠b1∧r≠R∧w0.heap.size≤r∧(w3.heap.size≤r∨¬ okL r):=by
   rcases hrep3 with ⟨h1,_⟩ | ⟨r',es',h1,h2,h3⟩
   ·have:=hnew h1
    have h13:=r13.lt
    have hsz:=hi.keep.size
    have hsz3:=k13.size
    have:=hi.hR
    exact ⟨by omega,by omega,by omega,.inl (by omega)⟩
   ·have:=hold r' h1
    subst this
    exact ⟨h2.2.2.1,h2.2.2.2.1,h2.2.2.2.2,.inr h2.1⟩
  refine np_op (vs:=[.int .u32 ((n+1:Nat):Int),.int .u32 1]) (by simp [SV.val,upd,hi.e4]) ⟨.u32,_,_,_,rfl,rfl,?_⟩
  have hsub:IntKind.u32.wrap (((n+1:Nat):Int) - 1)=(n:Int):=by
   have e:(((n+1:Nat):Int) - 1)=(n:Int):=by omega
   have:=hi.lt
   rw [e,wrap_nat .u32 rfl _ (show n<2^32 by omega)]
  rw [hsub]
  let okL':Nat→Prop:=fun q=>okL q∧q≠r
  have hnA:∀ x∈[b2,r],¬ okL' x:=fun x hx h=>by
   simp only [List.mem_cons,List.not_mem_nil,or_false] at hx
   rcases hx with rfl | rfl
   ·exact hi.nb2 h.1
   ·exact h.2 rfl
  have hwk:∀ b,b<w3.heap.size→okL b→okL' b:=fun b hb hob=>⟨hob,fun e=>by
   subst e
   rcases hr.2.2.2 with h | h
   ·omega
   ·exact h hob⟩
  have hkeep:Keep [R] w0 w4:=by
   have h1:Keep [R] w0 w3:=hi.keep.then k13
   refine h1.trans k4 fun x hx hlt => ?_
   simp only [List.mem_cons,List.not_mem_nil,or_false] at hx
   rcases hx with rfl | rfl
   ·omega
   ·omega
  refine ih okL' (tagSet k q acc) z3 (.map (some r)) _ w4 ?_
  refine ⟨fun q hq=>hi.sub q hq.1,⟨fun q hq=>⟨(he3.keep k4).new q hq,fun e=>by subst e;have:=hents.lt;omega⟩,fun h=>hi.env.notR h.1⟩,fun h=>hi.nb1 h.1,fun h=>hi.nb2 h.1,
   r13.keep k4 (by simp only [List.mem_cons,List.not_mem_nil,or_false,not_or];exact ⟨hb12,Ne.symm hr.1⟩),r24,hkeep,.inr ⟨r,es,rfl,⟨fun h=>h.2 rfl,hrb,hr.1,hr.2.1,hr.2.2.1⟩,hents⟩,
   (hr3.weak hwk).keep k4 (by simp only [List.mem_cons,List.not_mem_nil,or_false,not_or];exact ⟨hRb2,Ne.symm hr.2.1⟩) hnA,?_,by have:=hi.lt;omega,
   by simp [upd,hi.e0],by simp [upd,hi.e1],by simp [upd,hi.e2],by simp [upd,SV.val],hi.hR,fun h=>(tagSet_ne h).elim⟩
  rw [hi.link]
  have step:∀ (z:Option Bs),z.bind (rdTagN (n+1) acc)=(z.bind rdUv).bind fun p=>(rdUv p.2).bind fun s=>(cut s.1 s.2).bind fun v=>rdTagN n (tagSet p.1 v.1 acc) v.2:=fun z=>by cases z<;>rfl
  rw [step,hz1]
  cases z1 with
  | none=>
   have:z2=none:=by cases z2 with | none=>rfl | some x=>simp at hz2
   subst this
   have:z3=none:=by cases z3 with | none=>rfl | some x=>simp at hz3
   subst this
   rfl
  | some r1=>
   simp only [Option.map_some,Option.bind_some] at hz2 ⊢
   rw [hz2]
   cases z2 with
   | none=>
    have:z3=none:=by cases z3 with | none=>rfl | some x=>simp at hz3
    subst this
    rfl
   | some r2=>
    simp only [Option.map_some,Option.bind_some] at hz3 ⊢
    rw [hz3]
    cases z3<;>rfl
theorem rt_ok (hn:Named P) {I:J} {f:FuncId} (hf:fnP P f 1=some (p_internalReadTags I)) (hu:Reads P I.rUvarint rdUv (natRep .u32) (· = .int .u32 0)) (hsp:Spans P I.rSpan) (hset:SetOk P I.set):TagsOk P f:=by
 intro ok w R nn s K he hs hk
 rw [p_rt_eq] at hf
 refine calls_of_np hn (vs:=[ptr R]) hf fun η hη => ?_
 dsimp only
 have h0:η 0=ptr R:=hη 0 (by simp)
 have hR:=rd_lt hs
 refine np_op (vs:=[]) rfl (wp_alloc fun b1 w1 r1 hb1 k1 => ?_)
 refine ⟨⟨_,by simp only [upd];rfl⟩,?_⟩
 refine np_op (vs:=[]) rfl (wp_alloc fun b2 w2 r2 hb2 k2 => ?_)
 refine ⟨⟨_,by simp only [upd];rfl⟩,?_⟩
 have h12:b1≠b2:=by have:=r1.lt;omega
 have hb2':w.heap.size≤b2:=Nat.le_trans k1.size hb2
 have kk:Keep [] w w2:=k1.then k2
 let ok1:Nat→Prop:=fun k=>ok k∧k≠b1∧k≠b2
 have he1:Env ok1 w2 R:=⟨fun k hk'=>⟨he.new k (Nat.le_trans kk.size hk'),by have:=(r1.keep k2 (by simp)).lt;omega,by have:=r2.lt;omega⟩,fun h=>he.notR h.1⟩
 have hs1:Rd ok1 w2 R nn s:=(hs.weak (ok':=ok1) fun b hb hob=>⟨hob,by omega,by omega⟩).keep kk (by simp) (fun x hx=>by simp at hx)
 refine np_op (vs:=[ptr R]) (by simp [SV.val,upd,h0]) (hu ok1 w2 R nn s _ he1 hs1 fun v0 w3 k3 hend => ?_)
 have hz:∃ (n:Nat) (z:Option Bs),v0 = .int .u32 (n:Int)∧n<2^32∧Rd ok1 w3 R true z∧s.bind rdTags=z.bind (rdTagN n []):=by
  have e:s.bind rdTags=(s.bind rdUv).bind fun p=>rdTagN p.1 [] p.2:=by cases s<;>rfl
  rw [e]
  unfold ReadEnd at hend
  cases hs':s.bind rdUv with
  | none=>
   rw [hs'] at hend
   exact ⟨0,none,hend.2,by decide,hend.1,rfl⟩
  | some p=>
   obtain ⟨n,r⟩:=p
   rw [hs'] at hend
   refine ⟨n,some r,hend.2,?_,hend.1,rfl⟩
   cases s with
   | none=>cases hs'
   | some bs=>exact (rdUv_some hs').1
 obtain ⟨n,z,hv0,hlt,hrz,hlink⟩:=hz
 have hRb1:R≠b1:=by omega
 have hRb2:R≠b2:=by omega
 refine ⟨n+1,?_⟩
 refine rt_rounds (ok:=ok) (w0:=w) (R:=R) (b1:=b1) (b2:=b2) (s:=s) hb1 hb2' h12 hu hsp hset _ ?_ n ok1 [] z (.map none) _ w3 ⟨fun q hq=>hq.1,he1.keep k3,fun h=>h.2.1 rfl,fun h=>h.2.2 rfl,
  (r1.keep k2 (by simp)).keep k3 (by simpa using Ne.symm hRb1),r2.keep k3 (by simpa using Ne.symm hRb2),(kk.mono fun x hx=>by simp at hx).then k3,.inl ⟨rfl,rfl⟩,hrz,hlink,hlt,
  by simp [upd,h0],by simp [upd],by simp [upd],by simp [upd,SV.val,hv0],hR,fun _=>rfl⟩
 intro okL acc z' v η' w' hi
 show rtTail.wp P _ η' w'
 unfold rtTail
 refine np_op (vs:=[ptr b2]) (by simp [SV.val,hi.e2,Addr.add]) (wp_loadN hi.r2 (by simp) ?_)
 have hvf:v.oneCell'=true:=by rcases hi.rep with ⟨rfl,_⟩ | ⟨r,es,rfl,_⟩<;>rfl
 refine np_op (vs:=[ptr b1,.agg #[v]]) (by simp [SV.val,upd,hi.e1,Addr.add]) (wp_store hi.r1 (n:=1) ⟨by simp [Value.cells],?_⟩ (by simp) fun w'' r1'' k'' => ?_)
 ·rcases hi.rep with ⟨rfl,_⟩ | ⟨r,es,rfl,_⟩<;>simp [Value.cells,Value.oneCell']
 have r1c:Row w'' b1 [v]:=by simpa [put,Value.cells] using r1''
 refine ⟨b1,0,[v],by simp [SV.val,upd,hi.e1,Addr.add],by have:=r1c.range 0 1;simpa using this,rfl,?_⟩
 have kfin:Keep [R] w w'':=hi.keep.trans k'' fun x hx hlt=>by simp only [List.mem_singleton] at hx;omega
 refine hk v w'' kfin ?_
 unfold TagsEnd
 have hnA:∀ x∈[b1],¬ okL x:=fun x hx=>by rw [List.mem_singleton.1 hx];exact hi.nb1
 have hl:=hi.link
 have hrd'':=hi.rd.keep k'' (by simpa using hRb1) hnA
 cases z' with
 | none=>
  rw [hl]
  exact ⟨hrd'',hvf⟩
 | some bs=>
  rw [hl]
  refine ⟨hrd''.weak fun b _ hb=>hi.sub b hb,?_,hi.nil⟩
  rcases hi.rep with ⟨e1,e2⟩ | ⟨r,es,e1,e2,e3⟩
  ·exact .inl ⟨e1,e2⟩
  ·exact .inr ⟨r,es,e1,he.new r e2.2.2.2.2,(e3.keep k'' (by simpa using e2.2.2.1) hnA).weak fun b _ hb=>hi.sub b hb⟩
def LenOk (P:Program) (f:FuncId):Prop:=
 ∀ (own ok:Nat→Prop) (w:World) (a:Addr) (v:Value) (l:Tg) (K:Value→World→Prop),w.cell? a=some v→RepT own ok w l v→K (goInt l.length) w→In.wp P (.call f) [.pointer (some a)] w K
theorem len_ok' (hn:Named P) {I:J} {f:FuncId} (hf:fnP P f 1=some (p_len I)):LenOk P f:=by
 intro own ok w a v l K hc hrep hk
 refine calls_of_np hn (vs:=[.pointer (some a)]) hf fun η hη => ?_
 have h0:η 0 = .pointer (some a):=hη 0 (by simp)
 refine ⟨⟨_,h0⟩,?_⟩
 refine np_op (vs:=[.pointer (some a)]) (by simp [SV.val,h0,add0]) ⟨a,v,rfl,hc,?_⟩
 rcases hrep with ⟨rfl,rfl⟩ | ⟨r,es,rfl,_,hents⟩
 ·exact np_op (vs:=[.map none]) (by simp [SV.val,upd]) (.inl ⟨rfl,by show K (pack [_]) w;simpa [SV.val,upd,pack] using hk⟩)
 ·obtain ⟨m,hm,hp⟩:=hents.ents
  have hlen:es.size=l.length:=by have h1:=hm.length;have h2:=hp.length_eq;simp at h1;omega
  refine np_op (vs:=[.map (some r)]) (by simp [SV.val,upd]) (.inr ⟨r,es,_,rfl,hents.at',?_⟩)
  show K (pack [_]) w
  rw [hlen]
  simpa [SV.val,upd,pack] using hk
end
end Go.Kb
namespace Go.Kb
open Go.Lx Go.Nx Go.Km Go.Mx
set_option linter.unusedSimpArgs false
set_option linter.unusedVariables false
section
variable {P:Program}
structure Chg (bx:Nat) (d:Value) (w:World) (d':Value) (w':World):Prop where
 os:w'.os=w.os
 tape:w'.tape=w.tape
 output:w'.output=w.output
 size:w.heap.size≤w'.heap.size
 block:∀ q,q<w.heap.size→q≠bx→d.ownBlock≠some q→w'.heap[q]?=w.heap[q]?
 own:d'.ownBlock=d.ownBlock∨∀ g,d'.ownBlock=some g→w.heap.size≤g
theorem Chg.trans {bx:Nat} {a b c:World} {d d' d'':Value} (h:Chg bx d a d' b) (k:Chg bx d' b d'' c):Chg bx d a d'' c:=by
 refine ⟨k.os.trans h.os,k.tape.trans h.tape,k.output.trans h.output,Nat.le_trans h.size k.size,fun q hq h1 h2 => ?_,?_⟩
 ·rw [k.block q (Nat.lt_of_lt_of_le hq h.size) h1 (by
   rcases h.own with e | e
   ·rw [e];exact h2
   ·intro e';have:=e q e';omega)]
  exact h.block q hq h1 h2
 ·rcases k.own with e | e
  ·rw [e];exact h.own
  ·exact .inr fun g hg=>Nat.le_trans h.size (e g hg)
theorem Chg.ofGr {bx:Nat} {a b:World} {d d':Value} (h:Gr a d b d'):Chg bx d a d' b:=by
 obtain ⟨h1,h2⟩:=h
 exact ⟨h1.os,h1.tape,h1.output,h1.size,fun q hq _ hn=>h1.block q hq (fun e=>hn e.symm),h2⟩
theorem Chg.ofKeep {bx:Nat} {a b:World} {d:Value} (h:Keep [bx] a b):Chg bx d a d b:=
 ⟨h.os,h.tape,h.output,h.size,fun q hq h1 _=>h.block q hq (by simpa using h1),.inl rfl⟩
theorem Chg.row {bx:Nat} {a b:World} {d d':Value} (h:Chg bx d a d' b) {q:Nat} {cs:List Value} (hr:Row a q cs) (h1:q≠bx) (h2:d.ownBlock≠some q):Row b q cs:=by
 have hlt:=hr.lt
 obtain ⟨e,hr⟩:=hr
 exact ⟨e,by rw [h.block q hlt h1 h2];exact hr⟩
theorem own_own {w:World} {B:Nat} {e:TypeId} {d:Value} {out:Bs} (h:Own w B e d out):∀ g,d.ownBlock=some g→B≤g∧g<w.heap.size:=by
 intro g hg
 rcases h.1.2 with ⟨rfl,_⟩ | ⟨g',cap,cur,rfl,h1,h2,_⟩
 ·simp [Value.ownBlock] at hg
 ·simp only [Value.ownBlock,Option.some.injEq] at hg
  subst hg
  exact ⟨h1,(Array.getElem?_eq_some_iff.1 h2).1⟩
theorem Chg.same {bx B:Nat} {a b:World} {d d':Value} (h:Chg bx d a d' b) (hbx:B≤bx) (hd:∀ g,d.ownBlock=some g→B≤g):Same (· < B) a b:=
 ⟨h.size,fun k hk hkB=>h.block k hk (by omega) (fun e=>by have:=hd k e;omega)⟩
def CbOk (P:Program) (e:TypeId) (f:FuncId):Prop:=
 ∀ (w:World) (bx B:Nat) (d:Value) (out:Bs) (k:Nat) (val:Value) (bs:Bs) (K:Value→World→Prop),Row w bx [d]→B≤bx→Own w B e d out→d.ownBlock≠some bx→Sl (· < B) w val bs→k<2^32→bs.length≤32767→out.length+(wrTag (k,bs)).length≤lim →
  (∀ d' w',Row w' bx [d']→Own w' B e d' (out++wrTag (k,bs))→d'.ownBlock≠some bx→Chg bx d w d' w'→K (.tuple #[]) w')→In.wp P (.call f) [.int .u32 (k:Int),val,ptr bx] w K
theorem cb_ok (hn:Named P) {I:J} {f:FuncId} (hf:fnP P f 3=some (p_appendEach1 I)) (hu:AppendsG P I.e8 I.appendUvarint wrUv uvRep):CbOk P I.e8 f:=by
 intro w bx B d out k val bs K hrow hbx hown hne hsl hk32 hlen hlim hk
 refine calls_of_np hn (vs:=[.int .u32 (k:Int),val,ptr bx]) hf fun η hη => ?_
 have h0:η 0 = .int .u32 (k:Int):=hη 0 (by simp)
 have h1:η 1=val:=hη 1 (by simp)
 have h2:η 2=ptr bx:=hη 2 (by simp)
 have hwr:(wrTag (k,bs)).length=(wrUv k).length+((wrUv bs.length).length+bs.length):=by simp [wrTag]
 have fit:∀ {w:World} {d:Value} {out:Bs},Own w B I.e8 d out→Fit 1 d:=fun h=>by
  rcases h.1.2 with ⟨rfl,_⟩ | ⟨g,cap,cur,rfl,_⟩<;>exact Fit.one rfl rfl
 have keepOwn:∀ {w w':World} {d:Value} {out:Bs},Own w B I.e8 d out→Keep [bx] w w'→d.ownBlock≠some bx→Own w' B I.e8 d out:=fun h k hn=>h.keep k fun g hg hm=>by
  simp only [List.mem_singleton] at hm;subst hm;exact hn hg
 have bxlt:∀ {w:World} {q:Nat},Row w bx [d]→w.heap.size≤q→q≠bx:=fun h hq=>by have:=h.lt;omega
 refine np_op (vs:=[ptr bx]) (by simp [SV.val,h2]) (wp_load hrow rfl ?_)
 refine np_op (vs:=[d,.int .u32 (k:Int)]) (by simp [SV.val,upd,h0]) (hu w B d out k _ _ hown ⟨rfl,hk32⟩ (by omega) fun d1 w1 o1 _ g1 => ?_)
 have c1:Chg bx d w d1 w1:=Chg.ofGr g1
 have r1:Row w1 bx [d]:=by
  have hlt:=hrow.lt
  obtain ⟨e,hr⟩:=hrow
  exact ⟨e,by rw [g1.1.block bx hlt (fun e=>hne e.symm)];exact hr⟩
 have n1:d1.ownBlock≠some bx:=by
  rcases g1.2 with e | e
  ·rw [e];exact hne
  ·intro e';have:=e bx e';have:=hrow.lt;omega
 refine np_op (vs:=[ptr bx,d1]) (by simp [SV.val,upd,h2]) (wp_store r1 (fit o1) (by simp) fun w2 r2 k2 => ?_)
 have r2':Row w2 bx [d1]:=by rcases o1.1.2 with ⟨rfl,_⟩ | ⟨g,cap,cur,rfl,_⟩<;>simpa [put,Value.cells] using r2
 have c2:Chg bx d w d1 w2:=c1.trans (Chg.ofKeep k2)
 have o2:=keepOwn o1 k2 n1
 refine np_op (vs:=[ptr bx]) (by simp [SV.val,upd,h2]) (wp_load r2' rfl ?_)
 have hdB:∀ {w:World} {d:Value} {out:Bs},Own w B I.e8 d out→∀ g,d.ownBlock=some g→B≤g:=fun h g hg=>(own_own h g hg).1
 have hsl2:=hsl.same (c2.same hbx (hdB hown))
 obtain ⟨va,vc,hv,_⟩:=sl_slice hsl2
 refine np_op (vs:=[val]) (by simp [SV.val,upd,h1]) ⟨va,_,vc,by rw [hv],?_⟩
 refine np_op (vs:=[goInt bs.length]) (by simp [SV.val,upd]) ⟨.i64,_,rfl,?_⟩
 rw [wrap_nat .u32 rfl _ (show bs.length<2^32 by omega)]
 refine np_op (vs:=[d1,.int .u32 (bs.length:Int)]) (by simp [SV.val,upd]) (hu w2 B d1 (out++wrUv k) bs.length _ _ o2 ⟨rfl,by omega⟩ (by simp only [List.length_append];omega) fun d3 w3 o3 _ g3 => ?_)
 have c3:Chg bx d w d3 w3:=c2.trans (Chg.ofGr g3)
 have r3:Row w3 bx [d1]:=by
  have hlt:=r2'.lt
  obtain ⟨e,hr⟩:=r2'
  exact ⟨e,by rw [g3.1.block bx hlt (fun e=>n1 e.symm)];exact hr⟩
 have n3:d3.ownBlock≠some bx:=by
  rcases g3.2 with e | e
  ·rw [e];exact n1
  ·intro e';have:=e bx e';have:=r2'.lt;omega
 refine np_op (vs:=[ptr bx,d3]) (by simp [SV.val,upd,h2]) (wp_store r3 (fit o3) (by simp) fun w4 r4 k4 => ?_)
 have r4':Row w4 bx [d3]:=by rcases o3.1.2 with ⟨rfl,_⟩ | ⟨g,cap,cur,rfl,_⟩<;>simpa [put,Value.cells] using r4
 have c4:Chg bx d w d3 w4:=c3.trans (Chg.ofKeep k4)
 have o4:=keepOwn o3 k4 n3
 refine np_op (vs:=[ptr bx]) (by simp [SV.val,upd,h2]) (wp_load r4' rfl ?_)
 have hsl4:=hsl.same (c4.same hbx (hdB hown))
 refine np_op (vs:=[d3,val]) (by simp [SV.val,upd,h1]) (wp_appG o4 hsl4.sl0 (by simp only [List.length_append];omega) fun d5 w5 o5 _ g5 => ?_)
 have c5:Chg bx d w d5 w5:=c4.trans (Chg.ofGr g5)
 have r5:Row w5 bx [d3]:=by
  have hlt:=r4'.lt
  obtain ⟨e,hr⟩:=r4'
  exact ⟨e,by rw [g5.1.block bx hlt (fun e=>n3 e.symm)];exact hr⟩
 have n5:d5.ownBlock≠some bx:=by
  rcases g5.2 with e | e
  ·rw [e];exact n3
  ·intro e';have:=e bx e';have:=r4'.lt;omega
 refine np_op (vs:=[ptr bx,d5]) (by simp [SV.val,upd,h2]) (wp_store r5 (fit o5) (by simp) fun w6 r6 k6 => ?_)
 have r6':Row w6 bx [d5]:=by rcases o5.1.2 with ⟨rfl,_⟩ | ⟨g,cap,cur,rfl,_⟩<;>simpa [put,Value.cells] using r6
 refine ⟨rfl,hk d5 w6 r6' ?_ n5 (c5.trans (Chg.ofKeep k6))⟩
 have:=keepOwn o5 k6 n5
 have e:out++wrTag (k,bs)=out++wrUv k++wrUv bs.length++bs:=by simp [wrTag]
 rw [e];exact this
end
end Go.Kb
namespace Go.Kb
open Go.Lx Go.Nx Go.Km Go.Mx
set_option linter.unusedSimpArgs false
set_option linter.unusedVariables false
def ku (k:Nat):Value := .int .u32 (k:Int)
section
variable {P:Program}
def SortOk (P:Program) (f g:FuncId) (t:TypeId):Prop:=
 ∀ (w:World) (blk b8:Nat) (c:Nat) (keys:List Nat) (rest:List Value) (K:Value→World→Prop),Row w blk (keys.map ku++rest)→keys.length≤c→Row w b8 [.slice (some ⟨blk,0,none⟩) keys.length c]→blk≠b8→(∀ k∈keys,k<2^32)→keys.length≤65536 →
  (∀ (keys':List Nat) w',keys'.Perm keys→keys'.Pairwise (· ≤ ·)→Row w' blk (keys'.map ku++rest)→Keep [blk] w w'→K (.tuple #[]) w') →
  In.wp P (.call f) [.iface t (.slice (some ⟨blk,0,none⟩) keys.length c),.func (.func g) #[] #[ptr b8]] w K
theorem nodup_lt:∀ (n:Nat) (l:List Nat),l.Nodup→(∀ x∈l,x<n)→l.length≤n:=by
 intro n
 induction n with
 | zero=>
  intro l _ h
  cases l with
  | nil=>simp
  | cons x r=>exact absurd (h x (by simp)) (by omega)
 | succ n ih=>
  intro l hn h
  have h1:=ih (l.erase n) (hn.erase n) fun x hx=>by
   have:=(hn.mem_erase_iff).1 hx
   have:=h x this.2
   omega
  have h2:l.length≤(l.erase n).length+1:=by
   by_cases hm:n∈l
   ·rw [List.length_erase_of_mem hm];omega
   ·rw [List.erase_of_not_mem hm];omega
  omega
def keyOf (e:MapEntry):Nat:=match e.key with | .int _ n=>n.toNat | _=>0
theorem Ents.keyOf {ok:Nat→Prop} {w:World} {r:Nat} {es:Array MapEntry} {l:Tg} (h:Ents ok w r es l):(es.toList.map keyOf).Perm (l.map (·.1))∧∀ e∈es.toList,e.key=ku (keyOf e):=by
 obtain ⟨m,hm,hp⟩:=h.ents
 have h1:es.toList.map Kb.keyOf=m.map (·.1):=by
  generalize es.toList=a at hm
  clear hp
  induction hm with
  | nil=>rfl
  | cons hab _ ih=>simp [Kb.keyOf,hab.1,ih]
 refine ⟨by rw [h1];exact hp.map _,fun e he => ?_⟩
 obtain ⟨i,hi,rfl⟩:=List.mem_iff_getElem.1 he
 have:=(hm.get i hi (by rw [← hm.length];exact hi)).1
 rw [this]
 simp only [Kb.keyOf,this,ku,Int.toNat_natCast]
theorem Ents.find {ok:Nat→Prop} {w:World} {r:Nat} {es:Array MapEntry} {l:Tg} (h:Ents ok w r es l) {k:Nat} {bs:Bs} (hmem:(k,bs)∈l):∃ e,es.toList.find? (keyIs .u32 (k:Int))=some e∧Sl ok w e.val bs:=by
 obtain ⟨m,hm,hp⟩:=h.ents
 have hnodup:(m.map (·.1)).Nodup:=by
  have h1:(l.map (·.1)).Nodup:=by
   refine List.Pairwise.map _ (S:=fun a b:Nat=>a≠b) ?_ h.sorted
   intro a b hab;omega
  exact (hp.map (·.1)).nodup_iff.2 h1
 have hmm:(k,bs)∈m:=hp.symm.subset hmem
 generalize es.toList=a at hm
 clear hp h
 induction hm with
 | nil=>simp at hmm
 | cons hab t ih=>
  rename_i e p es' m'
  simp only [List.find?_cons,keyIs_int _ _ _ hab.1]
  simp only [List.map_cons,List.nodup_cons] at hnodup
  by_cases hk:p.1=k
  ·have:((k:Int) == (p.1:Int))=true:=by simp [hk]
   rw [this]
   rcases List.mem_cons.1 hmm with rfl | hin
   ·exact ⟨e,rfl,hab.2⟩
   ·exact (hnodup.1 (List.mem_map.2 ⟨_,hin,hk.symm⟩)).elim
  ·have:((k:Int) == (p.1:Int))=false:=by simp;omega
   rw [this]
   rcases List.mem_cons.1 hmm with rfl | hin
   ·exact (hk rfl).elim
   ·exact ih hnodup.2 hin
theorem Ents.len {ok:Nat→Prop} {w:World} {r:Nat} {es:Array MapEntry} {l:Tg} (h:Ents ok w r es l):es.size=l.length:=by
 obtain ⟨m,hm,hp⟩:=h.ents
 have h1:=hm.length;have h2:=hp.length_eq;simp at h1;omega
theorem Ents.findBorn {ok:Nat→Prop} {w:World} {r:Nat} {es:Array MapEntry} {l:Tg} (h:Ents ok w r es l) {i:Nat} (hi:i<es.size):es.find? (·.born == i)=some es[i]:=by
 rw [Array.find?_eq_some_iff_getElem]
 refine ⟨by simp [h.born i hi],i,hi,rfl,fun j hj => ?_⟩
 have:=h.born j (by omega)
 simp [this];omega
def gBody (I:J):NP:=
  (.op .nextM [.s 11] 12 <|
  .op (.ex 0) [.s 12] 13 <|
  .ite (.s 13)
   (.nil)
   (.exit) <|
  .op .entM [.s 11] 14 <|
  .op (.ex 0) [.s 14] 15 <|
  .op .load [.q 8 0] 16 <|
  .op (.bslG 1) [.s 15] 17 <|
  .op (.appG I.eG 1) [.s 16,.s 17] 18 <|
  .op (.store 1) [.q 8 0,.s 18] 19 <|
  .nil)
def eTail2:NP := .loop
  (.op (.bin .lss) [.s 26,.s 25] 27 <|
  .ite (.s 27)
   (.nil)
   (.exit) <|
  .op (.ia 1) [.s 24,.s 26] 28 <|
  .chk 28 <|
  .op .load [.q 28 0] 29 <|
  .op .load [.q 0 0] 30 <|
  .op (.lookM (.slice none 0 0)) [.s 30,.s 29] 31 <|
  .op .callV [.s 1,.s 29,.s 31] 32 <|
  .op (.bin .add) [.s 26,.k (.int .i64 1)] 33 <|
  .set 34 (.s 33) <|
  .set 26 (.s 34) <|
  .nil) .nil
def eTail (I:J):NP := .op .load [.q 8 0] 20 <|
 .op (.mkif I.tSl) [.s 20] 21 <|
 .op (.mkfn I.each1) [.q 8 0] 22 <|
 .op (.call I.slice) [.s 21,.s 22] 23 <|
 .op .load [.q 8 0] 24 <|
 .op .len [.s 24] 25 <|
 .set 26 (.k (.int .i64 0)) eTail2
theorem p_each_eq (I:J):p_each I=⟨.chk 0 <|
 .op .load [.q 0 0] 2 <|
 .op .lenM [.s 2] 3 <|
 .op (.bin .eql) [.s 3,.k (.int .i64 0)] 4 <|
 .ite (.s 4)
  (.ret [])
  (.nil) <|
 .op .load [.q 0 0] 5 <|
 .op .lenM [.s 5] 6 <|
 .op (.mk I.eG [.int .u32 0]) [.k (.int .i64 0),.s 6] 7 <|
 .op (.alloc [.slice none 0 0]) [] 8 <|
 .chk 8 <|
 .op (.store 1) [.q 8 0,.s 7] 9 <|
 .op .load [.q 0 0] 10 <|
 .op .rangeM [.s 10] 11 <|
 .loop (gBody I) (eTail I),[]⟩:=rfl
def OwnK (w:World) (N:Nat) (e:TypeId) (d:Value) (ks:List Nat):Prop:=w.ownsRow N e 1 d ks.length (ks.map ku)∧N≤w.heap.size∧∃ g c,d = .slice (some ⟨g,0,none⟩) ks.length c
theorem OwnK.block {w:World} {N:Nat} {e:TypeId} {d:Value} {ks:List Nat} (h:OwnK w N e d ks):∃ g c rest,d = .slice (some ⟨g,0,none⟩) ks.length c∧N≤g∧g<w.heap.size∧ks.length≤c∧Row w g (ks.map ku++rest):=by
 obtain ⟨h1,h2,g0,c0,hd⟩:=h
 rcases h1.2 with ⟨e1,_⟩ | ⟨g,cap,cur,e1,e2,e3,e4,e5,e6,e7⟩
 ·rw [hd] at e1;cases e1
 ·refine ⟨g,cap,cur.toList.drop ks.length,e1,e2,(Array.getElem?_eq_some_iff.1 e3).1,e4,e,?_⟩
  rw [e3]
  congr 2
  apply Array.ext'
  rw [Nat.mul_one] at e7
  simp only [List.toList_toArray]
  rw [← e7,List.take_append_drop]
theorem OwnK.keep {w w':World} {N:Nat} {e:TypeId} {d:Value} {ks:List Nat} (h:OwnK w N e d ks) {A:List Nat} (k:Keep A w w') (hA:∀ g,d.ownBlock=some g→g∉A):OwnK w' N e d ks:=by
 obtain ⟨h1,h2,h3⟩:=h
 refine ⟨⟨h1.1,?_⟩,Nat.le_trans h2 k.size,h3⟩
 rcases h1.2 with hn | ⟨g,cap,cur,hd,hb,hgg,rest⟩
 ·exact .inl hn
 ·refine .inr ⟨g,cap,cur,hd,hb,?_,rest⟩
  rw [k.block g (Array.getElem?_eq_some_iff.1 hgg).1 (hA g (by rw [hd];rfl))]
  exact hgg
structure GInv (w0:World) (r:Nat) (es:Array MapEntry) (b8 it:Nat) (eG:TypeId) (a fnv:Value) (seen:Array Nat) (ks:List Nat) (d:Value) (η:Nat→Value) (w:World):Prop where
 keep:Keep [] w0 w
 map:w.heap[r]?=some (.map es es.size)
 iter:w.heap[it]?=some (.mapIter (some r) es.size seen es.size)
 var:Row w b8 [d]
 own:OwnK w w0.heap.size eG d ks
 ne8:d.ownBlock≠some b8
 neI:d.ownBlock≠some it
 b8I:b8≠it
 rI:r≠it
 n8:w0.heap.size≤b8
 nI:w0.heap.size≤it
 rlt:r<w0.heap.size
 nodup:seen.toList.Nodup
 seenlt:∀ i∈seen.toList,i<es.size
 keys:ks=seen.toList.map fun i=>(es[i]?.map keyOf).getD 0
 e0:η 0=a
 e1:η 1=fnv
 e8:η 8=ptr b8
 e11:η 11=ptr it
theorem g_rounds {I:J} {w0:World} {r:Nat} {es:Array MapEntry} {b8 it:Nat} {a fnv:Value} {ok:Nat→Prop} {l:Tg} (hents:Ents ok w0 r es l) (hn:es.size≤65536) (Q:Out→(Nat→Value)→World→Prop)
  (hq:∀ seen ks d η w,GInv w0 r es b8 it I.eG a fnv seen ks d η w→(∀ i,i<es.size→i∈seen.toList)→Q .ext η w) :
  ∀ m seen ks d η w,es.size≤seen.size+m→GInv w0 r es b8 it I.eG a fnv seen ks d η w→roundsP ((gBody I).wp P) Q (m+1) η w:=by
 have bornIdx:∀ e∈es.toList,∃ i,∃ h:i<es.size,es[i]=e∧e.born=i:=by
  intro e he
  obtain ⟨i,hi,rfl⟩:=List.mem_iff_getElem.1 he
  have hi':i<es.size:=by simpa using hi
  exact ⟨i,hi',by simp,by have:=hents.born i hi';simpa using this⟩
 have round:∀ (Q':Out→(Nat→Value)→World→Prop) seen ks d η w,GInv w0 r es b8 it I.eG a fnv seen ks d η w →
   (∀ η' w',GInv w0 r es b8 it I.eG a fnv seen ks d η' w'→(∀ i,i<es.size→i∈seen.toList)→Q' .ext η' w') →
   (∀ i ks' d' η' w',i<es.size→i∉seen.toList→GInv w0 r es b8 it I.eG a fnv (seen.push i) ks' d' η' w'→Q' .nrm η' w')→(gBody I).wp P Q' η w:=by
  intro Q' seen ks d η w hi hx hn'
  unfold gBody
  refine np_op (vs:=[ptr it]) (by simp [SV.val,hi.e11]) (.inr ⟨it,r,seen,es,es.size,rfl,hi.iter,hi.map,?_,?_,?_⟩)
  ·intro e he;obtain ⟨i,h,_,hb⟩:=bornIdx e he;omega
  ·intro e he hs w1 hw1
   obtain ⟨i,hilt,hei,hbi⟩:=bornIdx e he
   refine np_op (vs:=[.tuple #[.bool true,e.key,e.val]]) (by simp [SV.val,upd]) ⟨_,.bool true,rfl,rfl,?_⟩
   refine np_ite true (by simp [SV.val,upd]) ?_
   simp only [if_true]
   rw [hbi] at hs ⊢
   have hw1h:w1.heap=w.heap:=by rcases hw1 with rfl | rfl<;>rfl
   have k1:Keep [it] w (setO w1 it (.mapIter (some r) es.size (seen.push i) es.size)):=by
    rcases hw1 with rfl | rfl
    ·exact setO_keep w1 it _
    ·exact (keep_drawn w |>.mono fun x hx=>by simp at hx).then (setO_keep w.drew it _)
   generalize hw2:setO w1 it (.mapIter (some r) es.size (seen.push i) es.size)=w2 at k1
   have hitlt:it<w.heap.size:=(Array.getElem?_eq_some_iff.1 hi.iter).1
   have hiter2:w2.heap[it]?=some (.mapIter (some r) es.size (seen.push i) es.size):=by
    rw [← hw2];simp [setO,hw1h,hitlt]
   have hmap2:w2.heap[r]?=some (.map es es.size):=by
    rw [k1.block r (Array.getElem?_eq_some_iff.1 hi.map).1 (by simpa using hi.rI)];exact hi.map
   refine np_op (vs:=[ptr it]) (by simp [SV.val,upd,hi.e11]) ⟨it,r,es.size,_,es.size,es,es[i],i,rfl,hiter2,hmap2,by simp,hents.findBorn hilt,?_⟩
   refine np_op (vs:=[.tuple #[es[i].key,es[i].val]]) (by simp [SV.val,upd]) ⟨_,es[i].key,rfl,rfl,?_⟩
   have hvar2:=hi.var.keep k1 (by simpa using hi.b8I)
   have hown2:=hi.own.keep k1 (fun g hg hm=>by simp only [List.mem_singleton] at hm;subst hm;exact hi.neI hg)
   refine np_op (vs:=[ptr b8]) (by simp [SV.val,upd,hi.e8,Addr.add]) (wp_load hvar2 rfl ?_)
   have hkey:es[i].key=ku (keyOf es[i]):=hents.keyOf.2 _ (by simp)
   rw [hkey]
   refine np_op (vs:=[ku (keyOf es[i])]) (by simp [SV.val,upd]) ⟨fun v hv=>by simp only [List.mem_singleton] at hv;subst hv;rfl,fun e => ?_⟩
   obtain ⟨rn,kn⟩:=alloc_row (w:=w2) [ku (keyOf es[i])] e
   have hcells:(([ku (keyOf es[i])]:List Value).map (·.cells.toList)).flatten.toArray=([ku (keyOf es[i])]:List Value).toArray:=by simp [Value.cells,ku]
   rw [hcells]
   generalize hw3:w2.alloc (.cells ([ku (keyOf es[i])]:List Value).toArray e)=w3 at rn kn
   have hown3:=hown2.keep kn (fun g _ hm=>by simp at hm)
   have hvar3:=hvar2.keep kn (by simp)
   obtain ⟨ho1,ho2,g0,c0,hd⟩:=hown3
   have hks:ks.length=seen.size:=by rw [hi.keys];simp
   have hsz:seen.size<es.size:=by
    have h1:(i::seen.toList).Nodup:=List.nodup_cons.2 ⟨hs,hi.nodup⟩
    have h2:(i::seen.toList).length≤es.size:=nodup_lt _ _ h1 fun x hx=>by
      rcases List.mem_cons.1 hx with rfl | hx
      ·exact hilt
      ·exact hi.seenlt x hx
    simp at h2;omega
   refine np_op (vs:=[d,.slice (some ⟨w2.heap.size,0,none⟩) 1 1]) (by simp [SV.val,upd]) ⟨w0.heap.size,d,ks.length,ks.map ku,⟨w2.heap.size,0,none⟩,1,1,[ku (keyOf es[i])],rfl,ho1,ho2,rfl,?_,fun u hu=>by simp only [List.mem_singleton] at hu;subst hu;rfl,by omega,fun d' w4 ho4 hb4 hg4 => ?_⟩
   ·intro j u hj
    cases j with
    | zero=>simp only [List.getElem?_cons_zero,Option.some.injEq] at hj;subst hj;rw [add0];exact rn.cell rfl
    | succ j=>simp at hj
   have hown4:OwnK w4 w0.heap.size I.eG d' (ks++[keyOf es[i]]):=by
    refine ⟨by simpa using ho4,Nat.le_trans ho2 hb4.size,?_⟩
    rcases ho4.2 with ⟨_,h0⟩ | ⟨g,cap,cur,hd',_⟩
    ·omega
    ·exact ⟨g,cap,by simpa using hd'⟩
   have b8lt:b8<w3.heap.size:=hvar3.lt
   have itlt3:it<w3.heap.size:=Nat.lt_of_lt_of_le hitlt (Nat.le_trans k1.size kn.size)
   have gkeep:∀ q,q<w3.heap.size→d.ownBlock≠some q→w4.heap[q]?=w3.heap[q]?:=fun q hq hne=>hg4.1.block q hq (fun e=>hne e.symm)
   have hvar4:Row w4 b8 [d]:=by
    obtain ⟨e,hr⟩:=hvar3
    exact ⟨e,by rw [gkeep b8 b8lt hi.ne8];exact hr⟩
   have fit:Fit 1 d':=by
    obtain ⟨_,_,g,c,hd'⟩:=hown4
    subst hd';exact Fit.one rfl rfl
   have hdc:d'.cells.toList=[d']:=by
    obtain ⟨_,_,g,c,hd'⟩:=hown4
    subst hd';rfl
   refine np_op (vs:=[ptr b8,d']) (by simp [SV.val,upd,hi.e8,Addr.add]) (wp_store hvar4 fit (by simp) fun w5 r5 k5 => ?_)
   have r5':Row w5 b8 [d']:=by rw [hdc] at r5;simpa [put] using r5
   have hneB:∀ q,q<w3.heap.size→d.ownBlock≠some q→d'.ownBlock≠some q:=fun q hq hne e=>by
    rcases hg4.2 with h | h
    ·rw [h] at e;exact hne e
    ·have:=h q e;omega
   have hblk:∀ q,q<w3.heap.size→q≠b8→d.ownBlock≠some q→w5.heap[q]?=w3.heap[q]?:=fun q hq h1 h2=>by
    rw [k5.block q (Nat.lt_of_lt_of_le hq hg4.1.size) (by simpa using h1)];exact gkeep q hq h2
   have hdown:=hi.own.block
   obtain ⟨gd,cd,restd,hdd,hNg,_⟩:=hdown
   have hdg:d.ownBlock=some gd:=by rw [hdd];rfl
   refine hn' i (ks++[keyOf es[i]]) d' _ w5 hilt hs ?_
   refine ⟨?_,?_,?_,r5',hown4.keep k5 (fun g hg hm=>by simp only [List.mem_singleton] at hm;subst hm;exact hneB _ b8lt hi.ne8 hg),hneB b8 b8lt hi.ne8,hneB it itlt3 hi.neI,hi.b8I,hi.rI,hi.n8,hi.nI,hi.rlt,?_,?_,?_,by simp [upd,hi.e0],by simp [upd,hi.e1],by simp [upd,hi.e8],by simp [upd,hi.e11]⟩
   ·have h13:Keep [it] w w3:=k1.trans kn fun x hx=>by simp at hx
    refine ⟨?_,?_,?_,?_,fun q hq _ => ?_⟩
    ·rw [k5.os,hg4.1.os,h13.os,hi.keep.os]
    ·rw [k5.tape,hg4.1.tape,h13.tape,hi.keep.tape]
    ·rw [k5.output,hg4.1.output,h13.output,hi.keep.output]
    ·have:=hi.keep.size;have:=h13.size;have:=hg4.1.size;have:=k5.size;omega
    ·have hq3:q<w3.heap.size:=by have:=hi.keep.size;have:=h13.size;omega
     rw [hblk q hq3 (by have:=hi.n8;omega) (by rw [hdg];intro e;cases e;omega)]
     rw [h13.block q (by have:=hi.keep.size;omega) (by simp only [List.mem_singleton];have:=hi.nI;omega)]
     exact hi.keep.block q hq (by simp)
   ·have hr3:r<w3.heap.size:=by have:=hi.rlt;have:=hi.keep.size;have:=k1.size;have:=kn.size;omega
    rw [hblk r hr3 (by have:=hi.n8;have:=hi.rlt;omega) (by rw [hdg];intro e;cases e;have:=hi.rlt;omega),kn.block r (by have:=k1.size;have:=hi.rlt;have:=hi.keep.size;omega) (by simp)]
    exact hmap2
   ·rw [hblk it itlt3 (Ne.symm hi.b8I) hi.neI,kn.block it (Nat.lt_of_lt_of_le hitlt k1.size) (by simp)]
    exact hiter2
   ·simp only [Array.toList_push]
    exact List.nodup_append.2 ⟨hi.nodup,by simp,fun x hx y hy=>by simp only [List.mem_singleton] at hy;subst hy;intro e;subst e;exact hs hx⟩
   ·intro j hj
    simp only [Array.toList_push,List.mem_append,List.mem_singleton] at hj
    rcases hj with hj | rfl
    ·exact hi.seenlt j hj
    ·exact hilt
   ·rw [hi.keys]
    simp [hilt]
  ·intro hall w1 hw1
   refine np_op (vs:=[.tuple #[.bool false]]) (by simp [SV.val,upd]) ⟨_,.bool false,rfl,rfl,?_⟩
   refine np_ite false (by simp [SV.val,upd]) ?_
   simp only [Bool.false_eq_true,if_false]
   have hw1h:w1.heap=w.heap:=by rcases hw1 with rfl | rfl<;>rfl
   have k1:Keep [] w w1:=by rcases hw1 with rfl | rfl;exact Keep.refl _ _;exact keep_drawn w
   refine hx _ w1 ⟨hi.keep.then k1,by rw [hw1h];exact hi.map,by rw [hw1h];exact hi.iter,hi.var.keep k1 (by simp),hi.own.keep k1 (fun g _ hm=>by simp at hm),hi.ne8,hi.neI,hi.b8I,hi.rI,hi.n8,hi.nI,hi.rlt,hi.nodup,hi.seenlt,hi.keys,by simp [upd,hi.e0],by simp [upd,hi.e1],by simp [upd,hi.e8],by simp [upd,hi.e11]⟩ ?_
   intro i hilt
   have:=hall es[i] (by simp)
   rwa [hents.born i hilt] at this
 intro m
 induction m with
 | zero=>
  intro seen ks d η w hm hi
  refine round _ seen ks d η w hi (fun η' w' hi' hall=>hq seen ks d η' w' hi' hall) fun i ks' d' η' w' hilt hs hi' => ?_
  have h1:(i::seen.toList).Nodup:=List.nodup_cons.2 ⟨hs,hi.nodup⟩
  have:=nodup_lt es.size _ h1 fun x hx=>by
   rcases List.mem_cons.1 hx with rfl | hx
   ·exact hilt
   ·exact hi.seenlt x hx
  simp at this
  omega
 | succ m ih=>
  intro seen ks d η w hm hi
  refine round _ seen ks d η w hi (fun η' w' hi' hall=>hq seen ks d η' w' hi' hall) fun i ks' d' η' w' hilt hs hi' => ?_
  exact ih (seen.push i) ks' d' η' w' (by simp;omega) hi'
end
end Go.Kb
namespace Go.Kb
open Go.Lx Go.Nx Go.Km Go.Mx
set_option linter.unusedSimpArgs false
set_option linter.unusedVariables false
section
variable {P:Program}
theorem wp_mkfn {f:FuncId} {args:List Value} {w:World} {K:Value→World→Prop} (h:K (.func (.func f) #[] args.toArray) w):In.wp P (.mkfn f) args w K:=h
theorem fnP_fn {f:FuncId} {n:Nat} {z:FnP} (h:fnP P f n=some z):∃ fn,P.funcs[f]?=some fn∧fn.body.isSome=true:=by
 simp only [fnP,Option.bind_eq_some_iff] at h
 obtain ⟨fn,hfn,c,hc,_⟩:=h
 exact ⟨fn,hfn,by simp [hc]⟩
theorem Ents.same {B:Nat} {w w':World} {r:Nat} {es:Array MapEntry} {l:Tg} (h:Ents (· < B) w r es l) (k:Same (· < B) w w') (hr:r<B):Ents (· < B) w' r es l:=by
 refine ⟨by rw [k.2 r h.lt hr];exact h.at',h.born,?_,h.sorted⟩
 obtain ⟨m,hm,hp⟩:=h.ents
 exact ⟨m,hm.imp fun e p he=>⟨he.1,he.2.same k⟩,hp⟩
theorem cell_lt {w:World} {a:Addr} {v:Value} (h:w.cell? a=some v):a.block<w.heap.size:=by
 unfold World.cell? at h
 split at h
 ·rename_i hb
  exact (Array.getElem?_eq_some_iff.1 hb).1
 ·cases h
theorem cell_kp {w w':World} {a:Addr} {v:Value} (h:w.cell? a=some v) (k:Keep [] w w'):w'.cell? a=some v:=by
 rw [World.cell?_of_block (w:=w) (w':=w') (k.block _ (cell_lt h) (by simp))];exact h
theorem Chg.cell {bx:Nat} {a b:World} {d d':Value} (h:Chg bx d a d' b) {p:Addr} {v:Value} (hr:a.cell? p=some v) (h1:p.block≠bx) (h2:d.ownBlock≠some p.block):b.cell? p=some v:=by
 rw [World.cell?_of_block (w:=a) (w':=b) (h.block _ (cell_lt hr) h1 h2)];exact hr
structure LInv (w0:World) (d0:Value) (B bx g r:Nat) (es:Array MapEntry) (e8:TypeId) (a:Addr) (v fnv sl:Value) (l:Tg) (out:Bs) (cs:List Value) (i:Nat) (d:Value) (η:Nat→Value) (w:World):Prop where
 below:RowKit.Below B w0 w
 chg:Chg bx d0 w0 d w
 na:d.ownBlock≠some a.block
 rowg:Row w g cs
 rowx:Row w bx [d]
 own:Own w B e8 d (out++wrTagL (l.take i))
 nx:d.ownBlock≠some bx
 ng:d.ownBlock≠some g
 cell:w.cell? a=some v
 ents:Ents (· < B) w r es l
 e0:η 0 = .pointer (some a)
 e1:η 1=fnv
 e24:η 24=sl
 e25:η 25=goInt l.length
 e26:η 26 = .int .i64 (i:Int)
theorem wrTagL_take (l:Tg) (i:Nat) (h:i<l.length):wrTagL (l.take (i+1))=wrTagL (l.take i)++wrTag l[i]:=by
 rw [List.take_succ_eq_append_getElem h]
 unfold wrTagL
 rw [List.map_append,List.flatten_append]
 simp
theorem wrTagL_le (l:Tg) (i:Nat):(wrTagL (l.take i)).length≤(wrTagL l).length:=by
 have:wrTagL l=wrTagL (l.take i)++wrTagL (l.drop i):=by
  unfold wrTagL
  rw [← List.flatten_append,← List.map_append,List.take_append_drop]
 rw [this];simp
theorem l_rounds {I:J} {w0:World} {d0:Value} {B bx g g1 r c:Nat} {es:Array MapEntry} {a:Addr} {v:Value} {l:Tg} {out:Bs} {cs:List Value} (hcb:CbOk P I.e8 g1) (hfn:∃ fn,P.funcs[g1]?=some fn∧fn.body.isSome=true) (hok:okTags l) (hv:v = .map (some r)) (hrB:r<B) (hax:a.block≠bx) (hbx:B≤bx) (hgx:g≠bx)
  (hgB:B≤g) (hcs:∀ i (h:i<l.length),cs[i]?=some (ku l[i].1)) (hlim:out.length+(wrTagL l).length≤lim) (Q:Out→(Nat→Value)→World→Prop)
  (hq:∀ d η w,LInv w0 d0 B bx g r es I.e8 a v (.func (.func g1) #[] #[ptr bx]) (.slice (some ⟨g,0,none⟩) l.length c) l out cs l.length d η w→Q .ext η w) :
  ∀ m i d η w,i+m=l.length→LInv w0 d0 B bx g r es I.e8 a v (.func (.func g1) #[] #[ptr bx]) (.slice (some ⟨g,0,none⟩) l.length c) l out cs i d η w→roundsP ((match eTail2 with | .loop b _=>b | p=>p).wp P) Q (m+1) η w:=by
 intro m
 induction m with
 | zero=>
  intro i d η w hm hi
  have hi':i=l.length:=by omega
  subst hi'
  show NP.wp P (NP.op _ _ _ _) _ η w
  refine np_op (vs:=[.int .i64 (l.length:Int),goInt l.length]) (by simp [SV.val,hi.e26,hi.e25]) ⟨.i64,_,_,_,rfl,rfl,?_⟩
  refine np_ite false (by simp [SV.val,upd]) ?_
  simp only [Bool.false_eq_true,if_false]
  exact hq d _ w { hi with e0:=by simp [upd,hi.e0],e1:=by simp [upd,hi.e1],e24:=by simp [upd,hi.e24],e25:=by simp [upd,hi.e25],e26:=by simp [upd,hi.e26] }
 | succ m ih=>
  intro i d η w hm hi
  have hil:i<l.length:=by omega
  show NP.wp P (NP.op _ _ _ _) _ η w
  refine np_op (vs:=[.int .i64 (i:Int),goInt l.length]) (by simp [SV.val,hi.e26,hi.e25]) ⟨.i64,_,_,_,rfl,rfl,?_⟩
  refine np_ite true (by simp [SV.val,upd];omega) ?_
  simp only [if_true]
  refine np_op (vs:=[.slice (some ⟨g,0,none⟩) l.length c,.int .i64 (i:Int)]) (by simp [SV.val,upd,hi.e24,hi.e26]) ⟨⟨g,0,none⟩,_,c,.i64,i,rfl,hil,?_⟩
  refine ⟨⟨_,by simp only [upd];rfl⟩,?_⟩
  have hadd:(⟨g,0,none⟩:Addr).add (i*1)=⟨g,i,none⟩:=by rw [Nat.mul_one];unfold Addr.add;split<;>simp_all
  rw [hadd]
  refine np_op (vs:=[.pointer (some ⟨g,i,none⟩)]) (by simp [SV.val,upd,Addr.add]) ⟨_,ku l[i].1,rfl,hi.rowg.cell (hcs i hil),?_⟩
  refine np_op (vs:=[.pointer (some a)]) (by simp [SV.val,upd,hi.e0,add0]) ⟨a,v,rfl,hi.cell,?_⟩
  obtain ⟨e,hfe,hsl⟩:=hi.ents.find (k:=l[i].1) (bs:=l[i].2) (List.getElem_mem hil)
  refine np_op (vs:=[.map (some r),ku l[i].1]) (by simp [SV.val,upd,hv]) ⟨r,es,es.size,.u32,_,rfl,hi.ents.at',hi.ents.keys,?_⟩
  rw [hfe]
  simp only [Option.map_some,Option.getD_some]
  obtain ⟨fn,hf1,hf2⟩:=hfn
  refine np_op (vs:=[.func (.func g1) #[] #[ptr bx],ku l[i].1,e.val]) (by simp [SV.val,upd,hi.e1]) ⟨g1,#[ptr bx],[ku l[i].1,e.val],fn,rfl,hf1,hf2,?_⟩
  have hki:=hok.keys _ (List.getElem_mem hil)
  have htake:=wrTagL_take l i hil
  have hle:=wrTagL_le l (i+1)
  rw [htake] at hle
  have hee:wrTag (l[i].1,l[i].2)=wrTag l[i]:=rfl
  have harr:(([ku l[i].1,e.val]:List Value).toArray ++ #[ptr bx])=([ku l[i].1,e.val,ptr bx]:List Value).toArray:=by simp
  rw [harr]
  refine hcb w bx B d (out++wrTagL (l.take i)) l[i].1 e.val l[i].2 _ hi.rowx hbx hi.own hi.nx hsl hki.1 hki.2 (by rw [hee];simp only [List.length_append] at hle ⊢;omega) ?_
  intro d' w' rx' own' nx' chg
  have hsame:=chg.same hbx (fun g hg=>(own_own hi.own g hg).1)
  refine np_op (vs:=[.int .i64 (i:Int),.int .i64 1]) (by simp [SV.val,upd,hi.e26]) ⟨.i64,_,_,_,rfl,rfl,?_⟩
  have hwrap:IntKind.i64.wrap ((i:Int)+1)=((i+1:Nat):Int):=by
   have:=hok.many
   rw [wrap64 _ (by omega) (by omega)];simp
  rw [hwrap]
  refine ih (i+1) d' _ w' (by omega) ?_
  refine ⟨?_,hi.chg.trans chg,?_,chg.row hi.rowg hgx hi.ng,rx',?_,nx',?_,chg.cell hi.cell hax hi.na,hi.ents.same hsame hrB,by simp [upd,hi.e0],by simp [upd,hi.e1],by simp [upd,hi.e24],by simp [upd,hi.e25],by simp [upd,SV.val]⟩
  ·refine hi.below.trans ⟨chg.os,chg.tape,chg.output,chg.size,fun k hk => ?_⟩
   exact hsame.2 k (Nat.lt_of_lt_of_le hk hi.own.2) hk
  ·rcases chg.own with e | e
   ·rw [e];exact hi.na
   ·intro e';have:=e _ e';have:=cell_lt hi.cell;omega
  ·rw [htake,← List.append_assoc];exact own'
  ·rcases chg.own with e | e
   ·rw [e];exact hi.ng
   ·intro e';have:=e g e';have:=hi.rowg.lt;omega
def EachOk (P:Program) (e:TypeId) (f g1:FuncId):Prop:=
 ∀ (w:World) (B bx:Nat) (a:Addr) (v:Value) (l:Tg) (d:Value) (out:Bs) (K:Value→World→Prop),w.cell? a=some v→a.block≠bx→d.ownBlock≠some a.block→RepT (· < B) (· < B) w l v→okTags l→Row w bx [d]→B≤bx→Own w B e d out→d.ownBlock≠some bx→out.length+(wrTagL l).length≤lim →
  (∀ d' w',Row w' bx [d']→Own w' B e d' (out++wrTagL l)→RowKit.Below B w w'→Chg bx d w d' w'→K (.tuple #[]) w')→In.wp P (.call f) [.pointer (some a),.func (.func g1) #[] #[ptr bx]] w K
theorem sorted_eq {l:Tg} (hs:l.Pairwise (·.1 < ·.1)) {ks:List Nat} (hp:ks.Perm (l.map (·.1))) (hk:ks.Pairwise (· ≤ ·)):ks=l.map (·.1):=by
 refine List.Perm.eq_of_pairwise (le:=(· ≤ ·)) ?_ hk ?_ hp
 ·intro a b _ _ h1 h2;omega
 ·refine List.Pairwise.map _ ?_ hs
  intro a b h;omega
theorem each_ok (hn:Named P) {I:J} {f:FuncId} (hf:fnP P f 2=some (p_each I)) (hsort:SortOk P I.slice I.each1 I.tSl) {g1:FuncId} (hcb:CbOk P I.e8 g1) (hfn:∃ fn,P.funcs[g1]?=some fn∧fn.body.isSome=true):EachOk P I.e8 f g1:=by
 intro w B bx a v l d out K hc hax hna hrep hok hrow hbx hown hne hlim hk
 rw [p_each_eq] at hf
 refine calls_of_np hn (vs:=[.pointer (some a),.func (.func g1) #[] #[ptr bx]]) hf fun η hη => ?_
 dsimp only
 have h0:η 0 = .pointer (some a):=hη 0 (by simp)
 have h1:η 1 = .func (.func g1) #[] #[ptr bx]:=hη 1 (by simp)
 refine ⟨⟨_,h0⟩,?_⟩
 refine np_op (vs:=[.pointer (some a)]) (by simp [SV.val,h0,add0]) ⟨a,v,rfl,hc,?_⟩
 have done:l=[]→K (.tuple #[]) w:=fun h=>by
  subst h
  exact hk d w hrow (by simpa [wrTagL] using hown) (RowKit.Below.refl _ _) (Chg.ofKeep (Keep.refl _ _))
 rcases hrep with ⟨rfl,rfl⟩ | ⟨r,es,rfl,hrB,hents⟩
 ·refine np_op (vs:=[.map none]) (by simp [SV.val,upd]) (.inl ⟨rfl,?_⟩)
  refine np_op (vs:=[goInt 0,.int .i64 0]) (by simp [SV.val,upd]) ⟨.i64,_,_,_,rfl,rfl,?_⟩
  refine np_ite true (by simp [SV.val,upd]) ?_
  simp only [if_true]
  exact done rfl
 have hlen:=hents.len
 refine np_op (vs:=[.map (some r)]) (by simp [SV.val,upd]) (.inr ⟨r,es,_,rfl,hents.at',?_⟩)
 rw [hlen]
 refine np_op (vs:=[goInt l.length,.int .i64 0]) (by simp [SV.val,upd]) ⟨.i64,_,_,_,rfl,rfl,?_⟩
 refine np_ite (((l.length:Int)) == 0) (by simp [SV.val,upd]) ?_
 by_cases hl0:l=[]
 ·have:(((l.length:Int)) == 0)=true:=by subst hl0;rfl
  rw [this]
  simp only [if_true]
  exact done hl0
 have hlpos:0<l.length:=List.length_pos_iff.2 hl0
 have hbne:(((l.length:Int)) == 0)=false:=by simp;omega
 rw [hbne]
 simp only [Bool.false_eq_true,if_false]
 have hmany:=hok.many
 refine np_op (vs:=[.pointer (some a)]) (by simp [SV.val,upd,h0,add0]) ⟨a,_,rfl,hc,?_⟩
 refine np_op (vs:=[.map (some r)]) (by simp [SV.val,upd]) (.inr ⟨r,es,_,rfl,hents.at',?_⟩)
 rw [hlen]
 refine np_op (vs:=[.int .i64 0,goInt l.length]) (by simp [SV.val,upd]) ⟨.i64,0,.i64,l.length,rfl,Nat.zero_le _,by omega,?_⟩
 obtain ⟨rm,km⟩:=alloc_row (w:=w) (List.replicate l.length [Value.int .u32 0]).flatten I.eG
 have hown1:OwnK (w.alloc (.cells (List.replicate l.length [Value.int .u32 0]).flatten.toArray I.eG)) w.heap.size I.eG (.slice (some ⟨w.heap.size,0,none⟩) 0 l.length) []:=by
  refine ⟨⟨by simp,.inr ⟨w.heap.size,l.length,_,rfl,Nat.le_refl _,heap_alloc_new w _,Nat.zero_le _,by simp only [maxLen];omega,by simp,by simp⟩⟩,km.size,_,_,rfl⟩
 generalize hw1:w.alloc (.cells (List.replicate l.length [Value.int .u32 0]).flatten.toArray I.eG)=w1 at rm km hown1
 refine np_op (vs:=[]) rfl (wp_alloc fun b8 w2 r8 hb8 k2 => ?_)
 refine ⟨⟨_,by simp only [upd];rfl⟩,?_⟩
 have hmb:w.heap.size≠b8:=by have:=rm.lt;omega
 refine np_op (vs:=[ptr b8,.slice (some ⟨w.heap.size,0,none⟩) 0 l.length]) (by simp [SV.val,upd,Addr.add]) (wp_store r8 (Fit.one rfl rfl) (by simp) fun w3 r83 k3 => ?_)
 have r83':Row w3 b8 [.slice (some ⟨w.heap.size,0,none⟩) 0 l.length]:=by simpa [put,Value.cells] using r83
 have hown3:OwnK w3 w.heap.size I.eG (.slice (some ⟨w.heap.size,0,none⟩) 0 l.length) []:=(hown1.keep k2 (fun g _ h=>by simp at h)).keep k3 (fun g hg h=>by
  simp only [Value.ownBlock,Option.some.injEq] at hg
  simp only [List.mem_singleton] at h
  omega)
 have kw3:Keep [] w w3:=by
  have h12:Keep [] w w2:=km.then k2
  refine h12.trans k3 fun x hx hlt => ?_
  simp only [List.mem_singleton] at hx;have:=km.size;omega
 have hcs3:Same (· < B) w w3:=kw3.same fun x hx=>by simp at hx
 have hc3:=cell_kp hc kw3
 have hents3:=hents.same hcs3 hrB
 refine np_op (vs:=[.pointer (some a)]) (by simp [SV.val,upd,h0,add0]) ⟨a,_,rfl,hc3,?_⟩
 refine np_op (vs:=[.map (some r)]) (by simp [SV.val,upd]) (.inr ⟨r,es,es.size,rfl,hents3.at',?_⟩)
 have kit:Keep [] w3 (w3.alloc (.mapIter (some r) es.size #[] es.size)):=⟨rfl,rfl,rfl,by simp,fun q hq _=>heap_alloc_old w3 _ q hq⟩
 have hit:(w3.alloc (.mapIter (some r) es.size #[] es.size)).heap[w3.heap.size]?=some (.mapIter (some r) es.size #[] es.size):=heap_alloc_new w3 _
 generalize hw4:w3.alloc (.mapIter (some r) es.size #[] es.size)=w4 at kit hit
 have hrlt:r<w.heap.size:=hents.lt
 have hb8lt:=r83'.lt
 refine ⟨es.size+1,?_⟩
 refine g_rounds (ok:=(· < B)) (l:=l) (a := .pointer (some a)) (fnv := .func (.func g1) #[] #[ptr bx]) (w0:=w) (r:=r) (b8:=b8) (it:=w3.heap.size) hents (by omega) _ ?_ es.size #[] [] (.slice (some ⟨w.heap.size,0,none⟩) 0 l.length) _ w4 (by simp) ?_
 rotate_left
 ·exact ⟨kw3.then kit,by rw [kit.block r hents3.lt (by simp)];exact hents3.at',hit,r83'.keep kit (by simp),hown3.keep kit (fun g _ h=>by simp at h),by simp [Value.ownBlock];omega,by simp [Value.ownBlock];have:=r83'.lt;have:=rm.lt;have:=k2.size;have:=k3.size;omega,by omega,by have:=kw3.size;omega,
   by have:=km.size;omega,kw3.size,hrlt,by simp,by simp,by simp,by simp [upd,h0],by simp [upd,h1],by simp [upd],by simp [upd]⟩
 intro seen ks dk η' w5 gi hall
 show (eTail I).wp P _ η' w5
 unfold eTail
 have hperm:ks.Perm (l.map (·.1)):=by
  have h1:seen.toList.Perm (List.range es.size):=(List.perm_ext_iff_of_nodup gi.nodup List.nodup_range).2 fun x=>⟨fun hx=>by simpa using gi.seenlt x hx,fun hx=>hall x (by simpa using hx)⟩
  rw [gi.keys]
  refine ((h1.map _).trans ?_).trans hents.keyOf.1
  have:(List.range es.size).map (fun i=>(es[i]?.map keyOf).getD 0)=es.toList.map keyOf:=by
   apply List.ext_getElem
   ·simp
   ·intro i h1 h2
    simp at h1 h2
    simp [h1]
  rw [this]
 have hklen:ks.length=l.length:=by have:=hperm.length_eq;simpa using this
 refine np_op (vs:=[ptr b8]) (by simp [SV.val,gi.e8,Addr.add]) (wp_load gi.var rfl ?_)
 obtain ⟨g,c,rest,hd,hNg,hglt,hkc,hrg⟩:=gi.own.block
 subst hd
 refine np_op (vs:=[.slice (some ⟨g,0,none⟩) ks.length c]) (by simp [SV.val,upd]) ⟨_,rfl,?_⟩
 refine np_op (vs:=[ptr b8]) (by simp [SV.val,upd,gi.e8,Addr.add]) (wp_mkfn ?_)
 have hg8:g≠b8:=by have:=gi.ne8;simpa [Value.ownBlock] using this
 refine np_op (vs:=[.iface I.tSl (.slice (some ⟨g,0,none⟩) ks.length c),.func (.func I.each1) #[] #[ptr b8]]) (by simp [SV.val,upd]) (hsort w5 g b8 c ks rest _ hrg hkc gi.var hg8 ?_ (by omega) fun keys' w6 hp6 hs6 r6 k6 => ?_)
 ·intro k hkm
  have:=hperm.subset hkm
  obtain ⟨p,hp,rfl⟩:=List.mem_map.1 this
  exact (hok.keys p hp).1
 have hkeys:keys'=l.map (·.1):=sorted_eq hok.sorted (hp6.trans hperm) hs6
 subst hkeys
 have r86:=gi.var.keep k6 (by simpa using Ne.symm hg8)
 refine np_op (vs:=[ptr b8]) (by simp [SV.val,upd,gi.e8,Addr.add]) (wp_load r86 rfl ?_)
 refine np_op (vs:=[.slice (some ⟨g,0,none⟩) ks.length c]) (by simp [SV.val,upd]) ⟨_,_,c,rfl,?_⟩
 rw [hklen]
 unfold eTail2
 refine ⟨l.length+1,?_⟩
 have kw6:Keep [] w w6:=gi.keep.trans k6 fun x hx hlt=>by simp only [List.mem_singleton] at hx;omega
 have hbxlt:=hrow.lt
 have same6:Same (· < B) w w6:=kw6.same fun x hx=>by simp at hx
 refine l_rounds (w0:=w) (d0:=d) (B:=B) (bx:=bx) (g:=g) (g1:=g1) (r:=r) (c:=c) (es:=es) (a:=a) (v := .map (some r)) (l:=l) (out:=out) (cs:=(l.map (·.1)).map ku++rest) hcb hfn hok rfl hrB hax hbx (by omega) (by have:=hown.2;omega) ?_ hlim _ ?_ l.length 0 d _ w6 (by omega) ?_
 ·intro i hi
  rw [List.getElem?_append_left (by simpa using hi)]
  simp [hi]
 ·intro d' η'' w7 li
  refine ⟨rfl,?_⟩
  have:=li.own
  rw [List.take_length] at this
  exact hk d' w7 li.rowx this li.below li.chg
 ·refine ⟨kw6.below (fun x hx=>by simp at hx) hown.2,Chg.ofKeep (kw6.mono fun x hx _=>by simp at hx),hna,r6,hrow.keep kw6 (by simp),by simpa [wrTagL] using hown.keep kw6 (fun g _ h=>by simp at h),hne,?_,cell_kp hc kw6,hents.same same6 hrB,by simp [upd,gi.e0],by simp [upd,gi.e1],by simp [upd,hklen],by simp [upd],by simp [upd,SV.val]⟩
  intro e
  have:=(own_own hown g e).2
  omega
def AppEachOk (P:Program) (e:TypeId) (f:FuncId):Prop:=
 ∀ (w:World) (B:Nat) (a:Addr) (v:Value) (l:Tg) (d:Value) (out:Bs) (K:Value→World→Prop),w.cell? a=some v→d.ownBlock≠some a.block→RepT (· < B) (· < B) w l v→okTags l→Own w B e d out→out.length+(wrTagL l).length≤lim →
  (∀ d' w',Own w' B e d' (out++wrTagL l)→Bl B w d w' d'→K d' w')→In.wp P (.call f) [.pointer (some a),d] w K
theorem appEach_ok (hn:Named P) {I:J} {f:FuncId} (hf:fnP P f 2=some (p_appendEach I)) (heach:EachOk P I.e8 I.each I.appendEach1):AppEachOk P I.e8 f:=by
 intro w B a v l d out K hc hna hrep hok hown hlim hk
 refine calls_of_np hn (vs:=[.pointer (some a),d]) hf fun η hη => ?_
 have h0:η 0 = .pointer (some a):=hη 0 (by simp)
 have h1:η 1=d:=hη 1 (by simp)
 have hdc:d.cells.toList=[d]∧d.cells.size=1:=by
  rcases hown.1.2 with ⟨rfl,_⟩ | ⟨g,cap,cur,rfl,_⟩<;>exact ⟨rfl,rfl⟩
 refine np_op (vs:=[d]) (by simp [SV.val,h1]) ⟨d,rfl,hdc.2,fun e => ?_⟩
 obtain ⟨rx,kx⟩:=alloc_row (w:=w) [d] e
 have hcells:d.cells=([d]:List Value).toArray:=by apply Array.ext';rw [hdc.1]
 rw [hcells]
 generalize hw1:w.alloc (.cells ([d]:List Value).toArray e)=w1 at rx kx
 refine ⟨⟨_,by simp only [upd];rfl⟩,?_⟩
 have same1:Same (· < B) w w1:=kx.same fun x hx=>by simp at hx
 have hown1:=hown.keep kx (fun g _ h=>by simp at h)
 have hrep1:RepT (· < B) (· < B) w1 l v:=by
  rcases hrep with h | ⟨r,es,h1,h2,h3⟩
  ·exact .inl h
  ·exact .inr ⟨r,es,h1,h2,h3.same same1 h2⟩
 refine np_op (vs:=[ptr w.heap.size]) (by simp [SV.val,upd,Addr.add]) (wp_mkfn ?_)
 refine np_op (vs:=[.pointer (some a),.func (.func I.appendEach1) #[] #[ptr w.heap.size]]) (by simp [SV.val,upd,h0]) (heach w1 B w.heap.size a v l d out _ (cell_kp hc kx) (by have:=cell_lt hc;omega) hna hrep1 hok rx hown.2 hown1 (fun e=>by have:=(own_own hown _ e).2;omega) hlim fun d' w' rx' own' bel both => ?_)
 refine np_op (vs:=[ptr w.heap.size]) (by simp [SV.val,upd,Addr.add]) (wp_load rx' rfl ?_)
 show K (pack [_]) w'
 have hlt:∀ x,x<w.heap.size→x≠w.heap.size:=fun x hx=>by omega
 have:=hk d' w' own' ⟨(kx.below (fun x hx=>by simp at hx) hown.2).trans bel,⟨⟨both.os.trans kx.os,both.tape.trans kx.tape,both.output.trans kx.output,Nat.le_trans kx.size both.size,fun q hq hn => ?_⟩,?_⟩⟩
 rotate_left
 ·rw [both.block q (Nat.lt_of_lt_of_le hq kx.size) (hlt q hq) (fun e=>hn e.symm)]
  exact kx.block q hq (by simp)
 ·exact both.own.imp id fun h g hg=>Nat.le_trans kx.size (h g hg)
 simpa [SV.val,upd,pack] using this
end
end Go.Kb

