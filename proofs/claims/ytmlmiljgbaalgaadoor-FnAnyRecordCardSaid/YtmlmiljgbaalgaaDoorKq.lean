/- The programs of the functions of tags, and of those whose regions draw their order; the numbers that differ stand in a record. -/
import Derived.Test.YtmlmiljgbaalgaaDoorKa
set_option linter.unusedSimpArgs false
set_option linter.unusedVariables false
namespace Go.Kb
open Go.Lx Go.Nx

structure J extends Ids where
  appendEach1 : FuncId
  be : Nat
  eG : TypeId
  each : FuncId
  each1 : FuncId
  set : FuncId
  slice : FuncId
  tSl : TypeId
  uint16 : FuncId
  uint32 : FuncId
  uint64 : FuncId

/- (*pub-kmsg/pub/kmsg.Tags).Len -/
def p_len (I : J) : FnP := ⟨.chk 0 <|
  .op .load [.q 0 0] 1 <|
  .op .lenM [.s 1] 2 <|
  .ret [.s 2], [.direct]⟩

/- (*pub-kmsg/pub/kmsg.Tags).AppendEach -/
def p_appendEach (I : J) : FnP := ⟨.op (.box 1) [.s 1] 2 <|
  .chk 2 <|
  .op (.mkfn I.appendEach1) [.q 2 0] 3 <|
  .op (.call I.each) [.s 0, .s 3] 4 <|
  .op .load [.q 2 0] 5 <|
  .ret [.s 5], [.direct]⟩

/- pub-kmsg/pub/kmsg/inner/kbin.AppendUuid -/
def p_appendUuid (I : J) : FnP := ⟨.op (.box 16) [.s 1] 2 <|
  .chk 2 <|
  .op (.sla 16) [.q 2 0] 3 <|
  .op (.app I.e8) [.s 0, .s 3] 4 <|
  .ret [.s 4], [.direct]⟩

/- (*pub-kmsg/pub/kmsg/inner/kbin.Reader).Int32 -/
def p_rInt32 (I : J) : FnP := ⟨.chk 0 <|
  .op .load [.q 0 0] 1 <|
  .op .len [.s 1] 2 <|
  .op (.bin .lss) [.s 2, .k (.int .i64 4)] 3 <|
  .ite (.s 3)
    (.op (.store 1) [.q 0 1, .k (.bool true)] 4 <|
    .op (.store 1) [.q 0 0, .k (.slice none 0 0)] 5 <|
    .ret [.k (.int .i32 0)])
    (.nil) <|
  .draw <|
  .look (.loadN 0) [.k (.pointer (some ⟨I.be, 0, none⟩))] 6 <|
  .look .load [.q 0 0] 7 <|
  .op (.call I.uint32) [.s 6, .s 7] 8 <|
  .keep .load [.q 0 0] 7 <|
  .keep (.loadN 0) [.k (.pointer (some ⟨I.be, 0, none⟩))] 6 <|
  .look (.cv .i32) [.s 8] 9 <|
  .op .load [.q 0 0] 10 <|
  .op (.sl 1 true false false) [.s 10, .k (.int .i64 4)] 11 <|
  .op (.store 1) [.q 0 0, .s 11] 12 <|
  .ret [.s 9], [.direct]⟩

/- (*pub-kmsg/pub/kmsg/inner/kbin.Reader).Int16 -/
def p_rInt16 (I : J) : FnP := ⟨.chk 0 <|
  .op .load [.q 0 0] 1 <|
  .op .len [.s 1] 2 <|
  .op (.bin .lss) [.s 2, .k (.int .i64 2)] 3 <|
  .ite (.s 3)
    (.op (.store 1) [.q 0 1, .k (.bool true)] 4 <|
    .op (.store 1) [.q 0 0, .k (.slice none 0 0)] 5 <|
    .ret [.k (.int .i16 0)])
    (.nil) <|
  .draw <|
  .look (.loadN 0) [.k (.pointer (some ⟨I.be, 0, none⟩))] 6 <|
  .look .load [.q 0 0] 7 <|
  .op (.call I.uint16) [.s 6, .s 7] 8 <|
  .keep .load [.q 0 0] 7 <|
  .keep (.loadN 0) [.k (.pointer (some ⟨I.be, 0, none⟩))] 6 <|
  .look (.cv .i16) [.s 8] 9 <|
  .op .load [.q 0 0] 10 <|
  .op (.sl 1 true false false) [.s 10, .k (.int .i64 2)] 11 <|
  .op (.store 1) [.q 0 0, .s 11] 12 <|
  .ret [.s 9], [.direct]⟩

/- pub-kmsg/pub/kmsg.internalReadTags -/
def p_internalReadTags (I : J) : FnP := ⟨.op (.alloc [.map none]) [] 1 <|
  .chk 1 <|
  .op (.alloc [.map none]) [] 2 <|
  .chk 2 <|
  .op (.call I.rUvarint) [.s 0] 3 <|
  .set 4 (.s 3) <|
  .loop
    (.op (.bin .gtr) [.s 4, .k (.int .u32 0)] 5 <|
    .ite (.s 5)
      (.nil)
      (.exit) <|
    .op (.call I.rUvarint) [.s 0] 6 <|
    .op (.call I.rUvarint) [.s 0] 7 <|
    .op (.cv .i64) [.s 7] 8 <|
    .op (.call I.rSpan) [.s 0, .s 8] 9 <|
    .op (.call I.set) [.q 2 0, .s 6, .s 9] 10 <|
    .op (.bin .sub) [.s 4, .k (.int .u32 1)] 11 <|
    .set 12 (.s 11) <|
    .set 4 (.s 12) <|
    .nil) <|
  .op (.loadN 1) [.q 2 0] 13 <|
  .op (.store 1) [.q 1 0, .s 13] 14 <|
  .ret [.q 1 0], [.cells 1]⟩

/- (*pub-kmsg/pub/kmsg.Tags).Each -/
def p_each (I : J) : FnP := ⟨.chk 0 <|
  .op .load [.q 0 0] 2 <|
  .op .lenM [.s 2] 3 <|
  .op (.bin .eql) [.s 3, .k (.int .i64 0)] 4 <|
  .ite (.s 4)
    (.ret [])
    (.nil) <|
  .op .load [.q 0 0] 5 <|
  .op .lenM [.s 5] 6 <|
  .op (.mk I.eG [.int .u32 0]) [.k (.int .i64 0), .s 6] 7 <|
  .op (.alloc [.slice none 0 0]) [] 8 <|
  .chk 8 <|
  .op (.store 1) [.q 8 0, .s 7] 9 <|
  .op .load [.q 0 0] 10 <|
  .op .rangeM [.s 10] 11 <|
  .loop
    (.op .nextM [.s 11] 12 <|
    .op (.ex 0) [.s 12] 13 <|
    .ite (.s 13)
      (.nil)
      (.exit) <|
    .op .entM [.s 11] 14 <|
    .op (.ex 0) [.s 14] 15 <|
    .op .load [.q 8 0] 16 <|
    .op (.bslG 1) [.s 15] 17 <|
    .op (.appG I.eG 1) [.s 16, .s 17] 18 <|
    .op (.store 1) [.q 8 0, .s 18] 19 <|
    .nil) <|
  .op .load [.q 8 0] 20 <|
  .op (.mkif I.tSl) [.s 20] 21 <|
  .op (.mkfn I.each1) [.q 8 0] 22 <|
  .op (.call I.slice) [.s 21, .s 22] 23 <|
  .op .load [.q 8 0] 24 <|
  .op .len [.s 24] 25 <|
  .set 26 (.k (.int .i64 0)) <|
  .loop
    (.op (.bin .lss) [.s 26, .s 25] 27 <|
    .ite (.s 27)
      (.nil)
      (.exit) <|
    .op (.ia 1) [.s 24, .s 26] 28 <|
    .chk 28 <|
    .op .load [.q 28 0] 29 <|
    .op .load [.q 0 0] 30 <|
    .op (.lookM (.slice none 0 0)) [.s 30, .s 29] 31 <|
    .op .callV [.s 1, .s 29, .s 31] 32 <|
    .op (.bin .add) [.s 26, .k (.int .i64 1)] 33 <|
    .set 34 (.s 33) <|
    .set 26 (.s 34) <|
    .nil) <|
  .nil, []⟩

/- (*pub-kmsg/pub/kmsg.Tags).AppendEach1 -/
def p_appendEach1 (I : J) : FnP := ⟨.op .load [.s 2] 3 <|
  .op (.call I.appendUvarint) [.s 3, .s 0] 4 <|
  .op (.store 1) [.s 2, .s 4] 5 <|
  .op .load [.s 2] 6 <|
  .op .len [.s 1] 7 <|
  .op (.cv .u32) [.s 7] 8 <|
  .op (.call I.appendUvarint) [.s 6, .s 8] 9 <|
  .op (.store 1) [.s 2, .s 9] 10 <|
  .op .load [.s 2] 11 <|
  .op (.app I.e8) [.s 11, .s 1] 12 <|
  .op (.store 1) [.s 2, .s 12] 13 <|
  .nil, []⟩

/- (*pub-kmsg/pub/kmsg.Tags).Set -/
def p_set (I : J) : FnP := ⟨.chk 0 <|
  .op .load [.q 0 0] 3 <|
  .op (.isNil 3 false) [.s 3] 4 <|
  .ite (.s 4)
    (.op .mkMap [] 5 <|
    .op (.store 1) [.q 0 0, .s 5] 6 <|
    .nil)
    (.nil) <|
  .op .load [.q 0 0] 7 <|
  .op .mapSet [.s 7, .s 1, .s 2] 8 <|
  .nil, []⟩

/- (*pub-kmsg/pub/kmsg/inner/kbin.Reader).Uint16 -/
def p_rUint16 (I : J) : FnP := ⟨.chk 0 <|
  .op .load [.q 0 0] 1 <|
  .op .len [.s 1] 2 <|
  .op (.bin .lss) [.s 2, .k (.int .i64 2)] 3 <|
  .ite (.s 3)
    (.op (.store 1) [.q 0 1, .k (.bool true)] 4 <|
    .op (.store 1) [.q 0 0, .k (.slice none 0 0)] 5 <|
    .ret [.k (.int .u16 0)])
    (.nil) <|
  .draw <|
  .look (.loadN 0) [.k (.pointer (some ⟨I.be, 0, none⟩))] 6 <|
  .look .load [.q 0 0] 7 <|
  .op (.call I.uint16) [.s 6, .s 7] 8 <|
  .keep .load [.q 0 0] 7 <|
  .keep (.loadN 0) [.k (.pointer (some ⟨I.be, 0, none⟩))] 6 <|
  .op .load [.q 0 0] 9 <|
  .op (.sl 1 true false false) [.s 9, .k (.int .i64 2)] 10 <|
  .op (.store 1) [.q 0 0, .s 10] 11 <|
  .ret [.s 8], [.direct]⟩

/- (*pub-kmsg/pub/kmsg/inner/kbin.Reader).Uuid -/
def p_rUuid (I : J) : FnP := ⟨.op (.alloc [.int .u8 0, .int .u8 0, .int .u8 0, .int .u8 0, .int .u8 0, .int .u8 0, .int .u8 0, .int .u8 0, .int .u8 0, .int .u8 0, .int .u8 0, .int .u8 0, .int .u8 0, .int .u8 0, .int .u8 0, .int .u8 0]) [] 1 <|
  .chk 1 <|
  .op (.alloc [.int .u8 0, .int .u8 0, .int .u8 0, .int .u8 0, .int .u8 0, .int .u8 0, .int .u8 0, .int .u8 0, .int .u8 0, .int .u8 0, .int .u8 0, .int .u8 0, .int .u8 0, .int .u8 0, .int .u8 0, .int .u8 0]) [] 2 <|
  .chk 2 <|
  .draw <|
  .look (.sla 16) [.q 2 0] 3 <|
  .op (.call I.rSpan) [.s 0, .k (.int .i64 16)] 4 <|
  .keep (.sla 16) [.q 2 0] 3 <|
  .op .cpy [.s 3, .s 4] 5 <|
  .keep (.sla 16) [.q 2 0] 3 <|
  .op (.loadN 16) [.q 2 0] 6 <|
  .op (.store 16) [.q 1 0, .s 6] 7 <|
  .ret [.q 1 0], [.cells 16]⟩

/- (encoding/binary.bigEndian).Uint32 -/
def p_uint32 (I : J) : FnP := ⟨.op (.box 0) [.s 0] 2 <|
  .chk 2 <|
  .op (.ia 1) [.s 1, .k (.int .i64 3)] 3 <|
  .chk 3 <|
  .op .load [.q 3 0] 4 <|
  .draw <|
  .look (.ia 1) [.s 1, .k (.int .i64 3)] 5 <|
  .chk 5 <|
  .look .load [.q 5 0] 6 <|
  .look (.cv .u32) [.s 6] 7 <|
  .look (.ia 1) [.s 1, .k (.int .i64 2)] 8 <|
  .chk 8 <|
  .look .load [.q 8 0] 9 <|
  .look (.cv .u32) [.s 9] 10 <|
  .look (.sh .shl) [.s 10, .k (.int .u64 8)] 11 <|
  .look (.bin .or) [.s 7, .s 11] 12 <|
  .look (.ia 1) [.s 1, .k (.int .i64 1)] 13 <|
  .chk 13 <|
  .look .load [.q 13 0] 14 <|
  .look (.cv .u32) [.s 14] 15 <|
  .look (.sh .shl) [.s 15, .k (.int .u64 16)] 16 <|
  .look (.bin .or) [.s 12, .s 16] 17 <|
  .look (.ia 1) [.s 1, .k (.int .i64 0)] 18 <|
  .chk 18 <|
  .look .load [.q 18 0] 19 <|
  .look (.cv .u32) [.s 19] 20 <|
  .look (.sh .shl) [.s 20, .k (.int .u64 24)] 21 <|
  .look (.bin .or) [.s 17, .s 21] 22 <|
  .ret [.s 22], [.direct]⟩

/- (*pub-kmsg/pub/kmsg/inner/kbin.Reader).readUint64 -/
def p_rreadUint64 (I : J) : FnP := ⟨.chk 0 <|
  .op .load [.q 0 0] 1 <|
  .op .len [.s 1] 2 <|
  .op (.bin .lss) [.s 2, .k (.int .i64 8)] 3 <|
  .ite (.s 3)
    (.op (.store 1) [.q 0 1, .k (.bool true)] 4 <|
    .op (.store 1) [.q 0 0, .k (.slice none 0 0)] 5 <|
    .ret [.k (.int .u64 0)])
    (.nil) <|
  .draw <|
  .look (.loadN 0) [.k (.pointer (some ⟨I.be, 0, none⟩))] 6 <|
  .look .load [.q 0 0] 7 <|
  .op (.call I.uint64) [.s 6, .s 7] 8 <|
  .keep .load [.q 0 0] 7 <|
  .keep (.loadN 0) [.k (.pointer (some ⟨I.be, 0, none⟩))] 6 <|
  .op .load [.q 0 0] 9 <|
  .op (.sl 1 true false false) [.s 9, .k (.int .i64 8)] 10 <|
  .op (.store 1) [.q 0 0, .s 10] 11 <|
  .ret [.s 8], [.direct]⟩

/- (encoding/binary.bigEndian).Uint16 -/
def p_uint16 (I : J) : FnP := ⟨.op (.box 0) [.s 0] 2 <|
  .chk 2 <|
  .op (.ia 1) [.s 1, .k (.int .i64 1)] 3 <|
  .chk 3 <|
  .op .load [.q 3 0] 4 <|
  .draw <|
  .look (.ia 1) [.s 1, .k (.int .i64 1)] 5 <|
  .chk 5 <|
  .look .load [.q 5 0] 6 <|
  .look (.cv .u16) [.s 6] 7 <|
  .look (.ia 1) [.s 1, .k (.int .i64 0)] 8 <|
  .chk 8 <|
  .look .load [.q 8 0] 9 <|
  .look (.cv .u16) [.s 9] 10 <|
  .look (.sh .shl) [.s 10, .k (.int .u64 8)] 11 <|
  .look (.bin .or) [.s 7, .s 11] 12 <|
  .ret [.s 12], [.direct]⟩

/- (*pub-kmsg/pub/kmsg.Tags).Each1 -/
def p_each1 (I : J) : FnP := ⟨.draw <|
  .look .load [.s 2] 3 <|
  .look (.ia 1) [.s 3, .s 0] 4 <|
  .chk 4 <|
  .look .load [.q 4 0] 5 <|
  .look .load [.s 2] 6 <|
  .look (.ia 1) [.s 6, .s 1] 7 <|
  .chk 7 <|
  .look .load [.q 7 0] 8 <|
  .look (.bin .lss) [.s 5, .s 8] 9 <|
  .ret [.s 9], [.direct]⟩

/- pub-kmsg/pub/kmsg/inner/kbin.Uvarint -/
def p_uvarint (I : J) : FnP := ⟨.op .len [.s 0] 1 <|
  .op (.bin .lss) [.s 1, .k (.int .i64 1)] 2 <|
  .ite (.s 2)
    (.ret [.k (.int .u32 0), .k (.int .i64 0)])
    (.op (.ia 1) [.s 0, .k (.int .i64 0)] 3 <|
    .chk 3 <|
    .op .load [.q 3 0] 4 <|
    .op (.bin .and) [.s 4, .k (.int .u8 127)] 5 <|
    .op (.cv .u32) [.s 5] 6 <|
    .op (.ia 1) [.s 0, .k (.int .i64 0)] 7 <|
    .chk 7 <|
    .op .load [.q 7 0] 8 <|
    .op (.bin .and) [.s 8, .k (.int .u8 128)] 9 <|
    .op (.bin .eql) [.s 9, .k (.int .u8 0)] 10 <|
    .ite (.s 10)
      (.ret [.s 6, .k (.int .i64 1)])
      (.op .len [.s 0] 11 <|
      .op (.bin .lss) [.s 11, .k (.int .i64 2)] 12 <|
      .ite (.s 12)
        (.ret [.k (.int .u32 0), .k (.int .i64 0)])
        (.op (.ia 1) [.s 0, .k (.int .i64 1)] 13 <|
        .chk 13 <|
        .op .load [.q 13 0] 14 <|
        .op (.bin .and) [.s 14, .k (.int .u8 127)] 15 <|
        .op (.cv .u32) [.s 15] 16 <|
        .op (.sh .shl) [.s 16, .k (.int .u64 7)] 17 <|
        .op (.bin .or) [.s 6, .s 17] 18 <|
        .op (.ia 1) [.s 0, .k (.int .i64 1)] 19 <|
        .chk 19 <|
        .op .load [.q 19 0] 20 <|
        .op (.bin .and) [.s 20, .k (.int .u8 128)] 21 <|
        .op (.bin .eql) [.s 21, .k (.int .u8 0)] 22 <|
        .ite (.s 22)
          (.ret [.s 18, .k (.int .i64 2)])
          (.op .len [.s 0] 23 <|
          .op (.bin .lss) [.s 23, .k (.int .i64 3)] 24 <|
          .ite (.s 24)
            (.ret [.k (.int .u32 0), .k (.int .i64 0)])
            (.op (.ia 1) [.s 0, .k (.int .i64 2)] 25 <|
            .chk 25 <|
            .op .load [.q 25 0] 26 <|
            .op (.bin .and) [.s 26, .k (.int .u8 127)] 27 <|
            .op (.cv .u32) [.s 27] 28 <|
            .op (.sh .shl) [.s 28, .k (.int .u64 14)] 29 <|
            .op (.bin .or) [.s 18, .s 29] 30 <|
            .op (.ia 1) [.s 0, .k (.int .i64 2)] 31 <|
            .chk 31 <|
            .op .load [.q 31 0] 32 <|
            .op (.bin .and) [.s 32, .k (.int .u8 128)] 33 <|
            .op (.bin .eql) [.s 33, .k (.int .u8 0)] 34 <|
            .ite (.s 34)
              (.ret [.s 30, .k (.int .i64 3)])
              (.op .len [.s 0] 35 <|
              .op (.bin .lss) [.s 35, .k (.int .i64 4)] 36 <|
              .ite (.s 36)
                (.ret [.k (.int .u32 0), .k (.int .i64 0)])
                (.op (.ia 1) [.s 0, .k (.int .i64 3)] 37 <|
                .chk 37 <|
                .op .load [.q 37 0] 38 <|
                .op (.bin .and) [.s 38, .k (.int .u8 127)] 39 <|
                .op (.cv .u32) [.s 39] 40 <|
                .op (.sh .shl) [.s 40, .k (.int .u64 21)] 41 <|
                .op (.bin .or) [.s 30, .s 41] 42 <|
                .op (.ia 1) [.s 0, .k (.int .i64 3)] 43 <|
                .chk 43 <|
                .op .load [.q 43 0] 44 <|
                .op (.bin .and) [.s 44, .k (.int .u8 128)] 45 <|
                .op (.bin .eql) [.s 45, .k (.int .u8 0)] 46 <|
                .ite (.s 46)
                  (.ret [.s 42, .k (.int .i64 4)])
                  (.op .len [.s 0] 47 <|
                  .op (.bin .lss) [.s 47, .k (.int .i64 5)] 48 <|
                  .ite (.s 48)
                    (.ret [.k (.int .u32 0), .k (.int .i64 0)])
                    (.op (.ia 1) [.s 0, .k (.int .i64 4)] 49 <|
                    .chk 49 <|
                    .op .load [.q 49 0] 50 <|
                    .op (.cv .u32) [.s 50] 51 <|
                    .op (.sh .shl) [.s 51, .k (.int .u64 28)] 52 <|
                    .op (.bin .or) [.s 42, .s 52] 53 <|
                    .op (.ia 1) [.s 0, .k (.int .i64 4)] 54 <|
                    .chk 54 <|
                    .op .load [.q 54 0] 55 <|
                    .op (.bin .leq) [.s 55, .k (.int .u8 15)] 56 <|
                    .ite (.s 56)
                      (.ret [.s 53, .k (.int .i64 5)])
                      (.nil) <|
                    .ret [.k (.int .u32 0), .k (.int .i64 (-5))]) <|
                  .nil) <|
                .nil) <|
              .nil) <|
            .nil) <|
          .nil) <|
        .nil) <|
      .nil) <|
    .nil) <|
  .nil, [.direct, .direct]⟩

/- (encoding/binary.bigEndian).Uint64 -/
def p_uint64 (I : J) : FnP := ⟨.op (.box 0) [.s 0] 2 <|
  .chk 2 <|
  .op (.ia 1) [.s 1, .k (.int .i64 7)] 3 <|
  .chk 3 <|
  .op .load [.q 3 0] 4 <|
  .draw <|
  .look (.ia 1) [.s 1, .k (.int .i64 7)] 5 <|
  .chk 5 <|
  .look .load [.q 5 0] 6 <|
  .look (.cv .u64) [.s 6] 7 <|
  .look (.ia 1) [.s 1, .k (.int .i64 6)] 8 <|
  .chk 8 <|
  .look .load [.q 8 0] 9 <|
  .look (.cv .u64) [.s 9] 10 <|
  .look (.sh .shl) [.s 10, .k (.int .u64 8)] 11 <|
  .look (.bin .or) [.s 7, .s 11] 12 <|
  .look (.ia 1) [.s 1, .k (.int .i64 5)] 13 <|
  .chk 13 <|
  .look .load [.q 13 0] 14 <|
  .look (.cv .u64) [.s 14] 15 <|
  .look (.sh .shl) [.s 15, .k (.int .u64 16)] 16 <|
  .look (.bin .or) [.s 12, .s 16] 17 <|
  .look (.ia 1) [.s 1, .k (.int .i64 4)] 18 <|
  .chk 18 <|
  .look .load [.q 18 0] 19 <|
  .look (.cv .u64) [.s 19] 20 <|
  .look (.sh .shl) [.s 20, .k (.int .u64 24)] 21 <|
  .look (.bin .or) [.s 17, .s 21] 22 <|
  .look (.ia 1) [.s 1, .k (.int .i64 3)] 23 <|
  .chk 23 <|
  .look .load [.q 23 0] 24 <|
  .look (.cv .u64) [.s 24] 25 <|
  .look (.sh .shl) [.s 25, .k (.int .u64 32)] 26 <|
  .look (.bin .or) [.s 22, .s 26] 27 <|
  .look (.ia 1) [.s 1, .k (.int .i64 2)] 28 <|
  .chk 28 <|
  .look .load [.q 28 0] 29 <|
  .look (.cv .u64) [.s 29] 30 <|
  .look (.sh .shl) [.s 30, .k (.int .u64 40)] 31 <|
  .look (.bin .or) [.s 27, .s 31] 32 <|
  .look (.ia 1) [.s 1, .k (.int .i64 1)] 33 <|
  .chk 33 <|
  .look .load [.q 33 0] 34 <|
  .look (.cv .u64) [.s 34] 35 <|
  .look (.sh .shl) [.s 35, .k (.int .u64 48)] 36 <|
  .look (.bin .or) [.s 32, .s 36] 37 <|
  .look (.ia 1) [.s 1, .k (.int .i64 0)] 38 <|
  .chk 38 <|
  .look .load [.q 38 0] 39 <|
  .look (.cv .u64) [.s 39] 40 <|
  .look (.sh .shl) [.s 40, .k (.int .u64 56)] 41 <|
  .look (.bin .or) [.s 37, .s 41] 42 <|
  .ret [.s 42], [.direct]⟩

end Go.Kb

/- Numbers of several octets, the highest one first; groups of seven bits; 16 octets. -/
namespace Go.Kb
open Go.Lx Go.Nx Go.Km Go.Mx

set_option linter.unusedSimpArgs false
set_option linter.unusedVariables false

section
variable {P : Program}

theorem np_look {i : In} {args : List SV} {n : Nat} {k : NP} {Q : Out → (Nat → Value) → World → Prop} {η : Nat → Value} {w : World} {vs : List Value} (hv : args.map (SV.val η) = vs) (h : In.wp P i vs w fun v w' => w' = w ∧ k.wp P Q (upd η n v) w') :
    (NP.look i args n k).wp P Q η w := by
  show In.wp P i (args.map (SV.val η)) w _
  rw [hv]
  exact h

theorem np_keep {i : In} {args : List SV} {n : Nat} {k : NP} {Q : Out → (Nat → Value) → World → Prop} {η : Nat → Value} {w : World} {vs : List Value} (hv : args.map (SV.val η) = vs) (h : In.wp P i vs w fun v w' => v = η n ∧ w' = w) (hk : k.wp P Q η w) :
    (NP.keep i args n k).wp P Q η w := by
  refine ⟨?_, hk⟩
  show In.wp P i (args.map (SV.val η)) w _
  rw [hv]
  exact h

theorem np_draw {k : NP} {Q : Out → (Nat → Value) → World → Prop} {η : Nat → Value} {w : World} (h : k.wp P Q η { w with drawn := w.drawn + 1 }) : (NP.draw k).wp P Q η w := h

theorem or_nat (k : IntKind) (hk : k.signed = false) (x y : Nat) (hx : x < 2 ^ k.bits) (hy : y < 2 ^ k.bits) : binV .or k (x : Int) (y : Int) = some (.int k ((x ||| y : Nat) : Int)) := by
  have e : ∀ m : Nat, BitVec.ofInt k.bits (m : Int) = BitVec.ofNat k.bits m := by intro m; simp
  have e2 : (BitVec.ofInt k.bits (x : Int) ||| BitVec.ofInt k.bits (y : Int)).toNat = (x ||| y) := by
    rw [e, e, BitVec.toNat_or, BitVec.toNat_ofNat, BitVec.toNat_ofNat, Nat.mod_eq_of_lt hx, Nat.mod_eq_of_lt hy]
  show some (Value.int k (k.wrap (((BitVec.ofInt k.bits (x : Int) ||| BitVec.ofInt k.bits (y : Int)).toNat : Nat) : Int))) = _
  rw [e2, wrap_usn k hk]
  have h : (x ||| y) < 2 ^ k.bits := Nat.or_lt_two_pow hx hy
  have : usn k.bits ((x ||| y : Nat) : Int) = (x ||| y) := by
    unfold usn
    have h2 : (((x ||| y : Nat) : Int)) % ((2 : Int) ^ k.bits) = ((x ||| y : Nat) : Int) := Int.emod_eq_of_lt (by omega) (by exact_mod_cast h)
    rw [h2]; rfl
  rw [this]

theorem wrap_nat (k : IntKind) (hk : k.signed = false) (x : Nat) (hx : x < 2 ^ k.bits) : k.wrap (x : Int) = (x : Int) := by
  rw [wrap_usn k hk]
  unfold usn
  have h2 : ((x : Int)) % ((2 : Int) ^ k.bits) = (x : Int) := Int.emod_eq_of_lt (by omega) (by exact_mod_cast hx)
  rw [h2]; rfl

theorem shl_nat (k : IntKind) (hk : k.signed = false) (x s : Nat) (hs : s ≤ k.bits) (hx : x * 2 ^ s < 2 ^ k.bits) : shV .shl k (x : Int) s = some (.int k ((x * 2 ^ s : Nat) : Int)) := by
  have e : (x : Int) * (2 : Int) ^ s = ((x * 2 ^ s : Nat) : Int) := by simp
  show some (Value.int k (k.wrap ((x : Int) * 2 ^ (min s k.bits)))) = _
  rw [Nat.min_eq_left hs, e, wrap_nat k hk _ hx]

theorem or_add (A b s : Nat) (hA : A < 2 ^ s) : (A ||| (b * 2 ^ s)) = A + b * 2 ^ s := by
  have := Nat.shiftLeft_add_eq_or_of_lt hA b
  rw [Nat.shiftLeft_eq] at this
  rw [Nat.or_comm, ← this, Nat.add_comm]

/-- An octet of a slice is looked at. -/
theorem byteL {η : Nat → Value} {w : World} {k : NP} {Q : Out → (Nat → Value) → World → Prop} {x n m j : Nat} {a : Addr} {bs : Bs} {c : Nat} (hx : η x = .slice (some a) bs.length c) (hb : BytesAt w a bs) (hj : j < bs.length) (hxn : x ≠ n) (hxm : x ≠ m)
    (hk : ∀ η' : Nat → Value, η' m = u8 bs[j] → (∀ i, i ≠ n → i ≠ m → η' i = η i) → k.wp P Q η' w) :
    (NP.look (.ia 1) [.s x, .k (.int .i64 (j : Int))] n <| .chk n <| .look .load [.q n 0] m k).wp P Q η w := by
  refine np_look (vs := [.slice (some a) bs.length c, .int .i64 (j : Int)]) (by simp [SV.val, hx]) ⟨a, _, c, .i64, j, rfl, hj, rfl, ?_⟩
  refine ⟨⟨_, by simp only [upd]; rfl⟩, ?_⟩
  refine np_look (vs := [.pointer (some (a.add (j * 1)))]) (by simp [SV.val, upd, add0]) ⟨_, u8 bs[j], rfl, by rw [Nat.mul_one]; exact hb j hj, rfl, ?_⟩
  exact hk _ (by simp [upd]) fun i h1 h2 => by simp [upd, h1, h2]

theorem byteO {η : Nat → Value} {w : World} {k : NP} {Q : Out → (Nat → Value) → World → Prop} {x n m j : Nat} {a : Addr} {bs : Bs} {c : Nat} (hx : η x = .slice (some a) bs.length c) (hb : BytesAt w a bs) (hj : j < bs.length) (hxn : x ≠ n) (hxm : x ≠ m)
    (hk : ∀ η' : Nat → Value, η' m = u8 bs[j] → (∀ i, i ≠ n → i ≠ m → η' i = η i) → k.wp P Q η' w) :
    (NP.op (.ia 1) [.s x, .k (.int .i64 (j : Int))] n <| .chk n <| .op .load [.q n 0] m k).wp P Q η w := by
  refine np_op (vs := [.slice (some a) bs.length c, .int .i64 (j : Int)]) (by simp [SV.val, hx]) ⟨a, _, c, .i64, j, rfl, hj, ?_⟩
  refine ⟨⟨_, by simp only [upd]; rfl⟩, ?_⟩
  refine np_op (vs := [.pointer (some (a.add (j * 1)))]) (by simp [SV.val, upd, add0]) ⟨_, u8 bs[j], rfl, by rw [Nat.mul_one]; exact hb j hj, ?_⟩
  exact hk _ (by simp [upd]) fun i h1 h2 => by simp [upd, h1, h2]

theorem cvL {η : Nat → Value} {w : World} {k : NP} {Q : Out → (Nat → Value) → World → Prop} {kd : IntKind} (hkd : kd.signed = false) (h8 : 8 ≤ kd.bits) {x n : Nat} {b : UInt8} (hx : η x = u8 b)
    (hk : ∀ η' : Nat → Value, η' n = .int kd (b.toNat : Int) → (∀ i, i ≠ n → η' i = η i) → k.wp P Q η' w) : (NP.look (.cv kd) [.s x] n k).wp P Q η w := by
  have hb : b.toNat < 2 ^ kd.bits := Nat.lt_of_lt_of_le b.toNat_lt (Nat.pow_le_pow_right (by omega) h8)
  refine np_look (vs := [u8 b]) (by simp [SV.val, hx]) ⟨.u8, _, rfl, rfl, ?_⟩
  exact hk _ (by simp [upd, wrap_nat kd hkd _ hb]) fun i h1 => by simp [upd, h1]

/-- One octet more. -/
theorem accL {η : Nat → Value} {w : World} {k : NP} {Q : Out → (Nat → Value) → World → Prop} {kd : IntKind} (hkd : kd.signed = false) {x n1 n2 n3 n4 n5 acc j s A : Nat} {a : Addr} {bs : Bs} {c : Nat} (hx : η x = .slice (some a) bs.length c) (hb : BytesAt w a bs) (hj : j < bs.length)
    (hne : x ∉ [n1, n2, n3, n4, n5] ∧ acc ∉ [n1, n2, n3, n4]) (hnd : [n1, n2, n3, n4].Nodup) (hs : s + 8 ≤ kd.bits) (hA : A < 2 ^ s) (hacc : η acc = .int kd (A : Int))
    (hk : ∀ η' : Nat → Value, η' n5 = .int kd ((A + bs[j].toNat * 2 ^ s : Nat) : Int) → η' x = η x → (A + bs[j].toNat * 2 ^ s < 2 ^ (s + 8)) → k.wp P Q η' w) :
    (NP.look (.ia 1) [.s x, .k (.int .i64 (j : Int))] n1 <| .chk n1 <| .look .load [.q n1 0] n2 <| .look (.cv kd) [.s n2] n3 <| .look (.sh .shl) [.s n3, .k (.int .u64 (s : Int))] n4 <| .look (.bin .or) [.s acc, .s n4] n5 k).wp P Q η w := by
  simp only [List.mem_cons, List.not_mem_nil, or_false, not_or] at hne
  obtain ⟨⟨x1, x2, x3, x4, x5⟩, y1, y2, y3, y4⟩ := hne
  simp only [List.nodup_cons, List.mem_cons, List.not_mem_nil, or_false, not_or, List.nodup_nil, and_true, not_false_eq_true] at hnd
  obtain ⟨⟨d12, d13, d14⟩, ⟨d23, d24⟩, d34⟩ := hnd
  have hb8 := bs[j].toNat_lt
  have hlt : bs[j].toNat * 2 ^ s < 2 ^ (s + 8) := by rw [Nat.pow_add, Nat.mul_comm (2 ^ s)]; exact Nat.mul_lt_mul_of_pos_right hb8 (Nat.pow_pos (by omega))
  have hle : 2 ^ (s + 8) ≤ 2 ^ kd.bits := Nat.pow_le_pow_right (by omega) hs
  have hA' : A < 2 ^ kd.bits := Nat.lt_of_lt_of_le hA (Nat.pow_le_pow_right (by omega) (by omega))
  have hsum : A + bs[j].toNat * 2 ^ s < 2 ^ (s + 8) := by
    have h1 : bs[j].toNat * 2 ^ s ≤ 255 * 2 ^ s := Nat.mul_le_mul_right _ (by omega)
    have h2 : 2 ^ (s + 8) = 256 * 2 ^ s := by rw [Nat.pow_add, Nat.mul_comm]
    omega
  refine byteL hx hb hj x1 x2 fun η1 e1 f1 => ?_
  refine cvL hkd (by omega) e1 fun η2 e2 f2 => ?_
  refine np_look (vs := [.int kd (bs[j].toNat : Int), .int .u64 (s : Int)]) (by simp [SV.val, e2]) ⟨kd, _, .u64, s, _, rfl, shl_nat kd hkd _ s (by omega) (by omega), rfl, ?_⟩
  refine np_look (vs := [.int kd (A : Int), .int kd ((bs[j].toNat * 2 ^ s : Nat) : Int)]) (by simp only [List.map, SV.val, upd, if_true, if_neg y4]; rw [f2 acc y3, f1 acc y1 y2, hacc]) ⟨kd, _, _, _, rfl, or_nat kd hkd _ _ hA' (by omega), rfl, ?_⟩
  refine hk _ (by simp [upd, or_add A _ s hA]) ?_ hsum
  simp only [upd, if_neg x5, if_neg x4]
  rw [f2 x x3, f1 x x1 x2]

def BeOk (P : Program) (f : FuncId) (k : Nat) (kd : IntKind) : Prop :=
  ∀ (w : World) (a : Addr) (bs : Bs) (c : Nat) (K : Value → World → Prop), BytesIn (fun _ => True) w a bs → k ≤ bs.length → (∀ w', Keep [] w w' → K (.int kd ((ofBe (bs.take k) : Nat) : Int)) w') → In.wp P (.call f) [.agg #[], .slice (some a) bs.length c] w K

theorem keep_drawn (w : World) : Keep [] w { w with drawn := w.drawn + 1 } := ⟨rfl, rfl, rfl, Nat.le_refl _, fun _ _ _ => rfl⟩

/-- The receiver's block, the bounds' check. -/
theorem be_head {w : World} {a : Addr} {bs : Bs} {c j : Nat} {k : NP} {Q : Out → (Nat → Value) → World → Prop} {η : Nat → Value} (h0 : η 0 = .agg #[]) (h1 : η 1 = .slice (some a) bs.length c) (hb : BytesIn (fun _ => True) w a bs) (hj : j < bs.length)
    (hk : ∀ η' w', Keep [] w w' → η' 1 = .slice (some a) bs.length c → BytesAt w' a bs → k.wp P Q η' w') :
    (NP.op (.box 0) [.s 0] 2 <| .chk 2 <| .op (.ia 1) [.s 1, .k (.int .i64 (j : Int))] 3 <| .chk 3 <| .op .load [.q 3 0] 4 <| .draw k).wp P Q η w := by
  refine np_op (vs := [.agg #[]]) (by simp [SV.val, h0]) ⟨_, rfl, rfl, fun e => ?_⟩
  refine ⟨⟨_, by simp only [upd]; rfl⟩, ?_⟩
  have k1 : Keep [] w (w.alloc (.cells (Value.agg #[]).cells e)) := ⟨rfl, rfl, rfl, by simp, fun q hq _ => heap_alloc_old w _ q hq⟩
  have hb1 := hb.same (k1.same fun x hx => by simp at hx)
  refine byteO (x := 1) (n := 3) (m := 4) (j := j) (c := c) (by simp [upd, h1]) hb1.2.2 hj (by decide) (by decide) fun η1 _ f1 => ?_
  have k2 := keep_drawn (w.alloc (.cells (Value.agg #[]).cells e))
  have hb2 := hb1.same (k2.same fun x hx => by simp at hx)
  exact hk _ _ (k1.then k2) (by rw [f1 1 (by decide) (by decide)]; simp [upd, h1]) hb2.2.2

theorem uint16_ok (hn : Named P) {I : J} {f : FuncId} (hf : fnP P f 2 = some (p_uint16 I)) : BeOk P f 2 .u16 := by
  intro w a bs c K hb hlen hk
  refine calls_of_np hn (vs := [.agg #[], .slice (some a) bs.length c]) hf fun η hη => ?_
  refine be_head (j := 1) (hη 0 (by simp)) (hη 1 (by simp)) hb (by omega) fun η1 w1 k1 h1 hb1 => ?_
  refine byteL (j := 1) h1 hb1 (by omega) (by decide) (by decide) fun η2 e2 f2 => ?_
  refine cvL rfl (by decide) e2 fun η3 e3 f3 => ?_
  refine accL (j := 0) (s := 8) (A := bs[1].toNat) (kd := .u16) rfl (by rw [f3 1 (by decide), f2 1 (by decide) (by decide), h1]) hb1 (by omega) (by decide) (by decide) (by decide) bs[1].toNat_lt e3 fun η4 e4 _ _ => ?_
  have e : ofBe (bs.take 2) = bs[1].toNat + bs[0].toNat * 2 ^ 8 := by
    match bs, hlen with
    | b0 :: b1 :: r, _ => simp [ofBe]; omega
  have := hk w1 k1
  rw [e, ← e4] at this
  exact this

theorem uint32_ok (hn : Named P) {I : J} {f : FuncId} (hf : fnP P f 2 = some (p_uint32 I)) : BeOk P f 4 .u32 := by
  intro w a bs c K hb hlen hk
  refine calls_of_np hn (vs := [.agg #[], .slice (some a) bs.length c]) hf fun η hη => ?_
  refine be_head (j := 3) (hη 0 (by simp)) (hη 1 (by simp)) hb (by omega) fun η1 w1 k1 h1 hb1 => ?_
  refine byteL (j := 3) h1 hb1 (by omega) (by decide) (by decide) fun η2 e2 f2 => ?_
  refine cvL rfl (by decide) e2 fun η3 e3 f3 => ?_
  have h3 : η3 1 = .slice (some a) bs.length c := by rw [f3 1 (by decide), f2 1 (by decide) (by decide), h1]
  refine accL (j := 2) (s := 8) (A := bs[3].toNat) (kd := .u32) rfl h3 hb1 (by omega) (by decide) (by decide) (by decide) bs[3].toNat_lt e3 fun η4 e4 f4 l4 => ?_
  rw [h3] at f4
  refine accL (j := 1) (s := 16) (kd := .u32) rfl f4 hb1 (by omega) (by decide) (by decide) (by decide) l4 e4 fun η5 e5 f5 l5 => ?_
  rw [f4] at f5
  refine accL (j := 0) (s := 24) (kd := .u32) rfl f5 hb1 (by omega) (by decide) (by decide) (by decide) l5 e5 fun η6 e6 f6 l6 => ?_
  have e : ofBe (bs.take 4) = bs[3].toNat + bs[2].toNat * 2 ^ 8 + bs[1].toNat * 2 ^ 16 + bs[0].toNat * 2 ^ 24 := by
    match bs, hlen with
    | b0 :: b1 :: b2 :: b3 :: r, _ => simp [ofBe]; omega
  have := hk w1 k1
  rw [e, ← e6] at this
  exact this

theorem uint64_ok (hn : Named P) {I : J} {f : FuncId} (hf : fnP P f 2 = some (p_uint64 I)) : BeOk P f 8 .u64 := by
  intro w a bs c K hb hlen hk
  refine calls_of_np hn (vs := [.agg #[], .slice (some a) bs.length c]) hf fun η hη => ?_
  refine be_head (j := 7) (hη 0 (by simp)) (hη 1 (by simp)) hb (by omega) fun η1 w1 k1 h1 hb1 => ?_
  refine byteL (j := 7) h1 hb1 (by omega) (by decide) (by decide) fun η2 e2 f2 => ?_
  refine cvL rfl (by decide) e2 fun η3 e3 f3 => ?_
  have h3 : η3 1 = .slice (some a) bs.length c := by rw [f3 1 (by decide), f2 1 (by decide) (by decide), h1]
  refine accL (j := 6) (s := 8) (A := bs[7].toNat) (kd := .u64) rfl h3 hb1 (by omega) (by decide) (by decide) (by decide) bs[7].toNat_lt e3 fun η4 e4 f4 l4 => ?_
  rw [h3] at f4
  refine accL (j := 5) (s := 16) (kd := .u64) rfl f4 hb1 (by omega) (by decide) (by decide) (by decide) l4 e4 fun η5 e5 f5 l5 => ?_
  rw [f4] at f5
  refine accL (j := 4) (s := 24) (kd := .u64) rfl f5 hb1 (by omega) (by decide) (by decide) (by decide) l5 e5 fun η6 e6 f6 l6 => ?_
  rw [f5] at f6
  refine accL (j := 3) (s := 32) (kd := .u64) rfl f6 hb1 (by omega) (by decide) (by decide) (by decide) l6 e6 fun η7 e7 f7 l7 => ?_
  rw [f6] at f7
  refine accL (j := 2) (s := 40) (kd := .u64) rfl f7 hb1 (by omega) (by decide) (by decide) (by decide) l7 e7 fun η8 e8 f8 l8 => ?_
  rw [f7] at f8
  refine accL (j := 1) (s := 48) (kd := .u64) rfl f8 hb1 (by omega) (by decide) (by decide) (by decide) l8 e8 fun η9 e9 f9 l9 => ?_
  rw [f8] at f9
  refine accL (j := 0) (s := 56) (kd := .u64) rfl f9 hb1 (by omega) (by decide) (by decide) (by decide) l9 e9 fun η10 e10 f10 l10 => ?_
  have e : ofBe (bs.take 8) = bs[7].toNat + bs[6].toNat * 2 ^ 8 + bs[5].toNat * 2 ^ 16 + bs[4].toNat * 2 ^ 24 + bs[3].toNat * 2 ^ 32 + bs[2].toNat * 2 ^ 40 + bs[1].toNat * 2 ^ 48 + bs[0].toNat * 2 ^ 56 := by
    match bs, hlen with
    | b0 :: b1 :: b2 :: b3 :: b4 :: b5 :: b6 :: b7 :: r, _ => simp [ofBe]; omega
  have := hk w1 k1
  rw [e, ← e10] at this
  exact this

theorem wp_load0 {w : World} {b : Nat} {K : Value → World → Prop} (hk : K (.agg #[]) w) : In.wp P (.loadN 0) [.pointer (some ⟨b, 0, none⟩)] w K :=
  ⟨b, 0, [], rfl, fun j v hj => by simp at hj, rfl, hk⟩

/-- The reader looks whether there is enough, and has the number told. -/
theorem big_head {k : Nat} {kd0 : IntKind} {fb : FuncId} (hbe : BeOk P fb k kd0) {be : Nat} {zr : Value} {ok : Nat → Prop} {w : World} {R : Nat} {nn : Bool} {s : Option Bs} (he : Env ok w R) (hs : Rd ok w R nn s) {η : Nat → Value} (h0 : η 0 = ptr R) {cont : NP} {Q : Out → (Nat → Value) → World → Prop} (hk0 : 0 < k)
    (bad : ∀ η' w', Keep [R] w w' → s.bind (cut k) = none → Rd ok w' R false none → Q (.ret [zr]) η' w')
    (good : ∀ η' w' bs src, s = some bs → k ≤ bs.length → Keep [R] w w' → η' 0 = ptr R → η' 8 = .int kd0 ((ofBe (bs.take k) : Nat) : Int) → Row w' R [src, .bool false] → Sl ok w' src bs → cont.wp P Q η' w') :
    (NP.chk 0 <|
  .op .load [.q 0 0] 1 <|
  .op .len [.s 1] 2 <|
  .op (.bin .lss) [.s 2, .k (.int .i64 (k : Int))] 3 <|
  .ite (.s 3)
    (.op (.store 1) [.q 0 1, .k (.bool true)] 4 <|
    .op (.store 1) [.q 0 0, .k (.slice none 0 0)] 5 <|
    .ret [.k zr])
    (.nil) <|
  .draw <|
  .look (.loadN 0) [.k (.pointer (some ⟨be, 0, none⟩))] 6 <|
  .look .load [.q 0 0] 7 <|
  .op (.call fb) [.s 6, .s 7] 8 <|
  .keep .load [.q 0 0] 7 <|
  .keep (.loadN 0) [.k (.pointer (some ⟨be, 0, none⟩))] 6 cont).wp P Q η w := by
  obtain ⟨src, hrow, hsl, hbad⟩ := rd_row hs
  obtain ⟨a, c, hsrc, hc⟩ := sl_slice hsl
  refine ⟨⟨_, h0⟩, ?_⟩
  refine np_op (vs := [ptr R]) (by simp [SV.val, h0, Addr.add]) (wp_load hrow rfl ?_)
  refine np_op (vs := [src]) (by simp [SV.val, upd]) ⟨a, _, c, by rw [hsrc], ?_⟩
  refine np_op (vs := [goInt (s.getD []).length, .int .i64 (k : Int)]) (by simp [SV.val, upd]) ⟨.i64, _, _, _, rfl, rfl, ?_⟩
  refine np_ite (decide (((s.getD []).length : Int) < (k : Int))) (by simp [SV.val, upd]) ?_
  by_cases hlt : ((s.getD []).length : Int) < (k : Int)
  · simp only [hlt, decide_true, if_true]
    refine spoil hrow (by simp [upd, h0]) (by simp) fun w1 k1 r1 => ?_
    exact bad _ w1 k1 (short_cut (by omega)) r1
  · simp only [hlt, decide_false, Bool.false_eq_true, if_false]
    cases s with
    | none => simp at hlt; omega
    | some bs =>
      simp only [Option.getD_some] at hsl hsrc hc hlt
      have hlen : k ≤ bs.length := by omega
      have hne : bs ≠ [] := fun h => by subst h; simp at hlen; omega
      obtain ⟨a, c, hsrc, hc, hb⟩ := sl_some hsl hne
      have k1 := keep_drawn w
      have hrow1 : Row { w with drawn := w.drawn + 1 } R [src, .bool false] := hrow.keep k1 (by simp)
      show NP.wp P (NP.draw _) Q _ w
      refine np_draw ?_
      refine np_look (vs := [.pointer (some ⟨be, 0, none⟩)]) (by simp [SV.val]) (wp_load0 ⟨rfl, ?_⟩)
      refine np_look (vs := [ptr R]) (by simp [SV.val, upd, h0, Addr.add]) (wp_load hrow1 rfl ⟨rfl, ?_⟩)
      have hb1 : BytesIn (fun _ => True) { w with drawn := w.drawn + 1 } a bs := ⟨hb.1, trivial, hb.2.2⟩
      refine np_op (vs := [.agg #[], .slice (some a) bs.length c]) (by simp [SV.val, upd, hsrc]) (hbe _ a bs c _ hb1 hlen fun w2 k2 => ?_)
      have hrow2 := hrow1.keep k2 (by simp)
      refine np_keep (vs := [ptr R]) (by simp [SV.val, upd, h0, Addr.add]) (wp_load hrow2 rfl ⟨by simp [upd], rfl⟩) ?_
      refine np_keep (vs := [.pointer (some ⟨be, 0, none⟩)]) (by simp [SV.val]) (wp_load0 ⟨by simp [upd], rfl⟩) ?_
      have k12 : Keep [] w w2 := k1.then k2
      refine good _ w2 bs src rfl hlen (k12.mono fun x hx => by simp at hx) (by simp [upd, h0]) (by simp [upd]) hrow2 (hsl.same (k12.same fun x hx => by simp at hx))

/-- What is left is laid down. -/
theorem big_tail {k : Nat} {ok : Nat → Prop} {w0 w : World} {R : Nat} {bs : Bs} {src : Value} (he : Env ok w0 R) (hrow : Row w R [src, .bool false]) (hsl : Sl ok w src bs) (hk0 : 0 < k) (hlen : k ≤ bs.length) (hkw : Keep [R] w0 w) {η : Nat → Value} (h0 : η 0 = ptr R) {i10 i11 i12 r : Nat} (hne : 0 ≠ i10 ∧ 0 ≠ i11 ∧ r ∉ [i10, i11, i12])
    {Q : Out → (Nat → Value) → World → Prop} (hq : ∀ η' w', Keep [R] w0 w' → Rd ok w' R true (some (bs.drop k)) → Q (.ret [η r]) η' w') :
    (NP.op .load [.q 0 0] i10 <| .op (.sl 1 true false false) [.s i10, .k (.int .i64 (k : Int))] i11 <| .op (.store 1) [.q 0 0, .s i11] i12 <| .ret [.s r]).wp P Q η w := by
  simp only [List.mem_cons, List.not_mem_nil, or_false, not_or] at hne
  obtain ⟨n1, n2, n3, n4, n5⟩ := hne
  have hnil : bs ≠ [] := fun h => by subst h; simp at hlen; omega
  obtain ⟨a, c, hsrc, hc, hb⟩ := sl_some hsl hnil
  refine np_op (vs := [ptr R]) (by simp [SV.val, h0, Addr.add]) (wp_load hrow rfl ?_)
  refine np_op (vs := [src, .int .i64 (k : Int)]) (by simp [SV.val, upd]) ⟨some a, _, c, [.int .i64 (k : Int)], by rw [hsrc], ?_⟩
  simp only [bnd, if_true, Bool.false_eq_true, if_false]
  refine ⟨.i64, k, [], rfl, rfl, hlen, hc, Nat.le_refl _, ?_⟩
  obtain ⟨g1, g2⟩ := sl_drop (n := k) hb hc hlen
  refine np_op (vs := [ptr R, _]) (by simp [SV.val, upd, h0, n1, n2, Addr.add]) (wp_store hrow (Sl.fit g1) (by simp) fun w1 r1 k1 => ?_)
  have hq' := hq (upd (upd (upd η i10 src) i11 (.slice (if c = k then some a else (some a).map (·.add (k * 1))) (bs.length - k) (c - k))) i12 undef) w1 (hkw.then k1) ⟨_, by simpa [put, Value.cells] using r1, g1.same ((he.keep hkw).same k1), fun _ => g2⟩
  show Q (.ret [_]) _ w1
  have e : ([SV.s r].map (SV.val (upd (upd (upd η i10 src) i11 (.slice (if c = k then some a else (some a).map (·.add (k * 1))) (bs.length - k) (c - k))) i12 undef))) = [η r] := by simp [SV.val, upd, n3, n4, n5]
  simp only [List.map] at e
  rw [e]
  exact hq'

theorem rInt16_ok (hn : Named P) {I : J} {f : FuncId} (hf : fnP P f 1 = some (p_rInt16 I)) (hb : BeOk P I.uint16 2 .u16) : Reads P f (rdI 2) (intRep .i16) (· = .int .i16 0) := by
  intro ok w R nn s K he hs hk
  refine calls_of_np hn (vs := [ptr R]) hf fun η hη => ?_
  refine big_head (k := 2) (kd0 := .u16) hb he hs (hη 0 (by simp)) (by omega) (fun η' w' k1 hcut hr => ?_) (fun η' w' bs src hsb hlen k1 h0 h8 hrow hsl => ?_)
  · refine hk _ w' k1 ?_
    have : s.bind (rdI 2) = none := by cases s <;> simp_all [rdI, rdU]
    unfold ReadEnd
    rw [this]
    exact ⟨hr, rfl⟩
  · subst hsb
    have hlt : ofBe (bs.take 2) < 2 ^ 16 := by have := ofBe_lt (bs.take 2); rwa [List.length_take, Nat.min_eq_left hlen] at this
    refine np_look (vs := [.int .u16 ((ofBe (bs.take 2) : Nat) : Int)]) (by simp [SV.val, h8]) ⟨.u16, _, rfl, rfl, ?_⟩
    refine big_tail (k := 2) he hrow hsl (by omega) hlen k1 (by simp [upd, h0]) (by decide) fun η'' w'' k2 hr => ?_
    refine hk _ w'' k2 ?_
    have hrd : rdI 2 bs = some (sgn 16 (ofBe (bs.take 2)), bs.drop 2) := by simp [rdI, rdU, cut, hlen]
    simp only [ReadEnd, Option.bind_some, hrd]
    refine ⟨hr, ?_⟩
    simp only [intRep, pack, upd, if_true]
    rw [wrap_sgn .i16 rfl _ hlt]; rfl

theorem rInt32_ok (hn : Named P) {I : J} {f : FuncId} (hf : fnP P f 1 = some (p_rInt32 I)) (hb : BeOk P I.uint32 4 .u32) : Reads P f (rdI 4) (intRep .i32) (· = .int .i32 0) := by
  intro ok w R nn s K he hs hk
  refine calls_of_np hn (vs := [ptr R]) hf fun η hη => ?_
  refine big_head (k := 4) (kd0 := .u32) hb he hs (hη 0 (by simp)) (by omega) (fun η' w' k1 hcut hr => ?_) (fun η' w' bs src hsb hlen k1 h0 h8 hrow hsl => ?_)
  · refine hk _ w' k1 ?_
    have : s.bind (rdI 4) = none := by cases s <;> simp_all [rdI, rdU]
    unfold ReadEnd
    rw [this]
    exact ⟨hr, rfl⟩
  · subst hsb
    have hlt : ofBe (bs.take 4) < 2 ^ 32 := by have := ofBe_lt (bs.take 4); rwa [List.length_take, Nat.min_eq_left hlen] at this
    refine np_look (vs := [.int .u32 ((ofBe (bs.take 4) : Nat) : Int)]) (by simp [SV.val, h8]) ⟨.u32, _, rfl, rfl, ?_⟩
    refine big_tail (k := 4) he hrow hsl (by omega) hlen k1 (by simp [upd, h0]) (by decide) fun η'' w'' k2 hr => ?_
    refine hk _ w'' k2 ?_
    have hrd : rdI 4 bs = some (sgn 32 (ofBe (bs.take 4)), bs.drop 4) := by simp [rdI, rdU, cut, hlen]
    simp only [ReadEnd, Option.bind_some, hrd]
    refine ⟨hr, ?_⟩
    simp only [intRep, pack, upd, if_true]
    rw [wrap_sgn .i32 rfl _ hlt]; rfl

theorem rUint16_ok (hn : Named P) {I : J} {f : FuncId} (hf : fnP P f 1 = some (p_rUint16 I)) (hb : BeOk P I.uint16 2 .u16) : Reads P f (rdU 2) (natRep .u16) (· = .int .u16 0) := by
  intro ok w R nn s K he hs hk
  refine calls_of_np hn (vs := [ptr R]) hf fun η hη => ?_
  refine big_head (k := 2) (kd0 := .u16) hb he hs (hη 0 (by simp)) (by omega) (fun η' w' k1 hcut hr => ?_) (fun η' w' bs src hsb hlen k1 h0 h8 hrow hsl => ?_)
  · refine hk _ w' k1 ?_
    have : s.bind (rdU 2) = none := by cases s <;> simp_all [rdU]
    unfold ReadEnd
    rw [this]
    exact ⟨hr, rfl⟩
  · subst hsb
    refine big_tail (k := 2) he hrow hsl (by omega) hlen k1 h0 (by decide) fun η'' w'' k2 hr => ?_
    refine hk _ w'' k2 ?_
    have hrd : rdU 2 bs = some (ofBe (bs.take 2), bs.drop 2) := by simp [rdU, cut, hlen]
    simp only [ReadEnd, Option.bind_some, hrd]
    exact ⟨hr, by simp only [natRep, pack, h8]⟩

theorem rreadUint64_ok (hn : Named P) {I : J} {f : FuncId} (hf : fnP P f 1 = some (p_rreadUint64 I)) (hb : BeOk P I.uint64 8 .u64) : Reads P f (rdU 8) (natRep .u64) (· = .int .u64 0) := by
  intro ok w R nn s K he hs hk
  refine calls_of_np hn (vs := [ptr R]) hf fun η hη => ?_
  refine big_head (k := 8) (kd0 := .u64) hb he hs (hη 0 (by simp)) (by omega) (fun η' w' k1 hcut hr => ?_) (fun η' w' bs src hsb hlen k1 h0 h8 hrow hsl => ?_)
  · refine hk _ w' k1 ?_
    have : s.bind (rdU 8) = none := by cases s <;> simp_all [rdU]
    unfold ReadEnd
    rw [this]
    exact ⟨hr, rfl⟩
  · subst hsb
    refine big_tail (k := 8) he hrow hsl (by omega) hlen k1 h0 (by decide) fun η'' w'' k2 hr => ?_
    refine hk _ w'' k2 ?_
    have hrd : rdU 8 bs = some (ofBe (bs.take 8), bs.drop 8) := by simp [rdU, cut, hlen]
    simp only [ReadEnd, Option.bind_some, hrd]
    exact ⟨hr, by simp only [natRep, pack, h8]⟩

end
end Go.Kb

/- Groups of seven bits, read; 16 octets, read and written. -/
namespace Go.Kb
open Go.Lx Go.Nx Go.Km Go.Mx

set_option linter.unusedSimpArgs false
set_option linter.unusedVariables false

section
variable {P : Program}

theorem and_nat (k : IntKind) (hk : k.signed = false) (x y : Nat) (hx : x < 2 ^ k.bits) (hy : y < 2 ^ k.bits) : binV .and k (x : Int) (y : Int) = some (.int k ((x &&& y : Nat) : Int)) := by
  have e : ∀ m : Nat, BitVec.ofInt k.bits (m : Int) = BitVec.ofNat k.bits m := by intro m; simp
  have e2 : (BitVec.ofInt k.bits (x : Int) &&& BitVec.ofInt k.bits (y : Int)).toNat = (x &&& y) := by
    rw [e, e, BitVec.toNat_and, BitVec.toNat_ofNat, BitVec.toNat_ofNat, Nat.mod_eq_of_lt hx, Nat.mod_eq_of_lt hy]
  show some (Value.int k (k.wrap (((BitVec.ofInt k.bits (x : Int) &&& BitVec.ofInt k.bits (y : Int)).toNat : Nat) : Int))) = _
  rw [e2, wrap_nat k hk _ (Nat.and_lt_two_pow _ hy)]

theorem and127' (b : Nat) : b < 256 → b &&& 127 = b % 128 := fun _ => Nat.and_two_pow_sub_one_eq_mod b 7
set_option maxRecDepth 100000 in
theorem and128' : ∀ b, b < 256 → b &&& 128 = if b < 128 then 0 else 128 := by decide

/-- The low bits of an octet, as a 32-bit number. -/
theorem lowO {η : Nat → Value} {w : World} {k : NP} {Q : Out → (Nat → Value) → World → Prop} {x n m j c1 c2 : Nat} {v : Value} {bs : Bs} {c : Nat} {a : Addr} (hx : η x = .slice (some a) bs.length c) (hb : BytesAt w a bs) (hj : j < bs.length) (hxn : x ∉ [n, m, c1, c2]) (hnm : c1 ≠ m)
    (hk : ∀ η' : Nat → Value, η' c2 = .int .u32 ((bs[j].toNat % 128 : Nat) : Int) → (∀ i, i ∉ [n, m, c1, c2] → η' i = η i) → k.wp P Q η' w) :
    (NP.op (.ia 1) [.s x, .k (.int .i64 (j : Int))] n <| .chk n <| .op .load [.q n 0] m <| .op (.bin .and) [.s m, .k (.int .u8 127)] c1 <| .op (.cv .u32) [.s c1] c2 k).wp P Q η w := by
  simp only [List.mem_cons, List.not_mem_nil, or_false, not_or] at hxn hk
  refine byteO hx hb hj hxn.1 hxn.2.1 fun η1 e1 f1 => ?_
  have hb8 := bs[j].toNat_lt
  have hand := and_nat .u8 rfl bs[j].toNat 127 hb8 (by decide)
  rw [and127' _ hb8] at hand
  refine np_op (vs := [u8 bs[j], .int .u8 127]) (by simp [SV.val, e1]) ⟨.u8, _, _, _, rfl, hand, ?_⟩
  refine np_op (vs := [.int .u8 ((bs[j].toNat % 128 : Nat) : Int)]) (by simp [SV.val, upd]) ⟨.u8, _, rfl, ?_⟩
  refine hk _ (by simp only [upd, if_true]; rw [wrap_nat .u32 rfl _ (by have : (2:Nat) ^ IntKind.u32.bits = 4294967296 := rfl; omega)]) fun i hi => ?_
  simp only [upd, if_neg hi.2.2.2, if_neg hi.2.2.1]
  exact f1 i hi.1 hi.2.1

/-- Does an octet say that more follow? -/
theorem moreO {η : Nat → Value} {w : World} {k : NP} {Q : Out → (Nat → Value) → World → Prop} {x n m j c1 c2 : Nat} {bs : Bs} {c : Nat} {a : Addr} (hx : η x = .slice (some a) bs.length c) (hb : BytesAt w a bs) (hj : j < bs.length) (hxn : x ∉ [n, m, c1, c2])
    (hk : ∀ η' : Nat → Value, η' c2 = .bool (decide (bs[j].toNat < 128)) → (∀ i, i ∉ [n, m, c1, c2] → η' i = η i) → k.wp P Q η' w) :
    (NP.op (.ia 1) [.s x, .k (.int .i64 (j : Int))] n <| .chk n <| .op .load [.q n 0] m <| .op (.bin .and) [.s m, .k (.int .u8 128)] c1 <| .op (.bin .eql) [.s c1, .k (.int .u8 0)] c2 k).wp P Q η w := by
  simp only [List.mem_cons, List.not_mem_nil, or_false, not_or] at hxn hk
  refine byteO hx hb hj hxn.1 hxn.2.1 fun η1 e1 f1 => ?_
  have hb8 := bs[j].toNat_lt
  have hand := and_nat .u8 rfl bs[j].toNat 128 hb8 (by decide)
  rw [and128' _ hb8] at hand
  refine np_op (vs := [u8 bs[j], .int .u8 128]) (by simp [SV.val, e1]) ⟨.u8, _, _, _, rfl, hand, ?_⟩
  refine np_op (vs := [.int .u8 ((if bs[j].toNat < 128 then 0 else 128 : Nat) : Int), .int .u8 0]) (by simp [SV.val, upd]) ⟨.u8, _, _, _, rfl, rfl, ?_⟩
  refine hk _ ?_ fun i hi => ?_
  · simp only [upd, if_true]
    by_cases h : bs[j].toNat < 128 <;> simp [h]
  · simp only [upd, if_neg hi.2.2.2, if_neg hi.2.2.1]
    exact f1 i hi.1 hi.2.1

def UvEnd (bs : Bs) (n k : Int) : Prop := match rdUv bs with
  | some (x, r) => n = x ∧ k = ((bs.length - r.length : Nat) : Int)
  | none => k ≤ 0

abbrev uvBad : NP := .ret [.k (.int .u32 0), .k (.int .i64 0)]

/-- What is left of a number at its j-th group. -/
def UvAt (bs : Bs) (j A : Nat) : Prop := A < 2 ^ (7 * j) ∧ rdUv bs = (rdV (4 - j) (bs.drop j)).map fun p => (A + 2 ^ (7 * j) * p.1, p.2)

theorem uvAt_step {bs : Bs} {j A : Nat} (h : UvAt bs j A) (hj : j < 4) (hlt : j < bs.length) (hb : ¬ bs[j].toNat < 128) : UvAt bs (j + 1) (A + bs[j].toNat % 128 * 2 ^ (7 * j)) := by
  obtain ⟨h1, h2⟩ := h
  have e7 : 2 ^ (7 * (j + 1)) = 2 ^ (7 * j) * 128 := by rw [Nat.mul_add, Nat.pow_add]
  refine ⟨?_, ?_⟩
  · have h3 : bs[j].toNat % 128 * 2 ^ (7 * j) ≤ 127 * 2 ^ (7 * j) := Nat.mul_le_mul_right _ (by omega)
    rw [e7]; omega
  · rw [h2, List.drop_eq_getElem_cons hlt]
    have e4 : 4 - j = (4 - (j + 1)) + 1 := by omega
    rw [e4]
    simp only [rdV, hb, if_false, Option.map_map]
    congr 1
    funext p
    simp only [Function.comp]
    rw [e7, Nat.mul_add, ← Nat.add_assoc, Nat.mul_comm (2 ^ (7 * j)) (bs[j].toNat % 128), Nat.mul_assoc]

theorem uvAt_stop {bs : Bs} {j A : Nat} (h : UvAt bs j A) (hj : j < 4) (hlt : j < bs.length) (hb : bs[j].toNat < 128) : UvEnd bs ((A + bs[j].toNat % 128 * 2 ^ (7 * j) : Nat) : Int) ((j + 1 : Nat) : Int) := by
  obtain ⟨h1, h2⟩ := h
  have e4 : 4 - j = (4 - (j + 1)) + 1 := by omega
  rw [List.drop_eq_getElem_cons hlt, e4] at h2
  simp only [rdV, hb, if_true, Option.map_some] at h2
  unfold UvEnd
  rw [h2]
  refine ⟨?_, ?_⟩
  · rw [Nat.mod_eq_of_lt hb, Nat.mul_comm]
  · simp only [List.length_drop]; omega

theorem uvAt_short {bs : Bs} {j A : Nat} (h : UvAt bs j A) (hlt : ¬ j < bs.length) : UvEnd bs 0 0 := by
  obtain ⟨h1, h2⟩ := h
  rw [List.drop_of_length_le (by omega)] at h2
  have : rdV (4 - j) [] = none := by cases 4 - j <;> rfl
  rw [this] at h2
  unfold UvEnd
  rw [h2]
  exact Int.le_refl _

def uvG (j acc i : Nat) (next : NP) : NP :=
  .op .len [.s 0] i <| .op (.bin .lss) [.s i, .k (.int .i64 ((j + 1 : Nat) : Int))] (i + 1) <| .ite (.s (i + 1)) uvBad
      (.op (.ia 1) [.s 0, .k (.int .i64 (j : Int))] (i + 2) <| .chk (i + 2) <| .op .load [.q (i + 2) 0] (i + 3) <| .op (.bin .and) [.s (i + 3), .k (.int .u8 127)] (i + 4) <| .op (.cv .u32) [.s (i + 4)] (i + 5) <|
        .op (.sh .shl) [.s (i + 5), .k (.int .u64 ((7 * j : Nat) : Int))] (i + 6) <| .op (.bin .or) [.s acc, .s (i + 6)] (i + 7) <|
        .op (.ia 1) [.s 0, .k (.int .i64 (j : Int))] (i + 8) <| .chk (i + 8) <| .op .load [.q (i + 8) 0] (i + 9) <| .op (.bin .and) [.s (i + 9), .k (.int .u8 128)] (i + 10) <| .op (.bin .eql) [.s (i + 10), .k (.int .u8 0)] (i + 11) <|
        .ite (.s (i + 11)) (.ret [.s (i + 7), .k (.int .i64 ((j + 1 : Nat) : Int))]) next .nil) .nil

def uv0 (next : NP) : NP :=
  .op .len [.s 0] 1 <| .op (.bin .lss) [.s 1, .k (.int .i64 1)] 2 <| .ite (.s 2) uvBad
    (.op (.ia 1) [.s 0, .k (.int .i64 ((0 : Nat) : Int))] 3 <| .chk 3 <| .op .load [.q 3 0] 4 <| .op (.bin .and) [.s 4, .k (.int .u8 127)] 5 <| .op (.cv .u32) [.s 5] 6 <|
      .op (.ia 1) [.s 0, .k (.int .i64 ((0 : Nat) : Int))] 7 <| .chk 7 <| .op .load [.q 7 0] 8 <| .op (.bin .and) [.s 8, .k (.int .u8 128)] 9 <| .op (.bin .eql) [.s 9, .k (.int .u8 0)] 10 <|
      .ite (.s 10) (.ret [.s 6, .k (.int .i64 1)]) next .nil) .nil

def uvL : NP :=
  .op .len [.s 0] 47 <| .op (.bin .lss) [.s 47, .k (.int .i64 5)] 48 <| .ite (.s 48) uvBad
    (.op (.ia 1) [.s 0, .k (.int .i64 ((4 : Nat) : Int))] 49 <| .chk 49 <| .op .load [.q 49 0] 50 <| .op (.cv .u32) [.s 50] 51 <| .op (.sh .shl) [.s 51, .k (.int .u64 28)] 52 <| .op (.bin .or) [.s 42, .s 52] 53 <|
      .op (.ia 1) [.s 0, .k (.int .i64 ((4 : Nat) : Int))] 54 <| .chk 54 <| .op .load [.q 54 0] 55 <| .op (.bin .leq) [.s 55, .k (.int .u8 15)] 56 <|
      .ite (.s 56) (.ret [.s 53, .k (.int .i64 5)]) .nil <| .ret [.k (.int .u32 0), .k (.int .i64 (-5))]) .nil

theorem p_uvarint_eq (I : J) : p_uvarint I = ⟨uv0 (uvG 1 6 11 (uvG 2 18 23 (uvG 3 30 35 uvL))), [.direct, .direct]⟩ := rfl

/-- A group from the second to the fourth. -/
theorem uv_grp {j A acc i : Nat} {next : NP} {η : Nat → Value} {w : World} {Q : Out → (Nat → Value) → World → Prop} {ok : Nat → Prop} {v : Value} {bs : Bs} (hsl : Sl ok w v bs) (h0 : η 0 = v) (hA : UvAt bs j A) (hacc : η acc = .int .u32 (A : Int)) (hj1 : 1 ≤ j) (hj : j < 4) (hi0 : acc < i) (hi : 0 < i)
    (hret : ∀ n k η', UvEnd bs n k → Q (.ret [.int .u32 n, .int .i64 k]) η' w)
    (hnext : ∀ (Q' : Out → (Nat → Value) → World → Prop) η' A', (∀ vs η w, Q (.ret vs) η w → Q' (.ret vs) η w) → η' 0 = v → η' (i + 7) = .int .u32 (A' : Int) → UvAt bs (j + 1) A' → next.wp P Q' η' w) : (uvG j acc i next).wp P Q η w := by
  unfold uvG
  obtain ⟨a, c, hv, hc⟩ := sl_slice hsl
  refine np_op (vs := [v]) (by simp [SV.val, h0]) ⟨a, _, c, by rw [hv], ?_⟩
  refine np_op (vs := [goInt bs.length, .int .i64 ((j + 1 : Nat) : Int)]) (by simp [SV.val, upd]) ⟨.i64, _, _, _, rfl, rfl, ?_⟩
  refine np_ite (decide ((bs.length : Int) < ((j + 1 : Nat) : Int))) (by simp [SV.val, upd]) ?_
  by_cases hlt : j < bs.length
  · have hd : ¬ ((bs.length : Int) < ((j + 1 : Nat) : Int)) := by omega
    simp only [hd, decide_false, Bool.false_eq_true, if_false]
    obtain ⟨a, c, hv, hc, hb⟩ := sl_some hsl (by intro h; subst h; simp at hlt)
    have hb8 := bs[j].toNat_lt
    have h7j : 7 * j + 7 ≤ 28 := by omega
    have hbits : (2 : Nat) ^ IntKind.u32.bits = 2 ^ 32 := rfl
    have hle28 : 2 ^ (7 * j + 7) ≤ 2 ^ 28 := Nat.pow_le_pow_right (by omega) h7j
    have e77 : 2 ^ (7 * j + 7) = 2 ^ (7 * j) * 128 := Nat.pow_add 2 (7 * j) 7
    have hmul : bs[j].toNat % 128 * 2 ^ (7 * j) ≤ 127 * 2 ^ (7 * j) := Nat.mul_le_mul_right _ (by omega)
    have hAlt := hA.1
    refine lowO (v := v) (a := a) (c := c) (bs := bs) (j := j) (by simp [upd, h0, hv]; omega) hb.2.2 hlt (by simp) (by omega) fun η1 e1 f1 => ?_
    have hshl := shl_nat .u32 rfl (bs[j].toNat % 128) (7 * j) (by show 7 * j ≤ 32; omega) (by rw [hbits]; omega)
    refine np_op (vs := [.int .u32 ((bs[j].toNat % 128 : Nat) : Int), .int .u64 ((7 * j : Nat) : Int)]) (by simp [SV.val, e1]) ⟨.u32, _, .u64, 7 * j, _, rfl, hshl, ?_⟩
    have hor := or_nat .u32 rfl A (bs[j].toNat % 128 * 2 ^ (7 * j)) (by rw [hbits]; omega) (by rw [hbits]; omega)
    rw [or_add A _ _ hAlt] at hor
    have hf1 : ∀ q, q < i → η1 q = η q := fun q hq => by
      rw [f1 q (by simp; omega)]
      simp [upd, show q ≠ i by omega, show q ≠ i + 1 by omega]
    refine np_op (vs := [.int .u32 (A : Int), .int .u32 ((bs[j].toNat % 128 * 2 ^ (7 * j) : Nat) : Int)]) (by simp [SV.val, upd, show acc ≠ i + 6 by omega, hf1 acc hi0, hacc]) ⟨.u32, _, _, _, rfl, hor, ?_⟩
    refine moreO (a := a) (c := c) (bs := bs) (j := j) (by simp [upd, show (0:Nat) ≠ i + 7 by omega, hf1 0 hi, h0, hv]) hb.2.2 hlt (by simp) fun η2 e2 f2 => ?_
    refine np_ite (decide (bs[j].toNat < 128)) (by simp [SV.val, e2]) ?_
    by_cases hb7 : bs[j].toNat < 128
    · simp only [hb7, decide_true, if_true]
      have := hret _ _ η2 (uvAt_stop hA hj hlt hb7)
      show Q (.ret [η2 (i + 7), _]) η2 w
      rw [f2 (i + 7) (by simp)]
      simpa [upd, SV.val] using this
    · simp only [hb7, decide_false, Bool.false_eq_true, if_false]
      refine hnext _ η2 _ (fun vs η w h => h) ?_ ?_ (uvAt_step hA hj hlt hb7)
      · rw [f2 0 (by simp)]
        simp [upd, hf1 0 hi, h0]
      · rw [f2 (i + 7) (by simp)]
        simp [upd]
  · have hd : ((bs.length : Int) < ((j + 1 : Nat) : Int)) := by omega
    simp only [hd, decide_true, if_true]
    exact hret _ _ _ (uvAt_short hA hlt)

theorem uvarint_ok (hn : Named P) {I : J} {f : FuncId} (hf : fnP P f 1 = some (p_uvarint I)) : KUv P f := by
  intro ok w v bs K hsl hk
  rw [p_uvarint_eq] at hf
  refine calls_of_np hn (vs := [v]) hf fun η hη => ?_
  have hret : ∀ n k η', UvEnd bs n k → postP [.direct, .direct] K (.ret [.int .u32 n, .int .i64 k]) η' w := fun n k η' h => hk n k h
  dsimp only
  generalize postP [RK.direct, RK.direct] K = QR at hret ⊢
  unfold uv0
  have h0 : η 0 = v := hη 0 (by simp)
  obtain ⟨a, c, hv, hc⟩ := sl_slice hsl
  refine np_op (vs := [v]) (by simp [SV.val, h0]) ⟨a, _, c, by rw [hv], ?_⟩
  refine np_op (vs := [goInt bs.length, .int .i64 1]) (by simp [SV.val, upd]) ⟨.i64, _, _, _, rfl, rfl, ?_⟩
  refine np_ite (decide ((bs.length : Int) < 1)) (by simp [SV.val, upd]) ?_
  by_cases hlt : 0 < bs.length
  · have hd : ¬ ((bs.length : Int) < 1) := by omega
    simp only [hd, decide_false, Bool.false_eq_true, if_false]
    obtain ⟨a, c, hv, hc, hb⟩ := sl_some hsl (by intro h; subst h; simp at hlt)
    have hA0 : UvAt bs 0 0 := ⟨by simp, by simp [rdUv]⟩
    have hb8 := bs[0].toNat_lt
    refine lowO (v := v) (a := a) (c := c) (bs := bs) (j := 0) (by simp [upd, h0, hv]) hb.2.2 hlt (by decide) (by decide) fun η1 e1 f1 => ?_
    refine moreO (a := a) (c := c) (bs := bs) (j := 0) (by rw [f1 0 (by decide)]; simp [upd, h0, hv]) hb.2.2 hlt (by decide) fun η2 e2 f2 => ?_
    refine np_ite (decide (bs[0].toNat < 128)) (by simp [SV.val, e2]) ?_
    by_cases hb7 : bs[0].toNat < 128
    · simp only [hb7, decide_true, if_true]
      have := hret _ _ η2 (uvAt_stop hA0 (by omega) hlt hb7)
      show QR (.ret [η2 6, _]) η2 w
      rw [f2 6 (by decide), e1]
      simpa [SV.val] using this
    · simp only [hb7, decide_false, Bool.false_eq_true, if_false]
      have h20 : η2 0 = v := by rw [f2 0 (by decide), f1 0 (by decide)]; simp [upd, h0]
      have h26 : η2 6 = .int .u32 ((0 + bs[0].toNat % 128 * 2 ^ (7 * 0) : Nat) : Int) := by rw [f2 6 (by decide), e1]; simp
      have hA1 := uvAt_step hA0 (by omega) hlt hb7
      refine uv_grp (j := 1) (acc := 6) (i := 11) hsl h20 hA1 h26 (by omega) (by omega) (by omega) (by omega) (fun n k η' h => hret n k η' h) fun Q1 η3 A1 hQ1 h30 h318 hA2 => ?_
      refine uv_grp (j := 2) (acc := 18) (i := 23) hsl h30 hA2 h318 (by omega) (by omega) (by omega) (by omega) (fun n k η' h => hQ1 _ _ _ (hret n k η' h)) fun Q2 η4 A2 hQ2 h40 h430 hA3 => ?_
      refine uv_grp (j := 3) (acc := 30) (i := 35) hsl h40 hA3 h430 (by omega) (by omega) (by omega) (by omega) (fun n k η' h => hQ2 _ _ _ (hQ1 _ _ _ (hret n k η' h))) fun Q3 η5 A3 hQ3 h50 h542 hA4 => ?_
      unfold uvL
      have hfin : ∀ n k η', UvEnd bs n k → Q3 (.ret [.int .u32 n, .int .i64 k]) η' w := fun n k η' h => hQ3 _ _ _ (hQ2 _ _ _ (hQ1 _ _ _ (hret n k η' h)))
      refine np_op (vs := [v]) (by simp [SV.val, h50]) ⟨some a, _, c, by rw [hv], ?_⟩
      refine np_op (vs := [goInt bs.length, .int .i64 5]) (by simp [SV.val, upd]) ⟨.i64, _, _, _, rfl, rfl, ?_⟩
      refine np_ite (decide ((bs.length : Int) < 5)) (by simp [SV.val, upd]) ?_
      by_cases hl5 : 4 < bs.length
      · have hd : ¬ ((bs.length : Int) < 5) := by omega
        simp only [hd, decide_false, Bool.false_eq_true, if_false]
        have hb84 := bs[4].toNat_lt
        refine byteO (x := 0) (n := 49) (m := 50) (j := 4) (a := a) (c := c) (bs := bs) (by simp [upd, h50, hv]) hb.2.2 hl5 (by decide) (by decide) fun η6 e6 f6 => ?_
        refine np_op (vs := [u8 bs[4]]) (by simp [SV.val, e6]) ⟨.u8, _, rfl, ?_⟩
        rw [wrap_nat .u32 rfl _ (show bs[4].toNat < 2 ^ 32 by omega)]
        refine np_op (vs := [.int .u32 (bs[4].toNat : Int), .int .u64 28]) (by simp [SV.val, upd]) ⟨.u32, _, .u64, 28, _, rfl, rfl, ?_⟩
        have h642 : η6 42 = .int .u32 (A3 : Int) := by rw [f6 42 (by decide) (by decide)]; simp [upd, h542]
        refine np_op (vs := [.int .u32 (A3 : Int), .int .u32 (IntKind.u32.wrap ((bs[4].toNat : Int) * 2 ^ (min 28 IntKind.u32.bits)))]) (by simp [SV.val, upd, h642]) ⟨.u32, _, _, _, rfl, rfl, ?_⟩
        refine byteO (x := 0) (n := 54) (m := 55) (j := 4) (a := a) (c := c) (bs := bs) (by simp only [upd]; simp; rw [f6 0 (by decide) (by decide)]; simp [upd, h50, hv]) hb.2.2 hl5 (by decide) (by decide) fun η7 e7 f7 => ?_
        refine np_op (vs := [u8 bs[4], .int .u8 15]) (by simp [SV.val, e7]) ⟨.u8, _, _, _, rfl, rfl, ?_⟩
        have hcmp : decide (((bs[4].toNat : Nat) : Int) ≤ 15) = decide (bs[4].toNat ≤ 15) := by rw [Bool.eq_iff_iff]; simp only [decide_eq_true_eq]; omega
        refine np_ite (decide (bs[4].toNat ≤ 15)) (by simp [SV.val, upd, hcmp]) ?_
        have hrd := hA4.2
        rw [List.drop_eq_getElem_cons hl5] at hrd
        simp only [Nat.sub_self, rdV] at hrd
        by_cases h15 : bs[4].toNat ≤ 15
        · simp only [h15, decide_true, if_true] at hrd ⊢
          have hA3lt := hA4.1
          have hval : η7 53 = .int .u32 ((A3 + bs[4].toNat * 2 ^ 28 : Nat) : Int) := by
            rw [f7 53 (by decide) (by decide)]
            have hshl := shl_nat .u32 rfl bs[4].toNat 28 (by decide) (show bs[4].toNat * 2 ^ 28 < 2 ^ 32 by omega)
            simp only [shV, Option.some.injEq, Value.int.injEq, true_and] at hshl
            have hor := or_nat .u32 rfl A3 (bs[4].toNat * 2 ^ 28) (show A3 < 2 ^ 32 by omega) (show bs[4].toNat * 2 ^ 28 < 2 ^ 32 by omega)
            rw [or_add A3 _ _ hA3lt] at hor
            simp only [binV, Option.some.injEq] at hor
            simp only [upd, if_true]
            rw [hshl]
            exact hor
          have : UvEnd bs ((A3 + bs[4].toNat * 2 ^ 28 : Nat) : Int) 5 := by
            unfold UvEnd
            rw [hrd]
            simp only [Option.map_some]
            refine ⟨by rw [Nat.mul_comm], by simp only [List.length_drop]; omega⟩
          show Q3 (.ret [_, _]) _ w
          have := hfin _ _ (upd η7 56 (.bool (decide (((bs[4].toNat : Nat) : Int) ≤ 15)))) this
          simpa [SV.val, upd, hval] using this
        · simp only [h15, decide_false, Bool.false_eq_true, if_false, Option.map_none] at hrd ⊢
          have : UvEnd bs 0 (-5) := by unfold UvEnd; rw [hrd]; show (-5 : Int) ≤ 0; omega
          exact hfin _ _ _ this
      · have hd : ((bs.length : Int) < 5) := by omega
        simp only [hd, decide_true, if_true]
        exact hfin _ _ _ (uvAt_short hA4 hl5)
  · have hd : ((bs.length : Int) < 1) := by omega
    simp only [hd, decide_true, if_true]
    have hA0 : UvAt bs 0 0 := ⟨by simp, by simp [rdUv]⟩
    exact hret _ _ _ (uvAt_short hA0 hlt)

theorem zeros16 : ([.int .u8 0, .int .u8 0, .int .u8 0, .int .u8 0, .int .u8 0, .int .u8 0, .int .u8 0, .int .u8 0, .int .u8 0, .int .u8 0, .int .u8 0, .int .u8 0, .int .u8 0, .int .u8 0, .int .u8 0, .int .u8 0] : List Value) = (List.replicate 16 (0 : UInt8)).map u8 := rfl

theorem u8_cells (bs : Bs) : (Value.agg (bs.map u8).toArray).cells.toList = bs.map u8 := by simp [Value.cells]

/-- 16 octets. -/
theorem rUuid_ok (hn : Named P) {I : J} {f : FuncId} (hf : fnP P f 1 = some (p_rUuid I)) (hsp : Spans P I.rSpan) : PrimOk P f .uuid := by
  intro ok w R nn s K he hs hk
  refine calls_of_np hn (vs := [ptr R]) hf fun η hη => ?_
  have h0 : η 0 = ptr R := hη 0 (by simp)
  have hRlt : R < w.heap.size := by
    obtain ⟨v, hr, _⟩ := rd_row hs
    exact hr.lt
  dsimp only [p_rUuid]
  rw [zeros16]
  refine np_op (vs := []) rfl (wp_alloc fun b1 w1 r1 hb1 k1 => ?_)
  refine ⟨⟨_, by simp only [upd]; rfl⟩, ?_⟩
  refine np_op (vs := []) rfl (wp_alloc fun b2 w2 r2 hb2 k2 => ?_)
  refine ⟨⟨_, by simp only [upd]; rfl⟩, ?_⟩
  refine np_draw ?_
  have k3 := keep_drawn w2
  have hbR1 : b1 ≠ R := by omega
  have hbR2 : b2 ≠ R := by have := k1.size; omega
  have h12 : b1 ≠ b2 := by have := r1.lt; omega
  have kk : Keep [] w { w2 with drawn := w2.drawn + 1 } := (k1.then k2).then k3
  refine np_look (vs := [ptr b2]) (by simp [SV.val, upd, Addr.add]) ⟨_, rfl, rfl, ?_⟩
  let ok' : Nat → Prop := fun k => ok k ∧ k ≠ b1 ∧ k ≠ b2
  have he' : Env ok' { w2 with drawn := w2.drawn + 1 } R := by
    refine ⟨fun k hk' => ⟨he.new k (Nat.le_trans kk.size hk'), ?_, ?_⟩, fun h => he.notR h.1⟩
    · have := (r1.keep (k2.then k3) (by simp)).lt; omega
    · have := (r2.keep k3 (by simp)).lt; omega
  have hs' : Rd ok' { w2 with drawn := w2.drawn + 1 } R nn s := by
    have h1 := hs.keep kk (by simp) (fun x hx => by simp at hx)
    cases s with
    | none => exact h1
    | some bs =>
      obtain ⟨v, q1, q2, q3⟩ := h1
      refine ⟨v, q1, ?_, q3⟩
      obtain ⟨v0, q4, q5, _⟩ := hs
      have hv : v0 = v := by have := (q4.keep kk (by simp)).inj q1; simpa using this
      subst hv
      rcases q5 with hnil | ⟨a, c, e1, e2, e3, e4, e5⟩
      · exact .inl hnil
      · refine (Sl.weak (ok := fun k => ok k ∧ k < w.heap.size) ?_ fun b hb hob => ⟨hob.1, by omega, by have := k1.size; omega⟩)
        refine Sl.same (w := w) (.inr ⟨a, c, e1, e2, e3, ⟨e4, e3⟩, e5⟩) ⟨kk.size, fun k hk _ => kk.block k hk (by simp)⟩
  have hnn : ∃ nn', Rd ok' { w2 with drawn := w2.drawn + 1 } R nn' s ∧ (∀ p, s.bind (rdSpan 16) = some p → nn' = true) := by
    cases s with
    | none => exact ⟨nn, hs', fun p hp => by cases hp⟩
    | some bs =>
      by_cases hb : bs = []
      · subst hb; exact ⟨nn, hs', fun p hp => by simp [rdSpan, cut] at hp⟩
      · obtain ⟨v, q1, q2, q3⟩ := hs'
        obtain ⟨a, c, e1, _⟩ := sl_some q2 hb
        exact ⟨true, ⟨v, q1, q2, fun _ => by rw [e1]; simp⟩, fun _ _ => rfl⟩
  obtain ⟨nn', hs'', hnt⟩ := hnn
  refine np_op (vs := [ptr R, .int .i64 16]) (by simp [SV.val, upd, h0]) (hsp ok' _ R nn' s 16 _ he' hs'' fun v w4 k4 hend => ?_)
  have k4' : Keep [R] { w2 with drawn := w2.drawn + 1 } w4 := k4
  have r14 : Row w4 b1 ((List.replicate 16 (0 : UInt8)).map u8) := (r1.keep (k2.then k3) (by simp)).keep k4' (by simpa using hbR1)
  have r24 : Row w4 b2 ((List.replicate 16 (0 : UInt8)).map u8) := (r2.keep k3 (by simp)).keep k4' (by simpa using hbR2)
  -- what was read, as octets
  have hoct : ∃ q : Bs, Sl0 w4 v q ∧ q.length ≤ 16 ∧ (match s.bind (rdSpan 16) with | some (x, r) => q = x ∧ x.length = 16 ∧ Rd ok' w4 R true (some r) | none => q = [] ∧ Rd ok' w4 R false none) := by
    unfold SpanEnd at hend
    cases hsp16 : s.bind (rdSpan 16) with
    | none =>
      rw [hsp16] at hend
      exact ⟨[], .inl ⟨hend.2, rfl⟩, by simp, rfl, hend.1⟩
    | some p =>
      obtain ⟨x, r⟩ := p
      rw [hsp16] at hend
      have hlen : x.length = 16 := by
        cases s with
        | none => cases hsp16
        | some bs =>
          simp only [Option.bind_some, rdSpan] at hsp16
          split at hsp16
          · exact (cut_some hsp16).2
          · cases hsp16
      refine ⟨x, hend.2.1.sl0, by omega, rfl, hlen, ?_⟩
      have := hnt _ hsp16
      subst this
      exact hend.1
  obtain ⟨q, hq0, hq16, hqm⟩ := hoct
  refine np_keep (vs := [ptr b2]) (by simp [SV.val, upd, Addr.add]) ⟨_, rfl, by simp [upd], rfl⟩ ?_
  obtain ⟨e2, hrow2⟩ := r24
  let res : Bs := q ++ List.replicate (16 - q.length) 0
  have hres : res.length = 16 := by simp [res]; omega
  have hcells : ((List.replicate 16 (0 : UInt8)).map u8).take 0 ++ (q.take 16).map u8 ++ ((List.replicate 16 (0 : UInt8)).map u8).drop (0 + min q.length 16) = res.map u8 := by
    rw [Nat.min_eq_left hq16, List.take_of_length_le hq16]
    simp only [Nat.zero_add, List.take_zero, List.nil_append, res, List.map_append, List.map_replicate, List.drop_replicate]
  refine np_op (vs := [.slice (some ⟨b2, 0, none⟩) 16 16, v]) (by simp [SV.val, upd]) ⟨b2, 0, _, e2, 16, 16, v, q, rfl, hrow2, by simp, hq0, ?_⟩
  rw [hcells]
  obtain ⟨r25, k5⟩ := setRow_row (ds := res.map u8) ⟨e2, hrow2⟩
  generalize hw5 : w4.setRow b2 (res.map u8).toArray = w5 at r25 k5
  refine np_keep (vs := [ptr b2]) (by simp [SV.val, upd, Addr.add]) ⟨_, rfl, by simp [upd], rfl⟩ ?_
  have r15 : Row w5 b1 ((List.replicate 16 (0 : UInt8)).map u8) := r14.keep k5 (by simpa using h12)
  refine np_op (vs := [ptr b2]) (by simp [SV.val, upd, Addr.add]) (wp_loadN r25 (by simp [hres]) ?_)
  have htake : ((res.map u8).drop 0).take 16 = res.map u8 := by rw [List.drop_zero, List.take_of_length_le (by simp [hres])]
  rw [htake]
  refine np_op (vs := [ptr b1, .agg (res.map u8).toArray]) (by simp [SV.val, upd, Addr.add]) (wp_store r15 (n := 16) ⟨by simp [Value.cells, hres], by simp [Value.cells, u8, Value.oneCell']⟩ (by simp) fun w6 r16 k6 => ?_)
  have hput : put ((List.replicate 16 (0 : UInt8)).map u8) 0 (Value.agg (res.map u8).toArray).cells.toList = res.map u8 := by
    rw [u8_cells]; simp [put, hres]
  rw [hput] at r16
  have hkeep : Keep [R] w w6 := by
    have q1 : Keep [R] w w4 := (kk.mono fun x hx => by simp at hx).then k4'
    have q2 : Keep [b2] w4 w5 := k5
    have q3 : Keep [b1] w5 w6 := k6
    refine ((q1.trans q2 fun x hx hlt => ?_).trans q3 fun x hx hlt => ?_)
    · simp only [List.mem_singleton] at hx; subst hx; have := k1.size; omega
    · simp only [List.mem_singleton] at hx; subst hx; omega
  have hR6 : ∀ nn z, Rd ok' w4 R nn z → Rd ok w6 R nn z := fun nn z hz =>
    ((hz.keep k5 (by simpa using Ne.symm hbR2) (fun x hx h => h.2.2 (by simpa using hx))).keep k6 (by simpa using Ne.symm hbR1) (fun x hx h => h.2.1 (by simpa using hx))).weak fun b _ hb => hb.1
  refine ⟨b1, 0, res.map u8, by simp [SV.val, upd, Addr.add], by have := r16.range 0 16; rwa [htake] at this, by simp [hres], ?_⟩
  refine hk _ w6 hkeep ?_
  have hsame : s.bind (rdP .uuid) = (s.bind (rdSpan 16)).map fun p => (PV.by p.1, p.2) := by
    cases s with
    | none => rfl
    | some bs => simp [rdP, rdSpan]
  unfold ReadEnd
  rw [hsame]
  cases hsp16 : s.bind (rdSpan 16) with
  | none =>
    rw [hsp16] at hqm
    refine ⟨hR6 _ _ hqm.2, ?_⟩
    show Fit 16 (.agg (res.map u8).toArray)
    exact ⟨by simp [Value.cells, hres], by simp [Value.cells, u8, Value.oneCell']⟩
  | some p =>
    obtain ⟨x, r⟩ := p
    rw [hsp16] at hqm
    obtain ⟨rfl, hx16, hr⟩ := hqm
    refine ⟨hR6 _ _ hr, ?_⟩
    have : res = q := by simp [res, hx16]
    show (Value.agg (res.map u8).toArray) = .agg (q.map u8).toArray ∧ q.length = 16
    rw [this]
    exact ⟨rfl, hx16⟩

theorem Own.keep {w w' : World} {B : Nat} {e : TypeId} {d : Value} {out : Bs} (h : Own w B e d out) {A : List Nat} (k : Keep A w w') (hA : ∀ g, d.ownBlock = some g → g ∉ A) : Own w' B e d out := by
  refine ⟨⟨h.1.1, ?_⟩, Nat.le_trans h.2 k.size⟩
  rcases h.1.2 with hn | ⟨g, cap, cur, hd, hb, hgg, rest⟩
  · exact .inl hn
  · refine .inr ⟨g, cap, cur, hd, hb, ?_, rest⟩
    rw [k.block g (Array.getElem?_eq_some_iff.1 hgg).1 (hA g (by rw [hd]; rfl))]
    exact hgg

theorem appendUuid_ok (hn : Named P) {I : J} {f : FuncId} (hf : fnP P f 2 = some (p_appendUuid I)) : AppPrim P I.e8 f .uuid := by
  intro w B d out x v K ho hv hlim hk
  obtain ⟨hv, hok⟩ := hv
  cases x with
  | «by» l =>
    obtain ⟨hv, hl⟩ : v = .agg (l.map u8).toArray ∧ l.length = 16 := hv
    subst hv
    refine calls_of_np hn (vs := [d, .agg (l.map u8).toArray]) hf fun η hη => ?_
    have h0 : η 0 = d := hη 0 (by simp)
    have h1 : η 1 = .agg (l.map u8).toArray := hη 1 (by simp)
    refine np_op (vs := [.agg (l.map u8).toArray]) (by simp [SV.val, h1]) ⟨_, rfl, by simp [Value.cells, hl], fun e => ?_⟩
    have hcells : (Value.agg (l.map u8).toArray).cells = (l.map u8).toArray := by simp [Value.cells]
    rw [hcells]
    obtain ⟨r1, k1⟩ := alloc_row (w := w) (l.map u8) e
    refine ⟨⟨_, by simp only [upd]; rfl⟩, ?_⟩
    refine np_op (vs := [ptr w.heap.size]) (by simp [SV.val, upd, Addr.add]) ⟨_, rfl, ?_⟩
    have hb : BytesIn (fun _ => True) (w.alloc (.cells (l.map u8).toArray e)) ⟨w.heap.size, 0, none⟩ l := row_bytes r1 trivial
    have hbel : Bl B w d (w.alloc (.cells (l.map u8).toArray e)) d := Bl.of_keep k1 ho.2
    have ho1 : Own (w.alloc (.cells (l.map u8).toArray e)) B I.e8 d out := ho.keep k1 (fun g _ hg => by simp at hg)
    refine np_op (vs := [d, .slice (some ⟨w.heap.size, 0, none⟩) 16 16]) (by simp [SV.val, upd, h0]) (wp_appB (bs := l) ho1 (.inr ⟨_, 16, by rw [hl], hb.2.2⟩) (by have := hlim; simpa [wrP] using this) fun d' w' ho' hb' => ?_)
    have := hk d' w' ho' (hbel.trans hb')
    show K (pack [_]) w'
    simpa [SV.val, upd, pack] using this
  | _ => exact hok.elim

end
end Go.Kb
