/- The seat YtaagmmeanifopaaDoor: kbin's functions and tags, what they do; which functions read and write what. -/
import Derived.Test.YtaagmmeanifopaaDoorSb
import Derived.Test.YtaagmmeanifopaaDoorRows
import Derived.KernelRfl
import Derived.WalkKit
namespace Go.Proofs.YtaagmmeanifopaaDoor
open Go.Shelf
def Tryd.sl6_ren : Go.Shelf.Ren := ⟨fun | 6 => 108 | 10 => 112 | 11 => 113 | 12 => 114 | 13 => 115 | 14 => 116 | 24 => 107 | 25 => 126 | 26 => 127 | 27 => 128 | 28 => 129 | 29 => 130 | 30 => 131 | 31 => 132 | 32 => 133 | 33 => 134 | 34 => 135 | 35 => 136 | 36 => 137 | 37 => 138 | 38 => 139 | 39 => 140 | n => n, fun | 20 => 20 | 26 => 127 | 35 => 134 | 0 => 0 | 37 => 136 | 3 => 3 | 41 => 106 | 44 => 141 | 49 => 65 | 51 => 82 | 4 => 4 | 54 => 148 | 53 => 147 | 58 => 152 | 5 => 5 | 9 => 9 | 60 => 154 | 64 => 157 | 66 => 159 | 67 => 160 | 17 => 17 | 32 => 131 | 33 => 132 | 82 => 175 | 12 => 12 | 75 => 168 | 76 => 169 | 77 => 170 | 78 => 171 | 79 => 172 | 80 => 173 | n => n, fun | n => n⟩
theorem Tryd.sl6 : Go.Proofs.LaysGg.n6 Tryd.prog Tryd.sl6_ren where
  mixed := by kernel_rfl
  f6 := Tryd.func108.trans (congrArg some (by kernel_rfl))
  f10 := Tryd.func112.trans (congrArg some (by kernel_rfl))
  f11 := Tryd.func113.trans (congrArg some (by kernel_rfl))
  f12 := Tryd.func114.trans (congrArg some (by kernel_rfl))
  f13 := Tryd.func115.trans (congrArg some (by kernel_rfl))
  f14 := Tryd.func116.trans (congrArg some (by kernel_rfl))
  f24 := Tryd.func107.trans (congrArg some (by kernel_rfl))
  f25 := Tryd.func126.trans (congrArg some (by kernel_rfl))
  f26 := Tryd.func127.trans (congrArg some (by kernel_rfl))
  f27 := Tryd.func128.trans (congrArg some (by kernel_rfl))
  f28 := Tryd.func129.trans (congrArg some (by kernel_rfl))
  f29 := Tryd.func130.trans (congrArg some (by kernel_rfl))
  f30 := Tryd.func131.trans (congrArg some (by kernel_rfl))
  f31 := Tryd.func132.trans (congrArg some (by kernel_rfl))
  f32 := Tryd.func133.trans (congrArg some (by kernel_rfl))
  f33 := Tryd.func134.trans (congrArg some (by kernel_rfl))
  f34 := Tryd.func135.trans (congrArg some (by kernel_rfl))
  f35 := Tryd.func136.trans (congrArg some (by kernel_rfl))
  f36 := Tryd.func137.trans (congrArg some (by kernel_rfl))
  f37 := Tryd.func138.trans (congrArg some (by kernel_rfl))
  f38 := Tryd.func139.trans (congrArg some (by kernel_rfl))
  f39 := Tryd.func140.trans (congrArg some (by kernel_rfl))
  t0 := Tryd.underlying0
  a0 := Tryd.isAgg0
  z0 := Tryd.sizeOf0
  v0 := Tryd.zeroValue0
  i0 := by kernel_rfl
  t3 := Tryd.underlying3
  a3 := Tryd.isAgg3
  z3 := Tryd.sizeOf3
  v3 := Tryd.zeroValue3
  i3 := by kernel_rfl
  t4 := Tryd.underlying4
  a4 := Tryd.isAgg4
  z4 := Tryd.sizeOf4
  v4 := Tryd.zeroValue4
  i4 := by kernel_rfl
  t5 := Tryd.underlying5
  a5 := Tryd.isAgg5
  z5 := Tryd.sizeOf5
  v5 := Tryd.zeroValue5
  i5 := by kernel_rfl
  t9 := Tryd.underlying9
  a9 := Tryd.isAgg9
  z9 := Tryd.sizeOf9
  v9 := Tryd.zeroValue9
  i9 := by kernel_rfl
  t12 := Tryd.underlying12
  a12 := Tryd.isAgg12
  z12 := Tryd.sizeOf12
  v12 := Tryd.zeroValue12
  i12 := by kernel_rfl
  t17 := Tryd.underlying17
  a17 := Tryd.isAgg17
  z17 := Tryd.sizeOf17
  v17 := Tryd.zeroValue17
  i17 := by kernel_rfl
  t20 := Tryd.underlying20
  a20 := Tryd.isAgg20
  z20 := Tryd.sizeOf20
  v20 := Tryd.zeroValue20
  i20 := by kernel_rfl
  t26 := Tryd.underlying127
  a26 := Tryd.isAgg127
  z26 := Tryd.sizeOf127
  v26 := Tryd.zeroValue127
  i26 := by kernel_rfl
  t32 := Tryd.underlying131
  a32 := Tryd.isAgg131
  z32 := Tryd.sizeOf131
  v32 := Tryd.zeroValue131
  i32 := by kernel_rfl
  t33 := Tryd.underlying132
  a33 := Tryd.isAgg132
  z33 := Tryd.sizeOf132
  v33 := Tryd.zeroValue132
  i33 := by kernel_rfl
  t35 := Tryd.underlying134
  a35 := Tryd.isAgg134
  z35 := Tryd.sizeOf134
  v35 := Tryd.zeroValue134
  i35 := by kernel_rfl
  t37 := Tryd.underlying136
  a37 := Tryd.isAgg136
  z37 := Tryd.sizeOf136
  v37 := Tryd.zeroValue136
  i37 := by kernel_rfl
  t41 := Tryd.underlying106
  a41 := Tryd.isAgg106
  z41 := Tryd.sizeOf106
  v41 := Tryd.zeroValue106
  i41 := by kernel_rfl
  t44 := Tryd.underlying141
  a44 := Tryd.isAgg141
  z44 := Tryd.sizeOf141
  v44 := Tryd.zeroValue141
  i44 := by kernel_rfl
  t49 := Tryd.underlying65
  a49 := Tryd.isAgg65
  z49 := Tryd.sizeOf65
  v49 := Tryd.zeroValue65
  i49 := by kernel_rfl
  t51 := Tryd.underlying82
  a51 := Tryd.isAgg82
  z51 := Tryd.sizeOf82
  v51 := Tryd.zeroValue82
  i51 := by kernel_rfl
  t53 := Tryd.underlying147
  a53 := Tryd.isAgg147
  z53 := Tryd.sizeOf147
  v53 := Tryd.zeroValue147
  i53 := by kernel_rfl
  t54 := Tryd.underlying148
  a54 := Tryd.isAgg148
  z54 := Tryd.sizeOf148
  v54 := Tryd.zeroValue148
  i54 := by kernel_rfl
  t58 := Tryd.underlying152
  a58 := Tryd.isAgg152
  z58 := Tryd.sizeOf152
  v58 := Tryd.zeroValue152
  i58 := by kernel_rfl
  t60 := Tryd.underlying154
  a60 := Tryd.isAgg154
  z60 := Tryd.sizeOf154
  v60 := Tryd.zeroValue154
  i60 := by kernel_rfl
  t64 := Tryd.underlying157
  a64 := Tryd.isAgg157
  z64 := Tryd.sizeOf157
  v64 := Tryd.zeroValue157
  i64 := by kernel_rfl
  t66 := Tryd.underlying159
  a66 := Tryd.isAgg159
  z66 := Tryd.sizeOf159
  v66 := Tryd.zeroValue159
  i66 := by kernel_rfl
  t67 := Tryd.underlying160
  a67 := Tryd.isAgg160
  z67 := Tryd.sizeOf160
  v67 := Tryd.zeroValue160
  i67 := by kernel_rfl
  t75 := Tryd.underlying168
  a75 := Tryd.isAgg168
  z75 := Tryd.sizeOf168
  v75 := Tryd.zeroValue168
  i75 := by kernel_rfl
  t76 := Tryd.underlying169
  a76 := Tryd.isAgg169
  z76 := Tryd.sizeOf169
  v76 := Tryd.zeroValue169
  i76 := by kernel_rfl
  t77 := Tryd.underlying170
  a77 := Tryd.isAgg170
  z77 := Tryd.sizeOf170
  v77 := Tryd.zeroValue170
  i77 := by kernel_rfl
  t78 := Tryd.underlying171
  a78 := Tryd.isAgg171
  z78 := Tryd.sizeOf171
  v78 := Tryd.zeroValue171
  i78 := by kernel_rfl
  t79 := Tryd.underlying172
  a79 := Tryd.isAgg172
  z79 := Tryd.sizeOf172
  v79 := Tryd.zeroValue172
  i79 := by kernel_rfl
  t80 := Tryd.underlying173
  a80 := Tryd.isAgg173
  z80 := Tryd.sizeOf173
  v80 := Tryd.zeroValue173
  i80 := by kernel_rfl
  t82 := Tryd.underlying175
  a82 := Tryd.isAgg175
  z82 := Tryd.sizeOf175
  v82 := Tryd.zeroValue175
  i82 := by kernel_rfl
end Go.Proofs.YtaagmmeanifopaaDoor

namespace Go.Proofs.YtaagmmeanifopaaDoor.Sg
open Go Go.Lx Go.Nx Go.Km Go.Mx Go.Kb Go.Mr
set_option linter.unusedVariables false
set_option maxRecDepth 100000

noncomputable abbrev P : Program := Tryd.prog
def IJ : J := { e8 := 5, lens := ⟨#[1, 1, 1, 1, 1, 1, 1, 1, 2, 2, 2, 2, 2, 2, 2, 3, 3, 3, 3, 3, 3, 3, 4, 4, 4, 4, 4, 4, 4, 5, 5, 5, 5, 5, 5, 5, 6, 6, 6, 6, 6, 6, 6, 7, 7, 7, 7, 7, 7, 7, 8, 8, 8, 8, 8, 8, 8, 9, 9, 9, 9, 9, 9, 9, 10, 0, 0, 0, 0, 0, 0, 0, 0, 0, 0, 0, 0, 0, 0, 0, 0, 0, 0, 0, 0, 0, 0, 0, 0, 0, 0, 0, 0, 0, 0, 0, 0, 0, 0, 0, 0, 0, 0, 0, 0, 0, 0, 0, 0, 0, 0, 0, 0, 0, 0, 0, 0, 0, 0, 0, 0, 0, 0, 0, 0, 0, 0, 0, 0, 0, 0, 0, 0, 0, 0, 0, 0, 0, 0, 0, 0, 0, 0, 0, 0, 0, 0, 0, 0, 0, 0, 0, 0, 0, 0, 0, 0, 0, 0, 0, 0, 0, 0, 0, 0, 0, 0, 0, 0, 0, 0, 0, 0, 0, 0, 0, 0, 0, 0, 0, 0, 0, 0, 0, 0, 0, 0, 0, 0, 0, 0, 0, 0, 0, 0, 0, 0, 0, 0, 0, 0, 0, 0, 0, 0, 0, 0, 0, 0, 0, 0, 0, 0, 0, 0, 0, 0, 0, 0, 0, 0, 0, 0, 0, 0, 0, 0, 0, 0, 0, 0, 0, 0, 0, 0, 0, 0, 0, 0, 0, 0, 0, 0, 0, 0, 0, 0, 0, 0, 0, 0, 0, 0, 0, 0, 0]⟩, tab8 := ⟨#[0, 1, 2, 2, 3, 3, 3, 3, 4, 4, 4, 4, 4, 4, 4, 4, 5, 5, 5, 5, 5, 5, 5, 5, 5, 5, 5, 5, 5, 5, 5, 5, 6, 6, 6, 6, 6, 6, 6, 6, 6, 6, 6, 6, 6, 6, 6, 6, 6, 6, 6, 6, 6, 6, 6, 6, 6, 6, 6, 6, 6, 6, 6, 6, 7, 7, 7, 7, 7, 7, 7, 7, 7, 7, 7, 7, 7, 7, 7, 7, 7, 7, 7, 7, 7, 7, 7, 7, 7, 7, 7, 7, 7, 7, 7, 7, 7, 7, 7, 7, 7, 7, 7, 7, 7, 7, 7, 7, 7, 7, 7, 7, 7, 7, 7, 7, 7, 7, 7, 7, 7, 7, 7, 7, 7, 7, 7, 7, 8, 8, 8, 8, 8, 8, 8, 8, 8, 8, 8, 8, 8, 8, 8, 8, 8, 8, 8, 8, 8, 8, 8, 8, 8, 8, 8, 8, 8, 8, 8, 8, 8, 8, 8, 8, 8, 8, 8, 8, 8, 8, 8, 8, 8, 8, 8, 8, 8, 8, 8, 8, 8, 8, 8, 8, 8, 8, 8, 8, 8, 8, 8, 8, 8, 8, 8, 8, 8, 8, 8, 8, 8, 8, 8, 8, 8, 8, 8, 8, 8, 8, 8, 8, 8, 8, 8, 8, 8, 8, 8, 8, 8, 8, 8, 8, 8, 8, 8, 8, 8, 8, 8, 8, 8, 8, 8, 8, 8, 8, 8, 8, 8, 8, 8, 8, 8, 8, 8, 8, 8, 8, 8, 8, 8, 8, 8, 8]⟩, err := 1, appendBytes := 0, appendCompactBytes := 0, appendCompactString := 0, appendInt16 := 56, appendInt32 := 71, appendString := 57, appendUint16 := 84, appendUint32 := 95, appendUint64 := 96, appendUvarint := 73, len32 := 107, rInt16 := 80, rInt32 := 92, rSpan := 102, rUvarint := 105, rreadUint64 := 104, unsafeString := 101, uvarint := 111, uvarintLen := 97, appendEach1 := 99, each := 98, each1 := 109, set := 106, slice := 108, uint16 := 100, uint32 := 103, uint64 := 110, be := 0, eG := 65, tSl := 125 }
theorem names : (P.funcs.toList.all fun fn => fn.name != "runtime.NumGoroutine") = true := by kernel_rfl
theorem hn : Named P := fun f fn h => by
  have := (List.all_eq_true.1 names) fn (by rw [← Array.getElem?_toList] at h; exact List.mem_of_getElem? h)
  simpa using this
theorem tab8_ok : Tab8 IJ.tab8 := by
  have h : ((List.range 256).all fun n => IJ.tab8[n]? == some (UInt8.ofNat (bitlen n))) = true := by kernel_rfl
  intro n hn
  simpa using (List.all_eq_true.1 h) n (by simpa using hn)
theorem lens_ok : LensTab IJ.lens := by
  have h : ((List.range 33).all fun n => IJ.lens[n]? == some (UInt8.ofNat (groups n))) = true := by kernel_rfl
  intro n hn
  simpa using (List.all_eq_true.1 h) n (by simp only [List.mem_range]; omega)
theorem f_uint16 : fnP P 100 2 = some (p_uint16 IJ) := by kernel_rfl
theorem f_uint32 : fnP P 103 2 = some (p_uint32 IJ) := by kernel_rfl
theorem f_uint64 : fnP P 110 2 = some (p_uint64 IJ) := by kernel_rfl
theorem f_rInt16 : fnP P 80 1 = some (p_rInt16 IJ) := by kernel_rfl
theorem f_rInt32 : fnP P 92 1 = some (p_rInt32 IJ) := by kernel_rfl
theorem f_rreadUint64 : fnP P 104 1 = some (p_rreadUint64 IJ) := by kernel_rfl
theorem f_rInt64 : fnP P 93 1 = some (p_rInt64 IJ.toIds) := by kernel_rfl
theorem f_rSpan : fnP P 102 2 = some (p_rSpan IJ.toIds) := by kernel_rfl
theorem f_uvarint : fnP P 111 1 = some (p_uvarint IJ) := by kernel_rfl
theorem f_rUvarint : fnP P 105 1 = some (p_rUvarint IJ.toIds) := by kernel_rfl
theorem f_rString : fnP P 82 1 = some (p_rString IJ.toIds) := by kernel_rfl
theorem f_rArrayLen : fnP P 90 1 = some (p_rArrayLen IJ.toIds) := by kernel_rfl
theorem f_rOk : fnP P 91 1 = some (p_rOk IJ.toIds) := by kernel_rfl
theorem f_rComplete : fnP P 83 1 = some (p_rComplete IJ.toIds) := by kernel_rfl
theorem f_set : fnP P 106 3 = some (p_set IJ) := by kernel_rfl
theorem f_rt : fnP P 94 1 = some (p_internalReadTags IJ) := by kernel_rfl
theorem f_len32 : fnP P 107 1 = some (p_len32 IJ.toIds) := by kernel_rfl
theorem f_uvarintLen : fnP P 97 1 = some (p_uvarintLen IJ.toIds) := by kernel_rfl
theorem f_appendUvarint : fnP P 73 2 = some (p_appendUvarint IJ.toIds) := by kernel_rfl
theorem f_appendUint16 : fnP P 84 2 = some (p_appendUint16 IJ.toIds) := by kernel_rfl
theorem f_appendUint32 : fnP P 95 2 = some (p_appendUint32 IJ.toIds) := by kernel_rfl
theorem f_appendUint64 : fnP P 96 2 = some (p_appendUint64 IJ.toIds) := by kernel_rfl
theorem f_appendInt16 : fnP P 56 2 = some (p_appendInt16 IJ.toIds) := by kernel_rfl
theorem f_appendInt32 : fnP P 71 2 = some (p_appendInt32 IJ.toIds) := by kernel_rfl
theorem f_appendInt64 : fnP P 72 2 = some (p_appendInt64 IJ.toIds) := by kernel_rfl
theorem f_appendString : fnP P 57 2 = some (p_appendString IJ.toIds) := by kernel_rfl
theorem f_appendArrayLen : fnP P 68 2 = some (p_appendArrayLen IJ.toIds) := by kernel_rfl
theorem f_len : fnP P 74 1 = some (p_len IJ) := by kernel_rfl
theorem f_appendEach1 : fnP P 99 3 = some (p_appendEach1 IJ) := by kernel_rfl
theorem f_each : fnP P 98 2 = some (p_each IJ) := by kernel_rfl
theorem f_appendEach : fnP P 75 2 = some (p_appendEach IJ) := by kernel_rfl
theorem f_each1 : fnP P 109 3 = some (p_each1 IJ) := by kernel_rfl
noncomputable def siT : TypeInfo := (P.info? 125).get (by kernel_rfl)
noncomputable def siE : TypeInfo := (P.info? 65).get (by kernel_rfl)
theorem siK (n : Nat) (h2 : 2 ≤ n) : Lib.swapperK n siE 10 = 6 := by
  have a : siE.hasPointers = false := by kernel_rfl
  have b : siE.bytes = 4 := by kernel_rfl
  have c : (n == 0) = false := by simp; omega
  have d : (n == 1) = false := by simp; omega
  simp [Lib.swapperK, a, b, c, d]
theorem c_sort : SortOk P IJ.slice IJ.each1 IJ.tSl :=
  Mr.sort_ok hn Tryd.sl6 125 65 siT siE (by kernel_rfl) (by kernel_rfl) (by kernel_rfl) (by kernel_rfl) 10 (fun _ => by kernel_rfl) (by kernel_rfl) (fun _ => by kernel_rfl) f_each1
    (enters_of Tryd.func109 (by kernel_rfl) rfl) 6 122 117 118 siK (by kernel_rfl) (by kernel_rfl) (by kernel_rfl) true
    (fun args W => run_callFunc_extern Tryd.func122 (by kernel_rfl) (by kernel_rfl) (by kernel_rfl) (e := Extern.ReflectliteSwapper.swap true) (by kernel_rfl) args W)
theorem c_uint16 : BeOk P 100 2 .u16 := uint16_ok hn f_uint16
theorem c_uint32 : BeOk P 103 4 .u32 := uint32_ok hn f_uint32
theorem c_uint64 : BeOk P 110 8 .u64 := uint64_ok hn f_uint64
theorem c_rInt16 : Reads P 80 (rdI 2) (intRep .i16) (· = .int .i16 0) := rInt16_ok hn f_rInt16 c_uint16
theorem c_rInt32 : Reads P 92 (rdI 4) (intRep .i32) (· = .int .i32 0) := rInt32_ok hn f_rInt32 c_uint32
theorem c_rreadUint64 : Reads P 104 (rdU 8) (natRep .u64) (· = .int .u64 0) := rreadUint64_ok hn f_rreadUint64 c_uint64
theorem c_rInt64 : Reads P 93 (rdI 8) (intRep .i64) (· = .int .i64 0) := rInt64_ok hn f_rInt64 c_rreadUint64
theorem c_rSpan : Spans P 102 := rSpan_ok hn f_rSpan
theorem c_uvarint : KUv P 111 := uvarint_ok hn f_uvarint
theorem c_rUvarint : Reads P 105 rdUv (natRep .u32) (· = .int .u32 0) := rUvarint_ok hn f_rUvarint c_uvarint
theorem c_rString : PrimOk P 82 (.str false) := rString_ok hn f_rString c_rInt16 c_rSpan
theorem c_rArrayLen : Counts P 90 false := rArrayLen_ok hn f_rArrayLen c_rInt32
theorem c_rOk : OkFn P 91 := rOk_ok hn f_rOk
theorem c_rComplete : CompleteFn P 83 IJ.err := rComplete_ok hn f_rComplete
theorem c_set : SetOk P 106 := set_ok hn f_set
theorem c_rt : TagsOk P 94 := rt_ok hn f_rt c_rUvarint c_rSpan c_set
theorem c_len32 : Len32Ok P 107 := len32_ok hn f_len32 tab8_ok
theorem c_uvarintLen : UvLenOk P 97 := uvarintLen_ok hn f_uvarintLen c_len32 lens_ok
theorem c_appendUvarint : AppendsG P IJ.e8 73 wrUv uvRep := appendUvarint_okG hn f_appendUvarint c_uvarintLen
theorem c_appendUint16 : Appends P IJ.e8 84 (be 2) (natRep .u16) := appendUint16_ok hn f_appendUint16
theorem c_appendUint32 : Appends P IJ.e8 95 (be 4) (natRep .u32) := appendUint32_ok hn f_appendUint32
theorem c_appendUint64 : Appends P IJ.e8 96 (be 8) (natRep .u64) := appendUint64_ok hn f_appendUint64
theorem c_appendInt16 : Appends P IJ.e8 56 (wrI 2) (intRep .i16) := appendInt16_ok hn f_appendInt16 c_appendUint16
theorem c_appendInt32 : Appends P IJ.e8 71 (wrI 4) (intRep .i32) := appendInt32_ok hn f_appendInt32 c_appendUint32
theorem c_appendInt64 : Appends P IJ.e8 72 (wrI 8) (intRep .i64) := appendInt64_ok hn f_appendInt64 c_appendUint64
theorem c_appendString : AppPrim P IJ.e8 57 (.str false) := appendString_ok hn f_appendString c_appendInt16
theorem c_appendArrayLen : Appends P IJ.e8 68 (wrCount false) lenRep := appendArrayLen_ok hn f_appendArrayLen c_appendInt32
theorem c_len : LenOk P 74 := len_ok' hn f_len
theorem c_appendEach1 : CbOk P IJ.e8 99 := cb_ok hn f_appendEach1 c_appendUvarint
theorem c_each : EachOk P IJ.e8 98 IJ.appendEach1 := each_ok hn f_each c_sort c_appendEach1 (fnP_fn f_appendEach1)
theorem c_appendEach : AppEachOk P IJ.e8 75 := appEach_ok hn f_appendEach c_each
def primL : List (Nat × Prim) := [(80, .i16), (92, .i32), (93, .i64), (82, .str false)]
theorem primL_ok : AllP (fun f p => PrimOk P f p) primL := ⟨prim_i16 c_rInt16, prim_i32 c_rInt32, prim_i64 c_rInt64, c_rString, trivial⟩
def cntL : List (Nat × Bool) := [(90, false)]
theorem cntL_ok : AllP (fun f c => Counts P f c) cntL := ⟨c_rArrayLen, trivial⟩
noncomputable def defL : List (Nat × List (Nat × Value)) := [(54, (defC P 54).getD []), (58, (defC P 58).getD []), (69, (defC P 69).getD []), (76, (defC P 76).getD []), (78, (defC P 78).getD [])]
theorem defL_ok : AllP (fun f ds => DefOk P f ds) defL := ⟨defC_ok hn (show defC P 54 = some ((defC P 54).getD []) by kernel_rfl), defC_ok hn (show defC P 58 = some ((defC P 58).getD []) by kernel_rfl), defC_ok hn (show defC P 69 = some ((defC P 69).getD []) by kernel_rfl), defC_ok hn (show defC P 76 = some ((defC P 76).getD []) by kernel_rfl), defC_ok hn (show defC P 78 = some ((defC P 78).getD []) by kernel_rfl), trivial⟩
noncomputable def TT : Tab := { prim := Mr.look primL, cnt := Mr.look cntL, tags := 94, okF := 91, compl := 83, defs := Mr.look defL }
theorem TT_ok : TabOk P TT IJ.err := ⟨look_ok primL_ok, look_ok cntL_ok, c_rt, c_rOk, c_rComplete, look_ok defL_ok⟩
def appL : List (Nat × Prim) := [(56, .i16), (84, .u16), (71, .i32), (72, .i64), (57, .str false)]
theorem appL_ok : AllP (fun f p => AppPrim P IJ.e8 f p) appL := ⟨app_i16 c_appendInt16, app_u16 c_appendUint16, app_i32 c_appendInt32, app_i64 c_appendInt64, c_appendString, trivial⟩
def alenL : List (Nat × Bool) := [(68, false)]
theorem alenL_ok : AllP (fun f c => Appends P IJ.e8 f (wrCount c) lenRep) alenL := ⟨c_appendArrayLen, trivial⟩
def alenNL : List (Nat × Bool) := []
theorem alenNL_ok : AllP (fun f c => AppN P IJ.e8 f c) alenNL := trivial
def WW : WTab := { app := Mr.look appL, alen := Mr.look alenL, alenN := Mr.look alenNL, tlen := 74, uv := 73, each := 75 }
theorem WW_ok : WTabOk P WW IJ.e8 := ⟨look_ok appL_ok, look_ok alenL_ok, look_ok alenNL_ok, c_len, c_appendUvarint.app, c_appendEach⟩
def SJ : Sp.SI := { e8 := 5, eT := 67, atF := 61, counted := 87, fieldF := 60, fixed := 28, hasF := 59, knownF := 62, nullF := 85, partF := 34, things := 86, unknown := 65, usual := 63, uvarint := 64, valueF := 88, whole := 66, width := 89, write := 14, zzFits3 := 27, zzFits4 := 53 }
theorem q_has : fnP P 59 2 = some (Sp.q_has SJ) := by kernel_rfl
theorem q_null : fnP P 85 3 = some (Sp.q_null SJ) := by kernel_rfl
theorem q_at1 : fnP P 61 2 = some (Sp.q_at SJ) := by kernel_rfl
theorem q_whole : fnP P 66 1 = some (Sp.q_whole SJ) := by kernel_rfl
theorem q_things : fnP P 86 1 = some (Sp.q_things SJ) := by kernel_rfl
theorem q_width : fnP P 89 1 = some (Sp.q_width SJ) := by kernel_rfl
theorem q_fixed : fnP P 28 2 = some (Sp.q_fixed SJ) := by kernel_rfl
theorem q_uvarint : fnP P 64 1 = some (Sp.q_uvarint SJ) := by kernel_rfl
theorem q_counted : fnP P 87 4 = some (Sp.q_counted SJ) := by kernel_rfl
theorem q_known : fnP P 62 1 = some (Sp.q_known SJ) := by kernel_rfl
theorem q_unknown : fnP P 65 2 = some (Sp.q_unknown SJ) := by kernel_rfl
theorem q_value : fnP P 88 6 = some (Sp.q_value SJ) := by kernel_rfl
theorem q_field : fnP P 60 4 = some (Sp.q_field SJ) := by kernel_rfl
theorem q_part : fnP P 34 4 = some (Sp.q_part SJ) := by kernel_rfl
theorem q_write : fnP P 14 3 = some (Sp.q_write SJ) := by kernel_rfl
theorem q_zz3 : fnP P 27 1 = some (Sp.q_zzFits3 SJ) := by kernel_rfl
theorem q_zz4 : fnP P 53 1 = some (Sp.q_zzFits4 SJ) := by kernel_rfl
theorem fns : Sp.Fns P SJ := ⟨hn, q_has, q_null, q_at1, q_whole, q_things, q_width, q_fixed, q_uvarint, q_counted, q_known, q_unknown, q_value, q_field, q_part, q_write, q_zz3, q_zz4⟩
end Go.Proofs.YtaagmmeanifopaaDoor.Sg
