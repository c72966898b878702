/- The seat YtlbojjkfjhnaaaaDoor: kbin's functions and tags, what they do; which functions read and write what. -/
import Derived.Test.YtlbojjkfjhnaaaaDoorMs
import Derived.Test.YtlbojjkfjhnaaaaDoorRows
import Derived.KernelRfl
import Derived.WalkKit
namespace Go.Proofs.YtlbojjkfjhnaaaaDoor
open Go.Shelf
def Tryd.sl6_ren : Go.Shelf.Ren := ⟨fun | 6 => 118 | 10 => 121 | 11 => 122 | 12 => 123 | 13 => 124 | 14 => 125 | 24 => 117 | 25 => 135 | 26 => 136 | 27 => 137 | 28 => 138 | 29 => 139 | 30 => 140 | 31 => 141 | 32 => 142 | 33 => 143 | 34 => 144 | 35 => 145 | 36 => 146 | 37 => 147 | 38 => 148 | 39 => 149 | n => n, fun | 20 => 20 | 26 => 154 | 35 => 160 | 0 => 0 | 37 => 162 | 3 => 3 | 41 => 134 | 44 => 167 | 49 => 77 | 51 => 94 | 4 => 4 | 54 => 174 | 53 => 173 | 58 => 178 | 5 => 5 | 9 => 9 | 60 => 180 | 64 => 184 | 66 => 186 | 67 => 187 | 17 => 17 | 32 => 157 | 33 => 158 | 82 => 202 | 12 => 12 | 75 => 195 | 76 => 196 | 77 => 197 | 78 => 198 | 79 => 199 | 80 => 200 | n => n, fun | n => n⟩
theorem Tryd.sl6 : Go.Proofs.LaysGg.n6 Tryd.prog Tryd.sl6_ren where
  mixed := by kernel_rfl
  f6 := Tryd.func118.trans (congrArg some (by kernel_rfl))
  f10 := Tryd.func121.trans (congrArg some (by kernel_rfl))
  f11 := Tryd.func122.trans (congrArg some (by kernel_rfl))
  f12 := Tryd.func123.trans (congrArg some (by kernel_rfl))
  f13 := Tryd.func124.trans (congrArg some (by kernel_rfl))
  f14 := Tryd.func125.trans (congrArg some (by kernel_rfl))
  f24 := Tryd.func117.trans (congrArg some (by kernel_rfl))
  f25 := Tryd.func135.trans (congrArg some (by kernel_rfl))
  f26 := Tryd.func136.trans (congrArg some (by kernel_rfl))
  f27 := Tryd.func137.trans (congrArg some (by kernel_rfl))
  f28 := Tryd.func138.trans (congrArg some (by kernel_rfl))
  f29 := Tryd.func139.trans (congrArg some (by kernel_rfl))
  f30 := Tryd.func140.trans (congrArg some (by kernel_rfl))
  f31 := Tryd.func141.trans (congrArg some (by kernel_rfl))
  f32 := Tryd.func142.trans (congrArg some (by kernel_rfl))
  f33 := Tryd.func143.trans (congrArg some (by kernel_rfl))
  f34 := Tryd.func144.trans (congrArg some (by kernel_rfl))
  f35 := Tryd.func145.trans (congrArg some (by kernel_rfl))
  f36 := Tryd.func146.trans (congrArg some (by kernel_rfl))
  f37 := Tryd.func147.trans (congrArg some (by kernel_rfl))
  f38 := Tryd.func148.trans (congrArg some (by kernel_rfl))
  f39 := Tryd.func149.trans (congrArg some (by kernel_rfl))
  t0 := Tryd.underlying0
  a0 := Tryd.isAgg0
  z0 := Tryd.sizeOf0
  v0 := Tryd.zeroValue0
  i0 := by kernel_rfl
  t3 := Tryd.underlying3
  a3 := Tryd.isAgg3
  z3 := Tryd.sizeOf3
  v3 := Tryd.zeroValue3
  i3 := by kernel_rfl
  t4 := Tryd.underlying4
  a4 := Tryd.isAgg4
  z4 := Tryd.sizeOf4
  v4 := Tryd.zeroValue4
  i4 := by kernel_rfl
  t5 := Tryd.underlying5
  a5 := Tryd.isAgg5
  z5 := Tryd.sizeOf5
  v5 := Tryd.zeroValue5
  i5 := by kernel_rfl
  t9 := Tryd.underlying9
  a9 := Tryd.isAgg9
  z9 := Tryd.sizeOf9
  v9 := Tryd.zeroValue9
  i9 := by kernel_rfl
  t12 := Tryd.underlying12
  a12 := Tryd.isAgg12
  z12 := Tryd.sizeOf12
  v12 := Tryd.zeroValue12
  i12 := by kernel_rfl
  t17 := Tryd.underlying17
  a17 := Tryd.isAgg17
  z17 := Tryd.sizeOf17
  v17 := Tryd.zeroValue17
  i17 := by kernel_rfl
  t20 := Tryd.underlying20
  a20 := Tryd.isAgg20
  z20 := Tryd.sizeOf20
  v20 := Tryd.zeroValue20
  i20 := by kernel_rfl
  t26 := Tryd.underlying154
  a26 := Tryd.isAgg154
  z26 := Tryd.sizeOf154
  v26 := Tryd.zeroValue154
  i26 := by kernel_rfl
  t32 := Tryd.underlying157
  a32 := Tryd.isAgg157
  z32 := Tryd.sizeOf157
  v32 := Tryd.zeroValue157
  i32 := by kernel_rfl
  t33 := Tryd.underlying158
  a33 := Tryd.isAgg158
  z33 := Tryd.sizeOf158
  v33 := Tryd.zeroValue158
  i33 := by kernel_rfl
  t35 := Tryd.underlying160
  a35 := Tryd.isAgg160
  z35 := Tryd.sizeOf160
  v35 := Tryd.zeroValue160
  i35 := by kernel_rfl
  t37 := Tryd.underlying162
  a37 := Tryd.isAgg162
  z37 := Tryd.sizeOf162
  v37 := Tryd.zeroValue162
  i37 := by kernel_rfl
  t41 := Tryd.underlying134
  a41 := Tryd.isAgg134
  z41 := Tryd.sizeOf134
  v41 := Tryd.zeroValue134
  i41 := by kernel_rfl
  t44 := Tryd.underlying167
  a44 := Tryd.isAgg167
  z44 := Tryd.sizeOf167
  v44 := Tryd.zeroValue167
  i44 := by kernel_rfl
  t49 := Tryd.underlying77
  a49 := Tryd.isAgg77
  z49 := Tryd.sizeOf77
  v49 := Tryd.zeroValue77
  i49 := by kernel_rfl
  t51 := Tryd.underlying94
  a51 := Tryd.isAgg94
  z51 := Tryd.sizeOf94
  v51 := Tryd.zeroValue94
  i51 := by kernel_rfl
  t53 := Tryd.underlying173
  a53 := Tryd.isAgg173
  z53 := Tryd.sizeOf173
  v53 := Tryd.zeroValue173
  i53 := by kernel_rfl
  t54 := Tryd.underlying174
  a54 := Tryd.isAgg174
  z54 := Tryd.sizeOf174
  v54 := Tryd.zeroValue174
  i54 := by kernel_rfl
  t58 := Tryd.underlying178
  a58 := Tryd.isAgg178
  z58 := Tryd.sizeOf178
  v58 := Tryd.zeroValue178
  i58 := by kernel_rfl
  t60 := Tryd.underlying180
  a60 := Tryd.isAgg180
  z60 := Tryd.sizeOf180
  v60 := Tryd.zeroValue180
  i60 := by kernel_rfl
  t64 := Tryd.underlying184
  a64 := Tryd.isAgg184
  z64 := Tryd.sizeOf184
  v64 := Tryd.zeroValue184
  i64 := by kernel_rfl
  t66 := Tryd.underlying186
  a66 := Tryd.isAgg186
  z66 := Tryd.sizeOf186
  v66 := Tryd.zeroValue186
  i66 := by kernel_rfl
  t67 := Tryd.underlying187
  a67 := Tryd.isAgg187
  z67 := Tryd.sizeOf187
  v67 := Tryd.zeroValue187
  i67 := by kernel_rfl
  t75 := Tryd.underlying195
  a75 := Tryd.isAgg195
  z75 := Tryd.sizeOf195
  v75 := Tryd.zeroValue195
  i75 := by kernel_rfl
  t76 := Tryd.underlying196
  a76 := Tryd.isAgg196
  z76 := Tryd.sizeOf196
  v76 := Tryd.zeroValue196
  i76 := by kernel_rfl
  t77 := Tryd.underlying197
  a77 := Tryd.isAgg197
  z77 := Tryd.sizeOf197
  v77 := Tryd.zeroValue197
  i77 := by kernel_rfl
  t78 := Tryd.underlying198
  a78 := Tryd.isAgg198
  z78 := Tryd.sizeOf198
  v78 := Tryd.zeroValue198
  i78 := by kernel_rfl
  t79 := Tryd.underlying199
  a79 := Tryd.isAgg199
  z79 := Tryd.sizeOf199
  v79 := Tryd.zeroValue199
  i79 := by kernel_rfl
  t80 := Tryd.underlying200
  a80 := Tryd.isAgg200
  z80 := Tryd.sizeOf200
  v80 := Tryd.zeroValue200
  i80 := by kernel_rfl
  t82 := Tryd.underlying202
  a82 := Tryd.isAgg202
  z82 := Tryd.sizeOf202
  v82 := Tryd.zeroValue202
  i82 := by kernel_rfl
end Go.Proofs.YtlbojjkfjhnaaaaDoor

namespace Go.Proofs.YtlbojjkfjhnaaaaDoor.Sg
open Go Go.Lx Go.Nx Go.Km Go.Mx Go.Kb Go.Mr
set_option linter.unusedVariables false
set_option maxRecDepth 100000

noncomputable abbrev P : Program := Tryd.prog
def IJ : J := { e8 := 5, lens := ⟨#[1, 1, 1, 1, 1, 1, 1, 1, 2, 2, 2, 2, 2, 2, 2, 3, 3, 3, 3, 3, 3, 3, 4, 4, 4, 4, 4, 4, 4, 5, 5, 5, 5, 5, 5, 5, 6, 6, 6, 6, 6, 6, 6, 7, 7, 7, 7, 7, 7, 7, 8, 8, 8, 8, 8, 8, 8, 9, 9, 9, 9, 9, 9, 9, 10, 0, 0, 0, 0, 0, 0, 0, 0, 0, 0, 0, 0, 0, 0, 0, 0, 0, 0, 0, 0, 0, 0, 0, 0, 0, 0, 0, 0, 0, 0, 0, 0, 0, 0, 0, 0, 0, 0, 0, 0, 0, 0, 0, 0, 0, 0, 0, 0, 0, 0, 0, 0, 0, 0, 0, 0, 0, 0, 0, 0, 0, 0, 0, 0, 0, 0, 0, 0, 0, 0, 0, 0, 0, 0, 0, 0, 0, 0, 0, 0, 0, 0, 0, 0, 0, 0, 0, 0, 0, 0, 0, 0, 0, 0, 0, 0, 0, 0, 0, 0, 0, 0, 0, 0, 0, 0, 0, 0, 0, 0, 0, 0, 0, 0, 0, 0, 0, 0, 0, 0, 0, 0, 0, 0, 0, 0, 0, 0, 0, 0, 0, 0, 0, 0, 0, 0, 0, 0, 0, 0, 0, 0, 0, 0, 0, 0, 0, 0, 0, 0, 0, 0, 0, 0, 0, 0, 0, 0, 0, 0, 0, 0, 0, 0, 0, 0, 0, 0, 0, 0, 0, 0, 0, 0, 0, 0, 0, 0, 0, 0, 0, 0, 0, 0, 0, 0, 0, 0, 0, 0, 0]⟩, tab8 := ⟨#[0, 1, 2, 2, 3, 3, 3, 3, 4, 4, 4, 4, 4, 4, 4, 4, 5, 5, 5, 5, 5, 5, 5, 5, 5, 5, 5, 5, 5, 5, 5, 5, 6, 6, 6, 6, 6, 6, 6, 6, 6, 6, 6, 6, 6, 6, 6, 6, 6, 6, 6, 6, 6, 6, 6, 6, 6, 6, 6, 6, 6, 6, 6, 6, 7, 7, 7, 7, 7, 7, 7, 7, 7, 7, 7, 7, 7, 7, 7, 7, 7, 7, 7, 7, 7, 7, 7, 7, 7, 7, 7, 7, 7, 7, 7, 7, 7, 7, 7, 7, 7, 7, 7, 7, 7, 7, 7, 7, 7, 7, 7, 7, 7, 7, 7, 7, 7, 7, 7, 7, 7, 7, 7, 7, 7, 7, 7, 7, 8, 8, 8, 8, 8, 8, 8, 8, 8, 8, 8, 8, 8, 8, 8, 8, 8, 8, 8, 8, 8, 8, 8, 8, 8, 8, 8, 8, 8, 8, 8, 8, 8, 8, 8, 8, 8, 8, 8, 8, 8, 8, 8, 8, 8, 8, 8, 8, 8, 8, 8, 8, 8, 8, 8, 8, 8, 8, 8, 8, 8, 8, 8, 8, 8, 8, 8, 8, 8, 8, 8, 8, 8, 8, 8, 8, 8, 8, 8, 8, 8, 8, 8, 8, 8, 8, 8, 8, 8, 8, 8, 8, 8, 8, 8, 8, 8, 8, 8, 8, 8, 8, 8, 8, 8, 8, 8, 8, 8, 8, 8, 8, 8, 8, 8, 8, 8, 8, 8, 8, 8, 8, 8, 8, 8, 8, 8, 8]⟩, err := 1, appendBytes := 65, appendCompactBytes := 64, appendCompactString := 74, appendInt16 := 45, appendInt32 := 48, appendString := 47, appendUint16 := 78, appendUint32 := 88, appendUint64 := 0, appendUvarint := 66, len32 := 117, rInt16 := 79, rInt32 := 86, rSpan := 105, rUvarint := 103, rreadUint64 := 0, unsafeString := 115, uvarint := 120, uvarintLen := 100, appendEach1 := 102, each := 101, each1 := 119, set := 104, slice := 118, uint16 := 114, uint32 := 116, uint64 := 0, be := 0, eG := 77, tSl := 104 }
theorem names : (P.funcs.toList.all fun fn => fn.name != "runtime.NumGoroutine") = true := by kernel_rfl
theorem hn : Named P := fun f fn h => by
  have := (List.all_eq_true.1 names) fn (by rw [← Array.getElem?_toList] at h; exact List.mem_of_getElem? h)
  simpa using this
theorem tab8_ok : Tab8 IJ.tab8 := by
  have h : ((List.range 256).all fun n => IJ.tab8[n]? == some (UInt8.ofNat (bitlen n))) = true := by kernel_rfl
  intro n hn
  simpa using (List.all_eq_true.1 h) n (by simpa using hn)
theorem lens_ok : LensTab IJ.lens := by
  have h : ((List.range 33).all fun n => IJ.lens[n]? == some (UInt8.ofNat (groups n))) = true := by kernel_rfl
  intro n hn
  simpa using (List.all_eq_true.1 h) n (by simp only [List.mem_range]; omega)
theorem f_uint16 : fnP P 114 2 = some (p_uint16 IJ) := by kernel_rfl
theorem f_uint32 : fnP P 116 2 = some (p_uint32 IJ) := by kernel_rfl
theorem f_rInt16 : fnP P 79 1 = some (p_rInt16 IJ) := by kernel_rfl
theorem f_rInt32 : fnP P 86 1 = some (p_rInt32 IJ) := by kernel_rfl
theorem f_rUint16 : fnP P 113 1 = some (p_rUint16 IJ) := by kernel_rfl
theorem f_rInt8 : fnP P 96 1 = some (p_rInt8 IJ.toIds) := by kernel_rfl
theorem f_rBool : fnP P 95 1 = some (p_rBool IJ.toIds) := by kernel_rfl
theorem f_rSpan : fnP P 105 2 = some (p_rSpan IJ.toIds) := by kernel_rfl
theorem f_uvarint : fnP P 120 1 = some (p_uvarint IJ) := by kernel_rfl
theorem f_rUvarint : fnP P 103 1 = some (p_rUvarint IJ.toIds) := by kernel_rfl
theorem f_rUuid : fnP P 94 1 = some (p_rUuid IJ) := by kernel_rfl
theorem f_rString : fnP P 85 1 = some (p_rString IJ.toIds) := by kernel_rfl
theorem f_rCompactString : fnP P 107 1 = some (p_rCompactString IJ.toIds) := by kernel_rfl
theorem f_rBytes : fnP P 98 1 = some (p_rBytes IJ.toIds) := by kernel_rfl
theorem f_rCompactBytes : fnP P 97 1 = some (p_rCompactBytes IJ.toIds) := by kernel_rfl
theorem f_rNullableBytes : fnP P 87 1 = some (p_rNullableBytes IJ.toIds) := by kernel_rfl
theorem f_rArrayLen : fnP P 80 1 = some (p_rArrayLen IJ.toIds) := by kernel_rfl
theorem f_rCompactArrayLen : fnP P 109 1 = some (p_rCompactArrayLen IJ.toIds) := by kernel_rfl
theorem f_rOk : fnP P 81 1 = some (p_rOk IJ.toIds) := by kernel_rfl
theorem f_rComplete : fnP P 82 1 = some (p_rComplete IJ.toIds) := by kernel_rfl
theorem f_set : fnP P 104 3 = some (p_set IJ) := by kernel_rfl
theorem f_rt : fnP P 99 1 = some (p_internalReadTags IJ) := by kernel_rfl
theorem f_len32 : fnP P 117 1 = some (p_len32 IJ.toIds) := by kernel_rfl
theorem f_uvarintLen : fnP P 100 1 = some (p_uvarintLen IJ.toIds) := by kernel_rfl
theorem f_appendUvarint : fnP P 66 2 = some (p_appendUvarint IJ.toIds) := by kernel_rfl
theorem f_appendUint16 : fnP P 78 2 = some (p_appendUint16 IJ.toIds) := by kernel_rfl
theorem f_appendUint32 : fnP P 88 2 = some (p_appendUint32 IJ.toIds) := by kernel_rfl
theorem f_appendInt16 : fnP P 45 2 = some (p_appendInt16 IJ.toIds) := by kernel_rfl
theorem f_appendInt32 : fnP P 48 2 = some (p_appendInt32 IJ.toIds) := by kernel_rfl
theorem f_appendInt8 : fnP P 63 2 = some (p_appendInt8 IJ.toIds) := by kernel_rfl
theorem f_appendBool : fnP P 62 2 = some (p_appendBool IJ.toIds) := by kernel_rfl
theorem f_appendUuid : fnP P 61 2 = some (p_appendUuid IJ) := by kernel_rfl
theorem f_appendString : fnP P 47 2 = some (p_appendString IJ.toIds) := by kernel_rfl
theorem f_appendCompactString : fnP P 74 2 = some (p_appendCompactString IJ.toIds) := by kernel_rfl
theorem f_appendBytes : fnP P 65 2 = some (p_appendBytes IJ.toIds) := by kernel_rfl
theorem f_appendCompactBytes : fnP P 64 2 = some (p_appendCompactBytes IJ.toIds) := by kernel_rfl
theorem f_appendNullableBytes : fnP P 49 2 = some (p_appendNullableBytes IJ.toIds) := by kernel_rfl
theorem f_appendArrayLen : fnP P 46 2 = some (p_appendArrayLen IJ.toIds) := by kernel_rfl
theorem f_appendCompactArrayLen : fnP P 77 2 = some (p_appendCompactArrayLen IJ.toIds) := by kernel_rfl
theorem f_len : fnP P 67 1 = some (p_len IJ) := by kernel_rfl
theorem f_appendEach1 : fnP P 102 3 = some (p_appendEach1 IJ) := by kernel_rfl
theorem f_each : fnP P 101 2 = some (p_each IJ) := by kernel_rfl
theorem f_appendEach : fnP P 68 2 = some (p_appendEach IJ) := by kernel_rfl
theorem f_each1 : fnP P 119 3 = some (p_each1 IJ) := by kernel_rfl
noncomputable def siT : TypeInfo := (P.info? 104).get (by kernel_rfl)
noncomputable def siE : TypeInfo := (P.info? 77).get (by kernel_rfl)
theorem siK (n : Nat) (h2 : 2 ≤ n) : Lib.swapperK n siE 10 = 6 := by
  have a : siE.hasPointers = false := by kernel_rfl
  have b : siE.bytes = 4 := by kernel_rfl
  have c : (n == 0) = false := by simp; omega
  have d : (n == 1) = false := by simp; omega
  simp [Lib.swapperK, a, b, c, d]
theorem c_sort : SortOk P IJ.slice IJ.each1 IJ.tSl :=
  Mr.sort_ok hn Tryd.sl6 104 77 siT siE (by kernel_rfl) (by kernel_rfl) (by kernel_rfl) (by kernel_rfl) 10 (fun _ => by kernel_rfl) (by kernel_rfl) (fun _ => by kernel_rfl) f_each1
    (enters_of Tryd.func119 (by kernel_rfl) rfl) 6 131 126 127 siK (by kernel_rfl) (by kernel_rfl) (by kernel_rfl) true
    (fun args W => run_callFunc_extern Tryd.func131 (by kernel_rfl) (by kernel_rfl) (by kernel_rfl) (e := Extern.ReflectliteSwapper.swap true) (by kernel_rfl) args W)
theorem c_uint16 : BeOk P 114 2 .u16 := uint16_ok hn f_uint16
theorem c_uint32 : BeOk P 116 4 .u32 := uint32_ok hn f_uint32
theorem c_rInt16 : Reads P 79 (rdI 2) (intRep .i16) (· = .int .i16 0) := rInt16_ok hn f_rInt16 c_uint16
theorem c_rInt32 : Reads P 86 (rdI 4) (intRep .i32) (· = .int .i32 0) := rInt32_ok hn f_rInt32 c_uint32
theorem c_rUint16 : Reads P 113 (rdU 2) (natRep .u16) (· = .int .u16 0) := rUint16_ok hn f_rUint16 c_uint16
theorem c_rInt8 : Reads P 96 (rdI 1) (intRep .i8) (· = .int .i8 0) := rInt8_ok hn f_rInt8
theorem c_rBool : Reads P 95 rdB boolRep (· = .bool false) := rBool_ok hn f_rBool
theorem c_rSpan : Spans P 105 := rSpan_ok hn f_rSpan
theorem c_uvarint : KUv P 120 := uvarint_ok hn f_uvarint
theorem c_rUvarint : Reads P 103 rdUv (natRep .u32) (· = .int .u32 0) := rUvarint_ok hn f_rUvarint c_uvarint
theorem c_rUuid : PrimOk P 94 .uuid := rUuid_ok hn f_rUuid c_rSpan
theorem c_rString : PrimOk P 85 (.str false) := rString_ok hn f_rString c_rInt16 c_rSpan
theorem c_rCompactString : PrimOk P 107 (.str true) := rCompactString_ok hn f_rCompactString c_rUvarint c_rSpan
theorem c_rBytes : PrimOk P 98 (.byt false) := rBytes_ok hn f_rBytes c_rInt32 c_rSpan
theorem c_rCompactBytes : PrimOk P 97 (.byt true) := rCompactBytes_ok hn f_rCompactBytes c_rUvarint c_rSpan
theorem c_rNullableBytes : PrimOk P 87 (.nbyt false) := rNullableBytes_ok hn f_rNullableBytes c_rInt32 c_rSpan
theorem c_rArrayLen : Counts P 80 false := rArrayLen_ok hn f_rArrayLen c_rInt32
theorem c_rCompactArrayLen : Counts P 109 true := rCompactArrayLen_ok hn f_rCompactArrayLen c_rUvarint
theorem c_rOk : OkFn P 81 := rOk_ok hn f_rOk
theorem c_rComplete : CompleteFn P 82 IJ.err := rComplete_ok hn f_rComplete
theorem c_set : SetOk P 104 := set_ok hn f_set
theorem c_rt : TagsOk P 99 := rt_ok hn f_rt c_rUvarint c_rSpan c_set
theorem c_len32 : Len32Ok P 117 := len32_ok hn f_len32 tab8_ok
theorem c_uvarintLen : UvLenOk P 100 := uvarintLen_ok hn f_uvarintLen c_len32 lens_ok
theorem c_appendUvarint : AppendsG P IJ.e8 66 wrUv uvRep := appendUvarint_okG hn f_appendUvarint c_uvarintLen
theorem c_appendUint16 : Appends P IJ.e8 78 (be 2) (natRep .u16) := appendUint16_ok hn f_appendUint16
theorem c_appendUint32 : Appends P IJ.e8 88 (be 4) (natRep .u32) := appendUint32_ok hn f_appendUint32
theorem c_appendInt16 : Appends P IJ.e8 45 (wrI 2) (intRep .i16) := appendInt16_ok hn f_appendInt16 c_appendUint16
theorem c_appendInt32 : Appends P IJ.e8 48 (wrI 4) (intRep .i32) := appendInt32_ok hn f_appendInt32 c_appendUint32
theorem c_appendInt8 : Appends P IJ.e8 63 (wrI 1) (intRep .i8) := appendInt8_ok hn f_appendInt8
theorem c_appendBool : Appends P IJ.e8 62 (fun b : Bool => [if b then 1 else 0]) boolRep := appendBool_ok hn f_appendBool
theorem c_appendUuid : AppPrim P IJ.e8 61 .uuid := appendUuid_ok hn f_appendUuid
theorem c_appendString : AppPrim P IJ.e8 47 (.str false) := appendString_ok hn f_appendString c_appendInt16
theorem c_appendCompactString : AppPrim P IJ.e8 74 (.str true) := appendCompactString_ok hn f_appendCompactString c_appendUvarint.app
theorem c_appendBytes : Appends P IJ.e8 65 (fun l : Bs => wrLen false 4 l.length ++ l) bytRep := appendBytes_raw hn f_appendBytes c_appendInt32
theorem c_appendCompactBytes : Appends P IJ.e8 64 (fun l : Bs => wrLen true 4 l.length ++ l) bytRep := appendCompactBytes_raw hn f_appendCompactBytes c_appendUvarint.app
theorem c_appendNullableBytes : AppPrim P IJ.e8 49 (.nbyt false) := appendNullableBytes_ok hn f_appendNullableBytes c_appendInt32 c_appendBytes
theorem c_appendArrayLen : Appends P IJ.e8 46 (wrCount false) lenRep := appendArrayLen_ok hn f_appendArrayLen c_appendInt32
theorem c_appendCompactArrayLen : Appends P IJ.e8 77 (wrCount true) lenRep := appendCompactArrayLen_ok hn f_appendCompactArrayLen c_appendUvarint.app
theorem c_len : LenOk P 67 := len_ok' hn f_len
theorem c_appendEach1 : CbOk P IJ.e8 102 := cb_ok hn f_appendEach1 c_appendUvarint
theorem c_each : EachOk P IJ.e8 101 IJ.appendEach1 := each_ok hn f_each c_sort c_appendEach1 (fnP_fn f_appendEach1)
theorem c_appendEach : AppEachOk P IJ.e8 68 := appEach_ok hn f_appendEach c_each
def primL : List (Nat × Prim) := [(96, .i8), (79, .i16), (113, .u16), (86, .i32), (95, .bool), (94, .uuid), (85, .str false), (107, .str true), (98, .byt false), (97, .byt true), (87, .nbyt false)]
theorem primL_ok : AllP (fun f p => PrimOk P f p) primL := ⟨prim_i8 c_rInt8, prim_i16 c_rInt16, prim_u16 c_rUint16, prim_i32 c_rInt32, prim_bool c_rBool, c_rUuid, c_rString, c_rCompactString, c_rBytes, c_rCompactBytes, c_rNullableBytes, trivial⟩
def cntL : List (Nat × Bool) := [(80, false), (109, true)]
theorem cntL_ok : AllP (fun f c => Counts P f c) cntL := ⟨c_rArrayLen, c_rCompactArrayLen, trivial⟩
noncomputable def defL : List (Nat × List (Nat × Value)) := [(43, (defC P 43).getD []), (51, (defC P 51).getD []), (69, (defC P 69).getD []), (73, (defC P 73).getD []), (75, (defC P 75).getD []), (83, (defC P 83).getD []), (110, (defC P 110).getD []), (111, (defC P 111).getD []), (112, (defC P 112).getD [])]
theorem defL_ok : AllP (fun f ds => DefOk P f ds) defL := ⟨defC_ok hn (show defC P 43 = some ((defC P 43).getD []) by kernel_rfl), defC_ok hn (show defC P 51 = some ((defC P 51).getD []) by kernel_rfl), defC_ok hn (show defC P 69 = some ((defC P 69).getD []) by kernel_rfl), defC_ok hn (show defC P 73 = some ((defC P 73).getD []) by kernel_rfl), defC_ok hn (show defC P 75 = some ((defC P 75).getD []) by kernel_rfl), defC_ok hn (show defC P 83 = some ((defC P 83).getD []) by kernel_rfl), defC_ok hn (show defC P 110 = some ((defC P 110).getD []) by kernel_rfl), defC_ok hn (show defC P 111 = some ((defC P 111).getD []) by kernel_rfl), defC_ok hn (show defC P 112 = some ((defC P 112).getD []) by kernel_rfl), trivial⟩
noncomputable def TT : Tab := { prim := Mr.look primL, cnt := Mr.look cntL, tags := 99, okF := 81, compl := 82, defs := Mr.look defL }
theorem TT_ok : TabOk P TT IJ.err := ⟨look_ok primL_ok, look_ok cntL_ok, c_rt, c_rOk, c_rComplete, look_ok defL_ok⟩
def appL : List (Nat × Prim) := [(63, .i8), (45, .i16), (78, .u16), (48, .i32), (62, .bool), (61, .uuid), (47, .str false), (74, .str true), (65, .byt false), (64, .byt true), (49, .nbyt false)]
theorem appL_ok : AllP (fun f p => AppPrim P IJ.e8 f p) appL := ⟨app_i8 c_appendInt8, app_i16 c_appendInt16, app_u16 c_appendUint16, app_i32 c_appendInt32, app_bool c_appendBool, c_appendUuid, c_appendString, c_appendCompactString, prim_byt c_appendBytes, prim_byt c_appendCompactBytes, c_appendNullableBytes, trivial⟩
def alenL : List (Nat × Bool) := [(46, false), (77, true)]
theorem alenL_ok : AllP (fun f c => Appends P IJ.e8 f (wrCount c) lenRep) alenL := ⟨c_appendArrayLen, c_appendCompactArrayLen, trivial⟩
def alenNL : List (Nat × Bool) := []
theorem alenNL_ok : AllP (fun f c => AppN P IJ.e8 f c) alenNL := trivial
def WW : WTab := { app := Mr.look appL, alen := Mr.look alenL, alenN := Mr.look alenNL, tlen := 67, uv := 66, each := 68 }
theorem WW_ok : WTabOk P WW IJ.e8 := ⟨look_ok appL_ok, look_ok alenL_ok, look_ok alenNL_ok, c_len, c_appendUvarint.app, c_appendEach⟩
end Go.Proofs.YtlbojjkfjhnaaaaDoor.Sg
