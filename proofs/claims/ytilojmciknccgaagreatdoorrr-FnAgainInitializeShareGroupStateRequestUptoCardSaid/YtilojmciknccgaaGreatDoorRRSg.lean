/- The seat YtilojmciknccgaaGreatDoorRR: kbin's functions and tags, what they do; which functions read and write what. -/
import Derived.Test.YtilojmciknccgaaGreatDoorRRSb
import Derived.Test.YtilojmciknccgaaGreatDoorRRRows
import Derived.KernelRfl
import Derived.WalkKit
namespace Go.Proofs.YtilojmciknccgaaGreatDoorRR
open Go.Shelf
def Tryz.sl6_ren : Go.Shelf.Ren := ⟨fun | 6 => 147 | 10 => 150 | 11 => 151 | 12 => 152 | 13 => 153 | 14 => 154 | 24 => 146 | 25 => 164 | 26 => 165 | 27 => 166 | 28 => 167 | 29 => 168 | 30 => 169 | 31 => 170 | 32 => 171 | 33 => 172 | 34 => 173 | 35 => 174 | 36 => 175 | 37 => 176 | 38 => 177 | 39 => 178 | n => n, fun | 20 => 20 | 26 => 169 | 35 => 174 | 0 => 0 | 37 => 176 | 3 => 3 | 41 => 148 | 44 => 181 | 49 => 72 | 51 => 94 | 4 => 4 | 54 => 188 | 53 => 187 | 58 => 192 | 5 => 5 | 9 => 9 | 60 => 194 | 64 => 197 | 66 => 199 | 67 => 200 | 17 => 17 | 32 => 171 | 33 => 172 | 82 => 215 | 12 => 12 | 75 => 208 | 76 => 209 | 77 => 210 | 78 => 211 | 79 => 212 | 80 => 213 | n => n, fun | n => n⟩
theorem Tryz.sl6 : Go.Proofs.LaysGg.n6 Tryz.prog Tryz.sl6_ren where
  mixed := by kernel_rfl
  f6 := Tryz.func147.trans (congrArg some (by kernel_rfl))
  f10 := Tryz.func150.trans (congrArg some (by kernel_rfl))
  f11 := Tryz.func151.trans (congrArg some (by kernel_rfl))
  f12 := Tryz.func152.trans (congrArg some (by kernel_rfl))
  f13 := Tryz.func153.trans (congrArg some (by kernel_rfl))
  f14 := Tryz.func154.trans (congrArg some (by kernel_rfl))
  f24 := Tryz.func146.trans (congrArg some (by kernel_rfl))
  f25 := Tryz.func164.trans (congrArg some (by kernel_rfl))
  f26 := Tryz.func165.trans (congrArg some (by kernel_rfl))
  f27 := Tryz.func166.trans (congrArg some (by kernel_rfl))
  f28 := Tryz.func167.trans (congrArg some (by kernel_rfl))
  f29 := Tryz.func168.trans (congrArg some (by kernel_rfl))
  f30 := Tryz.func169.trans (congrArg some (by kernel_rfl))
  f31 := Tryz.func170.trans (congrArg some (by kernel_rfl))
  f32 := Tryz.func171.trans (congrArg some (by kernel_rfl))
  f33 := Tryz.func172.trans (congrArg some (by kernel_rfl))
  f34 := Tryz.func173.trans (congrArg some (by kernel_rfl))
  f35 := Tryz.func174.trans (congrArg some (by kernel_rfl))
  f36 := Tryz.func175.trans (congrArg some (by kernel_rfl))
  f37 := Tryz.func176.trans (congrArg some (by kernel_rfl))
  f38 := Tryz.func177.trans (congrArg some (by kernel_rfl))
  f39 := Tryz.func178.trans (congrArg some (by kernel_rfl))
  t0 := Tryz.underlying0
  a0 := Tryz.isAgg0
  z0 := Tryz.sizeOf0
  v0 := Tryz.zeroValue0
  i0 := by kernel_rfl
  t3 := Tryz.underlying3
  a3 := Tryz.isAgg3
  z3 := Tryz.sizeOf3
  v3 := Tryz.zeroValue3
  i3 := by kernel_rfl
  t4 := Tryz.underlying4
  a4 := Tryz.isAgg4
  z4 := Tryz.sizeOf4
  v4 := Tryz.zeroValue4
  i4 := by kernel_rfl
  t5 := Tryz.underlying5
  a5 := Tryz.isAgg5
  z5 := Tryz.sizeOf5
  v5 := Tryz.zeroValue5
  i5 := by kernel_rfl
  t9 := Tryz.underlying9
  a9 := Tryz.isAgg9
  z9 := Tryz.sizeOf9
  v9 := Tryz.zeroValue9
  i9 := by kernel_rfl
  t12 := Tryz.underlying12
  a12 := Tryz.isAgg12
  z12 := Tryz.sizeOf12
  v12 := Tryz.zeroValue12
  i12 := by kernel_rfl
  t17 := Tryz.underlying17
  a17 := Tryz.isAgg17
  z17 := Tryz.sizeOf17
  v17 := Tryz.zeroValue17
  i17 := by kernel_rfl
  t20 := Tryz.underlying20
  a20 := Tryz.isAgg20
  z20 := Tryz.sizeOf20
  v20 := Tryz.zeroValue20
  i20 := by kernel_rfl
  t26 := Tryz.underlying169
  a26 := Tryz.isAgg169
  z26 := Tryz.sizeOf169
  v26 := Tryz.zeroValue169
  i26 := by kernel_rfl
  t32 := Tryz.underlying171
  a32 := Tryz.isAgg171
  z32 := Tryz.sizeOf171
  v32 := Tryz.zeroValue171
  i32 := by kernel_rfl
  t33 := Tryz.underlying172
  a33 := Tryz.isAgg172
  z33 := Tryz.sizeOf172
  v33 := Tryz.zeroValue172
  i33 := by kernel_rfl
  t35 := Tryz.underlying174
  a35 := Tryz.isAgg174
  z35 := Tryz.sizeOf174
  v35 := Tryz.zeroValue174
  i35 := by kernel_rfl
  t37 := Tryz.underlying176
  a37 := Tryz.isAgg176
  z37 := Tryz.sizeOf176
  v37 := Tryz.zeroValue176
  i37 := by kernel_rfl
  t41 := Tryz.underlying148
  a41 := Tryz.isAgg148
  z41 := Tryz.sizeOf148
  v41 := Tryz.zeroValue148
  i41 := by kernel_rfl
  t44 := Tryz.underlying181
  a44 := Tryz.isAgg181
  z44 := Tryz.sizeOf181
  v44 := Tryz.zeroValue181
  i44 := by kernel_rfl
  t49 := Tryz.underlying72
  a49 := Tryz.isAgg72
  z49 := Tryz.sizeOf72
  v49 := Tryz.zeroValue72
  i49 := by kernel_rfl
  t51 := Tryz.underlying94
  a51 := Tryz.isAgg94
  z51 := Tryz.sizeOf94
  v51 := Tryz.zeroValue94
  i51 := by kernel_rfl
  t53 := Tryz.underlying187
  a53 := Tryz.isAgg187
  z53 := Tryz.sizeOf187
  v53 := Tryz.zeroValue187
  i53 := by kernel_rfl
  t54 := Tryz.underlying188
  a54 := Tryz.isAgg188
  z54 := Tryz.sizeOf188
  v54 := Tryz.zeroValue188
  i54 := by kernel_rfl
  t58 := Tryz.underlying192
  a58 := Tryz.isAgg192
  z58 := Tryz.sizeOf192
  v58 := Tryz.zeroValue192
  i58 := by kernel_rfl
  t60 := Tryz.underlying194
  a60 := Tryz.isAgg194
  z60 := Tryz.sizeOf194
  v60 := Tryz.zeroValue194
  i60 := by kernel_rfl
  t64 := Tryz.underlying197
  a64 := Tryz.isAgg197
  z64 := Tryz.sizeOf197
  v64 := Tryz.zeroValue197
  i64 := by kernel_rfl
  t66 := Tryz.underlying199
  a66 := Tryz.isAgg199
  z66 := Tryz.sizeOf199
  v66 := Tryz.zeroValue199
  i66 := by kernel_rfl
  t67 := Tryz.underlying200
  a67 := Tryz.isAgg200
  z67 := Tryz.sizeOf200
  v67 := Tryz.zeroValue200
  i67 := by kernel_rfl
  t75 := Tryz.underlying208
  a75 := Tryz.isAgg208
  z75 := Tryz.sizeOf208
  v75 := Tryz.zeroValue208
  i75 := by kernel_rfl
  t76 := Tryz.underlying209
  a76 := Tryz.isAgg209
  z76 := Tryz.sizeOf209
  v76 := Tryz.zeroValue209
  i76 := by kernel_rfl
  t77 := Tryz.underlying210
  a77 := Tryz.isAgg210
  z77 := Tryz.sizeOf210
  v77 := Tryz.zeroValue210
  i77 := by kernel_rfl
  t78 := Tryz.underlying211
  a78 := Tryz.isAgg211
  z78 := Tryz.sizeOf211
  v78 := Tryz.zeroValue211
  i78 := by kernel_rfl
  t79 := Tryz.underlying212
  a79 := Tryz.isAgg212
  z79 := Tryz.sizeOf212
  v79 := Tryz.zeroValue212
  i79 := by kernel_rfl
  t80 := Tryz.underlying213
  a80 := Tryz.isAgg213
  z80 := Tryz.sizeOf213
  v80 := Tryz.zeroValue213
  i80 := by kernel_rfl
  t82 := Tryz.underlying215
  a82 := Tryz.isAgg215
  z82 := Tryz.sizeOf215
  v82 := Tryz.zeroValue215
  i82 := by kernel_rfl
end Go.Proofs.YtilojmciknccgaaGreatDoorRR

namespace Go.Proofs.YtilojmciknccgaaGreatDoorRR.Sg
open Go Go.Lx Go.Nx Go.Km Go.Mx Go.Kb Go.Mr
set_option linter.unusedVariables false
set_option maxRecDepth 100000

noncomputable abbrev P : Program := Tryz.prog
def IJ : J := { e8 := 5, lens := ⟨#[1, 1, 1, 1, 1, 1, 1, 1, 2, 2, 2, 2, 2, 2, 2, 3, 3, 3, 3, 3, 3, 3, 4, 4, 4, 4, 4, 4, 4, 5, 5, 5, 5, 5, 5, 5, 6, 6, 6, 6, 6, 6, 6, 7, 7, 7, 7, 7, 7, 7, 8, 8, 8, 8, 8, 8, 8, 9, 9, 9, 9, 9, 9, 9, 10, 0, 0, 0, 0, 0, 0, 0, 0, 0, 0, 0, 0, 0, 0, 0, 0, 0, 0, 0, 0, 0, 0, 0, 0, 0, 0, 0, 0, 0, 0, 0, 0, 0, 0, 0, 0, 0, 0, 0, 0, 0, 0, 0, 0, 0, 0, 0, 0, 0, 0, 0, 0, 0, 0, 0, 0, 0, 0, 0, 0, 0, 0, 0, 0, 0, 0, 0, 0, 0, 0, 0, 0, 0, 0, 0, 0, 0, 0, 0, 0, 0, 0, 0, 0, 0, 0, 0, 0, 0, 0, 0, 0, 0, 0, 0, 0, 0, 0, 0, 0, 0, 0, 0, 0, 0, 0, 0, 0, 0, 0, 0, 0, 0, 0, 0, 0, 0, 0, 0, 0, 0, 0, 0, 0, 0, 0, 0, 0, 0, 0, 0, 0, 0, 0, 0, 0, 0, 0, 0, 0, 0, 0, 0, 0, 0, 0, 0, 0, 0, 0, 0, 0, 0, 0, 0, 0, 0, 0, 0, 0, 0, 0, 0, 0, 0, 0, 0, 0, 0, 0, 0, 0, 0, 0, 0, 0, 0, 0, 0, 0, 0, 0, 0, 0, 0, 0, 0, 0, 0, 0, 0]⟩, tab8 := ⟨#[0, 1, 2, 2, 3, 3, 3, 3, 4, 4, 4, 4, 4, 4, 4, 4, 5, 5, 5, 5, 5, 5, 5, 5, 5, 5, 5, 5, 5, 5, 5, 5, 6, 6, 6, 6, 6, 6, 6, 6, 6, 6, 6, 6, 6, 6, 6, 6, 6, 6, 6, 6, 6, 6, 6, 6, 6, 6, 6, 6, 6, 6, 6, 6, 7, 7, 7, 7, 7, 7, 7, 7, 7, 7, 7, 7, 7, 7, 7, 7, 7, 7, 7, 7, 7, 7, 7, 7, 7, 7, 7, 7, 7, 7, 7, 7, 7, 7, 7, 7, 7, 7, 7, 7, 7, 7, 7, 7, 7, 7, 7, 7, 7, 7, 7, 7, 7, 7, 7, 7, 7, 7, 7, 7, 7, 7, 7, 7, 8, 8, 8, 8, 8, 8, 8, 8, 8, 8, 8, 8, 8, 8, 8, 8, 8, 8, 8, 8, 8, 8, 8, 8, 8, 8, 8, 8, 8, 8, 8, 8, 8, 8, 8, 8, 8, 8, 8, 8, 8, 8, 8, 8, 8, 8, 8, 8, 8, 8, 8, 8, 8, 8, 8, 8, 8, 8, 8, 8, 8, 8, 8, 8, 8, 8, 8, 8, 8, 8, 8, 8, 8, 8, 8, 8, 8, 8, 8, 8, 8, 8, 8, 8, 8, 8, 8, 8, 8, 8, 8, 8, 8, 8, 8, 8, 8, 8, 8, 8, 8, 8, 8, 8, 8, 8, 8, 8, 8, 8, 8, 8, 8, 8, 8, 8, 8, 8, 8, 8, 8, 8, 8, 8, 8, 8, 8, 8]⟩, err := 1, appendBytes := 0, appendCompactBytes := 0, appendCompactString := 73, appendInt16 := 70, appendInt32 := 72, appendString := 74, appendUint16 := 115, appendUint32 := 117, appendUint64 := 116, appendUvarint := 75, len32 := 146, rInt16 := 103, rInt32 := 105, rSpan := 112, rUvarint := 110, rreadUint64 := 142, unsafeString := 144, uvarint := 145, uvarintLen := 118, appendEach1 := 120, each := 119, each1 := 148, set := 111, slice := 147, uint16 := 141, uint32 := 143, uint64 := 149, be := 0, eG := 72, tSl := 82 }
theorem names : (P.funcs.toList.all fun fn => fn.name != "runtime.NumGoroutine") = true := by kernel_rfl
theorem hn : Named P := fun f fn h => by
  have := (List.all_eq_true.1 names) fn (by rw [← Array.getElem?_toList] at h; exact List.mem_of_getElem? h)
  simpa using this
theorem tab8_ok : Tab8 IJ.tab8 := by
  have h : ((List.range 256).all fun n => IJ.tab8[n]? == some (UInt8.ofNat (bitlen n))) = true := by kernel_rfl
  intro n hn
  simpa using (List.all_eq_true.1 h) n (by simpa using hn)
theorem lens_ok : LensTab IJ.lens := by
  have h : ((List.range 33).all fun n => IJ.lens[n]? == some (UInt8.ofNat (groups n))) = true := by kernel_rfl
  intro n hn
  simpa using (List.all_eq_true.1 h) n (by simp only [List.mem_range]; omega)
theorem f_uint16 : fnP P 141 2 = some (p_uint16 IJ) := by kernel_rfl
theorem f_uint32 : fnP P 143 2 = some (p_uint32 IJ) := by kernel_rfl
theorem f_uint64 : fnP P 149 2 = some (p_uint64 IJ) := by kernel_rfl
theorem f_rInt16 : fnP P 103 1 = some (p_rInt16 IJ) := by kernel_rfl
theorem f_rInt32 : fnP P 105 1 = some (p_rInt32 IJ) := by kernel_rfl
theorem f_rreadUint64 : fnP P 142 1 = some (p_rreadUint64 IJ) := by kernel_rfl
theorem f_rInt64 : fnP P 104 1 = some (p_rInt64 IJ.toIds) := by kernel_rfl
theorem f_rSpan : fnP P 112 2 = some (p_rSpan IJ.toIds) := by kernel_rfl
theorem f_uvarint : fnP P 145 1 = some (p_uvarint IJ) := by kernel_rfl
theorem f_rUvarint : fnP P 110 1 = some (p_rUvarint IJ.toIds) := by kernel_rfl
theorem f_rUuid : fnP P 113 1 = some (p_rUuid IJ) := by kernel_rfl
theorem f_rString : fnP P 109 1 = some (p_rString IJ.toIds) := by kernel_rfl
theorem f_rCompactString : fnP P 108 1 = some (p_rCompactString IJ.toIds) := by kernel_rfl
theorem f_rNullableString : fnP P 136 1 = some (p_rNullableString IJ.toIds) := by kernel_rfl
theorem f_rCompactNullableString : fnP P 134 1 = some (p_rCompactNullableString IJ.toIds) := by kernel_rfl
theorem f_rArrayLen : fnP P 127 1 = some (p_rArrayLen IJ.toIds) := by kernel_rfl
theorem f_rCompactArrayLen : fnP P 126 1 = some (p_rCompactArrayLen IJ.toIds) := by kernel_rfl
theorem f_rOk : fnP P 128 1 = some (p_rOk IJ.toIds) := by kernel_rfl
theorem f_rComplete : fnP P 114 1 = some (p_rComplete IJ.toIds) := by kernel_rfl
theorem f_set : fnP P 111 3 = some (p_set IJ) := by kernel_rfl
theorem f_rt : fnP P 131 1 = some (p_internalReadTags IJ) := by kernel_rfl
theorem f_len32 : fnP P 146 1 = some (p_len32 IJ.toIds) := by kernel_rfl
theorem f_uvarintLen : fnP P 118 1 = some (p_uvarintLen IJ.toIds) := by kernel_rfl
theorem f_appendUvarint : fnP P 75 2 = some (p_appendUvarint IJ.toIds) := by kernel_rfl
theorem f_appendUint16 : fnP P 115 2 = some (p_appendUint16 IJ.toIds) := by kernel_rfl
theorem f_appendUint32 : fnP P 117 2 = some (p_appendUint32 IJ.toIds) := by kernel_rfl
theorem f_appendUint64 : fnP P 116 2 = some (p_appendUint64 IJ.toIds) := by kernel_rfl
theorem f_appendInt16 : fnP P 70 2 = some (p_appendInt16 IJ.toIds) := by kernel_rfl
theorem f_appendInt32 : fnP P 72 2 = some (p_appendInt32 IJ.toIds) := by kernel_rfl
theorem f_appendInt64 : fnP P 71 2 = some (p_appendInt64 IJ.toIds) := by kernel_rfl
theorem f_appendUuid : fnP P 77 2 = some (p_appendUuid IJ) := by kernel_rfl
theorem f_appendString : fnP P 74 2 = some (p_appendString IJ.toIds) := by kernel_rfl
theorem f_appendCompactString : fnP P 73 2 = some (p_appendCompactString IJ.toIds) := by kernel_rfl
theorem f_appendNullableString : fnP P 95 2 = some (p_appendNullableString IJ.toIds) := by kernel_rfl
theorem f_appendCompactNullableString : fnP P 94 2 = some (p_appendCompactNullableString IJ.toIds) := by kernel_rfl
theorem f_appendArrayLen : fnP P 91 2 = some (p_appendArrayLen IJ.toIds) := by kernel_rfl
theorem f_appendCompactArrayLen : fnP P 90 2 = some (p_appendCompactArrayLen IJ.toIds) := by kernel_rfl
theorem f_len : fnP P 76 1 = some (p_len IJ) := by kernel_rfl
theorem f_appendEach1 : fnP P 120 3 = some (p_appendEach1 IJ) := by kernel_rfl
theorem f_each : fnP P 119 2 = some (p_each IJ) := by kernel_rfl
theorem f_appendEach : fnP P 78 2 = some (p_appendEach IJ) := by kernel_rfl
theorem f_each1 : fnP P 148 3 = some (p_each1 IJ) := by kernel_rfl
noncomputable def siT : TypeInfo := (P.info? 82).get (by kernel_rfl)
noncomputable def siE : TypeInfo := (P.info? 72).get (by kernel_rfl)
theorem siK (n : Nat) (h2 : 2 ≤ n) : Lib.swapperK n siE 10 = 6 := by
  have a : siE.hasPointers = false := by kernel_rfl
  have b : siE.bytes = 4 := by kernel_rfl
  have c : (n == 0) = false := by simp; omega
  have d : (n == 1) = false := by simp; omega
  simp [Lib.swapperK, a, b, c, d]
theorem c_sort : SortOk P IJ.slice IJ.each1 IJ.tSl :=
  Mr.sort_ok hn Tryz.sl6 82 72 siT siE (by kernel_rfl) (by kernel_rfl) (by kernel_rfl) (by kernel_rfl) 10 (fun _ => by kernel_rfl) (by kernel_rfl) (fun _ => by kernel_rfl) f_each1
    (enters_of Tryz.func148 (by kernel_rfl) rfl) 6 160 155 156 siK (by kernel_rfl) (by kernel_rfl) (by kernel_rfl) true
    (fun args W => run_callFunc_extern Tryz.func160 (by kernel_rfl) (by kernel_rfl) (by kernel_rfl) (e := Extern.ReflectliteSwapper.swap true) (by kernel_rfl) args W)
theorem c_uint16 : BeOk P 141 2 .u16 := uint16_ok hn f_uint16
theorem c_uint32 : BeOk P 143 4 .u32 := uint32_ok hn f_uint32
theorem c_uint64 : BeOk P 149 8 .u64 := uint64_ok hn f_uint64
theorem c_rInt16 : Reads P 103 (rdI 2) (intRep .i16) (· = .int .i16 0) := rInt16_ok hn f_rInt16 c_uint16
theorem c_rInt32 : Reads P 105 (rdI 4) (intRep .i32) (· = .int .i32 0) := rInt32_ok hn f_rInt32 c_uint32
theorem c_rreadUint64 : Reads P 142 (rdU 8) (natRep .u64) (· = .int .u64 0) := rreadUint64_ok hn f_rreadUint64 c_uint64
theorem c_rInt64 : Reads P 104 (rdI 8) (intRep .i64) (· = .int .i64 0) := rInt64_ok hn f_rInt64 c_rreadUint64
theorem c_rSpan : Spans P 112 := rSpan_ok hn f_rSpan
theorem c_uvarint : KUv P 145 := uvarint_ok hn f_uvarint
theorem c_rUvarint : Reads P 110 rdUv (natRep .u32) (· = .int .u32 0) := rUvarint_ok hn f_rUvarint c_uvarint
theorem c_rUuid : PrimOk P 113 .uuid := rUuid_ok hn f_rUuid c_rSpan
theorem c_rString : PrimOk P 109 (.str false) := rString_ok hn f_rString c_rInt16 c_rSpan
theorem c_rCompactString : PrimOk P 108 (.str true) := rCompactString_ok hn f_rCompactString c_rUvarint c_rSpan
theorem c_rNullableString : PrimOk P 136 (.nstr false) := rNullableString_ok hn f_rNullableString c_rInt16 c_rSpan
theorem c_rCompactNullableString : PrimOk P 134 (.nstr true) := rCompactNullableString_ok hn f_rCompactNullableString c_rUvarint c_rSpan
theorem c_rArrayLen : Counts P 127 false := rArrayLen_ok hn f_rArrayLen c_rInt32
theorem c_rCompactArrayLen : Counts P 126 true := rCompactArrayLen_ok hn f_rCompactArrayLen c_rUvarint
theorem c_rOk : OkFn P 128 := rOk_ok hn f_rOk
theorem c_rComplete : CompleteFn P 114 IJ.err := rComplete_ok hn f_rComplete
theorem c_set : SetOk P 111 := set_ok hn f_set
theorem c_rt : TagsOk P 131 := rt_ok hn f_rt c_rUvarint c_rSpan c_set
theorem c_len32 : Len32Ok P 146 := len32_ok hn f_len32 tab8_ok
theorem c_uvarintLen : UvLenOk P 118 := uvarintLen_ok hn f_uvarintLen c_len32 lens_ok
theorem c_appendUvarint : AppendsG P IJ.e8 75 wrUv uvRep := appendUvarint_okG hn f_appendUvarint c_uvarintLen
theorem c_appendUint16 : Appends P IJ.e8 115 (be 2) (natRep .u16) := appendUint16_ok hn f_appendUint16
theorem c_appendUint32 : Appends P IJ.e8 117 (be 4) (natRep .u32) := appendUint32_ok hn f_appendUint32
theorem c_appendUint64 : Appends P IJ.e8 116 (be 8) (natRep .u64) := appendUint64_ok hn f_appendUint64
theorem c_appendInt16 : Appends P IJ.e8 70 (wrI 2) (intRep .i16) := appendInt16_ok hn f_appendInt16 c_appendUint16
theorem c_appendInt32 : Appends P IJ.e8 72 (wrI 4) (intRep .i32) := appendInt32_ok hn f_appendInt32 c_appendUint32
theorem c_appendInt64 : Appends P IJ.e8 71 (wrI 8) (intRep .i64) := appendInt64_ok hn f_appendInt64 c_appendUint64
theorem c_appendUuid : AppPrim P IJ.e8 77 .uuid := appendUuid_ok hn f_appendUuid
theorem c_appendString : AppPrim P IJ.e8 74 (.str false) := appendString_ok hn f_appendString c_appendInt16
theorem c_appendCompactString : AppPrim P IJ.e8 73 (.str true) := appendCompactString_ok hn f_appendCompactString c_appendUvarint.app
theorem c_appendNullableString : AppPrim P IJ.e8 95 (.nstr false) := appendNullableString_ok hn f_appendNullableString c_appendInt16 c_appendString
theorem c_appendCompactNullableString : AppPrim P IJ.e8 94 (.nstr true) := appendCompactNullableString_ok hn f_appendCompactNullableString c_appendUvarint.app c_appendCompactString
theorem c_appendArrayLen : Appends P IJ.e8 91 (wrCount false) lenRep := appendArrayLen_ok hn f_appendArrayLen c_appendInt32
theorem c_appendCompactArrayLen : Appends P IJ.e8 90 (wrCount true) lenRep := appendCompactArrayLen_ok hn f_appendCompactArrayLen c_appendUvarint.app
theorem c_len : LenOk P 76 := len_ok' hn f_len
theorem c_appendEach1 : CbOk P IJ.e8 120 := cb_ok hn f_appendEach1 c_appendUvarint
theorem c_each : EachOk P IJ.e8 119 IJ.appendEach1 := each_ok hn f_each c_sort c_appendEach1 (fnP_fn f_appendEach1)
theorem c_appendEach : AppEachOk P IJ.e8 78 := appEach_ok hn f_appendEach c_each
def primL : List (Nat × Prim) := [(103, .i16), (105, .i32), (104, .i64), (113, .uuid), (109, .str false), (108, .str true), (136, .nstr false), (134, .nstr true)]
theorem primL_ok : AllP (fun f p => PrimOk P f p) primL := ⟨prim_i16 c_rInt16, prim_i32 c_rInt32, prim_i64 c_rInt64, c_rUuid, c_rString, c_rCompactString, c_rNullableString, c_rCompactNullableString, trivial⟩
def cntL : List (Nat × Bool) := [(127, false), (126, true)]
theorem cntL_ok : AllP (fun f c => Counts P f c) cntL := ⟨c_rArrayLen, c_rCompactArrayLen, trivial⟩
noncomputable def defL : List (Nat × List (Nat × Value)) := [(68, (defC P 68).getD []), (79, (defC P 79).getD []), (92, (defC P 92).getD []), (96, (defC P 96).getD []), (99, (defC P 99).getD []), (101, (defC P 101).getD []), (129, (defC P 129).getD []), (130, (defC P 130).getD []), (132, (defC P 132).getD []), (137, (defC P 137).getD []), (138, (defC P 138).getD []), (139, (defC P 139).getD []), (140, (defC P 140).getD [])]
theorem defL_ok : AllP (fun f ds => DefOk P f ds) defL := ⟨defC_ok hn (show defC P 68 = some ((defC P 68).getD []) by kernel_rfl), defC_ok hn (show defC P 79 = some ((defC P 79).getD []) by kernel_rfl), defC_ok hn (show defC P 92 = some ((defC P 92).getD []) by kernel_rfl), defC_ok hn (show defC P 96 = some ((defC P 96).getD []) by kernel_rfl), defC_ok hn (show defC P 99 = some ((defC P 99).getD []) by kernel_rfl), defC_ok hn (show defC P 101 = some ((defC P 101).getD []) by kernel_rfl), defC_ok hn (show defC P 129 = some ((defC P 129).getD []) by kernel_rfl), defC_ok hn (show defC P 130 = some ((defC P 130).getD []) by kernel_rfl), defC_ok hn (show defC P 132 = some ((defC P 132).getD []) by kernel_rfl), defC_ok hn (show defC P 137 = some ((defC P 137).getD []) by kernel_rfl), defC_ok hn (show defC P 138 = some ((defC P 138).getD []) by kernel_rfl), defC_ok hn (show defC P 139 = some ((defC P 139).getD []) by kernel_rfl), defC_ok hn (show defC P 140 = some ((defC P 140).getD []) by kernel_rfl), trivial⟩
noncomputable def TT : Tab := { prim := Mr.look primL, cnt := Mr.look cntL, tags := 131, okF := 128, compl := 114, defs := Mr.look defL }
theorem TT_ok : TabOk P TT IJ.err := ⟨look_ok primL_ok, look_ok cntL_ok, c_rt, c_rOk, c_rComplete, look_ok defL_ok⟩
def appL : List (Nat × Prim) := [(70, .i16), (115, .u16), (72, .i32), (71, .i64), (77, .uuid), (74, .str false), (73, .str true), (95, .nstr false), (94, .nstr true)]
theorem appL_ok : AllP (fun f p => AppPrim P IJ.e8 f p) appL := ⟨app_i16 c_appendInt16, app_u16 c_appendUint16, app_i32 c_appendInt32, app_i64 c_appendInt64, c_appendUuid, c_appendString, c_appendCompactString, c_appendNullableString, c_appendCompactNullableString, trivial⟩
def alenL : List (Nat × Bool) := [(91, false), (90, true)]
theorem alenL_ok : AllP (fun f c => Appends P IJ.e8 f (wrCount c) lenRep) alenL := ⟨c_appendArrayLen, c_appendCompactArrayLen, trivial⟩
def alenNL : List (Nat × Bool) := []
theorem alenNL_ok : AllP (fun f c => AppN P IJ.e8 f c) alenNL := trivial
def WW : WTab := { app := Mr.look appL, alen := Mr.look alenL, alenN := Mr.look alenNL, tlen := 76, uv := 75, each := 78 }
theorem WW_ok : WTabOk P WW IJ.e8 := ⟨look_ok appL_ok, look_ok alenL_ok, look_ok alenNL_ok, c_len, c_appendUvarint.app, c_appendEach⟩
def SJ : Sp.SI := { e8 := 5, eT := 74, atF := 82, counted := 123, fieldF := 81, fixed := 32, hasF := 80, knownF := 83, nullF := 121, partF := 38, things := 122, unknown := 86, usual := 84, uvarint := 85, valueF := 124, whole := 87, width := 125, write := 14, zzFits3 := 31, zzFits4 := 67 }
theorem q_has : fnP P 80 2 = some (Sp.q_has SJ) := by kernel_rfl
theorem q_null : fnP P 121 3 = some (Sp.q_null SJ) := by kernel_rfl
theorem q_at1 : fnP P 82 2 = some (Sp.q_at SJ) := by kernel_rfl
theorem q_whole : fnP P 87 1 = some (Sp.q_whole SJ) := by kernel_rfl
theorem q_things : fnP P 122 1 = some (Sp.q_things SJ) := by kernel_rfl
theorem q_width : fnP P 125 1 = some (Sp.q_width SJ) := by kernel_rfl
theorem q_fixed : fnP P 32 2 = some (Sp.q_fixed SJ) := by kernel_rfl
theorem q_uvarint : fnP P 85 1 = some (Sp.q_uvarint SJ) := by kernel_rfl
theorem q_counted : fnP P 123 4 = some (Sp.q_counted SJ) := by kernel_rfl
theorem q_known : fnP P 83 1 = some (Sp.q_known SJ) := by kernel_rfl
theorem q_unknown : fnP P 86 2 = some (Sp.q_unknown SJ) := by kernel_rfl
theorem q_value : fnP P 124 6 = some (Sp.q_value SJ) := by kernel_rfl
theorem q_field : fnP P 81 4 = some (Sp.q_field SJ) := by kernel_rfl
theorem q_part : fnP P 38 4 = some (Sp.q_part SJ) := by kernel_rfl
theorem q_write : fnP P 14 3 = some (Sp.q_write SJ) := by kernel_rfl
theorem q_zz3 : fnP P 31 1 = some (Sp.q_zzFits3 SJ) := by kernel_rfl
theorem q_zz4 : fnP P 67 1 = some (Sp.q_zzFits4 SJ) := by kernel_rfl
theorem fns : Sp.Fns P SJ := ⟨hn, q_has, q_null, q_at1, q_whole, q_things, q_width, q_fixed, q_uvarint, q_counted, q_known, q_unknown, q_value, q_field, q_part, q_write, q_zz3, q_zz4⟩
end Go.Proofs.YtilojmciknccgaaGreatDoorRR.Sg
