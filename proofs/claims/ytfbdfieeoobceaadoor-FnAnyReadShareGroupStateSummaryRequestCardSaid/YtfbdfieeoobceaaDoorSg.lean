/- The seat YtfbdfieeoobceaaDoor: kbin's functions and tags, what they do; which functions read and write what. -/
import Derived.Test.YtfbdfieeoobceaaDoorMs
import Derived.Test.YtfbdfieeoobceaaDoorRows
import Derived.KernelRfl
import Derived.WalkKit
namespace Go.Proofs.YtfbdfieeoobceaaDoor
open Go.Shelf
def Tryd.sl6_ren : Go.Shelf.Ren := ⟨fun | 6 => 154 | 10 => 157 | 11 => 158 | 12 => 159 | 13 => 160 | 14 => 161 | 24 => 153 | 25 => 171 | 26 => 172 | 27 => 173 | 28 => 174 | 29 => 175 | 30 => 176 | 31 => 177 | 32 => 178 | 33 => 179 | 34 => 180 | 35 => 181 | 36 => 182 | 37 => 183 | 38 => 184 | 39 => 185 | n => n, fun | 20 => 20 | 26 => 168 | 35 => 174 | 0 => 0 | 37 => 176 | 3 => 3 | 41 => 147 | 44 => 181 | 49 => 87 | 51 => 140 | 4 => 4 | 54 => 188 | 53 => 187 | 58 => 192 | 5 => 5 | 9 => 9 | 60 => 194 | 64 => 198 | 66 => 200 | 67 => 201 | 17 => 17 | 32 => 171 | 33 => 172 | 82 => 216 | 12 => 12 | 75 => 209 | 76 => 210 | 77 => 211 | 78 => 212 | 79 => 213 | 80 => 214 | n => n, fun | n => n⟩
theorem Tryd.sl6 : Go.Proofs.LaysGg.n6 Tryd.prog Tryd.sl6_ren where
  mixed := by kernel_rfl
  f6 := Tryd.func154.trans (congrArg some (by kernel_rfl))
  f10 := Tryd.func157.trans (congrArg some (by kernel_rfl))
  f11 := Tryd.func158.trans (congrArg some (by kernel_rfl))
  f12 := Tryd.func159.trans (congrArg some (by kernel_rfl))
  f13 := Tryd.func160.trans (congrArg some (by kernel_rfl))
  f14 := Tryd.func161.trans (congrArg some (by kernel_rfl))
  f24 := Tryd.func153.trans (congrArg some (by kernel_rfl))
  f25 := Tryd.func171.trans (congrArg some (by kernel_rfl))
  f26 := Tryd.func172.trans (congrArg some (by kernel_rfl))
  f27 := Tryd.func173.trans (congrArg some (by kernel_rfl))
  f28 := Tryd.func174.trans (congrArg some (by kernel_rfl))
  f29 := Tryd.func175.trans (congrArg some (by kernel_rfl))
  f30 := Tryd.func176.trans (congrArg some (by kernel_rfl))
  f31 := Tryd.func177.trans (congrArg some (by kernel_rfl))
  f32 := Tryd.func178.trans (congrArg some (by kernel_rfl))
  f33 := Tryd.func179.trans (congrArg some (by kernel_rfl))
  f34 := Tryd.func180.trans (congrArg some (by kernel_rfl))
  f35 := Tryd.func181.trans (congrArg some (by kernel_rfl))
  f36 := Tryd.func182.trans (congrArg some (by kernel_rfl))
  f37 := Tryd.func183.trans (congrArg some (by kernel_rfl))
  f38 := Tryd.func184.trans (congrArg some (by kernel_rfl))
  f39 := Tryd.func185.trans (congrArg some (by kernel_rfl))
  t0 := Tryd.underlying0
  a0 := Tryd.isAgg0
  z0 := Tryd.sizeOf0
  v0 := Tryd.zeroValue0
  i0 := by kernel_rfl
  t3 := Tryd.underlying3
  a3 := Tryd.isAgg3
  z3 := Tryd.sizeOf3
  v3 := Tryd.zeroValue3
  i3 := by kernel_rfl
  t4 := Tryd.underlying4
  a4 := Tryd.isAgg4
  z4 := Tryd.sizeOf4
  v4 := Tryd.zeroValue4
  i4 := by kernel_rfl
  t5 := Tryd.underlying5
  a5 := Tryd.isAgg5
  z5 := Tryd.sizeOf5
  v5 := Tryd.zeroValue5
  i5 := by kernel_rfl
  t9 := Tryd.underlying9
  a9 := Tryd.isAgg9
  z9 := Tryd.sizeOf9
  v9 := Tryd.zeroValue9
  i9 := by kernel_rfl
  t12 := Tryd.underlying12
  a12 := Tryd.isAgg12
  z12 := Tryd.sizeOf12
  v12 := Tryd.zeroValue12
  i12 := by kernel_rfl
  t17 := Tryd.underlying17
  a17 := Tryd.isAgg17
  z17 := Tryd.sizeOf17
  v17 := Tryd.zeroValue17
  i17 := by kernel_rfl
  t20 := Tryd.underlying20
  a20 := Tryd.isAgg20
  z20 := Tryd.sizeOf20
  v20 := Tryd.zeroValue20
  i20 := by kernel_rfl
  t26 := Tryd.underlying168
  a26 := Tryd.isAgg168
  z26 := Tryd.sizeOf168
  v26 := Tryd.zeroValue168
  i26 := by kernel_rfl
  t32 := Tryd.underlying171
  a32 := Tryd.isAgg171
  z32 := Tryd.sizeOf171
  v32 := Tryd.zeroValue171
  i32 := by kernel_rfl
  t33 := Tryd.underlying172
  a33 := Tryd.isAgg172
  z33 := Tryd.sizeOf172
  v33 := Tryd.zeroValue172
  i33 := by kernel_rfl
  t35 := Tryd.underlying174
  a35 := Tryd.isAgg174
  z35 := Tryd.sizeOf174
  v35 := Tryd.zeroValue174
  i35 := by kernel_rfl
  t37 := Tryd.underlying176
  a37 := Tryd.isAgg176
  z37 := Tryd.sizeOf176
  v37 := Tryd.zeroValue176
  i37 := by kernel_rfl
  t41 := Tryd.underlying147
  a41 := Tryd.isAgg147
  z41 := Tryd.sizeOf147
  v41 := Tryd.zeroValue147
  i41 := by kernel_rfl
  t44 := Tryd.underlying181
  a44 := Tryd.isAgg181
  z44 := Tryd.sizeOf181
  v44 := Tryd.zeroValue181
  i44 := by kernel_rfl
  t49 := Tryd.underlying87
  a49 := Tryd.isAgg87
  z49 := Tryd.sizeOf87
  v49 := Tryd.zeroValue87
  i49 := by kernel_rfl
  t51 := Tryd.underlying140
  a51 := Tryd.isAgg140
  z51 := Tryd.sizeOf140
  v51 := Tryd.zeroValue140
  i51 := by kernel_rfl
  t53 := Tryd.underlying187
  a53 := Tryd.isAgg187
  z53 := Tryd.sizeOf187
  v53 := Tryd.zeroValue187
  i53 := by kernel_rfl
  t54 := Tryd.underlying188
  a54 := Tryd.isAgg188
  z54 := Tryd.sizeOf188
  v54 := Tryd.zeroValue188
  i54 := by kernel_rfl
  t58 := Tryd.underlying192
  a58 := Tryd.isAgg192
  z58 := Tryd.sizeOf192
  v58 := Tryd.zeroValue192
  i58 := by kernel_rfl
  t60 := Tryd.underlying194
  a60 := Tryd.isAgg194
  z60 := Tryd.sizeOf194
  v60 := Tryd.zeroValue194
  i60 := by kernel_rfl
  t64 := Tryd.underlying198
  a64 := Tryd.isAgg198
  z64 := Tryd.sizeOf198
  v64 := Tryd.zeroValue198
  i64 := by kernel_rfl
  t66 := Tryd.underlying200
  a66 := Tryd.isAgg200
  z66 := Tryd.sizeOf200
  v66 := Tryd.zeroValue200
  i66 := by kernel_rfl
  t67 := Tryd.underlying201
  a67 := Tryd.isAgg201
  z67 := Tryd.sizeOf201
  v67 := Tryd.zeroValue201
  i67 := by kernel_rfl
  t75 := Tryd.underlying209
  a75 := Tryd.isAgg209
  z75 := Tryd.sizeOf209
  v75 := Tryd.zeroValue209
  i75 := by kernel_rfl
  t76 := Tryd.underlying210
  a76 := Tryd.isAgg210
  z76 := Tryd.sizeOf210
  v76 := Tryd.zeroValue210
  i76 := by kernel_rfl
  t77 := Tryd.underlying211
  a77 := Tryd.isAgg211
  z77 := Tryd.sizeOf211
  v77 := Tryd.zeroValue211
  i77 := by kernel_rfl
  t78 := Tryd.underlying212
  a78 := Tryd.isAgg212
  z78 := Tryd.sizeOf212
  v78 := Tryd.zeroValue212
  i78 := by kernel_rfl
  t79 := Tryd.underlying213
  a79 := Tryd.isAgg213
  z79 := Tryd.sizeOf213
  v79 := Tryd.zeroValue213
  i79 := by kernel_rfl
  t80 := Tryd.underlying214
  a80 := Tryd.isAgg214
  z80 := Tryd.sizeOf214
  v80 := Tryd.zeroValue214
  i80 := by kernel_rfl
  t82 := Tryd.underlying216
  a82 := Tryd.isAgg216
  z82 := Tryd.sizeOf216
  v82 := Tryd.zeroValue216
  i82 := by kernel_rfl
end Go.Proofs.YtfbdfieeoobceaaDoor

namespace Go.Proofs.YtfbdfieeoobceaaDoor.Sg
open Go Go.Lx Go.Nx Go.Km Go.Mx Go.Kb Go.Mr
set_option linter.unusedVariables false
set_option maxRecDepth 100000

noncomputable abbrev P : Program := Tryd.prog
def IJ : J := { e8 := 5, lens := ⟨#[1, 1, 1, 1, 1, 1, 1, 1, 2, 2, 2, 2, 2, 2, 2, 3, 3, 3, 3, 3, 3, 3, 4, 4, 4, 4, 4, 4, 4, 5, 5, 5, 5, 5, 5, 5, 6, 6, 6, 6, 6, 6, 6, 7, 7, 7, 7, 7, 7, 7, 8, 8, 8, 8, 8, 8, 8, 9, 9, 9, 9, 9, 9, 9, 10, 0, 0, 0, 0, 0, 0, 0, 0, 0, 0, 0, 0, 0, 0, 0, 0, 0, 0, 0, 0, 0, 0, 0, 0, 0, 0, 0, 0, 0, 0, 0, 0, 0, 0, 0, 0, 0, 0, 0, 0, 0, 0, 0, 0, 0, 0, 0, 0, 0, 0, 0, 0, 0, 0, 0, 0, 0, 0, 0, 0, 0, 0, 0, 0, 0, 0, 0, 0, 0, 0, 0, 0, 0, 0, 0, 0, 0, 0, 0, 0, 0, 0, 0, 0, 0, 0, 0, 0, 0, 0, 0, 0, 0, 0, 0, 0, 0, 0, 0, 0, 0, 0, 0, 0, 0, 0, 0, 0, 0, 0, 0, 0, 0, 0, 0, 0, 0, 0, 0, 0, 0, 0, 0, 0, 0, 0, 0, 0, 0, 0, 0, 0, 0, 0, 0, 0, 0, 0, 0, 0, 0, 0, 0, 0, 0, 0, 0, 0, 0, 0, 0, 0, 0, 0, 0, 0, 0, 0, 0, 0, 0, 0, 0, 0, 0, 0, 0, 0, 0, 0, 0, 0, 0, 0, 0, 0, 0, 0, 0, 0, 0, 0, 0, 0, 0, 0, 0, 0, 0, 0, 0]⟩, tab8 := ⟨#[0, 1, 2, 2, 3, 3, 3, 3, 4, 4, 4, 4, 4, 4, 4, 4, 5, 5, 5, 5, 5, 5, 5, 5, 5, 5, 5, 5, 5, 5, 5, 5, 6, 6, 6, 6, 6, 6, 6, 6, 6, 6, 6, 6, 6, 6, 6, 6, 6, 6, 6, 6, 6, 6, 6, 6, 6, 6, 6, 6, 6, 6, 6, 6, 7, 7, 7, 7, 7, 7, 7, 7, 7, 7, 7, 7, 7, 7, 7, 7, 7, 7, 7, 7, 7, 7, 7, 7, 7, 7, 7, 7, 7, 7, 7, 7, 7, 7, 7, 7, 7, 7, 7, 7, 7, 7, 7, 7, 7, 7, 7, 7, 7, 7, 7, 7, 7, 7, 7, 7, 7, 7, 7, 7, 7, 7, 7, 7, 8, 8, 8, 8, 8, 8, 8, 8, 8, 8, 8, 8, 8, 8, 8, 8, 8, 8, 8, 8, 8, 8, 8, 8, 8, 8, 8, 8, 8, 8, 8, 8, 8, 8, 8, 8, 8, 8, 8, 8, 8, 8, 8, 8, 8, 8, 8, 8, 8, 8, 8, 8, 8, 8, 8, 8, 8, 8, 8, 8, 8, 8, 8, 8, 8, 8, 8, 8, 8, 8, 8, 8, 8, 8, 8, 8, 8, 8, 8, 8, 8, 8, 8, 8, 8, 8, 8, 8, 8, 8, 8, 8, 8, 8, 8, 8, 8, 8, 8, 8, 8, 8, 8, 8, 8, 8, 8, 8, 8, 8, 8, 8, 8, 8, 8, 8, 8, 8, 8, 8, 8, 8, 8, 8, 8, 8, 8, 8]⟩, err := 1, appendBytes := 93, appendCompactBytes := 92, appendCompactString := 100, appendInt16 := 73, appendInt32 := 76, appendString := 75, appendUint16 := 115, appendUint32 := 116, appendUint64 := 0, appendUvarint := 81, len32 := 153, rInt16 := 106, rInt32 := 113, rSpan := 136, rUvarint := 134, rreadUint64 := 0, unsafeString := 146, uvarint := 156, uvarintLen := 126, appendEach1 := 128, each := 127, each1 := 155, set := 135, slice := 154, uint16 := 145, uint32 := 147, uint64 := 0, be := 0, eG := 87, tSl := 100 }
theorem names : (P.funcs.toList.all fun fn => fn.name != "runtime.NumGoroutine") = true := by kernel_rfl
theorem hn : Named P := fun f fn h => by
  have := (List.all_eq_true.1 names) fn (by rw [← Array.getElem?_toList] at h; exact List.mem_of_getElem? h)
  simpa using this
theorem tab8_ok : Tab8 IJ.tab8 := by
  have h : ((List.range 256).all fun n => IJ.tab8[n]? == some (UInt8.ofNat (bitlen n))) = true := by kernel_rfl
  intro n hn
  simpa using (List.all_eq_true.1 h) n (by simpa using hn)
theorem lens_ok : LensTab IJ.lens := by
  have h : ((List.range 33).all fun n => IJ.lens[n]? == some (UInt8.ofNat (groups n))) = true := by kernel_rfl
  intro n hn
  simpa using (List.all_eq_true.1 h) n (by simp only [List.mem_range]; omega)
theorem f_uint16 : fnP P 145 2 = some (p_uint16 IJ) := by kernel_rfl
theorem f_uint32 : fnP P 147 2 = some (p_uint32 IJ) := by kernel_rfl
theorem f_rInt16 : fnP P 106 1 = some (p_rInt16 IJ) := by kernel_rfl
theorem f_rInt32 : fnP P 113 1 = some (p_rInt32 IJ) := by kernel_rfl
theorem f_rInt8 : fnP P 130 1 = some (p_rInt8 IJ.toIds) := by kernel_rfl
theorem f_rSpan : fnP P 136 2 = some (p_rSpan IJ.toIds) := by kernel_rfl
theorem f_uvarint : fnP P 156 1 = some (p_uvarint IJ) := by kernel_rfl
theorem f_rUvarint : fnP P 134 1 = some (p_rUvarint IJ.toIds) := by kernel_rfl
theorem f_rUuid : fnP P 141 1 = some (p_rUuid IJ) := by kernel_rfl
theorem f_rString : fnP P 112 1 = some (p_rString IJ.toIds) := by kernel_rfl
theorem f_rCompactString : fnP P 138 1 = some (p_rCompactString IJ.toIds) := by kernel_rfl
theorem f_rBytes : fnP P 132 1 = some (p_rBytes IJ.toIds) := by kernel_rfl
theorem f_rCompactBytes : fnP P 131 1 = some (p_rCompactBytes IJ.toIds) := by kernel_rfl
theorem f_rNullableBytes : fnP P 114 1 = some (p_rNullableBytes IJ.toIds) := by kernel_rfl
theorem f_rCompactNullableBytes : fnP P 133 1 = some (p_rCompactNullableBytes IJ.toIds) := by kernel_rfl
theorem f_rArrayLen : fnP P 107 1 = some (p_rArrayLen IJ.toIds) := by kernel_rfl
theorem f_rCompactArrayLen : fnP P 129 1 = some (p_rCompactArrayLen IJ.toIds) := by kernel_rfl
theorem f_rOk : fnP P 108 1 = some (p_rOk IJ.toIds) := by kernel_rfl
theorem f_rComplete : fnP P 109 1 = some (p_rComplete IJ.toIds) := by kernel_rfl
theorem f_set : fnP P 135 3 = some (p_set IJ) := by kernel_rfl
theorem f_rt : fnP P 125 1 = some (p_internalReadTags IJ) := by kernel_rfl
theorem f_len32 : fnP P 153 1 = some (p_len32 IJ.toIds) := by kernel_rfl
theorem f_uvarintLen : fnP P 126 1 = some (p_uvarintLen IJ.toIds) := by kernel_rfl
theorem f_appendUvarint : fnP P 81 2 = some (p_appendUvarint IJ.toIds) := by kernel_rfl
theorem f_appendUint16 : fnP P 115 2 = some (p_appendUint16 IJ.toIds) := by kernel_rfl
theorem f_appendUint32 : fnP P 116 2 = some (p_appendUint32 IJ.toIds) := by kernel_rfl
theorem f_appendInt16 : fnP P 73 2 = some (p_appendInt16 IJ.toIds) := by kernel_rfl
theorem f_appendInt32 : fnP P 76 2 = some (p_appendInt32 IJ.toIds) := by kernel_rfl
theorem f_appendInt8 : fnP P 89 2 = some (p_appendInt8 IJ.toIds) := by kernel_rfl
theorem f_appendUuid : fnP P 103 2 = some (p_appendUuid IJ) := by kernel_rfl
theorem f_appendString : fnP P 75 2 = some (p_appendString IJ.toIds) := by kernel_rfl
theorem f_appendCompactString : fnP P 100 2 = some (p_appendCompactString IJ.toIds) := by kernel_rfl
theorem f_appendBytes : fnP P 93 2 = some (p_appendBytes IJ.toIds) := by kernel_rfl
theorem f_appendCompactBytes : fnP P 92 2 = some (p_appendCompactBytes IJ.toIds) := by kernel_rfl
theorem f_appendNullableBytes : fnP P 77 2 = some (p_appendNullableBytes IJ.toIds) := by kernel_rfl
theorem f_appendCompactNullableBytes : fnP P 94 2 = some (p_appendCompactNullableBytes IJ.toIds) := by kernel_rfl
theorem f_appendArrayLen : fnP P 74 2 = some (p_appendArrayLen IJ.toIds) := by kernel_rfl
theorem f_appendCompactArrayLen : fnP P 88 2 = some (p_appendCompactArrayLen IJ.toIds) := by kernel_rfl
theorem f_len : fnP P 82 1 = some (p_len IJ) := by kernel_rfl
theorem f_appendEach1 : fnP P 128 3 = some (p_appendEach1 IJ) := by kernel_rfl
theorem f_each : fnP P 127 2 = some (p_each IJ) := by kernel_rfl
theorem f_appendEach : fnP P 83 2 = some (p_appendEach IJ) := by kernel_rfl
theorem f_each1 : fnP P 155 3 = some (p_each1 IJ) := by kernel_rfl
noncomputable def siT : TypeInfo := (P.info? 100).get (by kernel_rfl)
noncomputable def siE : TypeInfo := (P.info? 87).get (by kernel_rfl)
theorem siK (n : Nat) (h2 : 2 ≤ n) : Lib.swapperK n siE 10 = 6 := by
  have a : siE.hasPointers = false := by kernel_rfl
  have b : siE.bytes = 4 := by kernel_rfl
  have c : (n == 0) = false := by simp; omega
  have d : (n == 1) = false := by simp; omega
  simp [Lib.swapperK, a, b, c, d]
theorem c_sort : SortOk P IJ.slice IJ.each1 IJ.tSl :=
  Mr.sort_ok hn Tryd.sl6 100 87 siT siE (by kernel_rfl) (by kernel_rfl) (by kernel_rfl) (by kernel_rfl) 10 (fun _ => by kernel_rfl) (by kernel_rfl) (fun _ => by kernel_rfl) f_each1
    (enters_of Tryd.func155 (by kernel_rfl) rfl) 6 167 162 163 siK (by kernel_rfl) (by kernel_rfl) (by kernel_rfl) true
    (fun args W => run_callFunc_extern Tryd.func167 (by kernel_rfl) (by kernel_rfl) (by kernel_rfl) (e := Extern.ReflectliteSwapper.swap true) (by kernel_rfl) args W)
theorem c_uint16 : BeOk P 145 2 .u16 := uint16_ok hn f_uint16
theorem c_uint32 : BeOk P 147 4 .u32 := uint32_ok hn f_uint32
theorem c_rInt16 : Reads P 106 (rdI 2) (intRep .i16) (· = .int .i16 0) := rInt16_ok hn f_rInt16 c_uint16
theorem c_rInt32 : Reads P 113 (rdI 4) (intRep .i32) (· = .int .i32 0) := rInt32_ok hn f_rInt32 c_uint32
theorem c_rInt8 : Reads P 130 (rdI 1) (intRep .i8) (· = .int .i8 0) := rInt8_ok hn f_rInt8
theorem c_rSpan : Spans P 136 := rSpan_ok hn f_rSpan
theorem c_uvarint : KUv P 156 := uvarint_ok hn f_uvarint
theorem c_rUvarint : Reads P 134 rdUv (natRep .u32) (· = .int .u32 0) := rUvarint_ok hn f_rUvarint c_uvarint
theorem c_rUuid : PrimOk P 141 .uuid := rUuid_ok hn f_rUuid c_rSpan
theorem c_rString : PrimOk P 112 (.str false) := rString_ok hn f_rString c_rInt16 c_rSpan
theorem c_rCompactString : PrimOk P 138 (.str true) := rCompactString_ok hn f_rCompactString c_rUvarint c_rSpan
theorem c_rBytes : PrimOk P 132 (.byt false) := rBytes_ok hn f_rBytes c_rInt32 c_rSpan
theorem c_rCompactBytes : PrimOk P 131 (.byt true) := rCompactBytes_ok hn f_rCompactBytes c_rUvarint c_rSpan
theorem c_rNullableBytes : PrimOk P 114 (.nbyt false) := rNullableBytes_ok hn f_rNullableBytes c_rInt32 c_rSpan
theorem c_rCompactNullableBytes : PrimOk P 133 (.nbyt true) := rCompactNullableBytes_ok hn f_rCompactNullableBytes c_rUvarint c_rSpan
theorem c_rArrayLen : Counts P 107 false := rArrayLen_ok hn f_rArrayLen c_rInt32
theorem c_rCompactArrayLen : Counts P 129 true := rCompactArrayLen_ok hn f_rCompactArrayLen c_rUvarint
theorem c_rOk : OkFn P 108 := rOk_ok hn f_rOk
theorem c_rComplete : CompleteFn P 109 IJ.err := rComplete_ok hn f_rComplete
theorem c_set : SetOk P 135 := set_ok hn f_set
theorem c_rt : TagsOk P 125 := rt_ok hn f_rt c_rUvarint c_rSpan c_set
theorem c_len32 : Len32Ok P 153 := len32_ok hn f_len32 tab8_ok
theorem c_uvarintLen : UvLenOk P 126 := uvarintLen_ok hn f_uvarintLen c_len32 lens_ok
theorem c_appendUvarint : AppendsG P IJ.e8 81 wrUv uvRep := appendUvarint_okG hn f_appendUvarint c_uvarintLen
theorem c_appendUint16 : Appends P IJ.e8 115 (be 2) (natRep .u16) := appendUint16_ok hn f_appendUint16
theorem c_appendUint32 : Appends P IJ.e8 116 (be 4) (natRep .u32) := appendUint32_ok hn f_appendUint32
theorem c_appendInt16 : Appends P IJ.e8 73 (wrI 2) (intRep .i16) := appendInt16_ok hn f_appendInt16 c_appendUint16
theorem c_appendInt32 : Appends P IJ.e8 76 (wrI 4) (intRep .i32) := appendInt32_ok hn f_appendInt32 c_appendUint32
theorem c_appendInt8 : Appends P IJ.e8 89 (wrI 1) (intRep .i8) := appendInt8_ok hn f_appendInt8
theorem c_appendUuid : AppPrim P IJ.e8 103 .uuid := appendUuid_ok hn f_appendUuid
theorem c_appendString : AppPrim P IJ.e8 75 (.str false) := appendString_ok hn f_appendString c_appendInt16
theorem c_appendCompactString : AppPrim P IJ.e8 100 (.str true) := appendCompactString_ok hn f_appendCompactString c_appendUvarint.app
theorem c_appendBytes : Appends P IJ.e8 93 (fun l : Bs => wrLen false 4 l.length ++ l) bytRep := appendBytes_raw hn f_appendBytes c_appendInt32
theorem c_appendCompactBytes : Appends P IJ.e8 92 (fun l : Bs => wrLen true 4 l.length ++ l) bytRep := appendCompactBytes_raw hn f_appendCompactBytes c_appendUvarint.app
theorem c_appendNullableBytes : AppPrim P IJ.e8 77 (.nbyt false) := appendNullableBytes_ok hn f_appendNullableBytes c_appendInt32 c_appendBytes
theorem c_appendCompactNullableBytes : AppPrim P IJ.e8 94 (.nbyt true) := appendCompactNullableBytes_ok hn f_appendCompactNullableBytes c_appendUvarint.app c_appendCompactBytes
theorem c_appendArrayLen : Appends P IJ.e8 74 (wrCount false) lenRep := appendArrayLen_ok hn f_appendArrayLen c_appendInt32
theorem c_appendCompactArrayLen : Appends P IJ.e8 88 (wrCount true) lenRep := appendCompactArrayLen_ok hn f_appendCompactArrayLen c_appendUvarint.app
theorem c_len : LenOk P 82 := len_ok' hn f_len
theorem c_appendEach1 : CbOk P IJ.e8 128 := cb_ok hn f_appendEach1 c_appendUvarint
theorem c_each : EachOk P IJ.e8 127 IJ.appendEach1 := each_ok hn f_each c_sort c_appendEach1 (fnP_fn f_appendEach1)
theorem c_appendEach : AppEachOk P IJ.e8 83 := appEach_ok hn f_appendEach c_each
def primL : List (Nat × Prim) := [(130, .i8), (106, .i16), (113, .i32), (141, .uuid), (112, .str false), (138, .str true), (132, .byt false), (131, .byt true), (114, .nbyt false), (133, .nbyt true)]
theorem primL_ok : AllP (fun f p => PrimOk P f p) primL := ⟨prim_i8 c_rInt8, prim_i16 c_rInt16, prim_i32 c_rInt32, c_rUuid, c_rString, c_rCompactString, c_rBytes, c_rCompactBytes, c_rNullableBytes, c_rCompactNullableBytes, trivial⟩
def cntL : List (Nat × Bool) := [(107, false), (129, true)]
theorem cntL_ok : AllP (fun f c => Counts P f c) cntL := ⟨c_rArrayLen, c_rCompactArrayLen, trivial⟩
noncomputable def defL : List (Nat × List (Nat × Value)) := [(71, (defC P 71).getD []), (79, (defC P 79).getD []), (84, (defC P 84).getD []), (86, (defC P 86).getD []), (90, (defC P 90).getD []), (95, (defC P 95).getD []), (99, (defC P 99).getD []), (101, (defC P 101).getD []), (104, (defC P 104).getD []), (110, (defC P 110).getD []), (140, (defC P 140).getD []), (142, (defC P 142).getD []), (143, (defC P 143).getD []), (144, (defC P 144).getD [])]
theorem defL_ok : AllP (fun f ds => DefOk P f ds) defL := ⟨defC_ok hn (show defC P 71 = some ((defC P 71).getD []) by kernel_rfl), defC_ok hn (show defC P 79 = some ((defC P 79).getD []) by kernel_rfl), defC_ok hn (show defC P 84 = some ((defC P 84).getD []) by kernel_rfl), defC_ok hn (show defC P 86 = some ((defC P 86).getD []) by kernel_rfl), defC_ok hn (show defC P 90 = some ((defC P 90).getD []) by kernel_rfl), defC_ok hn (show defC P 95 = some ((defC P 95).getD []) by kernel_rfl), defC_ok hn (show defC P 99 = some ((defC P 99).getD []) by kernel_rfl), defC_ok hn (show defC P 101 = some ((defC P 101).getD []) by kernel_rfl), defC_ok hn (show defC P 104 = some ((defC P 104).getD []) by kernel_rfl), defC_ok hn (show defC P 110 = some ((defC P 110).getD []) by kernel_rfl), defC_ok hn (show defC P 140 = some ((defC P 140).getD []) by kernel_rfl), defC_ok hn (show defC P 142 = some ((defC P 142).getD []) by kernel_rfl), defC_ok hn (show defC P 143 = some ((defC P 143).getD []) by kernel_rfl), defC_ok hn (show defC P 144 = some ((defC P 144).getD []) by kernel_rfl), trivial⟩
noncomputable def TT : Tab := { prim := Mr.look primL, cnt := Mr.look cntL, tags := 125, okF := 108, compl := 109, defs := Mr.look defL }
theorem TT_ok : TabOk P TT IJ.err := ⟨look_ok primL_ok, look_ok cntL_ok, c_rt, c_rOk, c_rComplete, look_ok defL_ok⟩
def appL : List (Nat × Prim) := [(89, .i8), (73, .i16), (115, .u16), (76, .i32), (103, .uuid), (75, .str false), (100, .str true), (93, .byt false), (92, .byt true), (77, .nbyt false), (94, .nbyt true)]
theorem appL_ok : AllP (fun f p => AppPrim P IJ.e8 f p) appL := ⟨app_i8 c_appendInt8, app_i16 c_appendInt16, app_u16 c_appendUint16, app_i32 c_appendInt32, c_appendUuid, c_appendString, c_appendCompactString, prim_byt c_appendBytes, prim_byt c_appendCompactBytes, c_appendNullableBytes, c_appendCompactNullableBytes, trivial⟩
def alenL : List (Nat × Bool) := [(74, false), (88, true)]
theorem alenL_ok : AllP (fun f c => Appends P IJ.e8 f (wrCount c) lenRep) alenL := ⟨c_appendArrayLen, c_appendCompactArrayLen, trivial⟩
def WW : WTab := { app := Mr.look appL, alen := Mr.look alenL, tlen := 82, uv := 81, each := 83 }
theorem WW_ok : WTabOk P WW IJ.e8 := ⟨look_ok appL_ok, look_ok alenL_ok, c_len, c_appendUvarint.app, c_appendEach⟩
end Go.Proofs.YtfbdfieeoobceaaDoor.Sg
