/- The seat YtilojmciknccgabGreatDoor: kbin's functions and tags, what they do; which functions read and write what. -/
import Derived.Test.YtilojmciknccgabGreatDoorSb
import Derived.Test.YtilojmciknccgabGreatDoorRows
import Derived.KernelRfl
import Derived.WalkKit
namespace Go.Proofs.YtilojmciknccgabGreatDoor
open Go.Shelf
def Tryz.sl6_ren : Go.Shelf.Ren := ⟨fun | 6 => 200 | 10 => 206 | 11 => 207 | 12 => 208 | 13 => 209 | 14 => 210 | 24 => 199 | 25 => 221 | 26 => 222 | 27 => 223 | 28 => 224 | 29 => 225 | 30 => 226 | 31 => 227 | 32 => 228 | 33 => 229 | 34 => 230 | 35 => 231 | 36 => 232 | 37 => 233 | 38 => 234 | 39 => 235 | n => n, fun | 20 => 20 | 26 => 217 | 35 => 228 | 0 => 0 | 37 => 230 | 3 => 3 | 41 => 193 | 44 => 235 | 49 => 71 | 51 => 87 | 4 => 4 | 54 => 243 | 53 => 242 | 58 => 247 | 5 => 5 | 9 => 9 | 60 => 249 | 64 => 252 | 66 => 254 | 67 => 255 | 17 => 17 | 32 => 225 | 33 => 226 | 82 => 270 | 12 => 12 | 75 => 263 | 76 => 264 | 77 => 265 | 78 => 266 | 79 => 267 | 80 => 268 | n => n, fun | n => n⟩
theorem Tryz.sl6 : Go.Proofs.LaysGg.n6 Tryz.prog Tryz.sl6_ren where
  mixed := by kernel_rfl
  f6 := Tryz.func200.trans (congrArg some (by kernel_rfl))
  f10 := Tryz.func206.trans (congrArg some (by kernel_rfl))
  f11 := Tryz.func207.trans (congrArg some (by kernel_rfl))
  f12 := Tryz.func208.trans (congrArg some (by kernel_rfl))
  f13 := Tryz.func209.trans (congrArg some (by kernel_rfl))
  f14 := Tryz.func210.trans (congrArg some (by kernel_rfl))
  f24 := Tryz.func199.trans (congrArg some (by kernel_rfl))
  f25 := Tryz.func221.trans (congrArg some (by kernel_rfl))
  f26 := Tryz.func222.trans (congrArg some (by kernel_rfl))
  f27 := Tryz.func223.trans (congrArg some (by kernel_rfl))
  f28 := Tryz.func224.trans (congrArg some (by kernel_rfl))
  f29 := Tryz.func225.trans (congrArg some (by kernel_rfl))
  f30 := Tryz.func226.trans (congrArg some (by kernel_rfl))
  f31 := Tryz.func227.trans (congrArg some (by kernel_rfl))
  f32 := Tryz.func228.trans (congrArg some (by kernel_rfl))
  f33 := Tryz.func229.trans (congrArg some (by kernel_rfl))
  f34 := Tryz.func230.trans (congrArg some (by kernel_rfl))
  f35 := Tryz.func231.trans (congrArg some (by kernel_rfl))
  f36 := Tryz.func232.trans (congrArg some (by kernel_rfl))
  f37 := Tryz.func233.trans (congrArg some (by kernel_rfl))
  f38 := Tryz.func234.trans (congrArg some (by kernel_rfl))
  f39 := Tryz.func235.trans (congrArg some (by kernel_rfl))
  t0 := Tryz.underlying0
  a0 := Tryz.isAgg0
  z0 := Tryz.sizeOf0
  v0 := Tryz.zeroValue0
  i0 := by kernel_rfl
  t3 := Tryz.underlying3
  a3 := Tryz.isAgg3
  z3 := Tryz.sizeOf3
  v3 := Tryz.zeroValue3
  i3 := by kernel_rfl
  t4 := Tryz.underlying4
  a4 := Tryz.isAgg4
  z4 := Tryz.sizeOf4
  v4 := Tryz.zeroValue4
  i4 := by kernel_rfl
  t5 := Tryz.underlying5
  a5 := Tryz.isAgg5
  z5 := Tryz.sizeOf5
  v5 := Tryz.zeroValue5
  i5 := by kernel_rfl
  t9 := Tryz.underlying9
  a9 := Tryz.isAgg9
  z9 := Tryz.sizeOf9
  v9 := Tryz.zeroValue9
  i9 := by kernel_rfl
  t12 := Tryz.underlying12
  a12 := Tryz.isAgg12
  z12 := Tryz.sizeOf12
  v12 := Tryz.zeroValue12
  i12 := by kernel_rfl
  t17 := Tryz.underlying17
  a17 := Tryz.isAgg17
  z17 := Tryz.sizeOf17
  v17 := Tryz.zeroValue17
  i17 := by kernel_rfl
  t20 := Tryz.underlying20
  a20 := Tryz.isAgg20
  z20 := Tryz.sizeOf20
  v20 := Tryz.zeroValue20
  i20 := by kernel_rfl
  t26 := Tryz.underlying217
  a26 := Tryz.isAgg217
  z26 := Tryz.sizeOf217
  v26 := Tryz.zeroValue217
  i26 := by kernel_rfl
  t32 := Tryz.underlying225
  a32 := Tryz.isAgg225
  z32 := Tryz.sizeOf225
  v32 := Tryz.zeroValue225
  i32 := by kernel_rfl
  t33 := Tryz.underlying226
  a33 := Tryz.isAgg226
  z33 := Tryz.sizeOf226
  v33 := Tryz.zeroValue226
  i33 := by kernel_rfl
  t35 := Tryz.underlying228
  a35 := Tryz.isAgg228
  z35 := Tryz.sizeOf228
  v35 := Tryz.zeroValue228
  i35 := by kernel_rfl
  t37 := Tryz.underlying230
  a37 := Tryz.isAgg230
  z37 := Tryz.sizeOf230
  v37 := Tryz.zeroValue230
  i37 := by kernel_rfl
  t41 := Tryz.underlying193
  a41 := Tryz.isAgg193
  z41 := Tryz.sizeOf193
  v41 := Tryz.zeroValue193
  i41 := by kernel_rfl
  t44 := Tryz.underlying235
  a44 := Tryz.isAgg235
  z44 := Tryz.sizeOf235
  v44 := Tryz.zeroValue235
  i44 := by kernel_rfl
  t49 := Tryz.underlying71
  a49 := Tryz.isAgg71
  z49 := Tryz.sizeOf71
  v49 := Tryz.zeroValue71
  i49 := by kernel_rfl
  t51 := Tryz.underlying87
  a51 := Tryz.isAgg87
  z51 := Tryz.sizeOf87
  v51 := Tryz.zeroValue87
  i51 := by kernel_rfl
  t53 := Tryz.underlying242
  a53 := Tryz.isAgg242
  z53 := Tryz.sizeOf242
  v53 := Tryz.zeroValue242
  i53 := by kernel_rfl
  t54 := Tryz.underlying243
  a54 := Tryz.isAgg243
  z54 := Tryz.sizeOf243
  v54 := Tryz.zeroValue243
  i54 := by kernel_rfl
  t58 := Tryz.underlying247
  a58 := Tryz.isAgg247
  z58 := Tryz.sizeOf247
  v58 := Tryz.zeroValue247
  i58 := by kernel_rfl
  t60 := Tryz.underlying249
  a60 := Tryz.isAgg249
  z60 := Tryz.sizeOf249
  v60 := Tryz.zeroValue249
  i60 := by kernel_rfl
  t64 := Tryz.underlying252
  a64 := Tryz.isAgg252
  z64 := Tryz.sizeOf252
  v64 := Tryz.zeroValue252
  i64 := by kernel_rfl
  t66 := Tryz.underlying254
  a66 := Tryz.isAgg254
  z66 := Tryz.sizeOf254
  v66 := Tryz.zeroValue254
  i66 := by kernel_rfl
  t67 := Tryz.underlying255
  a67 := Tryz.isAgg255
  z67 := Tryz.sizeOf255
  v67 := Tryz.zeroValue255
  i67 := by kernel_rfl
  t75 := Tryz.underlying263
  a75 := Tryz.isAgg263
  z75 := Tryz.sizeOf263
  v75 := Tryz.zeroValue263
  i75 := by kernel_rfl
  t76 := Tryz.underlying264
  a76 := Tryz.isAgg264
  z76 := Tryz.sizeOf264
  v76 := Tryz.zeroValue264
  i76 := by kernel_rfl
  t77 := Tryz.underlying265
  a77 := Tryz.isAgg265
  z77 := Tryz.sizeOf265
  v77 := Tryz.zeroValue265
  i77 := by kernel_rfl
  t78 := Tryz.underlying266
  a78 := Tryz.isAgg266
  z78 := Tryz.sizeOf266
  v78 := Tryz.zeroValue266
  i78 := by kernel_rfl
  t79 := Tryz.underlying267
  a79 := Tryz.isAgg267
  z79 := Tryz.sizeOf267
  v79 := Tryz.zeroValue267
  i79 := by kernel_rfl
  t80 := Tryz.underlying268
  a80 := Tryz.isAgg268
  z80 := Tryz.sizeOf268
  v80 := Tryz.zeroValue268
  i80 := by kernel_rfl
  t82 := Tryz.underlying270
  a82 := Tryz.isAgg270
  z82 := Tryz.sizeOf270
  v82 := Tryz.zeroValue270
  i82 := by kernel_rfl
end Go.Proofs.YtilojmciknccgabGreatDoor

namespace Go.Proofs.YtilojmciknccgabGreatDoor.Sg
open Go Go.Lx Go.Nx Go.Km Go.Mx Go.Kb Go.Mr
set_option linter.unusedVariables false
set_option maxRecDepth 100000

noncomputable abbrev P : Program := Tryz.prog
def IJ : J := { e8 := 5, lens := ⟨#[1, 1, 1, 1, 1, 1, 1, 1, 2, 2, 2, 2, 2, 2, 2, 3, 3, 3, 3, 3, 3, 3, 4, 4, 4, 4, 4, 4, 4, 5, 5, 5, 5, 5, 5, 5, 6, 6, 6, 6, 6, 6, 6, 7, 7, 7, 7, 7, 7, 7, 8, 8, 8, 8, 8, 8, 8, 9, 9, 9, 9, 9, 9, 9, 10, 0, 0, 0, 0, 0, 0, 0, 0, 0, 0, 0, 0, 0, 0, 0, 0, 0, 0, 0, 0, 0, 0, 0, 0, 0, 0, 0, 0, 0, 0, 0, 0, 0, 0, 0, 0, 0, 0, 0, 0, 0, 0, 0, 0, 0, 0, 0, 0, 0, 0, 0, 0, 0, 0, 0, 0, 0, 0, 0, 0, 0, 0, 0, 0, 0, 0, 0, 0, 0, 0, 0, 0, 0, 0, 0, 0, 0, 0, 0, 0, 0, 0, 0, 0, 0, 0, 0, 0, 0, 0, 0, 0, 0, 0, 0, 0, 0, 0, 0, 0, 0, 0, 0, 0, 0, 0, 0, 0, 0, 0, 0, 0, 0, 0, 0, 0, 0, 0, 0, 0, 0, 0, 0, 0, 0, 0, 0, 0, 0, 0, 0, 0, 0, 0, 0, 0, 0, 0, 0, 0, 0, 0, 0, 0, 0, 0, 0, 0, 0, 0, 0, 0, 0, 0, 0, 0, 0, 0, 0, 0, 0, 0, 0, 0, 0, 0, 0, 0, 0, 0, 0, 0, 0, 0, 0, 0, 0, 0, 0, 0, 0, 0, 0, 0, 0, 0, 0, 0, 0, 0, 0]⟩, tab8 := ⟨#[0, 1, 2, 2, 3, 3, 3, 3, 4, 4, 4, 4, 4, 4, 4, 4, 5, 5, 5, 5, 5, 5, 5, 5, 5, 5, 5, 5, 5, 5, 5, 5, 6, 6, 6, 6, 6, 6, 6, 6, 6, 6, 6, 6, 6, 6, 6, 6, 6, 6, 6, 6, 6, 6, 6, 6, 6, 6, 6, 6, 6, 6, 6, 6, 7, 7, 7, 7, 7, 7, 7, 7, 7, 7, 7, 7, 7, 7, 7, 7, 7, 7, 7, 7, 7, 7, 7, 7, 7, 7, 7, 7, 7, 7, 7, 7, 7, 7, 7, 7, 7, 7, 7, 7, 7, 7, 7, 7, 7, 7, 7, 7, 7, 7, 7, 7, 7, 7, 7, 7, 7, 7, 7, 7, 7, 7, 7, 7, 8, 8, 8, 8, 8, 8, 8, 8, 8, 8, 8, 8, 8, 8, 8, 8, 8, 8, 8, 8, 8, 8, 8, 8, 8, 8, 8, 8, 8, 8, 8, 8, 8, 8, 8, 8, 8, 8, 8, 8, 8, 8, 8, 8, 8, 8, 8, 8, 8, 8, 8, 8, 8, 8, 8, 8, 8, 8, 8, 8, 8, 8, 8, 8, 8, 8, 8, 8, 8, 8, 8, 8, 8, 8, 8, 8, 8, 8, 8, 8, 8, 8, 8, 8, 8, 8, 8, 8, 8, 8, 8, 8, 8, 8, 8, 8, 8, 8, 8, 8, 8, 8, 8, 8, 8, 8, 8, 8, 8, 8, 8, 8, 8, 8, 8, 8, 8, 8, 8, 8, 8, 8, 8, 8, 8, 8, 8, 8]⟩, err := 0, appendBytes := 0, appendCompactBytes := 0, appendCompactString := 112, appendInt16 := 124, appendInt32 := 123, appendString := 113, appendUint16 := 177, appendUint32 := 176, appendUint64 := 178, appendUvarint := 117, len32 := 199, rInt16 := 173, rInt32 := 172, rSpan := 197, rUvarint := 195, rreadUint64 := 204, unsafeString := 196, uvarint := 205, uvarintLen := 169, appendEach1 := 171, each := 170, each1 := 201, set := 198, slice := 200, uint16 := 203, uint32 := 202, uint64 := 211, be := 1, eG := 71, tSl := 215 }
theorem names : (P.funcs.toList.all fun fn => fn.name != "runtime.NumGoroutine") = true := by kernel_rfl
theorem hn : Named P := fun f fn h => by
  have := (List.all_eq_true.1 names) fn (by rw [← Array.getElem?_toList] at h; exact List.mem_of_getElem? h)
  simpa using this
theorem tab8_ok : Tab8 IJ.tab8 := by
  have h : ((List.range 256).all fun n => IJ.tab8[n]? == some (UInt8.ofNat (bitlen n))) = true := by kernel_rfl
  intro n hn
  simpa using (List.all_eq_true.1 h) n (by simpa using hn)
theorem lens_ok : LensTab IJ.lens := by
  have h : ((List.range 33).all fun n => IJ.lens[n]? == some (UInt8.ofNat (groups n))) = true := by kernel_rfl
  intro n hn
  simpa using (List.all_eq_true.1 h) n (by simp only [List.mem_range]; omega)
theorem f_uint16 : fnP P 203 2 = some (p_uint16 IJ) := by kernel_rfl
theorem f_uint32 : fnP P 202 2 = some (p_uint32 IJ) := by kernel_rfl
theorem f_uint64 : fnP P 211 2 = some (p_uint64 IJ) := by kernel_rfl
theorem f_rInt16 : fnP P 173 1 = some (p_rInt16 IJ) := by kernel_rfl
theorem f_rInt32 : fnP P 172 1 = some (p_rInt32 IJ) := by kernel_rfl
theorem f_rreadUint64 : fnP P 204 1 = some (p_rreadUint64 IJ) := by kernel_rfl
theorem f_rInt64 : fnP P 175 1 = some (p_rInt64 IJ.toIds) := by kernel_rfl
theorem f_rInt8 : fnP P 162 1 = some (p_rInt8 IJ.toIds) := by kernel_rfl
theorem f_rBool : fnP P 168 1 = some (p_rBool IJ.toIds) := by kernel_rfl
theorem f_rSpan : fnP P 197 2 = some (p_rSpan IJ.toIds) := by kernel_rfl
theorem f_uvarint : fnP P 205 1 = some (p_uvarint IJ) := by kernel_rfl
theorem f_rUvarint : fnP P 195 1 = some (p_rUvarint IJ.toIds) := by kernel_rfl
theorem f_rUuid : fnP P 184 1 = some (p_rUuid IJ) := by kernel_rfl
theorem f_rString : fnP P 161 1 = some (p_rString IJ.toIds) := by kernel_rfl
theorem f_rCompactString : fnP P 160 1 = some (p_rCompactString IJ.toIds) := by kernel_rfl
theorem f_rNullableString : fnP P 166 1 = some (p_rNullableString IJ.toIds) := by kernel_rfl
theorem f_rCompactNullableString : fnP P 164 1 = some (p_rCompactNullableString IJ.toIds) := by kernel_rfl
theorem f_rArrayLen : fnP P 154 1 = some (p_rArrayLen IJ.toIds) := by kernel_rfl
theorem f_rCompactArrayLen : fnP P 153 1 = some (p_rCompactArrayLen IJ.toIds) := by kernel_rfl
theorem f_rOk : fnP P 155 1 = some (p_rOk IJ.toIds) := by kernel_rfl
theorem f_rComplete : fnP P 156 1 = some (p_rComplete IJ.toIds) := by kernel_rfl
theorem f_set : fnP P 198 3 = some (p_set IJ) := by kernel_rfl
theorem f_rt : fnP P 167 1 = some (p_internalReadTags IJ) := by kernel_rfl
theorem f_len32 : fnP P 199 1 = some (p_len32 IJ.toIds) := by kernel_rfl
theorem f_uvarintLen : fnP P 169 1 = some (p_uvarintLen IJ.toIds) := by kernel_rfl
theorem f_appendUvarint : fnP P 117 2 = some (p_appendUvarint IJ.toIds) := by kernel_rfl
theorem f_appendUint16 : fnP P 177 2 = some (p_appendUint16 IJ.toIds) := by kernel_rfl
theorem f_appendUint32 : fnP P 176 2 = some (p_appendUint32 IJ.toIds) := by kernel_rfl
theorem f_appendUint64 : fnP P 178 2 = some (p_appendUint64 IJ.toIds) := by kernel_rfl
theorem f_appendInt16 : fnP P 124 2 = some (p_appendInt16 IJ.toIds) := by kernel_rfl
theorem f_appendInt32 : fnP P 123 2 = some (p_appendInt32 IJ.toIds) := by kernel_rfl
theorem f_appendInt64 : fnP P 125 2 = some (p_appendInt64 IJ.toIds) := by kernel_rfl
theorem f_appendInt8 : fnP P 114 2 = some (p_appendInt8 IJ.toIds) := by kernel_rfl
theorem f_appendBool : fnP P 120 2 = some (p_appendBool IJ.toIds) := by kernel_rfl
theorem f_appendUuid : fnP P 135 2 = some (p_appendUuid IJ) := by kernel_rfl
theorem f_appendString : fnP P 113 2 = some (p_appendString IJ.toIds) := by kernel_rfl
theorem f_appendCompactString : fnP P 112 2 = some (p_appendCompactString IJ.toIds) := by kernel_rfl
theorem f_appendNullableString : fnP P 116 2 = some (p_appendNullableString IJ.toIds) := by kernel_rfl
theorem f_appendCompactNullableString : fnP P 115 2 = some (p_appendCompactNullableString IJ.toIds) := by kernel_rfl
theorem f_appendArrayLen : fnP P 111 2 = some (p_appendArrayLen IJ.toIds) := by kernel_rfl
theorem f_appendCompactArrayLen : fnP P 110 2 = some (p_appendCompactArrayLen IJ.toIds) := by kernel_rfl
theorem f_len : fnP P 118 1 = some (p_len IJ) := by kernel_rfl
theorem f_appendEach1 : fnP P 171 3 = some (p_appendEach1 IJ) := by kernel_rfl
theorem f_each : fnP P 170 2 = some (p_each IJ) := by kernel_rfl
theorem f_appendEach : fnP P 119 2 = some (p_appendEach IJ) := by kernel_rfl
theorem f_each1 : fnP P 201 3 = some (p_each1 IJ) := by kernel_rfl
noncomputable def siT : TypeInfo := (P.info? 215).get (by kernel_rfl)
noncomputable def siE : TypeInfo := (P.info? 71).get (by kernel_rfl)
theorem siK (n : Nat) (h2 : 2 ≤ n) : Lib.swapperK n siE 10 = 6 := by
  have a : siE.hasPointers = false := by kernel_rfl
  have b : siE.bytes = 4 := by kernel_rfl
  have c : (n == 0) = false := by simp; omega
  have d : (n == 1) = false := by simp; omega
  simp [Lib.swapperK, a, b, c, d]
theorem c_sort : SortOk P IJ.slice IJ.each1 IJ.tSl :=
  Mr.sort_ok hn Tryz.sl6 215 71 siT siE (by kernel_rfl) (by kernel_rfl) (by kernel_rfl) (by kernel_rfl) 10 (fun _ => by kernel_rfl) (by kernel_rfl) (fun _ => by kernel_rfl) f_each1
    (enters_of Tryz.func201 (by kernel_rfl) rfl) 6 217 212 213 siK (by kernel_rfl) (by kernel_rfl) (by kernel_rfl) true
    (fun args W => run_callFunc_extern Tryz.func217 (by kernel_rfl) (by kernel_rfl) (by kernel_rfl) (e := Extern.ReflectliteSwapper.swap true) (by kernel_rfl) args W)
theorem c_uint16 : BeOk P 203 2 .u16 := uint16_ok hn f_uint16
theorem c_uint32 : BeOk P 202 4 .u32 := uint32_ok hn f_uint32
theorem c_uint64 : BeOk P 211 8 .u64 := uint64_ok hn f_uint64
theorem c_rInt16 : Reads P 173 (rdI 2) (intRep .i16) (· = .int .i16 0) := rInt16_ok hn f_rInt16 c_uint16
theorem c_rInt32 : Reads P 172 (rdI 4) (intRep .i32) (· = .int .i32 0) := rInt32_ok hn f_rInt32 c_uint32
theorem c_rreadUint64 : Reads P 204 (rdU 8) (natRep .u64) (· = .int .u64 0) := rreadUint64_ok hn f_rreadUint64 c_uint64
theorem c_rInt64 : Reads P 175 (rdI 8) (intRep .i64) (· = .int .i64 0) := rInt64_ok hn f_rInt64 c_rreadUint64
theorem c_rInt8 : Reads P 162 (rdI 1) (intRep .i8) (· = .int .i8 0) := rInt8_ok hn f_rInt8
theorem c_rBool : Reads P 168 rdB boolRep (· = .bool false) := rBool_ok hn f_rBool
theorem c_rSpan : Spans P 197 := rSpan_ok hn f_rSpan
theorem c_uvarint : KUv P 205 := uvarint_ok hn f_uvarint
theorem c_rUvarint : Reads P 195 rdUv (natRep .u32) (· = .int .u32 0) := rUvarint_ok hn f_rUvarint c_uvarint
theorem c_rUuid : PrimOk P 184 .uuid := rUuid_ok hn f_rUuid c_rSpan
theorem c_rString : PrimOk P 161 (.str false) := rString_ok hn f_rString c_rInt16 c_rSpan
theorem c_rCompactString : PrimOk P 160 (.str true) := rCompactString_ok hn f_rCompactString c_rUvarint c_rSpan
theorem c_rNullableString : PrimOk P 166 (.nstr false) := rNullableString_ok hn f_rNullableString c_rInt16 c_rSpan
theorem c_rCompactNullableString : PrimOk P 164 (.nstr true) := rCompactNullableString_ok hn f_rCompactNullableString c_rUvarint c_rSpan
theorem c_rArrayLen : Counts P 154 false := rArrayLen_ok hn f_rArrayLen c_rInt32
theorem c_rCompactArrayLen : Counts P 153 true := rCompactArrayLen_ok hn f_rCompactArrayLen c_rUvarint
theorem c_rOk : OkFn P 155 := rOk_ok hn f_rOk
theorem c_rComplete : CompleteFn P 156 IJ.err := rComplete_ok hn f_rComplete
theorem c_set : SetOk P 198 := set_ok hn f_set
theorem c_rt : TagsOk P 167 := rt_ok hn f_rt c_rUvarint c_rSpan c_set
theorem c_len32 : Len32Ok P 199 := len32_ok hn f_len32 tab8_ok
theorem c_uvarintLen : UvLenOk P 169 := uvarintLen_ok hn f_uvarintLen c_len32 lens_ok
theorem c_appendUvarint : AppendsG P IJ.e8 117 wrUv uvRep := appendUvarint_okG hn f_appendUvarint c_uvarintLen
theorem c_appendUint16 : Appends P IJ.e8 177 (be 2) (natRep .u16) := appendUint16_ok hn f_appendUint16
theorem c_appendUint32 : Appends P IJ.e8 176 (be 4) (natRep .u32) := appendUint32_ok hn f_appendUint32
theorem c_appendUint64 : Appends P IJ.e8 178 (be 8) (natRep .u64) := appendUint64_ok hn f_appendUint64
theorem c_appendInt16 : Appends P IJ.e8 124 (wrI 2) (intRep .i16) := appendInt16_ok hn f_appendInt16 c_appendUint16
theorem c_appendInt32 : Appends P IJ.e8 123 (wrI 4) (intRep .i32) := appendInt32_ok hn f_appendInt32 c_appendUint32
theorem c_appendInt64 : Appends P IJ.e8 125 (wrI 8) (intRep .i64) := appendInt64_ok hn f_appendInt64 c_appendUint64
theorem c_appendInt8 : Appends P IJ.e8 114 (wrI 1) (intRep .i8) := appendInt8_ok hn f_appendInt8
theorem c_appendBool : Appends P IJ.e8 120 (fun b : Bool => [if b then 1 else 0]) boolRep := appendBool_ok hn f_appendBool
theorem c_appendUuid : AppPrim P IJ.e8 135 .uuid := appendUuid_ok hn f_appendUuid
theorem c_appendString : AppPrim P IJ.e8 113 (.str false) := appendString_ok hn f_appendString c_appendInt16
theorem c_appendCompactString : AppPrim P IJ.e8 112 (.str true) := appendCompactString_ok hn f_appendCompactString c_appendUvarint.app
theorem c_appendNullableString : AppPrim P IJ.e8 116 (.nstr false) := appendNullableString_ok hn f_appendNullableString c_appendInt16 c_appendString
theorem c_appendCompactNullableString : AppPrim P IJ.e8 115 (.nstr true) := appendCompactNullableString_ok hn f_appendCompactNullableString c_appendUvarint.app c_appendCompactString
theorem c_appendArrayLen : Appends P IJ.e8 111 (wrCount false) lenRep := appendArrayLen_ok hn f_appendArrayLen c_appendInt32
theorem c_appendCompactArrayLen : Appends P IJ.e8 110 (wrCount true) lenRep := appendCompactArrayLen_ok hn f_appendCompactArrayLen c_appendUvarint.app
theorem c_len : LenOk P 118 := len_ok' hn f_len
theorem c_appendEach1 : CbOk P IJ.e8 171 := cb_ok hn f_appendEach1 c_appendUvarint
theorem c_each : EachOk P IJ.e8 170 IJ.appendEach1 := each_ok hn f_each c_sort c_appendEach1 (fnP_fn f_appendEach1)
theorem c_appendEach : AppEachOk P IJ.e8 119 := appEach_ok hn f_appendEach c_each
def primL : List (Nat × Prim) := [(162, .i8), (173, .i16), (172, .i32), (175, .i64), (168, .bool), (184, .uuid), (161, .str false), (160, .str true), (166, .nstr false), (164, .nstr true)]
theorem primL_ok : AllP (fun f p => PrimOk P f p) primL := ⟨prim_i8 c_rInt8, prim_i16 c_rInt16, prim_i32 c_rInt32, prim_i64 c_rInt64, prim_bool c_rBool, c_rUuid, c_rString, c_rCompactString, c_rNullableString, c_rCompactNullableString, trivial⟩
def cntL : List (Nat × Bool) := [(154, false), (153, true)]
theorem cntL_ok : AllP (fun f c => Counts P f c) cntL := ⟨c_rArrayLen, c_rCompactArrayLen, trivial⟩
noncomputable def defL : List (Nat × List (Nat × Value)) := [(100, (defC P 100).getD []), (121, (defC P 121).getD []), (126, (defC P 126).getD []), (129, (defC P 129).getD []), (132, (defC P 132).getD []), (136, (defC P 136).getD []), (139, (defC P 139).getD []), (142, (defC P 142).getD []), (144, (defC P 144).getD []), (157, (defC P 157).getD []), (174, (defC P 174).getD []), (179, (defC P 179).getD []), (180, (defC P 180).getD []), (181, (defC P 181).getD []), (182, (defC P 182).getD []), (183, (defC P 183).getD []), (185, (defC P 185).getD []), (186, (defC P 186).getD []), (187, (defC P 187).getD []), (188, (defC P 188).getD []), (189, (defC P 189).getD []), (190, (defC P 190).getD []), (192, (defC P 192).getD []), (193, (defC P 193).getD []), (194, (defC P 194).getD [])]
theorem defL_ok : AllP (fun f ds => DefOk P f ds) defL := ⟨defC_ok hn (show defC P 100 = some ((defC P 100).getD []) by kernel_rfl), defC_ok hn (show defC P 121 = some ((defC P 121).getD []) by kernel_rfl), defC_ok hn (show defC P 126 = some ((defC P 126).getD []) by kernel_rfl), defC_ok hn (show defC P 129 = some ((defC P 129).getD []) by kernel_rfl), defC_ok hn (show defC P 132 = some ((defC P 132).getD []) by kernel_rfl), defC_ok hn (show defC P 136 = some ((defC P 136).getD []) by kernel_rfl), defC_ok hn (show defC P 139 = some ((defC P 139).getD []) by kernel_rfl), defC_ok hn (show defC P 142 = some ((defC P 142).getD []) by kernel_rfl), defC_ok hn (show defC P 144 = some ((defC P 144).getD []) by kernel_rfl), defC_ok hn (show defC P 157 = some ((defC P 157).getD []) by kernel_rfl), defC_ok hn (show defC P 174 = some ((defC P 174).getD []) by kernel_rfl), defC_ok hn (show defC P 179 = some ((defC P 179).getD []) by kernel_rfl), defC_ok hn (show defC P 180 = some ((defC P 180).getD []) by kernel_rfl), defC_ok hn (show defC P 181 = some ((defC P 181).getD []) by kernel_rfl), defC_ok hn (show defC P 182 = some ((defC P 182).getD []) by kernel_rfl), defC_ok hn (show defC P 183 = some ((defC P 183).getD []) by kernel_rfl), defC_ok hn (show defC P 185 = some ((defC P 185).getD []) by kernel_rfl), defC_ok hn (show defC P 186 = some ((defC P 186).getD []) by kernel_rfl), defC_ok hn (show defC P 187 = some ((defC P 187).getD []) by kernel_rfl), defC_ok hn (show defC P 188 = some ((defC P 188).getD []) by kernel_rfl), defC_ok hn (show defC P 189 = some ((defC P 189).getD []) by kernel_rfl), defC_ok hn (show defC P 190 = some ((defC P 190).getD []) by kernel_rfl), defC_ok hn (show defC P 192 = some ((defC P 192).getD []) by kernel_rfl), defC_ok hn (show defC P 193 = some ((defC P 193).getD []) by kernel_rfl), defC_ok hn (show defC P 194 = some ((defC P 194).getD []) by kernel_rfl), trivial⟩
noncomputable def TT : Tab := { prim := Mr.look primL, cnt := Mr.look cntL, tags := 167, okF := 155, compl := 156, defs := Mr.look defL }
theorem TT_ok : TabOk P TT IJ.err := ⟨look_ok primL_ok, look_ok cntL_ok, c_rt, c_rOk, c_rComplete, look_ok defL_ok⟩
def appL : List (Nat × Prim) := [(114, .i8), (124, .i16), (177, .u16), (123, .i32), (125, .i64), (120, .bool), (135, .uuid), (113, .str false), (112, .str true), (116, .nstr false), (115, .nstr true)]
theorem appL_ok : AllP (fun f p => AppPrim P IJ.e8 f p) appL := ⟨app_i8 c_appendInt8, app_i16 c_appendInt16, app_u16 c_appendUint16, app_i32 c_appendInt32, app_i64 c_appendInt64, app_bool c_appendBool, c_appendUuid, c_appendString, c_appendCompactString, c_appendNullableString, c_appendCompactNullableString, trivial⟩
def alenL : List (Nat × Bool) := [(111, false), (110, true)]
theorem alenL_ok : AllP (fun f c => Appends P IJ.e8 f (wrCount c) lenRep) alenL := ⟨c_appendArrayLen, c_appendCompactArrayLen, trivial⟩
def alenNL : List (Nat × Bool) := []
theorem alenNL_ok : AllP (fun f c => AppN P IJ.e8 f c) alenNL := trivial
def WW : WTab := { app := Mr.look appL, alen := Mr.look alenL, alenN := Mr.look alenNL, tlen := 118, uv := 117, each := 119 }
theorem WW_ok : WTabOk P WW IJ.e8 := ⟨look_ok appL_ok, look_ok alenL_ok, look_ok alenNL_ok, c_len, c_appendUvarint.app, c_appendEach⟩
def SJ : Sp.SI := { e8 := 5, eT := 73, atF := 103, counted := 149, fieldF := 102, fixed := 151, hasF := 101, knownF := 104, nullF := 147, partF := 46, things := 148, unknown := 107, usual := 105, uvarint := 106, valueF := 150, whole := 108, width := 152, write := 14, zzFits3 := 43, zzFits4 := 99 }
theorem q_has : fnP P 101 2 = some (Sp.q_has SJ) := by kernel_rfl
theorem q_null : fnP P 147 3 = some (Sp.q_null SJ) := by kernel_rfl
theorem q_at1 : fnP P 103 2 = some (Sp.q_at SJ) := by kernel_rfl
theorem q_whole : fnP P 108 1 = some (Sp.q_whole SJ) := by kernel_rfl
theorem q_things : fnP P 148 1 = some (Sp.q_things SJ) := by kernel_rfl
theorem q_width : fnP P 152 1 = some (Sp.q_width SJ) := by kernel_rfl
theorem q_fixed : fnP P 151 2 = some (Sp.q_fixed SJ) := by kernel_rfl
theorem q_uvarint : fnP P 106 1 = some (Sp.q_uvarint SJ) := by kernel_rfl
theorem q_counted : fnP P 149 4 = some (Sp.q_counted SJ) := by kernel_rfl
theorem q_known : fnP P 104 1 = some (Sp.q_known SJ) := by kernel_rfl
theorem q_unknown : fnP P 107 2 = some (Sp.q_unknown SJ) := by kernel_rfl
theorem q_value : fnP P 150 6 = some (Sp.q_value SJ) := by kernel_rfl
theorem q_field : fnP P 102 4 = some (Sp.q_field SJ) := by kernel_rfl
theorem q_part : fnP P 46 4 = some (Sp.q_part SJ) := by kernel_rfl
theorem q_write : fnP P 14 3 = some (Sp.q_write SJ) := by kernel_rfl
theorem q_zz3 : fnP P 43 1 = some (Sp.q_zzFits3 SJ) := by kernel_rfl
theorem q_zz4 : fnP P 99 1 = some (Sp.q_zzFits4 SJ) := by kernel_rfl
theorem fns : Sp.Fns P SJ := ⟨hn, q_has, q_null, q_at1, q_whole, q_things, q_width, q_fixed, q_uvarint, q_counted, q_known, q_unknown, q_value, q_field, q_part, q_write, q_zz3, q_zz4⟩
end Go.Proofs.YtilojmciknccgabGreatDoor.Sg
