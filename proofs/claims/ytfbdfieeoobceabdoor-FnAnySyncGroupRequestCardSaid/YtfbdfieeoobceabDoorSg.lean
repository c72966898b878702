/- The seat YtfbdfieeoobceabDoor: kbin's functions and tags, what they do; which functions read and write what. -/
import Derived.Test.YtfbdfieeoobceabDoorMs
import Derived.Test.YtfbdfieeoobceabDoorRows
import Derived.KernelRfl
import Derived.WalkKit
namespace Go.Proofs.YtfbdfieeoobceabDoor
open Go.Shelf
def Tryd.sl6_ren : Go.Shelf.Ren := ⟨fun | 6 => 144 | 10 => 148 | 11 => 149 | 12 => 150 | 13 => 151 | 14 => 152 | 24 => 143 | 25 => 162 | 26 => 163 | 27 => 164 | 28 => 165 | 29 => 166 | 30 => 167 | 31 => 168 | 32 => 169 | 33 => 170 | 34 => 171 | 35 => 172 | 36 => 173 | 37 => 174 | 38 => 175 | 39 => 176 | n => n, fun | 20 => 20 | 26 => 180 | 35 => 187 | 0 => 0 | 37 => 189 | 3 => 3 | 41 => 162 | 44 => 194 | 49 => 70 | 51 => 160 | 4 => 4 | 54 => 201 | 53 => 200 | 58 => 205 | 5 => 5 | 9 => 9 | 60 => 207 | 64 => 210 | 66 => 212 | 67 => 213 | 17 => 17 | 32 => 184 | 33 => 185 | 82 => 228 | 12 => 12 | 75 => 221 | 76 => 222 | 77 => 223 | 78 => 224 | 79 => 225 | 80 => 226 | n => n, fun | n => n⟩
theorem Tryd.sl6 : Go.Proofs.LaysGg.n6 Tryd.prog Tryd.sl6_ren where
  mixed := by kernel_rfl
  f6 := Tryd.func144.trans (congrArg some (by kernel_rfl))
  f10 := Tryd.func148.trans (congrArg some (by kernel_rfl))
  f11 := Tryd.func149.trans (congrArg some (by kernel_rfl))
  f12 := Tryd.func150.trans (congrArg some (by kernel_rfl))
  f13 := Tryd.func151.trans (congrArg some (by kernel_rfl))
  f14 := Tryd.func152.trans (congrArg some (by kernel_rfl))
  f24 := Tryd.func143.trans (congrArg some (by kernel_rfl))
  f25 := Tryd.func162.trans (congrArg some (by kernel_rfl))
  f26 := Tryd.func163.trans (congrArg some (by kernel_rfl))
  f27 := Tryd.func164.trans (congrArg some (by kernel_rfl))
  f28 := Tryd.func165.trans (congrArg some (by kernel_rfl))
  f29 := Tryd.func166.trans (congrArg some (by kernel_rfl))
  f30 := Tryd.func167.trans (congrArg some (by kernel_rfl))
  f31 := Tryd.func168.trans (congrArg some (by kernel_rfl))
  f32 := Tryd.func169.trans (congrArg some (by kernel_rfl))
  f33 := Tryd.func170.trans (congrArg some (by kernel_rfl))
  f34 := Tryd.func171.trans (congrArg some (by kernel_rfl))
  f35 := Tryd.func172.trans (congrArg some (by kernel_rfl))
  f36 := Tryd.func173.trans (congrArg some (by kernel_rfl))
  f37 := Tryd.func174.trans (congrArg some (by kernel_rfl))
  f38 := Tryd.func175.trans (congrArg some (by kernel_rfl))
  f39 := Tryd.func176.trans (congrArg some (by kernel_rfl))
  t0 := Tryd.underlying0
  a0 := Tryd.isAgg0
  z0 := Tryd.sizeOf0
  v0 := Tryd.zeroValue0
  i0 := by kernel_rfl
  t3 := Tryd.underlying3
  a3 := Tryd.isAgg3
  z3 := Tryd.sizeOf3
  v3 := Tryd.zeroValue3
  i3 := by kernel_rfl
  t4 := Tryd.underlying4
  a4 := Tryd.isAgg4
  z4 := Tryd.sizeOf4
  v4 := Tryd.zeroValue4
  i4 := by kernel_rfl
  t5 := Tryd.underlying5
  a5 := Tryd.isAgg5
  z5 := Tryd.sizeOf5
  v5 := Tryd.zeroValue5
  i5 := by kernel_rfl
  t9 := Tryd.underlying9
  a9 := Tryd.isAgg9
  z9 := Tryd.sizeOf9
  v9 := Tryd.zeroValue9
  i9 := by kernel_rfl
  t12 := Tryd.underlying12
  a12 := Tryd.isAgg12
  z12 := Tryd.sizeOf12
  v12 := Tryd.zeroValue12
  i12 := by kernel_rfl
  t17 := Tryd.underlying17
  a17 := Tryd.isAgg17
  z17 := Tryd.sizeOf17
  v17 := Tryd.zeroValue17
  i17 := by kernel_rfl
  t20 := Tryd.underlying20
  a20 := Tryd.isAgg20
  z20 := Tryd.sizeOf20
  v20 := Tryd.zeroValue20
  i20 := by kernel_rfl
  t26 := Tryd.underlying180
  a26 := Tryd.isAgg180
  z26 := Tryd.sizeOf180
  v26 := Tryd.zeroValue180
  i26 := by kernel_rfl
  t32 := Tryd.underlying184
  a32 := Tryd.isAgg184
  z32 := Tryd.sizeOf184
  v32 := Tryd.zeroValue184
  i32 := by kernel_rfl
  t33 := Tryd.underlying185
  a33 := Tryd.isAgg185
  z33 := Tryd.sizeOf185
  v33 := Tryd.zeroValue185
  i33 := by kernel_rfl
  t35 := Tryd.underlying187
  a35 := Tryd.isAgg187
  z35 := Tryd.sizeOf187
  v35 := Tryd.zeroValue187
  i35 := by kernel_rfl
  t37 := Tryd.underlying189
  a37 := Tryd.isAgg189
  z37 := Tryd.sizeOf189
  v37 := Tryd.zeroValue189
  i37 := by kernel_rfl
  t41 := Tryd.underlying162
  a41 := Tryd.isAgg162
  z41 := Tryd.sizeOf162
  v41 := Tryd.zeroValue162
  i41 := by kernel_rfl
  t44 := Tryd.underlying194
  a44 := Tryd.isAgg194
  z44 := Tryd.sizeOf194
  v44 := Tryd.zeroValue194
  i44 := by kernel_rfl
  t49 := Tryd.underlying70
  a49 := Tryd.isAgg70
  z49 := Tryd.sizeOf70
  v49 := Tryd.zeroValue70
  i49 := by kernel_rfl
  t51 := Tryd.underlying160
  a51 := Tryd.isAgg160
  z51 := Tryd.sizeOf160
  v51 := Tryd.zeroValue160
  i51 := by kernel_rfl
  t53 := Tryd.underlying200
  a53 := Tryd.isAgg200
  z53 := Tryd.sizeOf200
  v53 := Tryd.zeroValue200
  i53 := by kernel_rfl
  t54 := Tryd.underlying201
  a54 := Tryd.isAgg201
  z54 := Tryd.sizeOf201
  v54 := Tryd.zeroValue201
  i54 := by kernel_rfl
  t58 := Tryd.underlying205
  a58 := Tryd.isAgg205
  z58 := Tryd.sizeOf205
  v58 := Tryd.zeroValue205
  i58 := by kernel_rfl
  t60 := Tryd.underlying207
  a60 := Tryd.isAgg207
  z60 := Tryd.sizeOf207
  v60 := Tryd.zeroValue207
  i60 := by kernel_rfl
  t64 := Tryd.underlying210
  a64 := Tryd.isAgg210
  z64 := Tryd.sizeOf210
  v64 := Tryd.zeroValue210
  i64 := by kernel_rfl
  t66 := Tryd.underlying212
  a66 := Tryd.isAgg212
  z66 := Tryd.sizeOf212
  v66 := Tryd.zeroValue212
  i66 := by kernel_rfl
  t67 := Tryd.underlying213
  a67 := Tryd.isAgg213
  z67 := Tryd.sizeOf213
  v67 := Tryd.zeroValue213
  i67 := by kernel_rfl
  t75 := Tryd.underlying221
  a75 := Tryd.isAgg221
  z75 := Tryd.sizeOf221
  v75 := Tryd.zeroValue221
  i75 := by kernel_rfl
  t76 := Tryd.underlying222
  a76 := Tryd.isAgg222
  z76 := Tryd.sizeOf222
  v76 := Tryd.zeroValue222
  i76 := by kernel_rfl
  t77 := Tryd.underlying223
  a77 := Tryd.isAgg223
  z77 := Tryd.sizeOf223
  v77 := Tryd.zeroValue223
  i77 := by kernel_rfl
  t78 := Tryd.underlying224
  a78 := Tryd.isAgg224
  z78 := Tryd.sizeOf224
  v78 := Tryd.zeroValue224
  i78 := by kernel_rfl
  t79 := Tryd.underlying225
  a79 := Tryd.isAgg225
  z79 := Tryd.sizeOf225
  v79 := Tryd.zeroValue225
  i79 := by kernel_rfl
  t80 := Tryd.underlying226
  a80 := Tryd.isAgg226
  z80 := Tryd.sizeOf226
  v80 := Tryd.zeroValue226
  i80 := by kernel_rfl
  t82 := Tryd.underlying228
  a82 := Tryd.isAgg228
  z82 := Tryd.sizeOf228
  v82 := Tryd.zeroValue228
  i82 := by kernel_rfl
end Go.Proofs.YtfbdfieeoobceabDoor

namespace Go.Proofs.YtfbdfieeoobceabDoor.Sg
open Go Go.Lx Go.Nx Go.Km Go.Mx Go.Kb Go.Mr
set_option linter.unusedVariables false
set_option maxRecDepth 100000

noncomputable abbrev P : Program := Tryd.prog
def IJ : J := { e8 := 5, lens := ⟨#[1, 1, 1, 1, 1, 1, 1, 1, 2, 2, 2, 2, 2, 2, 2, 3, 3, 3, 3, 3, 3, 3, 4, 4, 4, 4, 4, 4, 4, 5, 5, 5, 5, 5, 5, 5, 6, 6, 6, 6, 6, 6, 6, 7, 7, 7, 7, 7, 7, 7, 8, 8, 8, 8, 8, 8, 8, 9, 9, 9, 9, 9, 9, 9, 10, 0, 0, 0, 0, 0, 0, 0, 0, 0, 0, 0, 0, 0, 0, 0, 0, 0, 0, 0, 0, 0, 0, 0, 0, 0, 0, 0, 0, 0, 0, 0, 0, 0, 0, 0, 0, 0, 0, 0, 0, 0, 0, 0, 0, 0, 0, 0, 0, 0, 0, 0, 0, 0, 0, 0, 0, 0, 0, 0, 0, 0, 0, 0, 0, 0, 0, 0, 0, 0, 0, 0, 0, 0, 0, 0, 0, 0, 0, 0, 0, 0, 0, 0, 0, 0, 0, 0, 0, 0, 0, 0, 0, 0, 0, 0, 0, 0, 0, 0, 0, 0, 0, 0, 0, 0, 0, 0, 0, 0, 0, 0, 0, 0, 0, 0, 0, 0, 0, 0, 0, 0, 0, 0, 0, 0, 0, 0, 0, 0, 0, 0, 0, 0, 0, 0, 0, 0, 0, 0, 0, 0, 0, 0, 0, 0, 0, 0, 0, 0, 0, 0, 0, 0, 0, 0, 0, 0, 0, 0, 0, 0, 0, 0, 0, 0, 0, 0, 0, 0, 0, 0, 0, 0, 0, 0, 0, 0, 0, 0, 0, 0, 0, 0, 0, 0, 0, 0, 0, 0, 0, 0]⟩, tab8 := ⟨#[0, 1, 2, 2, 3, 3, 3, 3, 4, 4, 4, 4, 4, 4, 4, 4, 5, 5, 5, 5, 5, 5, 5, 5, 5, 5, 5, 5, 5, 5, 5, 5, 6, 6, 6, 6, 6, 6, 6, 6, 6, 6, 6, 6, 6, 6, 6, 6, 6, 6, 6, 6, 6, 6, 6, 6, 6, 6, 6, 6, 6, 6, 6, 6, 7, 7, 7, 7, 7, 7, 7, 7, 7, 7, 7, 7, 7, 7, 7, 7, 7, 7, 7, 7, 7, 7, 7, 7, 7, 7, 7, 7, 7, 7, 7, 7, 7, 7, 7, 7, 7, 7, 7, 7, 7, 7, 7, 7, 7, 7, 7, 7, 7, 7, 7, 7, 7, 7, 7, 7, 7, 7, 7, 7, 7, 7, 7, 7, 8, 8, 8, 8, 8, 8, 8, 8, 8, 8, 8, 8, 8, 8, 8, 8, 8, 8, 8, 8, 8, 8, 8, 8, 8, 8, 8, 8, 8, 8, 8, 8, 8, 8, 8, 8, 8, 8, 8, 8, 8, 8, 8, 8, 8, 8, 8, 8, 8, 8, 8, 8, 8, 8, 8, 8, 8, 8, 8, 8, 8, 8, 8, 8, 8, 8, 8, 8, 8, 8, 8, 8, 8, 8, 8, 8, 8, 8, 8, 8, 8, 8, 8, 8, 8, 8, 8, 8, 8, 8, 8, 8, 8, 8, 8, 8, 8, 8, 8, 8, 8, 8, 8, 8, 8, 8, 8, 8, 8, 8, 8, 8, 8, 8, 8, 8, 8, 8, 8, 8, 8, 8, 8, 8, 8, 8, 8, 8]⟩, err := 1, appendBytes := 89, appendCompactBytes := 88, appendCompactString := 66, appendInt16 := 69, appendInt32 := 63, appendString := 67, appendUint16 := 83, appendUint32 := 109, appendUint64 := 110, appendUvarint := 70, len32 := 143, rInt16 := 107, rInt32 := 95, rSpan := 122, rUvarint := 120, rreadUint64 := 141, unsafeString := 140, uvarint := 146, uvarintLen := 111, appendEach1 := 113, each := 112, each1 := 145, set := 121, slice := 144, uint16 := 142, uint32 := 139, uint64 := 147, be := 0, eG := 70, tSl := 104 }
theorem names : (P.funcs.toList.all fun fn => fn.name != "runtime.NumGoroutine") = true := by kernel_rfl
theorem hn : Named P := fun f fn h => by
  have := (List.all_eq_true.1 names) fn (by rw [← Array.getElem?_toList] at h; exact List.mem_of_getElem? h)
  simpa using this
theorem tab8_ok : Tab8 IJ.tab8 := by
  have h : ((List.range 256).all fun n => IJ.tab8[n]? == some (UInt8.ofNat (bitlen n))) = true := by kernel_rfl
  intro n hn
  simpa using (List.all_eq_true.1 h) n (by simpa using hn)
theorem lens_ok : LensTab IJ.lens := by
  have h : ((List.range 33).all fun n => IJ.lens[n]? == some (UInt8.ofNat (groups n))) = true := by kernel_rfl
  intro n hn
  simpa using (List.all_eq_true.1 h) n (by simp only [List.mem_range]; omega)
theorem f_uint16 : fnP P 142 2 = some (p_uint16 IJ) := by kernel_rfl
theorem f_uint32 : fnP P 139 2 = some (p_uint32 IJ) := by kernel_rfl
theorem f_uint64 : fnP P 147 2 = some (p_uint64 IJ) := by kernel_rfl
theorem f_rInt16 : fnP P 107 1 = some (p_rInt16 IJ) := by kernel_rfl
theorem f_rInt32 : fnP P 95 1 = some (p_rInt32 IJ) := by kernel_rfl
theorem f_rUint16 : fnP P 124 1 = some (p_rUint16 IJ) := by kernel_rfl
theorem f_rreadUint64 : fnP P 141 1 = some (p_rreadUint64 IJ) := by kernel_rfl
theorem f_rInt64 : fnP P 106 1 = some (p_rInt64 IJ.toIds) := by kernel_rfl
theorem f_rInt8 : fnP P 115 1 = some (p_rInt8 IJ.toIds) := by kernel_rfl
theorem f_rBool : fnP P 117 1 = some (p_rBool IJ.toIds) := by kernel_rfl
theorem f_rSpan : fnP P 122 2 = some (p_rSpan IJ.toIds) := by kernel_rfl
theorem f_uvarint : fnP P 146 1 = some (p_uvarint IJ) := by kernel_rfl
theorem f_rUvarint : fnP P 120 1 = some (p_rUvarint IJ.toIds) := by kernel_rfl
theorem f_rUuid : fnP P 133 1 = some (p_rUuid IJ) := by kernel_rfl
theorem f_rString : fnP P 104 1 = some (p_rString IJ.toIds) := by kernel_rfl
theorem f_rCompactString : fnP P 103 1 = some (p_rCompactString IJ.toIds) := by kernel_rfl
theorem f_rNullableString : fnP P 128 1 = some (p_rNullableString IJ.toIds) := by kernel_rfl
theorem f_rCompactNullableString : fnP P 126 1 = some (p_rCompactNullableString IJ.toIds) := by kernel_rfl
theorem f_rBytes : fnP P 131 1 = some (p_rBytes IJ.toIds) := by kernel_rfl
theorem f_rCompactBytes : fnP P 130 1 = some (p_rCompactBytes IJ.toIds) := by kernel_rfl
theorem f_rArrayLen : fnP P 97 1 = some (p_rArrayLen IJ.toIds) := by kernel_rfl
theorem f_rCompactArrayLen : fnP P 96 1 = some (p_rCompactArrayLen IJ.toIds) := by kernel_rfl
theorem f_rOk : fnP P 98 1 = some (p_rOk IJ.toIds) := by kernel_rfl
theorem f_rComplete : fnP P 99 1 = some (p_rComplete IJ.toIds) := by kernel_rfl
theorem f_set : fnP P 121 3 = some (p_set IJ) := by kernel_rfl
theorem f_rt : fnP P 108 1 = some (p_internalReadTags IJ) := by kernel_rfl
theorem f_len32 : fnP P 143 1 = some (p_len32 IJ.toIds) := by kernel_rfl
theorem f_uvarintLen : fnP P 111 1 = some (p_uvarintLen IJ.toIds) := by kernel_rfl
theorem f_appendUvarint : fnP P 70 2 = some (p_appendUvarint IJ.toIds) := by kernel_rfl
theorem f_appendUint16 : fnP P 83 2 = some (p_appendUint16 IJ.toIds) := by kernel_rfl
theorem f_appendUint32 : fnP P 109 2 = some (p_appendUint32 IJ.toIds) := by kernel_rfl
theorem f_appendUint64 : fnP P 110 2 = some (p_appendUint64 IJ.toIds) := by kernel_rfl
theorem f_appendInt16 : fnP P 69 2 = some (p_appendInt16 IJ.toIds) := by kernel_rfl
theorem f_appendInt32 : fnP P 63 2 = some (p_appendInt32 IJ.toIds) := by kernel_rfl
theorem f_appendInt64 : fnP P 68 2 = some (p_appendInt64 IJ.toIds) := by kernel_rfl
theorem f_appendInt8 : fnP P 75 2 = some (p_appendInt8 IJ.toIds) := by kernel_rfl
theorem f_appendBool : fnP P 80 2 = some (p_appendBool IJ.toIds) := by kernel_rfl
theorem f_appendUuid : fnP P 92 2 = some (p_appendUuid IJ) := by kernel_rfl
theorem f_appendString : fnP P 67 2 = some (p_appendString IJ.toIds) := by kernel_rfl
theorem f_appendCompactString : fnP P 66 2 = some (p_appendCompactString IJ.toIds) := by kernel_rfl
theorem f_appendNullableString : fnP P 87 2 = some (p_appendNullableString IJ.toIds) := by kernel_rfl
theorem f_appendCompactNullableString : fnP P 86 2 = some (p_appendCompactNullableString IJ.toIds) := by kernel_rfl
theorem f_appendBytes : fnP P 89 2 = some (p_appendBytes IJ.toIds) := by kernel_rfl
theorem f_appendCompactBytes : fnP P 88 2 = some (p_appendCompactBytes IJ.toIds) := by kernel_rfl
theorem f_appendArrayLen : fnP P 65 2 = some (p_appendArrayLen IJ.toIds) := by kernel_rfl
theorem f_appendCompactArrayLen : fnP P 64 2 = some (p_appendCompactArrayLen IJ.toIds) := by kernel_rfl
theorem f_appendNullableArrayLen : fnP P 79 3 = some (p_appendNullableArrayLen IJ.toIds) := by kernel_rfl
theorem f_appendCompactNullableArrayLen : fnP P 78 3 = some (p_appendCompactNullableArrayLen IJ.toIds) := by kernel_rfl
theorem f_len : fnP P 71 1 = some (p_len IJ) := by kernel_rfl
theorem f_appendEach1 : fnP P 113 3 = some (p_appendEach1 IJ) := by kernel_rfl
theorem f_each : fnP P 112 2 = some (p_each IJ) := by kernel_rfl
theorem f_appendEach : fnP P 72 2 = some (p_appendEach IJ) := by kernel_rfl
theorem f_each1 : fnP P 145 3 = some (p_each1 IJ) := by kernel_rfl
noncomputable def siT : TypeInfo := (P.info? 104).get (by kernel_rfl)
noncomputable def siE : TypeInfo := (P.info? 70).get (by kernel_rfl)
theorem siK (n : Nat) (h2 : 2 ≤ n) : Lib.swapperK n siE 10 = 6 := by
  have a : siE.hasPointers = false := by kernel_rfl
  have b : siE.bytes = 4 := by kernel_rfl
  have c : (n == 0) = false := by simp; omega
  have d : (n == 1) = false := by simp; omega
  simp [Lib.swapperK, a, b, c, d]
theorem c_sort : SortOk P IJ.slice IJ.each1 IJ.tSl :=
  Mr.sort_ok hn Tryd.sl6 104 70 siT siE (by kernel_rfl) (by kernel_rfl) (by kernel_rfl) (by kernel_rfl) 10 (fun _ => by kernel_rfl) (by kernel_rfl) (fun _ => by kernel_rfl) f_each1
    (enters_of Tryd.func145 (by kernel_rfl) rfl) 6 158 153 154 siK (by kernel_rfl) (by kernel_rfl) (by kernel_rfl) true
    (fun args W => run_callFunc_extern Tryd.func158 (by kernel_rfl) (by kernel_rfl) (by kernel_rfl) (e := Extern.ReflectliteSwapper.swap true) (by kernel_rfl) args W)
theorem c_uint16 : BeOk P 142 2 .u16 := uint16_ok hn f_uint16
theorem c_uint32 : BeOk P 139 4 .u32 := uint32_ok hn f_uint32
theorem c_uint64 : BeOk P 147 8 .u64 := uint64_ok hn f_uint64
theorem c_rInt16 : Reads P 107 (rdI 2) (intRep .i16) (· = .int .i16 0) := rInt16_ok hn f_rInt16 c_uint16
theorem c_rInt32 : Reads P 95 (rdI 4) (intRep .i32) (· = .int .i32 0) := rInt32_ok hn f_rInt32 c_uint32
theorem c_rUint16 : Reads P 124 (rdU 2) (natRep .u16) (· = .int .u16 0) := rUint16_ok hn f_rUint16 c_uint16
theorem c_rreadUint64 : Reads P 141 (rdU 8) (natRep .u64) (· = .int .u64 0) := rreadUint64_ok hn f_rreadUint64 c_uint64
theorem c_rInt64 : Reads P 106 (rdI 8) (intRep .i64) (· = .int .i64 0) := rInt64_ok hn f_rInt64 c_rreadUint64
theorem c_rInt8 : Reads P 115 (rdI 1) (intRep .i8) (· = .int .i8 0) := rInt8_ok hn f_rInt8
theorem c_rBool : Reads P 117 rdB boolRep (· = .bool false) := rBool_ok hn f_rBool
theorem c_rSpan : Spans P 122 := rSpan_ok hn f_rSpan
theorem c_uvarint : KUv P 146 := uvarint_ok hn f_uvarint
theorem c_rUvarint : Reads P 120 rdUv (natRep .u32) (· = .int .u32 0) := rUvarint_ok hn f_rUvarint c_uvarint
theorem c_rUuid : PrimOk P 133 .uuid := rUuid_ok hn f_rUuid c_rSpan
theorem c_rString : PrimOk P 104 (.str false) := rString_ok hn f_rString c_rInt16 c_rSpan
theorem c_rCompactString : PrimOk P 103 (.str true) := rCompactString_ok hn f_rCompactString c_rUvarint c_rSpan
theorem c_rNullableString : PrimOk P 128 (.nstr false) := rNullableString_ok hn f_rNullableString c_rInt16 c_rSpan
theorem c_rCompactNullableString : PrimOk P 126 (.nstr true) := rCompactNullableString_ok hn f_rCompactNullableString c_rUvarint c_rSpan
theorem c_rBytes : PrimOk P 131 (.byt false) := rBytes_ok hn f_rBytes c_rInt32 c_rSpan
theorem c_rCompactBytes : PrimOk P 130 (.byt true) := rCompactBytes_ok hn f_rCompactBytes c_rUvarint c_rSpan
theorem c_rArrayLen : Counts P 97 false := rArrayLen_ok hn f_rArrayLen c_rInt32
theorem c_rCompactArrayLen : Counts P 96 true := rCompactArrayLen_ok hn f_rCompactArrayLen c_rUvarint
theorem c_rOk : OkFn P 98 := rOk_ok hn f_rOk
theorem c_rComplete : CompleteFn P 99 IJ.err := rComplete_ok hn f_rComplete
theorem c_set : SetOk P 121 := set_ok hn f_set
theorem c_rt : TagsOk P 108 := rt_ok hn f_rt c_rUvarint c_rSpan c_set
theorem c_len32 : Len32Ok P 143 := len32_ok hn f_len32 tab8_ok
theorem c_uvarintLen : UvLenOk P 111 := uvarintLen_ok hn f_uvarintLen c_len32 lens_ok
theorem c_appendUvarint : AppendsG P IJ.e8 70 wrUv uvRep := appendUvarint_okG hn f_appendUvarint c_uvarintLen
theorem c_appendUint16 : Appends P IJ.e8 83 (be 2) (natRep .u16) := appendUint16_ok hn f_appendUint16
theorem c_appendUint32 : Appends P IJ.e8 109 (be 4) (natRep .u32) := appendUint32_ok hn f_appendUint32
theorem c_appendUint64 : Appends P IJ.e8 110 (be 8) (natRep .u64) := appendUint64_ok hn f_appendUint64
theorem c_appendInt16 : Appends P IJ.e8 69 (wrI 2) (intRep .i16) := appendInt16_ok hn f_appendInt16 c_appendUint16
theorem c_appendInt32 : Appends P IJ.e8 63 (wrI 4) (intRep .i32) := appendInt32_ok hn f_appendInt32 c_appendUint32
theorem c_appendInt64 : Appends P IJ.e8 68 (wrI 8) (intRep .i64) := appendInt64_ok hn f_appendInt64 c_appendUint64
theorem c_appendInt8 : Appends P IJ.e8 75 (wrI 1) (intRep .i8) := appendInt8_ok hn f_appendInt8
theorem c_appendBool : Appends P IJ.e8 80 (fun b : Bool => [if b then 1 else 0]) boolRep := appendBool_ok hn f_appendBool
theorem c_appendUuid : AppPrim P IJ.e8 92 .uuid := appendUuid_ok hn f_appendUuid
theorem c_appendString : AppPrim P IJ.e8 67 (.str false) := appendString_ok hn f_appendString c_appendInt16
theorem c_appendCompactString : AppPrim P IJ.e8 66 (.str true) := appendCompactString_ok hn f_appendCompactString c_appendUvarint.app
theorem c_appendNullableString : AppPrim P IJ.e8 87 (.nstr false) := appendNullableString_ok hn f_appendNullableString c_appendInt16 c_appendString
theorem c_appendCompactNullableString : AppPrim P IJ.e8 86 (.nstr true) := appendCompactNullableString_ok hn f_appendCompactNullableString c_appendUvarint.app c_appendCompactString
theorem c_appendBytes : Appends P IJ.e8 89 (fun l : Bs => wrLen false 4 l.length ++ l) bytRep := appendBytes_raw hn f_appendBytes c_appendInt32
theorem c_appendCompactBytes : Appends P IJ.e8 88 (fun l : Bs => wrLen true 4 l.length ++ l) bytRep := appendCompactBytes_raw hn f_appendCompactBytes c_appendUvarint.app
theorem c_appendArrayLen : Appends P IJ.e8 65 (wrCount false) lenRep := appendArrayLen_ok hn f_appendArrayLen c_appendInt32
theorem c_appendCompactArrayLen : Appends P IJ.e8 64 (wrCount true) lenRep := appendCompactArrayLen_ok hn f_appendCompactArrayLen c_appendUvarint.app
theorem c_appendNullableArrayLen : AppN P IJ.e8 79 false := appendNullableArrayLen_ok hn f_appendNullableArrayLen c_appendInt32
theorem c_appendCompactNullableArrayLen : AppN P IJ.e8 78 true := appendCompactNullableArrayLen_ok hn f_appendCompactNullableArrayLen c_appendUvarint.app
theorem c_len : LenOk P 71 := len_ok' hn f_len
theorem c_appendEach1 : CbOk P IJ.e8 113 := cb_ok hn f_appendEach1 c_appendUvarint
theorem c_each : EachOk P IJ.e8 112 IJ.appendEach1 := each_ok hn f_each c_sort c_appendEach1 (fnP_fn f_appendEach1)
theorem c_appendEach : AppEachOk P IJ.e8 72 := appEach_ok hn f_appendEach c_each
def primL : List (Nat × Prim) := [(115, .i8), (107, .i16), (124, .u16), (95, .i32), (106, .i64), (117, .bool), (133, .uuid), (104, .str false), (103, .str true), (128, .nstr false), (126, .nstr true), (131, .byt false), (130, .byt true)]
theorem primL_ok : AllP (fun f p => PrimOk P f p) primL := ⟨prim_i8 c_rInt8, prim_i16 c_rInt16, prim_u16 c_rUint16, prim_i32 c_rInt32, prim_i64 c_rInt64, prim_bool c_rBool, c_rUuid, c_rString, c_rCompactString, c_rNullableString, c_rCompactNullableString, c_rBytes, c_rCompactBytes, trivial⟩
def cntL : List (Nat × Bool) := [(97, false), (96, true)]
theorem cntL_ok : AllP (fun f c => Counts P f c) cntL := ⟨c_rArrayLen, c_rCompactArrayLen, trivial⟩
noncomputable def defL : List (Nat × List (Nat × Value)) := [(61, (defC P 61).getD []), (73, (defC P 73).getD []), (76, (defC P 76).getD []), (81, (defC P 81).getD []), (84, (defC P 84).getD []), (90, (defC P 90).getD []), (93, (defC P 93).getD []), (100, (defC P 100).getD []), (105, (defC P 105).getD []), (114, (defC P 114).getD []), (116, (defC P 116).getD []), (118, (defC P 118).getD []), (119, (defC P 119).getD []), (123, (defC P 123).getD []), (129, (defC P 129).getD []), (132, (defC P 132).getD []), (134, (defC P 134).getD []), (135, (defC P 135).getD []), (136, (defC P 136).getD []), (137, (defC P 137).getD []), (138, (defC P 138).getD [])]
theorem defL_ok : AllP (fun f ds => DefOk P f ds) defL := ⟨defC_ok hn (show defC P 61 = some ((defC P 61).getD []) by kernel_rfl), defC_ok hn (show defC P 73 = some ((defC P 73).getD []) by kernel_rfl), defC_ok hn (show defC P 76 = some ((defC P 76).getD []) by kernel_rfl), defC_ok hn (show defC P 81 = some ((defC P 81).getD []) by kernel_rfl), defC_ok hn (show defC P 84 = some ((defC P 84).getD []) by kernel_rfl), defC_ok hn (show defC P 90 = some ((defC P 90).getD []) by kernel_rfl), defC_ok hn (show defC P 93 = some ((defC P 93).getD []) by kernel_rfl), defC_ok hn (show defC P 100 = some ((defC P 100).getD []) by kernel_rfl), defC_ok hn (show defC P 105 = some ((defC P 105).getD []) by kernel_rfl), defC_ok hn (show defC P 114 = some ((defC P 114).getD []) by kernel_rfl), defC_ok hn (show defC P 116 = some ((defC P 116).getD []) by kernel_rfl), defC_ok hn (show defC P 118 = some ((defC P 118).getD []) by kernel_rfl), defC_ok hn (show defC P 119 = some ((defC P 119).getD []) by kernel_rfl), defC_ok hn (show defC P 123 = some ((defC P 123).getD []) by kernel_rfl), defC_ok hn (show defC P 129 = some ((defC P 129).getD []) by kernel_rfl), defC_ok hn (show defC P 132 = some ((defC P 132).getD []) by kernel_rfl), defC_ok hn (show defC P 134 = some ((defC P 134).getD []) by kernel_rfl), defC_ok hn (show defC P 135 = some ((defC P 135).getD []) by kernel_rfl), defC_ok hn (show defC P 136 = some ((defC P 136).getD []) by kernel_rfl), defC_ok hn (show defC P 137 = some ((defC P 137).getD []) by kernel_rfl), defC_ok hn (show defC P 138 = some ((defC P 138).getD []) by kernel_rfl), trivial⟩
noncomputable def TT : Tab := { prim := Mr.look primL, cnt := Mr.look cntL, tags := 108, okF := 98, compl := 99, defs := Mr.look defL }
theorem TT_ok : TabOk P TT IJ.err := ⟨look_ok primL_ok, look_ok cntL_ok, c_rt, c_rOk, c_rComplete, look_ok defL_ok⟩
def appL : List (Nat × Prim) := [(75, .i8), (69, .i16), (83, .u16), (63, .i32), (68, .i64), (80, .bool), (92, .uuid), (67, .str false), (66, .str true), (87, .nstr false), (86, .nstr true), (89, .byt false), (88, .byt true)]
theorem appL_ok : AllP (fun f p => AppPrim P IJ.e8 f p) appL := ⟨app_i8 c_appendInt8, app_i16 c_appendInt16, app_u16 c_appendUint16, app_i32 c_appendInt32, app_i64 c_appendInt64, app_bool c_appendBool, c_appendUuid, c_appendString, c_appendCompactString, c_appendNullableString, c_appendCompactNullableString, prim_byt c_appendBytes, prim_byt c_appendCompactBytes, trivial⟩
def alenL : List (Nat × Bool) := [(65, false), (64, true)]
theorem alenL_ok : AllP (fun f c => Appends P IJ.e8 f (wrCount c) lenRep) alenL := ⟨c_appendArrayLen, c_appendCompactArrayLen, trivial⟩
def WW : WTab := { app := Mr.look appL, alen := Mr.look alenL, tlen := 71, uv := 70, each := 72 }
theorem WW_ok : WTabOk P WW IJ.e8 := ⟨look_ok appL_ok, look_ok alenL_ok, c_len, c_appendUvarint.app, c_appendEach⟩
end Go.Proofs.YtfbdfieeoobceabDoor.Sg
