/- The seat YtaagmmeanifopaaGreatDoor: kbin's functions and tags, what they do; which functions read and write what. -/
import Derived.Test.YtaagmmeanifopaaGreatDoorSb
import Derived.Test.YtaagmmeanifopaaGreatDoorRows
import Derived.KernelRfl
import Derived.WalkKit
namespace Go.Proofs.YtaagmmeanifopaaGreatDoor
open Go.Shelf
def Tryz.sl6_ren : Go.Shelf.Ren := ⟨fun | 6 => 101 | 10 => 104 | 11 => 105 | 12 => 106 | 13 => 107 | 14 => 108 | 24 => 100 | 25 => 118 | 26 => 119 | 27 => 120 | 28 => 121 | 29 => 122 | 30 => 123 | 31 => 124 | 32 => 125 | 33 => 126 | 34 => 127 | 35 => 128 | 36 => 129 | 37 => 130 | 38 => 131 | 39 => 132 | n => n, fun | 20 => 20 | 26 => 124 | 35 => 130 | 0 => 0 | 37 => 132 | 3 => 3 | 41 => 99 | 44 => 137 | 49 => 57 | 51 => 73 | 4 => 4 | 54 => 144 | 53 => 143 | 58 => 148 | 5 => 5 | 9 => 9 | 60 => 150 | 64 => 154 | 66 => 156 | 67 => 157 | 17 => 17 | 32 => 127 | 33 => 128 | 82 => 172 | 12 => 12 | 75 => 165 | 76 => 166 | 77 => 167 | 78 => 168 | 79 => 169 | 80 => 170 | n => n, fun | n => n⟩
theorem Tryz.sl6 : Go.Proofs.LaysGg.n6 Tryz.prog Tryz.sl6_ren where
  mixed := by kernel_rfl
  f6 := Tryz.func101.trans (congrArg some (by kernel_rfl))
  f10 := Tryz.func104.trans (congrArg some (by kernel_rfl))
  f11 := Tryz.func105.trans (congrArg some (by kernel_rfl))
  f12 := Tryz.func106.trans (congrArg some (by kernel_rfl))
  f13 := Tryz.func107.trans (congrArg some (by kernel_rfl))
  f14 := Tryz.func108.trans (congrArg some (by kernel_rfl))
  f24 := Tryz.func100.trans (congrArg some (by kernel_rfl))
  f25 := Tryz.func118.trans (congrArg some (by kernel_rfl))
  f26 := Tryz.func119.trans (congrArg some (by kernel_rfl))
  f27 := Tryz.func120.trans (congrArg some (by kernel_rfl))
  f28 := Tryz.func121.trans (congrArg some (by kernel_rfl))
  f29 := Tryz.func122.trans (congrArg some (by kernel_rfl))
  f30 := Tryz.func123.trans (congrArg some (by kernel_rfl))
  f31 := Tryz.func124.trans (congrArg some (by kernel_rfl))
  f32 := Tryz.func125.trans (congrArg some (by kernel_rfl))
  f33 := Tryz.func126.trans (congrArg some (by kernel_rfl))
  f34 := Tryz.func127.trans (congrArg some (by kernel_rfl))
  f35 := Tryz.func128.trans (congrArg some (by kernel_rfl))
  f36 := Tryz.func129.trans (congrArg some (by kernel_rfl))
  f37 := Tryz.func130.trans (congrArg some (by kernel_rfl))
  f38 := Tryz.func131.trans (congrArg some (by kernel_rfl))
  f39 := Tryz.func132.trans (congrArg some (by kernel_rfl))
  t0 := Tryz.underlying0
  a0 := Tryz.isAgg0
  z0 := Tryz.sizeOf0
  v0 := Tryz.zeroValue0
  i0 := by kernel_rfl
  t3 := Tryz.underlying3
  a3 := Tryz.isAgg3
  z3 := Tryz.sizeOf3
  v3 := Tryz.zeroValue3
  i3 := by kernel_rfl
  t4 := Tryz.underlying4
  a4 := Tryz.isAgg4
  z4 := Tryz.sizeOf4
  v4 := Tryz.zeroValue4
  i4 := by kernel_rfl
  t5 := Tryz.underlying5
  a5 := Tryz.isAgg5
  z5 := Tryz.sizeOf5
  v5 := Tryz.zeroValue5
  i5 := by kernel_rfl
  t9 := Tryz.underlying9
  a9 := Tryz.isAgg9
  z9 := Tryz.sizeOf9
  v9 := Tryz.zeroValue9
  i9 := by kernel_rfl
  t12 := Tryz.underlying12
  a12 := Tryz.isAgg12
  z12 := Tryz.sizeOf12
  v12 := Tryz.zeroValue12
  i12 := by kernel_rfl
  t17 := Tryz.underlying17
  a17 := Tryz.isAgg17
  z17 := Tryz.sizeOf17
  v17 := Tryz.zeroValue17
  i17 := by kernel_rfl
  t20 := Tryz.underlying20
  a20 := Tryz.isAgg20
  z20 := Tryz.sizeOf20
  v20 := Tryz.zeroValue20
  i20 := by kernel_rfl
  t26 := Tryz.underlying124
  a26 := Tryz.isAgg124
  z26 := Tryz.sizeOf124
  v26 := Tryz.zeroValue124
  i26 := by kernel_rfl
  t32 := Tryz.underlying127
  a32 := Tryz.isAgg127
  z32 := Tryz.sizeOf127
  v32 := Tryz.zeroValue127
  i32 := by kernel_rfl
  t33 := Tryz.underlying128
  a33 := Tryz.isAgg128
  z33 := Tryz.sizeOf128
  v33 := Tryz.zeroValue128
  i33 := by kernel_rfl
  t35 := Tryz.underlying130
  a35 := Tryz.isAgg130
  z35 := Tryz.sizeOf130
  v35 := Tryz.zeroValue130
  i35 := by kernel_rfl
  t37 := Tryz.underlying132
  a37 := Tryz.isAgg132
  z37 := Tryz.sizeOf132
  v37 := Tryz.zeroValue132
  i37 := by kernel_rfl
  t41 := Tryz.underlying99
  a41 := Tryz.isAgg99
  z41 := Tryz.sizeOf99
  v41 := Tryz.zeroValue99
  i41 := by kernel_rfl
  t44 := Tryz.underlying137
  a44 := Tryz.isAgg137
  z44 := Tryz.sizeOf137
  v44 := Tryz.zeroValue137
  i44 := by kernel_rfl
  t49 := Tryz.underlying57
  a49 := Tryz.isAgg57
  z49 := Tryz.sizeOf57
  v49 := Tryz.zeroValue57
  i49 := by kernel_rfl
  t51 := Tryz.underlying73
  a51 := Tryz.isAgg73
  z51 := Tryz.sizeOf73
  v51 := Tryz.zeroValue73
  i51 := by kernel_rfl
  t53 := Tryz.underlying143
  a53 := Tryz.isAgg143
  z53 := Tryz.sizeOf143
  v53 := Tryz.zeroValue143
  i53 := by kernel_rfl
  t54 := Tryz.underlying144
  a54 := Tryz.isAgg144
  z54 := Tryz.sizeOf144
  v54 := Tryz.zeroValue144
  i54 := by kernel_rfl
  t58 := Tryz.underlying148
  a58 := Tryz.isAgg148
  z58 := Tryz.sizeOf148
  v58 := Tryz.zeroValue148
  i58 := by kernel_rfl
  t60 := Tryz.underlying150
  a60 := Tryz.isAgg150
  z60 := Tryz.sizeOf150
  v60 := Tryz.zeroValue150
  i60 := by kernel_rfl
  t64 := Tryz.underlying154
  a64 := Tryz.isAgg154
  z64 := Tryz.sizeOf154
  v64 := Tryz.zeroValue154
  i64 := by kernel_rfl
  t66 := Tryz.underlying156
  a66 := Tryz.isAgg156
  z66 := Tryz.sizeOf156
  v66 := Tryz.zeroValue156
  i66 := by kernel_rfl
  t67 := Tryz.underlying157
  a67 := Tryz.isAgg157
  z67 := Tryz.sizeOf157
  v67 := Tryz.zeroValue157
  i67 := by kernel_rfl
  t75 := Tryz.underlying165
  a75 := Tryz.isAgg165
  z75 := Tryz.sizeOf165
  v75 := Tryz.zeroValue165
  i75 := by kernel_rfl
  t76 := Tryz.underlying166
  a76 := Tryz.isAgg166
  z76 := Tryz.sizeOf166
  v76 := Tryz.zeroValue166
  i76 := by kernel_rfl
  t77 := Tryz.underlying167
  a77 := Tryz.isAgg167
  z77 := Tryz.sizeOf167
  v77 := Tryz.zeroValue167
  i77 := by kernel_rfl
  t78 := Tryz.underlying168
  a78 := Tryz.isAgg168
  z78 := Tryz.sizeOf168
  v78 := Tryz.zeroValue168
  i78 := by kernel_rfl
  t79 := Tryz.underlying169
  a79 := Tryz.isAgg169
  z79 := Tryz.sizeOf169
  v79 := Tryz.zeroValue169
  i79 := by kernel_rfl
  t80 := Tryz.underlying170
  a80 := Tryz.isAgg170
  z80 := Tryz.sizeOf170
  v80 := Tryz.zeroValue170
  i80 := by kernel_rfl
  t82 := Tryz.underlying172
  a82 := Tryz.isAgg172
  z82 := Tryz.sizeOf172
  v82 := Tryz.zeroValue172
  i82 := by kernel_rfl
end Go.Proofs.YtaagmmeanifopaaGreatDoor

namespace Go.Proofs.YtaagmmeanifopaaGreatDoor.Sg
open Go Go.Lx Go.Nx Go.Km Go.Mx Go.Kb Go.Mr
set_option linter.unusedVariables false
set_option maxRecDepth 100000

noncomputable abbrev P : Program := Tryz.prog
def IJ : J := { e8 := 5, lens := ⟨#[1, 1, 1, 1, 1, 1, 1, 1, 2, 2, 2, 2, 2, 2, 2, 3, 3, 3, 3, 3, 3, 3, 4, 4, 4, 4, 4, 4, 4, 5, 5, 5, 5, 5, 5, 5, 6, 6, 6, 6, 6, 6, 6, 7, 7, 7, 7, 7, 7, 7, 8, 8, 8, 8, 8, 8, 8, 9, 9, 9, 9, 9, 9, 9, 10, 0, 0, 0, 0, 0, 0, 0, 0, 0, 0, 0, 0, 0, 0, 0, 0, 0, 0, 0, 0, 0, 0, 0, 0, 0, 0, 0, 0, 0, 0, 0, 0, 0, 0, 0, 0, 0, 0, 0, 0, 0, 0, 0, 0, 0, 0, 0, 0, 0, 0, 0, 0, 0, 0, 0, 0, 0, 0, 0, 0, 0, 0, 0, 0, 0, 0, 0, 0, 0, 0, 0, 0, 0, 0, 0, 0, 0, 0, 0, 0, 0, 0, 0, 0, 0, 0, 0, 0, 0, 0, 0, 0, 0, 0, 0, 0, 0, 0, 0, 0, 0, 0, 0, 0, 0, 0, 0, 0, 0, 0, 0, 0, 0, 0, 0, 0, 0, 0, 0, 0, 0, 0, 0, 0, 0, 0, 0, 0, 0, 0, 0, 0, 0, 0, 0, 0, 0, 0, 0, 0, 0, 0, 0, 0, 0, 0, 0, 0, 0, 0, 0, 0, 0, 0, 0, 0, 0, 0, 0, 0, 0, 0, 0, 0, 0, 0, 0, 0, 0, 0, 0, 0, 0, 0, 0, 0, 0, 0, 0, 0, 0, 0, 0, 0, 0, 0, 0, 0, 0, 0, 0]⟩, tab8 := ⟨#[0, 1, 2, 2, 3, 3, 3, 3, 4, 4, 4, 4, 4, 4, 4, 4, 5, 5, 5, 5, 5, 5, 5, 5, 5, 5, 5, 5, 5, 5, 5, 5, 6, 6, 6, 6, 6, 6, 6, 6, 6, 6, 6, 6, 6, 6, 6, 6, 6, 6, 6, 6, 6, 6, 6, 6, 6, 6, 6, 6, 6, 6, 6, 6, 7, 7, 7, 7, 7, 7, 7, 7, 7, 7, 7, 7, 7, 7, 7, 7, 7, 7, 7, 7, 7, 7, 7, 7, 7, 7, 7, 7, 7, 7, 7, 7, 7, 7, 7, 7, 7, 7, 7, 7, 7, 7, 7, 7, 7, 7, 7, 7, 7, 7, 7, 7, 7, 7, 7, 7, 7, 7, 7, 7, 7, 7, 7, 7, 8, 8, 8, 8, 8, 8, 8, 8, 8, 8, 8, 8, 8, 8, 8, 8, 8, 8, 8, 8, 8, 8, 8, 8, 8, 8, 8, 8, 8, 8, 8, 8, 8, 8, 8, 8, 8, 8, 8, 8, 8, 8, 8, 8, 8, 8, 8, 8, 8, 8, 8, 8, 8, 8, 8, 8, 8, 8, 8, 8, 8, 8, 8, 8, 8, 8, 8, 8, 8, 8, 8, 8, 8, 8, 8, 8, 8, 8, 8, 8, 8, 8, 8, 8, 8, 8, 8, 8, 8, 8, 8, 8, 8, 8, 8, 8, 8, 8, 8, 8, 8, 8, 8, 8, 8, 8, 8, 8, 8, 8, 8, 8, 8, 8, 8, 8, 8, 8, 8, 8, 8, 8, 8, 8, 8, 8, 8, 8]⟩, err := 1, appendBytes := 0, appendCompactBytes := 0, appendCompactString := 59, appendInt16 := 49, appendInt32 := 48, appendString := 60, appendUint16 := 81, appendUint32 := 80, appendUint64 := 0, appendUvarint := 52, len32 := 100, rInt16 := 73, rInt32 := 72, rSpan := 98, rUvarint := 96, rreadUint64 := 0, unsafeString := 97, uvarint := 103, uvarintLen := 82, appendEach1 := 84, each := 83, each1 := 102, set := 99, slice := 101, uint16 := 95, uint32 := 94, uint64 := 0, be := 0, eG := 57, tSl := 122 }
theorem names : (P.funcs.toList.all fun fn => fn.name != "runtime.NumGoroutine") = true := by kernel_rfl
theorem hn : Named P := fun f fn h => by
  have := (List.all_eq_true.1 names) fn (by rw [← Array.getElem?_toList] at h; exact List.mem_of_getElem? h)
  simpa using this
theorem tab8_ok : Tab8 IJ.tab8 := by
  have h : ((List.range 256).all fun n => IJ.tab8[n]? == some (UInt8.ofNat (bitlen n))) = true := by kernel_rfl
  intro n hn
  simpa using (List.all_eq_true.1 h) n (by simpa using hn)
theorem lens_ok : LensTab IJ.lens := by
  have h : ((List.range 33).all fun n => IJ.lens[n]? == some (UInt8.ofNat (groups n))) = true := by kernel_rfl
  intro n hn
  simpa using (List.all_eq_true.1 h) n (by simp only [List.mem_range]; omega)
theorem f_uint16 : fnP P 95 2 = some (p_uint16 IJ) := by kernel_rfl
theorem f_uint32 : fnP P 94 2 = some (p_uint32 IJ) := by kernel_rfl
theorem f_rInt16 : fnP P 73 1 = some (p_rInt16 IJ) := by kernel_rfl
theorem f_rInt32 : fnP P 72 1 = some (p_rInt32 IJ) := by kernel_rfl
theorem f_rBool : fnP P 92 1 = some (p_rBool IJ.toIds) := by kernel_rfl
theorem f_rSpan : fnP P 98 2 = some (p_rSpan IJ.toIds) := by kernel_rfl
theorem f_uvarint : fnP P 103 1 = some (p_uvarint IJ) := by kernel_rfl
theorem f_rUvarint : fnP P 96 1 = some (p_rUvarint IJ.toIds) := by kernel_rfl
theorem f_rString : fnP P 91 1 = some (p_rString IJ.toIds) := by kernel_rfl
theorem f_rCompactString : fnP P 90 1 = some (p_rCompactString IJ.toIds) := by kernel_rfl
theorem f_rNullableString : fnP P 77 1 = some (p_rNullableString IJ.toIds) := by kernel_rfl
theorem f_rCompactNullableString : fnP P 75 1 = some (p_rCompactNullableString IJ.toIds) := by kernel_rfl
theorem f_rArrayLen : fnP P 86 1 = some (p_rArrayLen IJ.toIds) := by kernel_rfl
theorem f_rCompactArrayLen : fnP P 85 1 = some (p_rCompactArrayLen IJ.toIds) := by kernel_rfl
theorem f_rOk : fnP P 87 1 = some (p_rOk IJ.toIds) := by kernel_rfl
theorem f_rComplete : fnP P 79 1 = some (p_rComplete IJ.toIds) := by kernel_rfl
theorem f_set : fnP P 99 3 = some (p_set IJ) := by kernel_rfl
theorem f_rt : fnP P 78 1 = some (p_internalReadTags IJ) := by kernel_rfl
theorem f_len32 : fnP P 100 1 = some (p_len32 IJ.toIds) := by kernel_rfl
theorem f_uvarintLen : fnP P 82 1 = some (p_uvarintLen IJ.toIds) := by kernel_rfl
theorem f_appendUvarint : fnP P 52 2 = some (p_appendUvarint IJ.toIds) := by kernel_rfl
theorem f_appendUint16 : fnP P 81 2 = some (p_appendUint16 IJ.toIds) := by kernel_rfl
theorem f_appendUint32 : fnP P 80 2 = some (p_appendUint32 IJ.toIds) := by kernel_rfl
theorem f_appendInt16 : fnP P 49 2 = some (p_appendInt16 IJ.toIds) := by kernel_rfl
theorem f_appendInt32 : fnP P 48 2 = some (p_appendInt32 IJ.toIds) := by kernel_rfl
theorem f_appendBool : fnP P 61 2 = some (p_appendBool IJ.toIds) := by kernel_rfl
theorem f_appendString : fnP P 60 2 = some (p_appendString IJ.toIds) := by kernel_rfl
theorem f_appendCompactString : fnP P 59 2 = some (p_appendCompactString IJ.toIds) := by kernel_rfl
theorem f_appendNullableString : fnP P 51 2 = some (p_appendNullableString IJ.toIds) := by kernel_rfl
theorem f_appendCompactNullableString : fnP P 50 2 = some (p_appendCompactNullableString IJ.toIds) := by kernel_rfl
theorem f_appendArrayLen : fnP P 58 2 = some (p_appendArrayLen IJ.toIds) := by kernel_rfl
theorem f_appendCompactArrayLen : fnP P 57 2 = some (p_appendCompactArrayLen IJ.toIds) := by kernel_rfl
theorem f_appendNullableArrayLen : fnP P 65 3 = some (p_appendNullableArrayLen IJ.toIds) := by kernel_rfl
theorem f_appendCompactNullableArrayLen : fnP P 64 3 = some (p_appendCompactNullableArrayLen IJ.toIds) := by kernel_rfl
theorem f_len : fnP P 53 1 = some (p_len IJ) := by kernel_rfl
theorem f_appendEach1 : fnP P 84 3 = some (p_appendEach1 IJ) := by kernel_rfl
theorem f_each : fnP P 83 2 = some (p_each IJ) := by kernel_rfl
theorem f_appendEach : fnP P 54 2 = some (p_appendEach IJ) := by kernel_rfl
theorem f_each1 : fnP P 102 3 = some (p_each1 IJ) := by kernel_rfl
noncomputable def siT : TypeInfo := (P.info? 122).get (by kernel_rfl)
noncomputable def siE : TypeInfo := (P.info? 57).get (by kernel_rfl)
theorem siK (n : Nat) (h2 : 2 ≤ n) : Lib.swapperK n siE 10 = 6 := by
  have a : siE.hasPointers = false := by kernel_rfl
  have b : siE.bytes = 4 := by kernel_rfl
  have c : (n == 0) = false := by simp; omega
  have d : (n == 1) = false := by simp; omega
  simp [Lib.swapperK, a, b, c, d]
theorem c_sort : SortOk P IJ.slice IJ.each1 IJ.tSl :=
  Mr.sort_ok hn Tryz.sl6 122 57 siT siE (by kernel_rfl) (by kernel_rfl) (by kernel_rfl) (by kernel_rfl) 10 (fun _ => by kernel_rfl) (by kernel_rfl) (fun _ => by kernel_rfl) f_each1
    (enters_of Tryz.func102 (by kernel_rfl) rfl) 6 114 109 110 siK (by kernel_rfl) (by kernel_rfl) (by kernel_rfl) true
    (fun args W => run_callFunc_extern Tryz.func114 (by kernel_rfl) (by kernel_rfl) (by kernel_rfl) (e := Extern.ReflectliteSwapper.swap true) (by kernel_rfl) args W)
theorem c_uint16 : BeOk P 95 2 .u16 := uint16_ok hn f_uint16
theorem c_uint32 : BeOk P 94 4 .u32 := uint32_ok hn f_uint32
theorem c_rInt16 : Reads P 73 (rdI 2) (intRep .i16) (· = .int .i16 0) := rInt16_ok hn f_rInt16 c_uint16
theorem c_rInt32 : Reads P 72 (rdI 4) (intRep .i32) (· = .int .i32 0) := rInt32_ok hn f_rInt32 c_uint32
theorem c_rBool : Reads P 92 rdB boolRep (· = .bool false) := rBool_ok hn f_rBool
theorem c_rSpan : Spans P 98 := rSpan_ok hn f_rSpan
theorem c_uvarint : KUv P 103 := uvarint_ok hn f_uvarint
theorem c_rUvarint : Reads P 96 rdUv (natRep .u32) (· = .int .u32 0) := rUvarint_ok hn f_rUvarint c_uvarint
theorem c_rString : PrimOk P 91 (.str false) := rString_ok hn f_rString c_rInt16 c_rSpan
theorem c_rCompactString : PrimOk P 90 (.str true) := rCompactString_ok hn f_rCompactString c_rUvarint c_rSpan
theorem c_rNullableString : PrimOk P 77 (.nstr false) := rNullableString_ok hn f_rNullableString c_rInt16 c_rSpan
theorem c_rCompactNullableString : PrimOk P 75 (.nstr true) := rCompactNullableString_ok hn f_rCompactNullableString c_rUvarint c_rSpan
theorem c_rArrayLen : Counts P 86 false := rArrayLen_ok hn f_rArrayLen c_rInt32
theorem c_rCompactArrayLen : Counts P 85 true := rCompactArrayLen_ok hn f_rCompactArrayLen c_rUvarint
theorem c_rOk : OkFn P 87 := rOk_ok hn f_rOk
theorem c_rComplete : CompleteFn P 79 IJ.err := rComplete_ok hn f_rComplete
theorem c_set : SetOk P 99 := set_ok hn f_set
theorem c_rt : TagsOk P 78 := rt_ok hn f_rt c_rUvarint c_rSpan c_set
theorem c_len32 : Len32Ok P 100 := len32_ok hn f_len32 tab8_ok
theorem c_uvarintLen : UvLenOk P 82 := uvarintLen_ok hn f_uvarintLen c_len32 lens_ok
theorem c_appendUvarint : AppendsG P IJ.e8 52 wrUv uvRep := appendUvarint_okG hn f_appendUvarint c_uvarintLen
theorem c_appendUint16 : Appends P IJ.e8 81 (be 2) (natRep .u16) := appendUint16_ok hn f_appendUint16
theorem c_appendUint32 : Appends P IJ.e8 80 (be 4) (natRep .u32) := appendUint32_ok hn f_appendUint32
theorem c_appendInt16 : Appends P IJ.e8 49 (wrI 2) (intRep .i16) := appendInt16_ok hn f_appendInt16 c_appendUint16
theorem c_appendInt32 : Appends P IJ.e8 48 (wrI 4) (intRep .i32) := appendInt32_ok hn f_appendInt32 c_appendUint32
theorem c_appendBool : Appends P IJ.e8 61 (fun b : Bool => [if b then 1 else 0]) boolRep := appendBool_ok hn f_appendBool
theorem c_appendString : AppPrim P IJ.e8 60 (.str false) := appendString_ok hn f_appendString c_appendInt16
theorem c_appendCompactString : AppPrim P IJ.e8 59 (.str true) := appendCompactString_ok hn f_appendCompactString c_appendUvarint.app
theorem c_appendNullableString : AppPrim P IJ.e8 51 (.nstr false) := appendNullableString_ok hn f_appendNullableString c_appendInt16 c_appendString
theorem c_appendCompactNullableString : AppPrim P IJ.e8 50 (.nstr true) := appendCompactNullableString_ok hn f_appendCompactNullableString c_appendUvarint.app c_appendCompactString
theorem c_appendArrayLen : Appends P IJ.e8 58 (wrCount false) lenRep := appendArrayLen_ok hn f_appendArrayLen c_appendInt32
theorem c_appendCompactArrayLen : Appends P IJ.e8 57 (wrCount true) lenRep := appendCompactArrayLen_ok hn f_appendCompactArrayLen c_appendUvarint.app
theorem c_appendNullableArrayLen : AppN P IJ.e8 65 false := appendNullableArrayLen_ok hn f_appendNullableArrayLen c_appendInt32
theorem c_appendCompactNullableArrayLen : AppN P IJ.e8 64 true := appendCompactNullableArrayLen_ok hn f_appendCompactNullableArrayLen c_appendUvarint.app
theorem c_len : LenOk P 53 := len_ok' hn f_len
theorem c_appendEach1 : CbOk P IJ.e8 84 := cb_ok hn f_appendEach1 c_appendUvarint
theorem c_each : EachOk P IJ.e8 83 IJ.appendEach1 := each_ok hn f_each c_sort c_appendEach1 (fnP_fn f_appendEach1)
theorem c_appendEach : AppEachOk P IJ.e8 54 := appEach_ok hn f_appendEach c_each
def primL : List (Nat × Prim) := [(73, .i16), (72, .i32), (92, .bool), (91, .str false), (90, .str true), (77, .nstr false), (75, .nstr true)]
theorem primL_ok : AllP (fun f p => PrimOk P f p) primL := ⟨prim_i16 c_rInt16, prim_i32 c_rInt32, prim_bool c_rBool, c_rString, c_rCompactString, c_rNullableString, c_rCompactNullableString, trivial⟩
def cntL : List (Nat × Bool) := [(86, false), (85, true)]
theorem cntL_ok : AllP (fun f c => Counts P f c) cntL := ⟨c_rArrayLen, c_rCompactArrayLen, trivial⟩
noncomputable def defL : List (Nat × List (Nat × Value)) := [(38, (defC P 38).getD []), (55, (defC P 55).getD []), (62, (defC P 62).getD []), (93, (defC P 93).getD [])]
theorem defL_ok : AllP (fun f ds => DefOk P f ds) defL := ⟨defC_ok hn (show defC P 38 = some ((defC P 38).getD []) by kernel_rfl), defC_ok hn (show defC P 55 = some ((defC P 55).getD []) by kernel_rfl), defC_ok hn (show defC P 62 = some ((defC P 62).getD []) by kernel_rfl), defC_ok hn (show defC P 93 = some ((defC P 93).getD []) by kernel_rfl), trivial⟩
noncomputable def TT : Tab := { prim := Mr.look primL, cnt := Mr.look cntL, tags := 78, okF := 87, compl := 79, defs := Mr.look defL }
theorem TT_ok : TabOk P TT IJ.err := ⟨look_ok primL_ok, look_ok cntL_ok, c_rt, c_rOk, c_rComplete, look_ok defL_ok⟩
def appL : List (Nat × Prim) := [(49, .i16), (81, .u16), (48, .i32), (61, .bool), (60, .str false), (59, .str true), (51, .nstr false), (50, .nstr true)]
theorem appL_ok : AllP (fun f p => AppPrim P IJ.e8 f p) appL := ⟨app_i16 c_appendInt16, app_u16 c_appendUint16, app_i32 c_appendInt32, app_bool c_appendBool, c_appendString, c_appendCompactString, c_appendNullableString, c_appendCompactNullableString, trivial⟩
def alenL : List (Nat × Bool) := [(58, false), (57, true)]
theorem alenL_ok : AllP (fun f c => Appends P IJ.e8 f (wrCount c) lenRep) alenL := ⟨c_appendArrayLen, c_appendCompactArrayLen, trivial⟩
def alenNL : List (Nat × Bool) := [(65, false), (64, true)]
theorem alenNL_ok : AllP (fun f c => AppN P IJ.e8 f c) alenNL := ⟨c_appendNullableArrayLen, c_appendCompactNullableArrayLen, trivial⟩
def WW : WTab := { app := Mr.look appL, alen := Mr.look alenL, alenN := Mr.look alenNL, tlen := 53, uv := 52, each := 54 }
theorem WW_ok : WTabOk P WW IJ.e8 := ⟨look_ok appL_ok, look_ok alenL_ok, look_ok alenNL_ok, c_len, c_appendUvarint.app, c_appendEach⟩
def SJ : Sp.SI := { e8 := 5, eT := 59, atF := 41, counted := 68, fieldF := 40, fixed := 70, hasF := 39, knownF := 42, nullF := 66, partF := 22, things := 67, unknown := 45, usual := 43, uvarint := 44, valueF := 69, whole := 46, width := 71, write := 8, zzFits3 := 19, zzFits4 := 37 }
theorem q_has : fnP P 39 2 = some (Sp.q_has SJ) := by kernel_rfl
theorem q_null : fnP P 66 3 = some (Sp.q_null SJ) := by kernel_rfl
theorem q_at1 : fnP P 41 2 = some (Sp.q_at SJ) := by kernel_rfl
theorem q_whole : fnP P 46 1 = some (Sp.q_whole SJ) := by kernel_rfl
theorem q_things : fnP P 67 1 = some (Sp.q_things SJ) := by kernel_rfl
theorem q_width : fnP P 71 1 = some (Sp.q_width SJ) := by kernel_rfl
theorem q_fixed : fnP P 70 2 = some (Sp.q_fixed SJ) := by kernel_rfl
theorem q_uvarint : fnP P 44 1 = some (Sp.q_uvarint SJ) := by kernel_rfl
theorem q_counted : fnP P 68 4 = some (Sp.q_counted SJ) := by kernel_rfl
theorem q_known : fnP P 42 1 = some (Sp.q_known SJ) := by kernel_rfl
theorem q_unknown : fnP P 45 2 = some (Sp.q_unknown SJ) := by kernel_rfl
theorem q_value : fnP P 69 6 = some (Sp.q_value SJ) := by kernel_rfl
theorem q_field : fnP P 40 4 = some (Sp.q_field SJ) := by kernel_rfl
theorem q_part : fnP P 22 4 = some (Sp.q_part SJ) := by kernel_rfl
theorem q_write : fnP P 8 3 = some (Sp.q_write SJ) := by kernel_rfl
theorem q_zz3 : fnP P 19 1 = some (Sp.q_zzFits3 SJ) := by kernel_rfl
theorem q_zz4 : fnP P 37 1 = some (Sp.q_zzFits4 SJ) := by kernel_rfl
theorem fns : Sp.Fns P SJ := ⟨hn, q_has, q_null, q_at1, q_whole, q_things, q_width, q_fixed, q_uvarint, q_counted, q_known, q_unknown, q_value, q_field, q_part, q_write, q_zz3, q_zz4⟩
end Go.Proofs.YtaagmmeanifopaaGreatDoor.Sg
