/- The seat YtfbdfieeoobceabGreatDoor: kbin's functions and tags, what they do; which functions read and write what. -/
import Derived.Test.YtfbdfieeoobceabGreatDoorMs
import Derived.Test.YtfbdfieeoobceabGreatDoorRows
import Derived.KernelRfl
import Derived.Shelf.Lay
import Derived.Ground.GgsProg
import Derived.WalkKit
namespace Go.Proofs.YtfbdfieeoobceabGreatDoor
open Go.Shelf
shelf_lay LaysGg.n6 Ggs 6 at Tryz as Tryz.sl6
end Go.Proofs.YtfbdfieeoobceabGreatDoor

namespace Go.Proofs.YtfbdfieeoobceabGreatDoor.Sg
open Go Go.Lx Go.Nx Go.Km Go.Mx Go.Kb Go.Mr
set_option linter.unusedVariables false
set_option maxRecDepth 100000

noncomputable abbrev P : Program := Tryz.prog
def IJ : J := { e8 := 5, lens := ⟨#[1, 1, 1, 1, 1, 1, 1, 1, 2, 2, 2, 2, 2, 2, 2, 3, 3, 3, 3, 3, 3, 3, 4, 4, 4, 4, 4, 4, 4, 5, 5, 5, 5, 5, 5, 5, 6, 6, 6, 6, 6, 6, 6, 7, 7, 7, 7, 7, 7, 7, 8, 8, 8, 8, 8, 8, 8, 9, 9, 9, 9, 9, 9, 9, 10, 0, 0, 0, 0, 0, 0, 0, 0, 0, 0, 0, 0, 0, 0, 0, 0, 0, 0, 0, 0, 0, 0, 0, 0, 0, 0, 0, 0, 0, 0, 0, 0, 0, 0, 0, 0, 0, 0, 0, 0, 0, 0, 0, 0, 0, 0, 0, 0, 0, 0, 0, 0, 0, 0, 0, 0, 0, 0, 0, 0, 0, 0, 0, 0, 0, 0, 0, 0, 0, 0, 0, 0, 0, 0, 0, 0, 0, 0, 0, 0, 0, 0, 0, 0, 0, 0, 0, 0, 0, 0, 0, 0, 0, 0, 0, 0, 0, 0, 0, 0, 0, 0, 0, 0, 0, 0, 0, 0, 0, 0, 0, 0, 0, 0, 0, 0, 0, 0, 0, 0, 0, 0, 0, 0, 0, 0, 0, 0, 0, 0, 0, 0, 0, 0, 0, 0, 0, 0, 0, 0, 0, 0, 0, 0, 0, 0, 0, 0, 0, 0, 0, 0, 0, 0, 0, 0, 0, 0, 0, 0, 0, 0, 0, 0, 0, 0, 0, 0, 0, 0, 0, 0, 0, 0, 0, 0, 0, 0, 0, 0, 0, 0, 0, 0, 0, 0, 0, 0, 0, 0, 0]⟩, tab8 := ⟨#[0, 1, 2, 2, 3, 3, 3, 3, 4, 4, 4, 4, 4, 4, 4, 4, 5, 5, 5, 5, 5, 5, 5, 5, 5, 5, 5, 5, 5, 5, 5, 5, 6, 6, 6, 6, 6, 6, 6, 6, 6, 6, 6, 6, 6, 6, 6, 6, 6, 6, 6, 6, 6, 6, 6, 6, 6, 6, 6, 6, 6, 6, 6, 6, 7, 7, 7, 7, 7, 7, 7, 7, 7, 7, 7, 7, 7, 7, 7, 7, 7, 7, 7, 7, 7, 7, 7, 7, 7, 7, 7, 7, 7, 7, 7, 7, 7, 7, 7, 7, 7, 7, 7, 7, 7, 7, 7, 7, 7, 7, 7, 7, 7, 7, 7, 7, 7, 7, 7, 7, 7, 7, 7, 7, 7, 7, 7, 7, 8, 8, 8, 8, 8, 8, 8, 8, 8, 8, 8, 8, 8, 8, 8, 8, 8, 8, 8, 8, 8, 8, 8, 8, 8, 8, 8, 8, 8, 8, 8, 8, 8, 8, 8, 8, 8, 8, 8, 8, 8, 8, 8, 8, 8, 8, 8, 8, 8, 8, 8, 8, 8, 8, 8, 8, 8, 8, 8, 8, 8, 8, 8, 8, 8, 8, 8, 8, 8, 8, 8, 8, 8, 8, 8, 8, 8, 8, 8, 8, 8, 8, 8, 8, 8, 8, 8, 8, 8, 8, 8, 8, 8, 8, 8, 8, 8, 8, 8, 8, 8, 8, 8, 8, 8, 8, 8, 8, 8, 8, 8, 8, 8, 8, 8, 8, 8, 8, 8, 8, 8, 8, 8, 8, 8, 8, 8, 8]⟩, err := 1, appendBytes := 60, appendCompactBytes := 59, appendCompactString := 28, appendInt16 := 16, appendInt32 := 15, appendString := 29, appendUint16 := 55, appendUint32 := 54, appendUint64 := 61, appendUvarint := 22, len32 := 69, rInt16 := 31, rInt32 := 30, rSpan := 66, rUvarint := 64, rreadUint64 := 68, unsafeString := 65, uvarint := 72, uvarintLen := 56, appendEach1 := 58, each := 57, each1 := 71, set := 67, slice := 70, uint16 := 63, uint32 := 62, uint64 := 73, be := 0, eG := 65, tSl := 104 }
theorem names : (P.funcs.toList.all fun fn => fn.name != "runtime.NumGoroutine") = true := by kernel_rfl
theorem hn : Named P := fun f fn h => by
  have := (List.all_eq_true.1 names) fn (by rw [← Array.getElem?_toList] at h; exact List.mem_of_getElem? h)
  simpa using this
theorem tab8_ok : Tab8 IJ.tab8 := by
  have h : ((List.range 256).all fun n => IJ.tab8[n]? == some (UInt8.ofNat (bitlen n))) = true := by kernel_rfl
  intro n hn
  simpa using (List.all_eq_true.1 h) n (by simpa using hn)
theorem lens_ok : LensTab IJ.lens := by
  have h : ((List.range 33).all fun n => IJ.lens[n]? == some (UInt8.ofNat (groups n))) = true := by kernel_rfl
  intro n hn
  simpa using (List.all_eq_true.1 h) n (by simp only [List.mem_range]; omega)
theorem f_uint16 : fnP P 63 2 = some (p_uint16 IJ) := by kernel_rfl
theorem f_uint32 : fnP P 62 2 = some (p_uint32 IJ) := by kernel_rfl
theorem f_uint64 : fnP P 73 2 = some (p_uint64 IJ) := by kernel_rfl
theorem f_rInt16 : fnP P 31 1 = some (p_rInt16 IJ) := by kernel_rfl
theorem f_rInt32 : fnP P 30 1 = some (p_rInt32 IJ) := by kernel_rfl
theorem f_rreadUint64 : fnP P 68 1 = some (p_rreadUint64 IJ) := by kernel_rfl
theorem f_rInt64 : fnP P 48 1 = some (p_rInt64 IJ.toIds) := by kernel_rfl
theorem f_rSpan : fnP P 66 2 = some (p_rSpan IJ.toIds) := by kernel_rfl
theorem f_uvarint : fnP P 72 1 = some (p_uvarint IJ) := by kernel_rfl
theorem f_rUvarint : fnP P 64 1 = some (p_rUvarint IJ.toIds) := by kernel_rfl
theorem f_rUuid : fnP P 41 1 = some (p_rUuid IJ) := by kernel_rfl
theorem f_rString : fnP P 53 1 = some (p_rString IJ.toIds) := by kernel_rfl
theorem f_rCompactString : fnP P 52 1 = some (p_rCompactString IJ.toIds) := by kernel_rfl
theorem f_rNullableString : fnP P 35 1 = some (p_rNullableString IJ.toIds) := by kernel_rfl
theorem f_rCompactNullableString : fnP P 33 1 = some (p_rCompactNullableString IJ.toIds) := by kernel_rfl
theorem f_rNullableBytes : fnP P 46 1 = some (p_rNullableBytes IJ.toIds) := by kernel_rfl
theorem f_rCompactNullableBytes : fnP P 45 1 = some (p_rCompactNullableBytes IJ.toIds) := by kernel_rfl
theorem f_rArrayLen : fnP P 37 1 = some (p_rArrayLen IJ.toIds) := by kernel_rfl
theorem f_rCompactArrayLen : fnP P 36 1 = some (p_rCompactArrayLen IJ.toIds) := by kernel_rfl
theorem f_rOk : fnP P 38 1 = some (p_rOk IJ.toIds) := by kernel_rfl
theorem f_rComplete : fnP P 39 1 = some (p_rComplete IJ.toIds) := by kernel_rfl
theorem f_set : fnP P 67 3 = some (p_set IJ) := by kernel_rfl
theorem f_rt : fnP P 44 1 = some (p_internalReadTags IJ) := by kernel_rfl
theorem f_len32 : fnP P 69 1 = some (p_len32 IJ.toIds) := by kernel_rfl
theorem f_uvarintLen : fnP P 56 1 = some (p_uvarintLen IJ.toIds) := by kernel_rfl
theorem f_appendUvarint : fnP P 22 2 = some (p_appendUvarint IJ.toIds) := by kernel_rfl
theorem f_appendUint16 : fnP P 55 2 = some (p_appendUint16 IJ.toIds) := by kernel_rfl
theorem f_appendUint32 : fnP P 54 2 = some (p_appendUint32 IJ.toIds) := by kernel_rfl
theorem f_appendUint64 : fnP P 61 2 = some (p_appendUint64 IJ.toIds) := by kernel_rfl
theorem f_appendInt16 : fnP P 16 2 = some (p_appendInt16 IJ.toIds) := by kernel_rfl
theorem f_appendInt32 : fnP P 15 2 = some (p_appendInt32 IJ.toIds) := by kernel_rfl
theorem f_appendInt64 : fnP P 27 2 = some (p_appendInt64 IJ.toIds) := by kernel_rfl
theorem f_appendUuid : fnP P 21 2 = some (p_appendUuid IJ) := by kernel_rfl
theorem f_appendString : fnP P 29 2 = some (p_appendString IJ.toIds) := by kernel_rfl
theorem f_appendCompactString : fnP P 28 2 = some (p_appendCompactString IJ.toIds) := by kernel_rfl
theorem f_appendNullableString : fnP P 18 2 = some (p_appendNullableString IJ.toIds) := by kernel_rfl
theorem f_appendCompactNullableString : fnP P 17 2 = some (p_appendCompactNullableString IJ.toIds) := by kernel_rfl
theorem f_appendBytes : fnP P 60 2 = some (p_appendBytes IJ.toIds) := by kernel_rfl
theorem f_appendCompactBytes : fnP P 59 2 = some (p_appendCompactBytes IJ.toIds) := by kernel_rfl
theorem f_appendNullableBytes : fnP P 26 2 = some (p_appendNullableBytes IJ.toIds) := by kernel_rfl
theorem f_appendCompactNullableBytes : fnP P 25 2 = some (p_appendCompactNullableBytes IJ.toIds) := by kernel_rfl
theorem f_appendArrayLen : fnP P 20 2 = some (p_appendArrayLen IJ.toIds) := by kernel_rfl
theorem f_appendCompactArrayLen : fnP P 19 2 = some (p_appendCompactArrayLen IJ.toIds) := by kernel_rfl
theorem f_len : fnP P 23 1 = some (p_len IJ) := by kernel_rfl
theorem f_appendEach1 : fnP P 58 3 = some (p_appendEach1 IJ) := by kernel_rfl
theorem f_each : fnP P 57 2 = some (p_each IJ) := by kernel_rfl
theorem f_appendEach : fnP P 24 2 = some (p_appendEach IJ) := by kernel_rfl
theorem f_each1 : fnP P 71 3 = some (p_each1 IJ) := by kernel_rfl
noncomputable def siT : TypeInfo := (P.info? 104).get (by kernel_rfl)
noncomputable def siE : TypeInfo := (P.info? 65).get (by kernel_rfl)
theorem siK (n : Nat) (h2 : 2 ≤ n) : Lib.swapperK n siE 10 = 6 := by
  have a : siE.hasPointers = false := by kernel_rfl
  have b : siE.bytes = 4 := by kernel_rfl
  have c : (n == 0) = false := by simp; omega
  have d : (n == 1) = false := by simp; omega
  simp [Lib.swapperK, a, b, c, d]
theorem c_sort : SortOk P IJ.slice IJ.each1 IJ.tSl :=
  Mr.sort_ok hn Tryz.sl6 104 65 siT siE (by kernel_rfl) (by kernel_rfl) (by kernel_rfl) (by kernel_rfl) 10 (fun _ => by kernel_rfl) (by kernel_rfl) (fun _ => by kernel_rfl) f_each1
    (enters_of Tryz.func71 (by kernel_rfl) rfl) 6 84 79 80 siK (by kernel_rfl) (by kernel_rfl) (by kernel_rfl) true
    (fun args W => run_callFunc_extern Tryz.func84 (by kernel_rfl) (by kernel_rfl) (by kernel_rfl) (e := Extern.ReflectliteSwapper.swap true) (by kernel_rfl) args W)
theorem c_uint16 : BeOk P 63 2 .u16 := uint16_ok hn f_uint16
theorem c_uint32 : BeOk P 62 4 .u32 := uint32_ok hn f_uint32
theorem c_uint64 : BeOk P 73 8 .u64 := uint64_ok hn f_uint64
theorem c_rInt16 : Reads P 31 (rdI 2) (intRep .i16) (· = .int .i16 0) := rInt16_ok hn f_rInt16 c_uint16
theorem c_rInt32 : Reads P 30 (rdI 4) (intRep .i32) (· = .int .i32 0) := rInt32_ok hn f_rInt32 c_uint32
theorem c_rreadUint64 : Reads P 68 (rdU 8) (natRep .u64) (· = .int .u64 0) := rreadUint64_ok hn f_rreadUint64 c_uint64
theorem c_rInt64 : Reads P 48 (rdI 8) (intRep .i64) (· = .int .i64 0) := rInt64_ok hn f_rInt64 c_rreadUint64
theorem c_rSpan : Spans P 66 := rSpan_ok hn f_rSpan
theorem c_uvarint : KUv P 72 := uvarint_ok hn f_uvarint
theorem c_rUvarint : Reads P 64 rdUv (natRep .u32) (· = .int .u32 0) := rUvarint_ok hn f_rUvarint c_uvarint
theorem c_rUuid : PrimOk P 41 .uuid := rUuid_ok hn f_rUuid c_rSpan
theorem c_rString : PrimOk P 53 (.str false) := rString_ok hn f_rString c_rInt16 c_rSpan
theorem c_rCompactString : PrimOk P 52 (.str true) := rCompactString_ok hn f_rCompactString c_rUvarint c_rSpan
theorem c_rNullableString : PrimOk P 35 (.nstr false) := rNullableString_ok hn f_rNullableString c_rInt16 c_rSpan
theorem c_rCompactNullableString : PrimOk P 33 (.nstr true) := rCompactNullableString_ok hn f_rCompactNullableString c_rUvarint c_rSpan
theorem c_rNullableBytes : PrimOk P 46 (.nbyt false) := rNullableBytes_ok hn f_rNullableBytes c_rInt32 c_rSpan
theorem c_rCompactNullableBytes : PrimOk P 45 (.nbyt true) := rCompactNullableBytes_ok hn f_rCompactNullableBytes c_rUvarint c_rSpan
theorem c_rArrayLen : Counts P 37 false := rArrayLen_ok hn f_rArrayLen c_rInt32
theorem c_rCompactArrayLen : Counts P 36 true := rCompactArrayLen_ok hn f_rCompactArrayLen c_rUvarint
theorem c_rOk : OkFn P 38 := rOk_ok hn f_rOk
theorem c_rComplete : CompleteFn P 39 IJ.err := rComplete_ok hn f_rComplete
theorem c_set : SetOk P 67 := set_ok hn f_set
theorem c_rt : TagsOk P 44 := rt_ok hn f_rt c_rUvarint c_rSpan c_set
theorem c_len32 : Len32Ok P 69 := len32_ok hn f_len32 tab8_ok
theorem c_uvarintLen : UvLenOk P 56 := uvarintLen_ok hn f_uvarintLen c_len32 lens_ok
theorem c_appendUvarint : AppendsG P IJ.e8 22 wrUv uvRep := appendUvarint_okG hn f_appendUvarint c_uvarintLen
theorem c_appendUint16 : Appends P IJ.e8 55 (be 2) (natRep .u16) := appendUint16_ok hn f_appendUint16
theorem c_appendUint32 : Appends P IJ.e8 54 (be 4) (natRep .u32) := appendUint32_ok hn f_appendUint32
theorem c_appendUint64 : Appends P IJ.e8 61 (be 8) (natRep .u64) := appendUint64_ok hn f_appendUint64
theorem c_appendInt16 : Appends P IJ.e8 16 (wrI 2) (intRep .i16) := appendInt16_ok hn f_appendInt16 c_appendUint16
theorem c_appendInt32 : Appends P IJ.e8 15 (wrI 4) (intRep .i32) := appendInt32_ok hn f_appendInt32 c_appendUint32
theorem c_appendInt64 : Appends P IJ.e8 27 (wrI 8) (intRep .i64) := appendInt64_ok hn f_appendInt64 c_appendUint64
theorem c_appendUuid : AppPrim P IJ.e8 21 .uuid := appendUuid_ok hn f_appendUuid
theorem c_appendString : AppPrim P IJ.e8 29 (.str false) := appendString_ok hn f_appendString c_appendInt16
theorem c_appendCompactString : AppPrim P IJ.e8 28 (.str true) := appendCompactString_ok hn f_appendCompactString c_appendUvarint.app
theorem c_appendNullableString : AppPrim P IJ.e8 18 (.nstr false) := appendNullableString_ok hn f_appendNullableString c_appendInt16 c_appendString
theorem c_appendCompactNullableString : AppPrim P IJ.e8 17 (.nstr true) := appendCompactNullableString_ok hn f_appendCompactNullableString c_appendUvarint.app c_appendCompactString
theorem c_appendBytes : Appends P IJ.e8 60 (fun l : Bs => wrLen false 4 l.length ++ l) bytRep := appendBytes_raw hn f_appendBytes c_appendInt32
theorem c_appendCompactBytes : Appends P IJ.e8 59 (fun l : Bs => wrLen true 4 l.length ++ l) bytRep := appendCompactBytes_raw hn f_appendCompactBytes c_appendUvarint.app
theorem c_appendNullableBytes : AppPrim P IJ.e8 26 (.nbyt false) := appendNullableBytes_ok hn f_appendNullableBytes c_appendInt32 c_appendBytes
theorem c_appendCompactNullableBytes : AppPrim P IJ.e8 25 (.nbyt true) := appendCompactNullableBytes_ok hn f_appendCompactNullableBytes c_appendUvarint.app c_appendCompactBytes
theorem c_appendArrayLen : Appends P IJ.e8 20 (wrCount false) lenRep := appendArrayLen_ok hn f_appendArrayLen c_appendInt32
theorem c_appendCompactArrayLen : Appends P IJ.e8 19 (wrCount true) lenRep := appendCompactArrayLen_ok hn f_appendCompactArrayLen c_appendUvarint.app
theorem c_len : LenOk P 23 := len_ok' hn f_len
theorem c_appendEach1 : CbOk P IJ.e8 58 := cb_ok hn f_appendEach1 c_appendUvarint
theorem c_each : EachOk P IJ.e8 57 IJ.appendEach1 := each_ok hn f_each c_sort c_appendEach1 (fnP_fn f_appendEach1)
theorem c_appendEach : AppEachOk P IJ.e8 24 := appEach_ok hn f_appendEach c_each
def primL : List (Nat × Prim) := [(31, .i16), (30, .i32), (48, .i64), (41, .uuid), (53, .str false), (52, .str true), (35, .nstr false), (33, .nstr true), (46, .nbyt false), (45, .nbyt true)]
theorem primL_ok : AllP (fun f p => PrimOk P f p) primL := ⟨prim_i16 c_rInt16, prim_i32 c_rInt32, prim_i64 c_rInt64, c_rUuid, c_rString, c_rCompactString, c_rNullableString, c_rCompactNullableString, c_rNullableBytes, c_rCompactNullableBytes, trivial⟩
def cntL : List (Nat × Bool) := [(37, false), (36, true)]
theorem cntL_ok : AllP (fun f c => Counts P f c) cntL := ⟨c_rArrayLen, c_rCompactArrayLen, trivial⟩
noncomputable def defL : List (Nat × List (Nat × Value)) := [(13, (defC P 13).getD []), (40, (defC P 40).getD []), (42, (defC P 42).getD []), (43, (defC P 43).getD []), (47, (defC P 47).getD []), (49, (defC P 49).getD [])]
theorem defL_ok : AllP (fun f ds => DefOk P f ds) defL := ⟨defC_ok hn (show defC P 13 = some ((defC P 13).getD []) by kernel_rfl), defC_ok hn (show defC P 40 = some ((defC P 40).getD []) by kernel_rfl), defC_ok hn (show defC P 42 = some ((defC P 42).getD []) by kernel_rfl), defC_ok hn (show defC P 43 = some ((defC P 43).getD []) by kernel_rfl), defC_ok hn (show defC P 47 = some ((defC P 47).getD []) by kernel_rfl), defC_ok hn (show defC P 49 = some ((defC P 49).getD []) by kernel_rfl), trivial⟩
noncomputable def TT : Tab := { prim := Mr.look primL, cnt := Mr.look cntL, tags := 44, okF := 38, compl := 39, defs := Mr.look defL }
theorem TT_ok : TabOk P TT IJ.err := ⟨look_ok primL_ok, look_ok cntL_ok, c_rt, c_rOk, c_rComplete, look_ok defL_ok⟩
def appL : List (Nat × Prim) := [(16, .i16), (55, .u16), (15, .i32), (27, .i64), (21, .uuid), (29, .str false), (28, .str true), (18, .nstr false), (17, .nstr true), (60, .byt false), (59, .byt true), (26, .nbyt false), (25, .nbyt true)]
theorem appL_ok : AllP (fun f p => AppPrim P IJ.e8 f p) appL := ⟨app_i16 c_appendInt16, app_u16 c_appendUint16, app_i32 c_appendInt32, app_i64 c_appendInt64, c_appendUuid, c_appendString, c_appendCompactString, c_appendNullableString, c_appendCompactNullableString, prim_byt c_appendBytes, prim_byt c_appendCompactBytes, c_appendNullableBytes, c_appendCompactNullableBytes, trivial⟩
def alenL : List (Nat × Bool) := [(20, false), (19, true)]
theorem alenL_ok : AllP (fun f c => Appends P IJ.e8 f (wrCount c) lenRep) alenL := ⟨c_appendArrayLen, c_appendCompactArrayLen, trivial⟩
def WW : WTab := { app := Mr.look appL, alen := Mr.look alenL, tlen := 23, uv := 22, each := 24 }
theorem WW_ok : WTabOk P WW IJ.e8 := ⟨look_ok appL_ok, look_ok alenL_ok, c_len, c_appendUvarint.app, c_appendEach⟩
end Go.Proofs.YtfbdfieeoobceabGreatDoor.Sg
