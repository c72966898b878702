/- The law FnAnyRecord: any octets are read as a record just as the form says, or refused. It holds for whatever octets; no further condition. -/
import Derived.Test.YtmlmiljgbaalgaaDoorRc
import Derived.Test.YtmlmiljgbaalgaaDoorRows
import Derived.Test.YtmlmiljgbaalgaaDoorCards
import Derived.Test.YtmlmiljgbaalgaaDoorTie
import Derived.KernelRfl
import Derived.WalkKit
import Derived.ProofKit
import Derived.OpenShut
import Derived.Carry
import Derived.LaidMore
import Derived.Stop.LaidErr
import Derived.SevenTiedAt
namespace Go.Proofs.YtmlmiljgbaalgaaDoor.fnAnyRecord
open Go Go.ChangeShapes Go.WideShapes Go.ChangeAt Go.RowKit
open Go.Lx Go.Nx Go.Km Go.Mx Go.Kb
set_option linter.unusedVariables false
set_option maxRecDepth 100000

noncomputable abbrev P : Program := Tryd.prog
theorem names : (P.funcs.toList.all fun fn => fn.name != "runtime.NumGoroutine") = true := by kernel_rfl
theorem hn : Named P := fun f fn h => by
  have := (List.all_eq_true.1 names) fn (by rw [← Array.getElem?_toList] at h; exact List.mem_of_getElem? h)
  simpa using this
def IJ : J := { e8 := 5, lens := ⟨#[]⟩, tab8 := ⟨#[]⟩, err := 0, be := 1, eG := 0, tSl := 0, appendBytes := 0, appendCompactBytes := 0, appendCompactString := 0, appendInt16 := 0, appendInt32 := 0, appendString := 0, appendUint16 := 0, appendUint32 := 0, appendUint64 := 0, appendUvarint := 0, len32 := 0, rInt16 := 79, rInt32 := 73, rSpan := 59, rUvarint := 0, rreadUint64 := 81, unsafeString := 0, uvarint := 68, uvarintLen := 0, appendEach1 := 0, each := 0, each1 := 0, set := 0, slice := 0, uint16 := 82, uint32 := 80, uint64 := 83 }
theorem f_uint16 : fnP P 82 2 = some (Kb.p_uint16 IJ) := by kernel_rfl
theorem f_uint32 : fnP P 80 2 = some (Kb.p_uint32 IJ) := by kernel_rfl
theorem f_uint64 : fnP P 83 2 = some (Kb.p_uint64 IJ) := by kernel_rfl
theorem c_uint16 : BeOk P 82 2 .u16 := uint16_ok hn f_uint16
theorem c_uint32 : BeOk P 80 4 .u32 := uint32_ok hn f_uint32
theorem c_uint64 : BeOk P 83 8 .u64 := uint64_ok hn f_uint64
theorem f_rInt16 : fnP P 79 1 = some (Kb.p_rInt16 IJ) := by kernel_rfl
theorem c_rInt16 : Reads P 79 (rdI 2) (intRep .i16) (· = .int .i16 0) := rInt16_ok hn f_rInt16 c_uint16
theorem f_rInt32 : fnP P 73 1 = some (Kb.p_rInt32 IJ) := by kernel_rfl
theorem c_rInt32 : Reads P 73 (rdI 4) (intRep .i32) (· = .int .i32 0) := rInt32_ok hn f_rInt32 c_uint32
theorem f_rU64 : fnP P 81 1 = some (Kb.p_rreadUint64 IJ) := by kernel_rfl
theorem c_rU64 : Reads P 81 (rdU 8) (natRep .u64) (· = .int .u64 0) := rreadUint64_ok hn f_rU64 c_uint64
theorem f_rInt64 : fnP P 75 1 = some (Kb.p_rInt64 IJ.toIds) := by kernel_rfl
theorem c_rInt64 : Reads P 75 (rdI 8) (intRep .i64) (· = .int .i64 0) := rInt64_ok hn f_rInt64 c_rU64
theorem f_rInt8 : fnP P 38 1 = some (Kb.p_rInt8 IJ.toIds) := by kernel_rfl
theorem c_rInt8 : Reads P 38 (rdI 1) (intRep .i8) (· = .int .i8 0) := rInt8_ok hn f_rInt8
theorem f_rSpan : fnP P 59 2 = some (Kb.p_rSpan IJ.toIds) := by kernel_rfl
theorem c_rSpan : Spans P 59 := rSpan_ok hn f_rSpan
theorem f_uvarint : fnP P 68 1 = some (Kb.p_uvarint IJ) := by kernel_rfl
theorem c_uvarint : KUv P 68 := uvarint_ok hn f_uvarint
theorem f_rNb : fnP P 76 1 = some (Kb.p_rNullableBytes IJ.toIds) := by kernel_rfl
theorem c_rNb : Ar.NbFn P 76 := rNullableBytes_ok hn f_rNb c_rInt32 c_rSpan
theorem f_rAl : fnP P 70 1 = some (Kb.p_rArrayLen IJ.toIds) := by kernel_rfl
theorem c_rAl : Counts P 70 false := rArrayLen_ok hn f_rAl c_rInt32
theorem f_rOk : fnP P 42 1 = some (Kb.p_rOk IJ.toIds) := by kernel_rfl
theorem c_rOk : OkFn P 42 := rOk_ok hn f_rOk
theorem f_rC : fnP P 43 1 = some (Kb.p_rComplete IJ.toIds) := by kernel_rfl
theorem c_rC : CompleteFn P 43 IJ.err := rComplete_ok hn f_rC
theorem f_uvl : fnP P 69 1 = some (Ar.p_uvarlong) := by kernel_rfl
theorem c_uvl : Ar.KUl P 69 := Ar.uvarlong_ok hn f_uvl
theorem f_vi : fnP P 57 1 = some (Ar.p_varint 68) := by kernel_rfl
theorem c_vi : Ar.KZ P 57 .i32 Ar.rdVi := Ar.varint_ok hn f_vi c_uvarint
theorem f_vl : fnP P 58 1 = some (Ar.p_varlong 69) := by kernel_rfl
theorem c_vl : Ar.KZ P 58 .i64 Ar.rdVl := Ar.varlong_ok hn f_vl c_uvl
theorem f_rV : fnP P 37 1 = some (Ar.p_rNum 57 .i32) := by kernel_rfl
theorem c_rV : Reads P 37 Ar.rdVi (intRep .i32) (· = .int .i32 0) := Ar.rNum_ok hn f_rV c_vi Ar.rdVi_suf rfl
theorem f_rL : fnP P 39 1 = some (Ar.p_rNum 58 .i64) := by kernel_rfl
theorem c_rL : Reads P 39 Ar.rdVl (intRep .i64) (· = .int .i64 0) := Ar.rNum_ok hn f_rL c_vl Ar.rdVl_suf rfl
theorem f_rB : fnP P 40 1 = some (Ar.p_rVarintBytes 37 59) := by kernel_rfl
theorem c_rB : Reads P 40 Ar.rdOc Ar.ocRep (· = .slice none 0 0) := Ar.rVarintBytes_ok hn f_rB c_rV c_rSpan
theorem f_rS : fnP P 46 1 = some (Ar.p_rVarintString 40) := by kernel_rfl
theorem c_rS : Reads P 46 Ar.rdT Ar.strRep (· = .string ⟨([] : Bs).toArray⟩) := Ar.rVarintString_ok hn f_rS c_rB
theorem f_rN : fnP P 41 1 = some (Ar.p_rVarintArrayLen 37) := by kernel_rfl
theorem c_rN : Reads P 41 Ar.rdCnt (intRep .i32) (· = .int .i32 0) := Ar.rVarintArrayLen_ok hn f_rN c_rV
theorem d_Record : Ar.DefOk P 36 := Ar.def_ok hn (show fnP P 36 1 = some ⟨.nil, []⟩ by kernel_rfl)
theorem d_Header : Ar.DefOk P 44 := Ar.def_ok hn (show fnP P 44 1 = some ⟨.nil, []⟩ by kernel_rfl)
theorem d_MessageV0 : Ar.DefOk P 74 := Ar.def_ok hn (show fnP P 74 1 = some ⟨.nil, []⟩ by kernel_rfl)
theorem d_MessageV1 : Ar.DefOk P 77 := Ar.def_ok hn (show fnP P 77 1 = some ⟨.nil, []⟩ by kernel_rfl)
theorem d_RecordBatch : Ar.DefOk P 78 := Ar.def_ok hn (show fnP P 78 1 = some ⟨.nil, []⟩ by kernel_rfl)
def IA : Ar.AI := { rdef := 36, hdef := 44, rV := 37, r8 := 38, rL := 39, rB := 40, rS := 46, rU := 45, rN := 41, rOk := 42, rC := 43 }
theorem FA : Ar.AFns P IA IJ.err := ⟨d_Record, d_Header, c_rV, c_rInt8, c_rL, c_rB, c_rS, c_rN, c_rOk, c_rC⟩
theorem f_rfR : fnP P 22 3 = some (Ar.p_readFrom IA) := by kernel_rfl
theorem f_RFR : fnP P 13 2 = some (Ar.p_ReadFrom 22) := by kernel_rfl
theorem f_own : fnP P 14 1 = some (Ar.p_own 5) := by kernel_rfl
theorem c_own : Ar.OwnFn P 14 := Ar.own_ok hn f_own
theorem f_oct : fnP P 15 1 = some (Ar.p_oct 5) := by kernel_rfl
theorem c_oct : Ar.OctFn P 15 := Ar.oct_ok hn f_oct
theorem f_tR : fnP P 5 1 = some (Ar.p_tellRecord 14 13 15 43) := by kernel_rfl
theorem c_tR : Ar.TellFn P 5 IJ.err := Ar.tellRecord_ok hn FA f_rfR f_RFR c_own c_oct f_tR
theorem f_rv : fnP P 19 2 = some (Ar.p_readVarint) := by kernel_rfl
theorem c_rv32 : Ar.RvFn P 19 32 15 4 := Ar.readVarint_ok hn f_rv Ar.bits32 rfl
theorem c_rv64 : Ar.RvFn P 19 64 1 9 := Ar.readVarint_ok hn f_rv Ar.bits64 rfl
theorem f_fail : fnP P 11 2 = some (Ar.p_fail) := by kernel_rfl
theorem c_fail : Ar.FailFn P 11 := Ar.fail_ok hn f_fail
theorem f_take : fnP P 20 2 = some (Ar.p_take 11) := by kernel_rfl
theorem c_take : Ar.TakeFn P 20 := Ar.take_ok hn f_take c_fail
theorem f_sv : fnP P 8 2 = some (Ar.p_svarint 19 11) := by kernel_rfl
theorem c_sv32 : Ar.SvFn P 8 32 15 4 := Ar.svarint_ok hn f_sv c_rv32 c_fail
theorem c_sv64 : Ar.SvFn P 8 64 1 9 := Ar.svarint_ok hn f_sv c_rv64 c_fail
theorem f_sf : fnP P 9 2 = some (Ar.p_fixed 20) := by kernel_rfl
theorem c_sf : Ar.SfFn P 9 := Ar.fixed_ok hn f_sf c_take
theorem f_so : fnP P 10 2 = some (Ar.p_soct 11 20) := by kernel_rfl
theorem c_so : Ar.SoFn P 10 := Ar.soct_ok hn f_so c_fail c_take
theorem f_st : fnP P 21 1 = some (Ar.p_text 8 11 10) := by kernel_rfl
theorem c_st : Ar.StFn P 21 := Ar.text_ok hn f_st c_sv32 c_fail c_so
theorem f_sh : fnP P 12 1 = some (Ar.p_header 21 8 10) := by kernel_rfl
theorem c_sh : Ar.ShFn P 12 := Ar.header_ok hn f_sh c_st c_sv32 c_so
def IR : Ar.RI := { sv := 8, sf := 9, so := 10, fail := 11, hd := 12, eG := 43 }
theorem FR : Ar.RFns P IR := ⟨c_sv32, c_sv64, c_sf, c_so, c_fail, c_sh⟩
theorem f_rr : fnP P 4 1 = some (Ar.p_readRecord IR) := by kernel_rfl
theorem c_rr : Ar.RrFn P 4 := Ar.readRecord_ok hn FR f_rr
theorem f_same : fnP P 35 2 = some (Ar.p_same2) := by kernel_rfl
theorem c_same : Ar.SmFn P 35 := Ar.same2_ok hn f_same
theorem f_sameO : fnP P 17 2 = some (Ar.p_sameOctets 35) := by kernel_rfl
theorem c_sameO : Ar.SoC P 17 := Ar.sameOctets_ok hn f_sameO c_same
theorem f_sameH : fnP P 18 2 = some (Ar.p_sameHeaders 17) := by kernel_rfl
theorem c_sameH : Ar.ShC P 18 := Ar.sameHeaders_ok hn f_sameH c_sameO
theorem f_sameR : fnP P 7 2 = some (Ar.p_sameRecord 17 18) := by kernel_rfl
theorem c_sameR : Ar.SrC P 7 := Ar.sameRecord_ok hn f_sameR c_sameO c_sameH
theorem f_tn : fnP P 63 1 = some (Ar.p_turned) := by kernel_rfl
theorem c_tn : Ar.TnFn P 63 := Ar.turned_ok hn f_tn
theorem f_uvw : fnP P 62 1 = some (Ar.p_uvw 5) := by kernel_rfl
theorem f_vw : fnP P 48 1 = some (Ar.p_vw 63 62) := by kernel_rfl
theorem c_vw : Ar.VwFn P 5 48 := Ar.vw_ok hn f_vw c_tn f_uvw
theorem f_fx : fnP P 51 2 = some (Ar.p_fxw 5) := by kernel_rfl
theorem c_fx : Ar.FxFn P 5 51 := Ar.fxw_ok hn f_fx
theorem f_ob : fnP P 49 1 = some (Ar.p_ob 5 48 [.s 5] (.op (.call 48) [.k (.int .i64 (-1))] 3 <| .ret [.s 3])) := by kernel_rfl
theorem c_ob : Ar.Gv P 5 49 [.agg #[.bool false, .slice none 0 0]] [0] := Ar.ob_ok hn f_ob (cv := [.int .i64 ((0 : Nat) : Int)]) (fun η h => by simp [SV.val, h]) (c_vw 0 (.inl rfl)) (by simp)
theorem f_fo : fnP P 53 1 = some (Ar.p_ob 5 51 [.s 5, .k (.int .i64 4)] (.op (.call 51) [.k (.int .i64 (-1)), .k (.int .i64 4)] 3 <| .ret [.s 3])) := by kernel_rfl
theorem c_fo : Ar.Gv P 5 53 [.agg #[.bool false, .slice none 0 0]] (Ar.fx 0 4) := Ar.ob_ok hn f_fo (cv := [.int .i64 ((0 : Nat) : Int), .int .i64 ((4 : Nat) : Int)]) (fun η h => by simp [SV.val, h]) (c_fx 0 4 (by omega) (by omega) (by omega)) (by simp [Ar.fx])
theorem f_hB : fnP P 24 1 = some (Ar.p_headerBytes 48 49 5) := by kernel_rfl
theorem f_sB : fnP P 26 1 = some (Ar.p_stickyBytes 51 5) := by kernel_rfl
theorem f_oB : fnP P 28 2 = some (Ar.p_oldBytes 51 53 5) := by kernel_rfl
theorem f_rR : fnP P 55 1 = some (Ar.p_recordRest 48 49 24 5) := by kernel_rfl
theorem c_rR (n : Int) : Ar.Gv P 5 55 [.agg (Ar.zR n).toArray] [0, 0, 0, 0, 0, 0] := Ar.recordRest_ok hn f_rR c_vw c_ob n
theorem f_ms : fnP P 31 1 = some (Ar.p_measured 55) := by kernel_rfl
theorem f_rBy : fnP P 30 1 = some (Ar.p_recordBytes 48 55 5) := by kernel_rfl
theorem f_wh : fnP P 34 1 = some (Ar.p_whole) := by kernel_rfl
theorem f_bB : fnP P 33 1 = some (Ar.p_batchBytes 51 5) := by kernel_rfl
def IT : Ar.TJ := { i64 := 75, i32 := 73, i16 := 79, i8 := 38, nb := 76, vs := 46, vb := 40, us := 45, ss := 72, su := 71, sp := 59, al := 70, cm := 43 }
theorem FT : Ar.TFns P IT IJ.err := ⟨c_rInt64, c_rInt32, c_rInt16, c_rInt8, c_rNb, c_rS, c_rB, c_rSpan, c_rAl, c_rC⟩
theorem f_rfH : fnP P 61 3 = some (Ar.p_rfH 44 IT) := by kernel_rfl
theorem f_RFH : fnP P 47 2 = some (Ar.p_ReadFrom 61) := by kernel_rfl
theorem f_rf0 : fnP P 65 3 = some (Ar.p_rfV0 74 IT) := by kernel_rfl
theorem f_RF0 : fnP P 52 2 = some (Ar.p_ReadFrom 65) := by kernel_rfl
theorem f_rf1 : fnP P 66 3 = some (Ar.p_rfV1 77 IT) := by kernel_rfl
theorem f_RF1 : fnP P 54 2 = some (Ar.p_ReadFrom 66) := by kernel_rfl
theorem f_rfB : fnP P 67 3 = some (Ar.p_rfB 78 IT) := by kernel_rfl
theorem f_RFB : fnP P 56 2 = some (Ar.p_ReadFrom 67) := by kernel_rfl
theorem f_rfS : fnP P 64 3 = some (Ar.p_rfS IT) := by kernel_rfl
theorem f_RFS : fnP P 50 2 = some (Ar.p_ReadFrom 64) := by kernel_rfl
theorem f_tH : fnP P 23 1 = some (Ar.p_tellH 14 47 15) := by kernel_rfl
theorem c_tH : Ar.TlFn P 23 IJ.err 3 [0, 0] := Ar.tellH_ok hn f_tH c_own c_oct f_RFH (Ar.rfH_ok hn FT f_rfH d_Header)
theorem f_t0 : fnP P 27 1 = some (Ar.p_tell0 14 52 15) := by kernel_rfl
theorem c_t0 : Ar.TlFn P 27 IJ.err 10 (Ar.zr 26) := Ar.tell0_ok hn f_t0 c_own c_oct f_RF0 (Ar.rfV0_ok hn FT f_rf0 d_MessageV0)
theorem f_t1 : fnP P 29 1 = some (Ar.p_tell1 14 54 15) := by kernel_rfl
theorem c_t1 : Ar.TlFn P 29 IJ.err 10 (Ar.zr 34) := Ar.tell1_ok hn f_t1 c_own c_oct f_RF1 (Ar.rfV1_ok hn FT f_rf1 d_MessageV1)
theorem f_tB : fnP P 32 1 = some (Ar.p_tellB 14 56) := by kernel_rfl
theorem c_tB : Ar.TlFn P 32 IJ.err 14 Ar.bBatch := Ar.tellB_ok hn f_tB c_own f_RFB (Ar.rfB_ok hn FT f_rfB d_RecordBatch)
theorem f_tS : fnP P 25 1 = some (Ar.p_tellS 14 50 21 107) := by kernel_rfl
theorem c_tS : Ar.TlFn P 25 IJ.err 2 (Ar.zr 8) := Ar.tellS_ok hn f_tS c_own f_RFS (Ar.rfS_ok hn FT f_rfS)
def IW : Ar.WI := { hB := 24, tH := 23, sB := 26, tS := 25, oB := 28, t0 := 27, t1 := 29, ms := 31, rB := 30, tR := 5, wh := 34, bB := 33, tB := 32 }
theorem FW : Ar.WFns P IW 5 IJ.err := ⟨Ar.headerBytes_ok hn f_hB c_vw c_ob, c_tH, Ar.stickyBytes_ok hn f_sB c_fx, c_tS, Ar.oldBytes_ok hn f_oB c_fx c_fo (.inl ⟨rfl, rfl⟩), c_t0, Ar.oldBytes_ok hn f_oB c_fx c_fo (.inr ⟨rfl, rfl⟩), c_t1, Ar.measured_ok hn f_ms c_rR, Ar.recordBytes_ok hn f_rBy c_vw c_rR, c_tR, Ar.whole_ok hn f_wh, Ar.batchBytes_ok hn f_bB c_fx, c_tB⟩
theorem f_aw : fnP P 16 0 = some (Ar.p_awake IW) := by kernel_rfl
theorem c_aw : Ar.AwG P 16 IJ.err := Ar.awake_ok hn FW f_aw
theorem f_jd : fnP P 6 5 = some (Ar.p_judged 16) := by kernel_rfl
theorem f_f : fnP P 3 1 = some (Ar.p_fnAnyRecord 4 5 7 6) := by kernel_rfl
/-- The walk. -/
theorem walk {w : World} {src : Value} {bs : Bs} {et : TypeId} {ev : Value} (hsl : Ar.Sz (fun _ => True) w src bs) (herr : w.cell? ⟨IJ.err, 0, none⟩ = some (.iface et ev)) (hlen : bs.length < 9223372036854775808) :
    Calls Tryd.prog 3 #[src] w fun e w' => e = .returned (.bool true) ∧ Below w.heap.size w w' := by
  have h : In.wp P (.call 3) [src] w fun v w' => v = .bool true ∧ Keep [] w w' :=
    Ar.law_record hn f_f c_rr c_tR c_sameR f_jd c_aw hsl herr fun w' k => ⟨rfl, k⟩
  refine Calls.mono h fun ev' w' hev => ?_
  match ev', hev with
  | .returned v, hev => exact ⟨by rw [hev.1], hev.2.below (fun x hx => by cases hx) (Nat.le_refl _)⟩

theorem own : ownKnob Tryd.prog.godebug = none := by kernel_rfl
theorem laidOut : laidOutB Tryd.prog = true := by kernel_rfl

theorem rowE (u : TypeId) (h : Tryd.prog.typeName? 3 u = some "*errors.errorString") : u = 141 :=
  typeName_ptr_named (nm := "errors.errorString") (by rw [show "*" ++ "errors.errorString" = "*errors.errorString" by decide]; kernel_rfl) (by kernel_rfl) (by decide) u (by rw [show "*" ++ "errors.errorString" = "*errors.errorString" by decide]; exact h)

/-- The error's variable. -/
theorem of_laid {W : World} (h : laidMetH Tryd.prog Rows.fnAnyRecordRow.laid W) : ∃ (et : TypeId) (ev : Value), W.cell? ⟨IJ.err, 0, none⟩ = some (.iface et ev) := by
  rw [MakeChecks.laidMetH_plain _ _ _ (by kernel_rfl)] at h
  obtain ⟨a, s, hv, _⟩ := laid_sentinel h (show Tryd.prog.globalNamed "pub-kmsg/pub/kmsg/inner/kbin.ErrNotEnoughData" = some 0 by kernel_rfl) (show (Tryd.prog.globals[0]?).map (·.type) = some 49 by kernel_rfl) Tryd.underlying49 rowE Tryd.underlying141 Tryd.underlying157 rfl rfl Tryd.underlying9 (by kernel_rfl) (by kernel_rfl)
  have h0 : W.cell? ⟨0, 0, none⟩ = some (.iface 141 (.pointer (some a))) := by
    have := World.var?_cell (show Tryd.prog.globalNamed "pub-kmsg/pub/kmsg/inner/kbin.ErrNotEnoughData" = some 0 by kernel_rfl) hv 0
    simpa using this
  exact ⟨_, _, h0⟩

/-- A slice of octets that came in. -/
theorem open_sl {H : Type} {enc : TypeId × Value → H} {W : World} {base : Nat} {v1 : Value} {d1 : DataW H} {p1 : List MemPlace} (hval : Value.okWide Tryd.prog W .any base 22 v1) (h1 : DataW.Trod enc Tryd.prog W 0 (fun _ => true) true 22 v1 d1 p1) :
    ∃ bs : Bs, Ar.Sz (fun _ => True) W v1 bs ∧ bs.length < 9223372036854775808 := by
  obtain ⟨a1, len, cap, rfl⟩ := okWide_slice Tryd.underlying22 hval
  obtain ⟨fuel, hf⟩ := h1
  rcases open_ints Tryd.underlying22 Tryd.underlying5 (by kernel_rfl) hf with ⟨hcs, hx⟩ | ⟨a, len', cap', zs, hcs, _, hl, hm, hz, hx, hcell, hwz⟩
  · simp [Value.cells] at hcs
    obtain ⟨rfl, rfl, rfl⟩ := hcs
    exact ⟨[], .inl (.inl ⟨rfl, rfl⟩), by simp⟩
  · simp [Value.cells] at hcs
    obtain ⟨rfl, rfl, rfl⟩ := hcs
    simp only [if_true] at hz
    have hlen : ((zs.take len).map fun n => UInt8.ofNat n.toNat).length = len := by simp; omega
    refine ⟨(zs.take len).map fun n => UInt8.ofNat n.toNat, ?_, by rw [hlen]; have : maxLen = 9223372036854775807 := rfl; omega⟩
    rcases Nat.eq_zero_or_pos len with h0 | hp
    · subst h0
      exact .inr ⟨by simp, a, cap, rfl⟩
    · refine .inl (.inr ⟨a, cap, by rw [hlen], by rw [hlen]; exact hl, Ar.cellLt (show W.cell? a = _ by have := hcell 0 (by omega); rwa [Addr.add_zero'] at this), trivial, fun j hj => ?_⟩)
      rw [hlen] at hj
      rw [hcell j (by omega)]
      have hb := range_u8 hwz j
      have e : zs.getD j 0 = zs[j]'(by omega) := by simp [List.getD, List.getElem?_eq_getElem (show j < zs.length by omega)]
      rw [List.getD_eq_getElem?_getD] at e
      rw [e] at hb
      simp only [List.getElem_map, List.getElem_take, u8]
      rw [List.getD_eq_getElem?_getD, e]
      congr 2
      simp only [UInt8.toNat_ofNat']
      omega

theorem door_met (os : Os) (args : Array Value) : laidMetH Tryd.prog Rows.fnAnyRecordRow.laid ((World.doorLaid Tryd.prog 400 os).forCall (fun _ _ => 0) ⟨#[], args, []⟩).memory :=
  laidMetH_of_parts3 (fuel := 8) (laidMet_of_run' 8 (by kernel_rfl) (by kernel_rfl)) (by kernel_rfl) (by kernel_rfl)

theorem lifted (os : Os) (started : os.Started) (H : Type) (enc : TypeId × Value → H) :
    ReturnsInHanded {} Tryd.checked os 3 .any (fun w args => (Rows.fnAnyRecordSpec.pre enc Tryd.prog Tryd.f3 Rows.fnAnyRecordRow.domain false w args ∧ laidMetH Tryd.prog Rows.fnAnyRecordRow.laid w) ∧ sizedMet enc Tryd.prog Tryd.f3 (OpenSpec.ofChange Rows.fnAnyRecordSpec) false w args)
      (Rows.fnAnyRecordSpec.post enc Tryd.prog Tryd.f3 false true false false) := by
  refine returnsInHanded_of_change_and (C := Tryd.checked) (X := fun w _ => laidMetH Tryd.prog Rows.fnAnyRecordRow.laid w) (fun _ _ _ hh h => h.of_heap hh) own started (by kernel_rfl) Tryd.func3
    (ChangeSpec.witness_shaped (enc := enc) (C := Tryd.checked) (os := os) (X := fun w _ => laidMetH Tryd.prog Rows.fnAnyRecordRow.laid w) false (World.doorLaid Tryd.prog 400 os) #[.slice none 0 0] 8 rfl (World.shaped_of_RefB (by kernel_rfl) (by kernel_rfl)) (by kernel_rfl) (by kernel_rfl) (by kernel_rfl) (door_met os _)) ?_
  intro W base args ds gs before hval0 hW hcnd _ hL _
  have hval : ∀ (j : Nat) t v, Tryd.f3.params[j]? = some t → args[j]? = some v → Value.okWide Tryd.prog W .any base t v := hval0
  have hW' := hW
  obtain ⟨p, q, hA0, hV, rfl, hfz, hnd⟩ := hW
  have hA : DataW.TrodAll enc Tryd.prog W 0 (fun _ => true) true Tryd.f3.params.toList args.toList ds p := hA0
  rw [Tryd.params3] at hA hval
  obtain ⟨v1, vs0, d1, ds0, p1, q0, hargs, rfl, rfl, h1, r0⟩ := trodAll_cons hA
  obtain ⟨rfl, rfl, rfl⟩ := trodAll_nil r0
  obtain rfl : args = #[v1] := by cases args; simp_all
  obtain ⟨rfl, rfl⟩ := trodVars_none hV
  obtain ⟨bs, hsl, hlen⟩ := open_sl (hval 0 22 v1 rfl rfl) h1
  obtain ⟨et, ev, herr⟩ := of_laid hL
  clear hA0 hval0
  simp only [List.append_nil] at hW'
  have hlt : ∀ x ∈ p1, x.block < W.heap.size := fun x hx => by simpa using hW'.lt x (by simpa using hx)
  refine (walk hsl herr hlen).mono fun e W' ⟨he, hg⟩ => ?_
  subst he
  exact ⟨_, rfl, _, _, _, [], _, [], hW', (trodAll_cons_mk (shut_bool Tryd.underlying4 _) trodAll_mk0), (trodAll_cons_mk (Below.trod laidOut (by kernel_rfl) (of_decide_eq_true (by kernel_rfl)) h1 hg hlt) trodAll_mk0), rfl, hg.frame _, fun h => by cases h⟩

theorem over : Rows.fnAnyRecordRow.holds Tryd.pinned (OpenSpec.ofChange Rows.fnAnyRecordSpec) :=
  OpenClaim.holds_of_wide 3 Tryd.f3 rfl rfl rfl rfl rfl rfl rfl ⟨rfl, rfl, rfl, rfl, rfl⟩ rfl rfl rfl rfl rfl (by kernel_rfl) Tryd.func3 (by kernel_rfl)
    (of_decide_eq_true (by kernel_rfl)) (by unfold Func.isWrapper; first | (rw [if_pos (by decide +kernel)]; kernel_rfl) | (rw [if_neg (by decide +kernel)]; exact ⟨rfl, rfl⟩))
    (fun os started H enc _ => lifted os started H enc)

/-- The statement. -/
theorem proved : Rows.FnAnyRecordCardSaid :=
  Claim7.holds_tied_plain_at .later [] [.sentinel] true (true, "bd27d8f5aa6228c6902e822433e4b0b381ee2a0af80d33cf6844558e1dff4ee5") false
    over (fun _ h => by cases h) (by kernel_rfl) (fun _ h => by cases h) fnAnyRecord_row_tie rfl ⟨rfl, rfl⟩ (by kernel_rfl) rfl
    (fun f fn hf hfn => by
      obtain rfl : f = 3 := Option.some.inj ((show Tryd.prog.funcNamed "pub-kmsg/laws.FnAnyRecord" = some 3 by kernel_rfl).symm.trans hf) |>.symm
      obtain rfl : fn = Tryd.f3 := (Option.some.inj (Tryd.func3.symm.trans hfn)).symm
      exact ⟨by kernel_rfl, fun j t ht => by
        rw [Tryd.params3] at ht
        have hm : t ∈ [22] := by simpa using Array.mem_of_getElem? ht
        have hall : ([22].all fun u => !Tryd.prog.wantsStandIn u) = true := by kernel_rfl
        exact (show Tryd.prog.wantsStandIn t = false by simpa using List.all_eq_true.1 hall t hm)⟩)
    (by kernel_rfl)
#print axioms proved
end Go.Proofs.YtmlmiljgbaalgaaDoor.fnAnyRecord
