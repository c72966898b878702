/- The law FnCutPushTelemetryRequest: what the reference writes of a tree as a message, if it ends anywhere ahead of its end, is not read. It holds for every number (an octet), place and tree; no further condition. -/
import Derived.Test.YtlbojjkfjhnaaaaDoorSg
import Derived.Test.YtlbojjkfjhnaaaaDoorCards
import Derived.Test.YtlbojjkfjhnaaaaDoorTie
import Derived.WalkKit
import Derived.ProofKit
import Derived.OpenShut
import Derived.Carry
import Derived.LaidMore
import Derived.Stop.LaidErr
import Derived.SevenTiedAt
import Derived.Deep.DeepHandedRow
import Derived.Deep.DeepWitnessRowRef
import Derived.Stop.Joined
namespace Go.Proofs.YtlbojjkfjhnaaaaDoor.fnCutPushTelemetryRequest
open Go Go.ChangeShapes Go.WideShapes Go.ChangeAt Go.RowKit
open Go.Lx Go.Nx Go.Km Go.Mx Go.Kb Go.Mr
set_option linter.unusedVariables false
set_option maxRecDepth 100000

noncomputable abbrev P : Program := Tryd.prog

def s_PushTelemetryRequest (v : Nat) : Fs := fld (true) 1 (.prim (.uuid)) <| fld (true) 17 (.prim (.i32)) <| fld (true) 18 (.prim (.bool)) <| fld (true) 19 (.prim (.i8)) <| fld (true) 20 (.prim (.byt (true))) <| endT (true) 21

noncomputable def z : List Value := [.int .i16 0, .int .u8 0, .int .u8 0, .int .u8 0, .int .u8 0, .int .u8 0, .int .u8 0, .int .u8 0, .int .u8 0, .int .u8 0, .int .u8 0, .int .u8 0, .int .u8 0, .int .u8 0, .int .u8 0, .int .u8 0, .int .u8 0, .int .i32 0, .bool false, .int .i8 0, .slice none 0 0, .map none]
noncomputable def ds : List (Nat × Value) := (defC P 51).getD []
theorem h_f : fnP P 4 3 = some (Sp.p_fnCut 11 12 14 15 Sg.SJ.write 16) := by kernel_rfl
theorem h_ver : fnP P 15 2 = some p_version := by kernel_rfl
theorem h_same : fnP P 10 2 = some p_same := by kernel_rfl
theorem h_max : fnP P 12 0 = some (p_max 27 28) := by kernel_rfl
theorem h_new : fnP P 27 0 = some (p_new z 51) := by kernel_rfl
theorem h_def : Sg.TT.defs 51 = some ds := by kernel_rfl
theorem h_ds : (decide (0 < z.length) && ds.all (fun d => decide (d.1 < z.length))) = true := by kernel_rfl
theorem h_mx : fnP P 28 1 = some (p_maxV ((0 : Nat) : Int)) := by kernel_rfl
theorem h_again : fnP P 16 2 = some (p_again Sg.IJ.e8 27 30 31 32) := by kernel_rfl
theorem h_set : fnP P 30 2 = some Mr.p_set := by kernel_rfl
theorem h_read : fnP P 31 2 = some (p_read 60) := by kernel_rfl
theorem h_r : msgR P Sg.TT 60 (setD 0 ds z) 0 s_PushTelemetryRequest = true := by kernel_rfl
theorem h_w : msgW P Sg.WW 32 (setD 0 ds z) 0 s_PushTelemetryRequest = true := by kernel_rfl
theorem h_wf : ((List.range (0 + 1)).all fun v => wfF (s_PushTelemetryRequest v)) = true := by kernel_rfl

noncomputable def fl : Sp.Fl := ((Sp.msgC P 16 14).map (·.1)).getD .nil
theorem h_msg : Sp.msgC P 16 14 = some (fl, 0) := by kernel_rfl
theorem h_zz : fnP P 11 1 = some (Sp.q_zzFits2 Sg.SJ) := by kernel_rfl
theorem h_ok : (Sp.okFl fl && decide (fl.len ≤ 32767)) = true := by kernel_rfl
theorem h_fit : ((List.range (0 + 1)).all fun v => Sp.fitF (v : Int) (Sp.isFlex 0 (v : Int)) fl (s_PushTelemetryRequest v)) = true := by kernel_rfl
theorem h_lim : ((List.range (0 + 1)).all fun v => decide (Sp.mxF (v : Int) (Sp.isFlex 0 (v : Int)) fl + 1074004164 ≤ 140737488355328)) = true := by kernel_rfl
theorem h_law : Sp.Law P Sg.SJ Sg.IJ.e8 Sg.IJ.err 11 12 14 15 16 fl 0 0 s_PushTelemetryRequest :=
  Sp.law_of Sg.fns Sg.TT_ok Sg.WW_ok h_zz h_ver h_max h_new h_def h_ds h_mx (by omega) h_again h_set h_read h_r h_w h_wf h_msg h_ok h_fit

/-- The walk. -/
theorem walk (a0 : Int) (w0 : (Lit.int .u8 a0).wf = true) (a2 : Int) (w2 : (Lit.int .u16 a2).wf = true) {w : World} {cs : List Value} {t : Sp.Tr} {et : TypeId} {ev : Value} (ht : Sp.RepTr w cs t) (herr : w.cell? ⟨Sg.IJ.err, 0, none⟩ = some (.iface et ev)) :
    Calls Tryd.prog 4 #[.int .u8 a0, .agg cs.toArray, .int .u16 a2] w fun e w' => e = .returned (.bool true) ∧ Below w.heap.size w w' := by
  have hx : 0 ≤ a0 ∧ a0 ≤ 255 := by simpa [Lit.wf, IntKind.min, IntKind.max, IntKind.signed, IntKind.bits] using w0
  have ha : ((a0.toNat : Nat) : Int) = a0 := by omega
  have hx2 : 0 ≤ a2 ∧ a2 ≤ 65535 := by simpa [Lit.wf, IntKind.min, IntKind.max, IntKind.signed, IntKind.bits] using w2
  have ha2 : ((a2.toNat : Nat) : Int) = a2 := by omega
  have h : In.wp P (.call 4) [.int .u8 ((a0.toNat : Nat) : Int), .agg cs.toArray, .int .u16 ((a2.toNat : Nat) : Int)] w fun v w' => v = .bool true ∧ Keep [] w w' :=
    Sp.law_cut h_law h_f (n := a0.toNat) (by omega) (at' := a2.toNat) (by omega) ht (fun v hv => Sp.lim_max h_lim t v hv) herr fun w' k => ⟨rfl, k⟩
  rw [ha, ha2] at h
  refine Calls.mono h fun ev' w' hev => ?_
  match ev', hev with
  | .returned v, hev => exact ⟨by rw [hev.1], hev.2.below (fun x hx => by cases hx) (Nat.le_refl _)⟩

theorem own : ownKnob Tryd.prog.godebug = none := by kernel_rfl
theorem laidOut : laidOutB Tryd.prog = true := by kernel_rfl

theorem rowE (u : TypeId) (h : Tryd.prog.typeName? 3 u = some "*errors.errorString") : u = 189 :=
  typeName_ptr_named (nm := "errors.errorString") (by rw [show "*" ++ "errors.errorString" = "*errors.errorString" by decide]; kernel_rfl) (by kernel_rfl) (by decide) u (by rw [show "*" ++ "errors.errorString" = "*errors.errorString" by decide]; exact h)

/-- The error's variable. -/
theorem of_laid {W : World} (h : laidMetH Tryd.prog Rows.fnCutPushTelemetryRequestRow.laid W) : ∃ (et : TypeId) (ev : Value), W.cell? ⟨Sg.IJ.err, 0, none⟩ = some (.iface et ev) := by
  rw [MakeChecks.laidMetH_plain _ _ _ (by kernel_rfl)] at h
  obtain ⟨a, s, hv, _⟩ := laid_sentinel h (show Tryd.prog.globalNamed "pub-kmsg/pub/kmsg/inner/kbin.ErrNotEnoughData" = some 1 by kernel_rfl) (show (Tryd.prog.globals[1]?).map (·.type) = some 49 by kernel_rfl) Tryd.underlying49 rowE Tryd.underlying189 Tryd.underlying206 rfl rfl Tryd.underlying9 (by kernel_rfl) (by kernel_rfl)
  have h0 : W.cell? ⟨1, 0, none⟩ = some (.iface 189 (.pointer (some a))) := by
    have := World.var?_cell (show Tryd.prog.globalNamed "pub-kmsg/pub/kmsg/inner/kbin.ErrNotEnoughData" = some 1 by kernel_rfl) hv 0
    simpa using this
  exact ⟨_, _, h0⟩

noncomputable def fsT : Array Go.Field := match P.underlying 33 with | some (.struct fs) => fs | _ => #[]
noncomputable def fsG : Array Go.Field := match P.underlying 79 with | some (.struct fs) => fs | _ => #[]
theorem ty : Sp.TyOk P 33 2 22 5 4 30 31 79 77 fsT fsG :=
  ⟨by kernel_rfl, by kernel_rfl, by kernel_rfl, by kernel_rfl, by kernel_rfl, by kernel_rfl, by kernel_rfl, by kernel_rfl, by kernel_rfl, by kernel_rfl, by kernel_rfl, by kernel_rfl, by kernel_rfl, by kernel_rfl⟩

/-- The measure that the rows give. -/
theorem meas (H : Type) : Sp.Meas (H := H) Rows.uptoBulk Rows.uptoBulkAll := by
  refine ⟨fun d => ?_, fun es sp => ?_, fun ps => ?_, ?_, fun d r => ?_⟩
  · cases d with
    | lit l => cases l <;> simp [Rows.uptoBulk]
    | _ => simp [Rows.uptoBulk]
  · simp only [Rows.uptoBulk]; omega
  · simp only [Rows.uptoBulk]; omega
  · simp only [Rows.uptoBulkAll]
  · simp only [Rows.uptoBulkAll]

theorem door_met (os : Os) (args : Array Value) : laidMetH Tryd.prog Rows.fnCutPushTelemetryRequestRow.laid ((World.doorLaid Tryd.prog 400 os).forCall (fun _ _ => 0) ⟨#[], args, []⟩).memory :=
  laidMetH_of_parts3 (fuel := 8) (laidMet_of_run' 8 (by kernel_rfl) (by kernel_rfl)) (by kernel_rfl) (by kernel_rfl)

theorem reads (os : Os) {H : Type} (enc : TypeId × Value → H) : ∃ places, DataW.whole enc Tryd.prog ((World.doorLaid Tryd.prog 400 os).forCall (fun _ _ => 0) ⟨#[], #[.int .u8 0, .agg #[.int .i64 0, .slice none 0 0, .bool false, .slice none 0 0, .slice none 0 0], .int .u16 0], []⟩).memory Tryd.f4.params.toList Rows.fnCutPushTelemetryRequestSpec.vars false #[Value.int .u8 0, .agg #[.int .i64 0, .slice none 0 0, .bool false, .slice none 0 0, .slice none 0 0], .int .u16 0].toList 8 = some ([.lit (.int .u8 0), .agg [.lit (.int .i64 0), .nil, .lit (.bool false), .nil, .nil], .lit (.int .u16 0)], [], places) :=
  ⟨[], by kernel_rfl⟩

set_option maxRecDepth 100000 in
theorem lifted (os : Os) (started : os.Started) (H : Type) (enc : TypeId × Value → H) (Fi : Stop.Interp) :
    ReturnsInHanded {} Tryd.checked os 4 .any ((OpenSpec.ofChange Rows.fnCutPushTelemetryRequestSpec).preRow enc Tryd.prog Tryd.f4 Rows.fnCutPushTelemetryRequestRow.domain false Rows.fnCutPushTelemetryRequestRow.laid) (((OpenSpec.ofChange Rows.fnCutPushTelemetryRequestSpec).at Fi).post enc Tryd.prog Tryd.f4 false true false false) := by
  obtain ⟨places, hx⟩ := reads os enc
  refine returnsInHanded_of_row (C := Tryd.checked) (s := OpenSpec.ofChange Rows.fnCutPushTelemetryRequestSpec) own started (by kernel_rfl) Tryd.func4
    (witness_row_atRef (enc := enc) (C := Tryd.checked) false (World.doorLaid Tryd.prog 400 os) #[.int .u8 0, .agg #[.int .i64 0, .slice none 0 0, .bool false, .slice none 0 0, .slice none 0 0], .int .u16 0] rfl (by kernel_rfl) (by kernel_rfl) (by kernel_rfl)
      (OpenSpec.preRow_of_cond 8 hx (by kernel_rfl) (fun k hk => by cases hk) (by kernel_rfl) (door_met os _))) ?_
  intro W base args ds gs before hval0 hW _ hcond _ hL _ _
  have hval : ∀ (j : Nat) t v, Tryd.f4.params[j]? = some t → args[j]? = some v → Value.okWide Tryd.prog W .any base t v := hval0
  have hW' := hW
  obtain ⟨p, q, hA0, hV, rfl, hfz, hnd⟩ := hW
  have hA : DataW.TrodAll enc Tryd.prog W 0 (fun _ => true) true Tryd.f4.params.toList args.toList ds p := hA0
  rw [Tryd.params4] at hA hval
  obtain ⟨v0, vs0, d0, ds0, p0, q0, hargs, rfl, rfl, h0, r0⟩ := trodAll_cons hA
  obtain ⟨v1, vs1, d1, ds1, p1, q1, hargs1, rfl, rfl, h1, r1⟩ := trodAll_cons r0
  obtain ⟨v2, vs2, d2, ds2, p2, q2, hargs2, rfl, rfl, h2, r2⟩ := trodAll_cons r1
  obtain ⟨rfl, rfl, rfl⟩ := trodAll_nil r2
  obtain rfl : args = #[v0, v1, v2] := by cases args; simp_all
  obtain ⟨rfl, rfl⟩ := trodVars_none hV
  obtain ⟨cs1, rfl, _⟩ := okWide_struct (by kernel_rfl : Tryd.prog.underlying 33 = some (.struct fsT)) (hval 1 33 v1 rfl rfl)
  obtain ⟨a0, rfl, rfl, rfl, w0⟩ := open_int Tryd.underlying5 (hval 0 5 v0 rfl rfl) h0
  obtain ⟨a2, rfl, rfl, rfl, w2⟩ := open_int Tryd.underlying36 (hval 2 36 v2 rfl rfl) h2
  obtain ⟨fuel, htrod⟩ := id h1
  obtain ⟨t, ht, htb⟩ := Sp.open_tree ty (meas H) fuel _ _ htrod
  obtain ⟨et, ev, herr⟩ := of_laid hL
  clear hA0 hval0
  simp only [List.append_nil] at hW'
  have hlt : ∀ x ∈ p1, x.block < W.heap.size := fun x hx => by simpa using hW'.lt x (by simpa using hx)
  have ht' : Sp.RepTr W cs1.toList t := by simpa [Value.cells] using ht
  have hwalk := walk a0 w0 a2 w2 ht' herr
  rw [show cs1.toList.toArray = cs1 by simp] at hwalk
  refine hwalk.mono fun e W' ⟨he, hg⟩ => ?_
  subst he
  exact ⟨_, rfl, _, _, _, [], _, [], hW', (trodAll_cons_mk (shut_bool Tryd.underlying4 _) trodAll_mk0), (trodAll_cons_mk (shut_int Tryd.underlying5 w0) (trodAll_cons_mk (Below.trod laidOut (by kernel_rfl) (of_decide_eq_true (by kernel_rfl)) h1 hg hlt) (trodAll_cons_mk (shut_int Tryd.underlying36 w2) trodAll_mk0))), rfl, hg.frame _, fun h => by cases h⟩

theorem over : Rows.fnCutPushTelemetryRequestRow.holds Tryd.pinned (OpenSpec.ofChange Rows.fnCutPushTelemetryRequestSpec) :=
  OpenClaim.holds_of_cond 4 Tryd.f4 rfl rfl rfl rfl rfl rfl rfl ⟨rfl, rfl, rfl, rfl, rfl⟩ rfl rfl rfl rfl rfl (by kernel_rfl) Tryd.func4 (by kernel_rfl)
    (of_decide_eq_true (by kernel_rfl)) (by unfold Func.isWrapper; first | (rw [if_pos (by decide +kernel)]; kernel_rfl) | (rw [if_neg (by decide +kernel)]; exact ⟨rfl, rfl⟩))
    (fun os started H enc _ Fi => by rw [OpenClaim.pre_eq_preRow]; exact lifted os started H enc Fi)

/-- The statement. -/
theorem proved : Rows.FnCutPushTelemetryRequestCardSaid :=
  Claim7.holds_tied_plain_at .later [] [.sentinel] true (true, "cd0d54a989250fcd7dc5c7fe23b2df76e975b451f65ff6d344efc21fe4a4e185") false
    over (fun _ h => by cases h) (by kernel_rfl) (fun _ h => by cases h) fnCutPushTelemetryRequest_row_tie rfl ⟨rfl, rfl⟩ (by kernel_rfl) rfl
    (fun f fn hf hfn => by
      obtain rfl : f = 4 := Option.some.inj ((show Tryd.prog.funcNamed "pub-kmsg/laws.FnCutPushTelemetryRequest" = some 4 by kernel_rfl).symm.trans hf) |>.symm
      obtain rfl : fn = Tryd.f4 := (Option.some.inj (Tryd.func4.symm.trans hfn)).symm
      exact ⟨by kernel_rfl, fun j t ht => by
        rw [Tryd.params4] at ht
        have hm : t ∈ [5, 33, 36] := by simpa using Array.mem_of_getElem? ht
        have hall : ([5, 33, 36].all fun u => !Tryd.prog.wantsStandIn u) = true := by kernel_rfl
        exact (show Tryd.prog.wantsStandIn t = false by simpa using List.all_eq_true.1 hall t hm)⟩)
    (by kernel_rfl)
#print axioms proved
end Go.Proofs.YtlbojjkfjhnaaaaDoor.fnCutPushTelemetryRequest
