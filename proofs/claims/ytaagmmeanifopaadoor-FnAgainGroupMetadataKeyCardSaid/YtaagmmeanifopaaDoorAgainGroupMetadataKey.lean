/- The law FnAgainGroupMetadataKey: what the reference writes of a tree as a kept thing is read, and written back octet by octet. It holds for every number (an octet) and tree; no further condition. -/
import Derived.Test.YtaagmmeanifopaaDoorSg
import Derived.Test.YtaagmmeanifopaaDoorCards
import Derived.Test.YtaagmmeanifopaaDoorTie
import Derived.WalkKit
import Derived.ProofKit
import Derived.OpenShut
import Derived.Carry
import Derived.LaidMore
import Derived.Stop.LaidErr
import Derived.SevenTiedAt
import Derived.Deep.DeepHandedRow
import Derived.Deep.DeepWitnessRowRef
import Derived.Stop.Joined
namespace Go.Proofs.YtaagmmeanifopaaDoor.fnAgainGroupMetadataKey
open Go Go.ChangeShapes Go.WideShapes Go.ChangeAt Go.RowKit
open Go.Lx Go.Nx Go.Km Go.Mx Go.Kb Go.Mr
set_option linter.unusedVariables false
set_option maxRecDepth 100000

noncomputable abbrev P : Program := Tryd.prog

def s_GroupMetadataKey (v : Nat) : Fs := fld (true) 1 (.prim (.str (false))) <| .nil

noncomputable def z : List Value := [.int .i16 0, .string ByteArray.empty]
theorem h_zz : fnP P 8 1 = some (Sp.q_zzFits2 Sg.SJ) := by kernel_rfl
noncomputable def ds : List (Nat × Value) := (defC P 54).getD []
theorem h_f : fnP P 3 2 = some (Sp.p_fnAgainK 8 10 9 11 12 ((3 : Nat) : Int)) := by kernel_rfl
theorem h_same : fnP P 12 2 = some p_same := by kernel_rfl
theorem h_kept : fnP P 9 3 = some (Sp.q_kept Sg.SJ) := by kernel_rfl
theorem h_new : fnP P 29 0 = some (Sp.p_newK z z.length 54) := by kernel_rfl
theorem h_def : Sg.TT.defs 54 = some ds := by kernel_rfl
theorem h_ds : (ds.all (fun d => decide (d.1 < z.length)) && (setD 0 ds z).all (·.oneCell')) = true := by kernel_rfl
theorem h_again : fnP P 11 1 = some (Sp.p_againK Sg.IJ.e8 z z.length 29 30 31) := by kernel_rfl
theorem h_read : fnP P 30 2 = some (p_read 55) := by kernel_rfl
theorem h_r : rdC P Sg.TT 55 (fun p => topR Sg.TT (.cons 0 (.prim .i16) (s_GroupMetadataKey 0)) 0 (setD 0 ds z) false p) = true := by kernel_rfl
theorem h_w : wrC P 31 (fun p => topW Sg.WW (.cons 0 (.prim .i16) (s_GroupMetadataKey 0)) (knownC 0 z) p) = true := by kernel_rfl
theorem h_wf : wfF (s_GroupMetadataKey 0) = true := by kernel_rfl
noncomputable def fl : Sp.Fl := ((Sp.msgC P 16 10).map (·.1)).getD .nil
theorem h_msg : Sp.msgC P 16 10 = some (fl, (-1)) := by kernel_rfl
theorem h_ok : (Sp.okFl fl && decide (fl.len ≤ 32767)) = true := by kernel_rfl
theorem h_fit : ((List.range 3).all fun v => Sp.fitF (v : Int) (Sp.isFlex (-1) (v : Int)) fl (s_GroupMetadataKey 0)) = true := by kernel_rfl
theorem h_lim : ((List.range 3).all fun v => decide (Sp.mxF (v : Int) (Sp.isFlex (-1) (v : Int)) fl + 1074004166 ≤ 140737488355328)) = true := by kernel_rfl
theorem h_law : Sp.LawK P Sg.SJ Sg.IJ.e8 Sg.IJ.err 10 9 11 fl (-1) 3 (s_GroupMetadataKey 0) :=
  Sp.lawK_of Sg.fns Sg.TT_ok Sg.WW_ok h_kept h_again h_new h_def h_ds h_read h_r h_w h_wf h_msg h_ok (by omega) h_fit
theorem lim (t : Sp.Tr) (v : Nat) (hv : v < 3) : (Sp.partB (v : Int) (Sp.isFlex (-1) (v : Int)) fl t).length + 2 ≤ Kb.lim := by
  have h1 := List.all_eq_true.1 h_lim v (by simpa using hv)
  have h2 := Sp.partB_max (v : Int) (Sp.isFlex (-1) (v : Int)) fl t
  simp only [decide_eq_true_eq] at h1
  unfold Kb.lim
  omega

/-- The walk. -/
theorem walk (a0 : Int) (w0 : (Lit.int .u8 a0).wf = true) {w : World} {cs : List Value} {t : Sp.Tr} {et : TypeId} {ev : Value} (ht : Sp.RepTr w cs t) (herr : w.cell? ⟨Sg.IJ.err, 0, none⟩ = some (.iface et ev)) :
    Calls Tryd.prog 3 #[.int .u8 a0, .agg cs.toArray] w fun e w' => e = .returned (.bool true) ∧ Below w.heap.size w w' := by
  have hx : 0 ≤ a0 ∧ a0 ≤ 255 := by simpa [Lit.wf, IntKind.min, IntKind.max, IntKind.signed, IntKind.bits] using w0
  have ha : ((a0.toNat : Nat) : Int) = a0 := by omega
  have h : In.wp P (.call 3) [.int .u8 ((a0.toNat : Nat) : Int), .agg cs.toArray] w fun v w' => v = .bool true ∧ Keep [] w w' :=
    Sp.law_againK h_law h_zz h_f h_same (n := a0.toNat) (by omega) ht (fun v hv => lim t v hv) herr fun w' k => ⟨rfl, k⟩
  rw [ha] at h
  refine Calls.mono h fun ev' w' hev => ?_
  match ev', hev with
  | .returned v, hev => exact ⟨by rw [hev.1], hev.2.below (fun x hx => by cases hx) (Nat.le_refl _)⟩

theorem own : ownKnob Tryd.prog.godebug = none := by kernel_rfl
theorem laidOut : laidOutB Tryd.prog = true := by kernel_rfl

theorem rowE (u : TypeId) (h : Tryd.prog.typeName? 3 u = some "*errors.errorString") : u = 162 :=
  typeName_ptr_named (nm := "errors.errorString") (by rw [show "*" ++ "errors.errorString" = "*errors.errorString" by decide]; kernel_rfl) (by kernel_rfl) (by decide) u (by rw [show "*" ++ "errors.errorString" = "*errors.errorString" by decide]; exact h)

/-- The error's variable. -/
theorem of_laid {W : World} (h : laidMetH Tryd.prog Rows.fnAgainGroupMetadataKeyRow.laid W) : ∃ (et : TypeId) (ev : Value), W.cell? ⟨Sg.IJ.err, 0, none⟩ = some (.iface et ev) := by
  rw [MakeChecks.laidMetH_plain _ _ _ (by kernel_rfl)] at h
  obtain ⟨a, s, hv, _⟩ := laid_sentinel h (show Tryd.prog.globalNamed "pub-kmsg/pub/kmsg/inner/kbin.ErrNotEnoughData" = some 1 by kernel_rfl) (show (Tryd.prog.globals[1]?).map (·.type) = some 51 by kernel_rfl) Tryd.underlying51 rowE Tryd.underlying162 Tryd.underlying180 rfl rfl Tryd.underlying9 (by kernel_rfl) (by kernel_rfl)
  have h0 : W.cell? ⟨1, 0, none⟩ = some (.iface 162 (.pointer (some a))) := by
    have := World.var?_cell (show Tryd.prog.globalNamed "pub-kmsg/pub/kmsg/inner/kbin.ErrNotEnoughData" = some 1 by kernel_rfl) hv 0
    simpa using this
  exact ⟨_, _, h0⟩

noncomputable def fsT : Array Go.Field := match P.underlying 26 with | some (.struct fs) => fs | _ => #[]
noncomputable def fsG : Array Go.Field := match P.underlying 67 with | some (.struct fs) => fs | _ => #[]
theorem ty : Sp.TyOk P 26 2 22 5 4 23 24 67 65 fsT fsG :=
  ⟨by kernel_rfl, by kernel_rfl, by kernel_rfl, by kernel_rfl, by kernel_rfl, by kernel_rfl, by kernel_rfl, by kernel_rfl, by kernel_rfl, by kernel_rfl, by kernel_rfl, by kernel_rfl, by kernel_rfl, by kernel_rfl⟩

/-- The measure that the rows give. -/
theorem meas (H : Type) : Sp.Meas (H := H) Rows.uptoBulk Rows.uptoBulkAll := by
  refine ⟨fun d => ?_, fun es sp => ?_, fun ps => ?_, ?_, fun d r => ?_⟩
  · cases d with
    | lit l => cases l <;> simp [Rows.uptoBulk]
    | _ => simp [Rows.uptoBulk]
  · simp only [Rows.uptoBulk]; omega
  · simp only [Rows.uptoBulk]; omega
  · simp only [Rows.uptoBulkAll]
  · simp only [Rows.uptoBulkAll]

theorem door_met (os : Os) (args : Array Value) : laidMetH Tryd.prog Rows.fnAgainGroupMetadataKeyRow.laid ((World.doorLaid Tryd.prog 400 os).forCall (fun _ _ => 0) ⟨#[], args, []⟩).memory :=
  laidMetH_of_parts3 (fuel := 8) (laidMet_of_run' 8 (by kernel_rfl) (by kernel_rfl)) (by kernel_rfl) (by kernel_rfl)

theorem reads (os : Os) {H : Type} (enc : TypeId × Value → H) : ∃ places, DataW.whole enc Tryd.prog ((World.doorLaid Tryd.prog 400 os).forCall (fun _ _ => 0) ⟨#[], #[.int .u8 0, .agg #[.int .i64 0, .slice none 0 0, .bool false, .slice none 0 0, .slice none 0 0]], []⟩).memory Tryd.f3.params.toList Rows.fnAgainGroupMetadataKeySpec.vars false #[Value.int .u8 0, .agg #[.int .i64 0, .slice none 0 0, .bool false, .slice none 0 0, .slice none 0 0]].toList 8 = some ([.lit (.int .u8 0), .agg [.lit (.int .i64 0), .nil, .lit (.bool false), .nil, .nil]], [], places) :=
  ⟨[], by kernel_rfl⟩

set_option maxRecDepth 100000 in
theorem lifted (os : Os) (started : os.Started) (H : Type) (enc : TypeId × Value → H) (Fi : Stop.Interp) :
    ReturnsInHanded {} Tryd.checked os 3 .any ((OpenSpec.ofChange Rows.fnAgainGroupMetadataKeySpec).preRow enc Tryd.prog Tryd.f3 Rows.fnAgainGroupMetadataKeyRow.domain false Rows.fnAgainGroupMetadataKeyRow.laid) (((OpenSpec.ofChange Rows.fnAgainGroupMetadataKeySpec).at Fi).post enc Tryd.prog Tryd.f3 false true false false) := by
  obtain ⟨places, hx⟩ := reads os enc
  refine returnsInHanded_of_row (C := Tryd.checked) (s := OpenSpec.ofChange Rows.fnAgainGroupMetadataKeySpec) own started (by kernel_rfl) Tryd.func3
    (witness_row_atRef (enc := enc) (C := Tryd.checked) false (World.doorLaid Tryd.prog 400 os) #[.int .u8 0, .agg #[.int .i64 0, .slice none 0 0, .bool false, .slice none 0 0, .slice none 0 0]] rfl (by kernel_rfl) (by kernel_rfl) (by kernel_rfl)
      (OpenSpec.preRow_of_cond 8 hx (by kernel_rfl) (fun k hk => by cases hk) (by kernel_rfl) (door_met os _))) ?_
  intro W base args ds gs before hval0 hW _ hcond _ hL _ _
  have hval : ∀ (j : Nat) t v, Tryd.f3.params[j]? = some t → args[j]? = some v → Value.okWide Tryd.prog W .any base t v := hval0
  have hW' := hW
  obtain ⟨p, q, hA0, hV, rfl, hfz, hnd⟩ := hW
  have hA : DataW.TrodAll enc Tryd.prog W 0 (fun _ => true) true Tryd.f3.params.toList args.toList ds p := hA0
  rw [Tryd.params3] at hA hval
  obtain ⟨v0, vs0, d0, ds0, p0, q0, hargs, rfl, rfl, h0, r0⟩ := trodAll_cons hA
  obtain ⟨v1, vs1, d1, ds1, p1, q1, hargs1, rfl, rfl, h1, r1⟩ := trodAll_cons r0
  obtain ⟨rfl, rfl, rfl⟩ := trodAll_nil r1
  obtain rfl : args = #[v0, v1] := by cases args; simp_all
  obtain ⟨rfl, rfl⟩ := trodVars_none hV
  obtain ⟨cs1, rfl, _⟩ := okWide_struct (by kernel_rfl : Tryd.prog.underlying 26 = some (.struct fsT)) (hval 1 26 v1 rfl rfl)
  obtain ⟨a0, rfl, rfl, rfl, w0⟩ := open_int Tryd.underlying5 (hval 0 5 v0 rfl rfl) h0
  obtain ⟨fuel, htrod⟩ := id h1
  obtain ⟨t, ht, htb⟩ := Sp.open_tree ty (meas H) fuel _ _ htrod
  obtain ⟨et, ev, herr⟩ := of_laid hL
  clear hA0 hval0
  simp only [List.append_nil] at hW'
  have hlt : ∀ x ∈ p1, x.block < W.heap.size := fun x hx => by simpa using hW'.lt x (by simpa using hx)
  have ht' : Sp.RepTr W cs1.toList t := by simpa [Value.cells] using ht
  have hwalk := walk a0 w0 ht' herr
  rw [show cs1.toList.toArray = cs1 by simp] at hwalk
  refine hwalk.mono fun e W' ⟨he, hg⟩ => ?_
  subst he
  exact ⟨_, rfl, _, _, _, [], _, [], hW', (trodAll_cons_mk (shut_bool Tryd.underlying4 _) trodAll_mk0), (trodAll_cons_mk (shut_int Tryd.underlying5 w0) (trodAll_cons_mk (Below.trod laidOut (by kernel_rfl) (of_decide_eq_true (by kernel_rfl)) h1 hg hlt) trodAll_mk0)), rfl, hg.frame _, fun h => by cases h⟩

theorem over : Rows.fnAgainGroupMetadataKeyRow.holds Tryd.pinned (OpenSpec.ofChange Rows.fnAgainGroupMetadataKeySpec) :=
  OpenClaim.holds_of_cond 3 Tryd.f3 rfl rfl rfl rfl rfl rfl rfl ⟨rfl, rfl, rfl, rfl, rfl⟩ rfl rfl rfl rfl rfl (by kernel_rfl) Tryd.func3 (by kernel_rfl)
    (of_decide_eq_true (by kernel_rfl)) (by unfold Func.isWrapper; first | (rw [if_pos (by decide +kernel)]; kernel_rfl) | (rw [if_neg (by decide +kernel)]; exact ⟨rfl, rfl⟩))
    (fun os started H enc _ Fi => by rw [OpenClaim.pre_eq_preRow]; exact lifted os started H enc Fi)

/-- The statement. -/
theorem proved : Rows.FnAgainGroupMetadataKeyCardSaid :=
  Claim7.holds_tied_plain_at .later [] [.sentinel] true (true, "85d29c096a926c1035090538cbf9cecb604160919f0dc0bfe5bc7a81753480e1") false
    over (fun _ h => by cases h) (by kernel_rfl) (fun _ h => by cases h) fnAgainGroupMetadataKey_row_tie rfl ⟨rfl, rfl⟩ (by kernel_rfl) rfl
    (fun f fn hf hfn => by
      obtain rfl : f = 3 := Option.some.inj ((show Tryd.prog.funcNamed "pub-kmsg/laws.FnAgainGroupMetadataKey" = some 3 by kernel_rfl).symm.trans hf) |>.symm
      obtain rfl : fn = Tryd.f3 := (Option.some.inj (Tryd.func3.symm.trans hfn)).symm
      exact ⟨by kernel_rfl, fun j t ht => by
        rw [Tryd.params3] at ht
        have hm : t ∈ [5, 26] := by simpa using Array.mem_of_getElem? ht
        have hall : ([5, 26].all fun u => !Tryd.prog.wantsStandIn u) = true := by kernel_rfl
        exact (show Tryd.prog.wantsStandIn t = false by simpa using List.all_eq_true.1 hall t hm)⟩)
    (by kernel_rfl)
#print axioms proved
end Go.Proofs.YtaagmmeanifopaaDoor.fnAgainGroupMetadataKey
