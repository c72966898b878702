/- The law FnAgainDescribeGroupsResponse: what the reference writes of a tree as a message is read, and written back octet by octet. It holds for every number (an octet) and tree, where what comes in is of bulk at most 1048576 (the second form); no further condition. -/
import Derived.Test.YtlbojjkfjhnaaaaGreatDoorSg
import Derived.Test.YtlbojjkfjhnaaaaGreatDoorCards
import Derived.Test.YtlbojjkfjhnaaaaGreatDoorTie
import Derived.WalkKit
import Derived.ProofKit
import Derived.OpenShut
import Derived.Carry
import Derived.LaidMore
import Derived.Stop.LaidErr
import Derived.SevenTiedAt
import Derived.Deep.DeepHandedRow
import Derived.Deep.DeepWitnessRowRef
import Derived.Stop.Joined
namespace Go.Proofs.YtlbojjkfjhnaaaaGreatDoor.fnAgainDescribeGroupsResponse
open Go Go.ChangeShapes Go.WideShapes Go.ChangeAt Go.RowKit
open Go.Lx Go.Nx Go.Km Go.Mx Go.Kb Go.Mr
set_option linter.unusedVariables false
set_option maxRecDepth 100000

noncomputable abbrev P : Program := Tryz.prog

def s_DescribeGroupsResponseGroupMember (v : Nat) : Fs := fld (true) 0 (.prim (.str (decide (5 ≤ v)))) <| fld (decide (4 ≤ v)) 1 (.prim (.nstr (decide (5 ≤ v)))) <| fld (true) 2 (.prim (.str (decide (5 ≤ v)))) <| fld (true) 3 (.prim (.str (decide (5 ≤ v)))) <| fld (true) 4 (.prim (.byt (decide (5 ≤ v)))) <| fld (true) 5 (.prim (.byt (decide (5 ≤ v)))) <| endT (decide (5 ≤ v)) 6
def s_DescribeGroupsResponseGroup (v : Nat) : Fs := fld (true) 0 (.prim (.i16)) <| fld (decide (6 ≤ v)) 1 (.prim (.nstr (decide (5 ≤ v)))) <| fld (true) 2 (.prim (.str (decide (5 ≤ v)))) <| fld (true) 3 (.prim (.str (decide (5 ≤ v)))) <| fld (true) 4 (.prim (.str (decide (5 ≤ v)))) <| fld (true) 5 (.prim (.str (decide (5 ≤ v)))) <| fld (true) 6 (.arr (decide (5 ≤ v)) 7 (.str (s_DescribeGroupsResponseGroupMember v))) <| fld (decide (3 ≤ v)) 7 (.prim (.i32)) <| endT (decide (5 ≤ v)) 8
def s_DescribeGroupsResponse (v : Nat) : Fs := fld (decide (1 ≤ v)) 1 (.prim (.i32)) <| fld (true) 2 (.arr (decide (5 ≤ v)) 9 (.str (s_DescribeGroupsResponseGroup v))) <| endT (decide (5 ≤ v)) 3

noncomputable def z : List Value := [.int .i16 0, .int .i32 0, .slice none 0 0, .map none]
noncomputable def ds : List (Nat × Value) := (defC P 103).getD []
theorem h_f : fnP P 7 2 = some (Sp.p_fnAgain 9 24 25 16 Sg.SJ.write 26 27) := by kernel_rfl
theorem h_ver : fnP P 16 2 = some p_version := by kernel_rfl
theorem h_same : fnP P 27 2 = some p_same := by kernel_rfl
theorem h_max : fnP P 24 0 = some (p_max 57 58) := by kernel_rfl
theorem h_new : fnP P 57 0 = some (p_new z 103) := by kernel_rfl
theorem h_def : Sg.TT.defs 103 = some ds := by kernel_rfl
theorem h_ds : (decide (0 < z.length) && ds.all (fun d => decide (d.1 < z.length))) = true := by kernel_rfl
theorem h_mx : fnP P 58 1 = some (p_maxV ((6 : Nat) : Int)) := by kernel_rfl
theorem h_again : fnP P 26 2 = some (p_again Sg.IJ.e8 57 60 61 62) := by kernel_rfl
theorem h_set : fnP P 60 2 = some Mr.p_set := by kernel_rfl
theorem h_read : fnP P 61 2 = some (p_read 105) := by kernel_rfl
theorem h_r : msgR P Sg.TT 105 (setD 0 ds z) 6 s_DescribeGroupsResponse = true := by kernel_rfl
theorem h_w : msgW P Sg.WW 62 (setD 0 ds z) 6 s_DescribeGroupsResponse = true := by kernel_rfl
theorem h_wf : ((List.range (6 + 1)).all fun v => wfF (s_DescribeGroupsResponse v)) = true := by kernel_rfl

noncomputable def fl : Sp.Fl := ((Sp.msgC P 16 25).map (·.1)).getD .nil
theorem h_msg : Sp.msgC P 16 25 = some (fl, 5) := by kernel_rfl
theorem h_zz : fnP P 9 1 = some (Sp.q_zzFits2 Sg.SJ) := by kernel_rfl
theorem h_ok : (Sp.okFl fl && decide (fl.len ≤ 32767)) = true := by kernel_rfl
theorem h_fit : ((List.range (6 + 1)).all fun v => Sp.fitF (v : Int) (Sp.isFlex 5 (v : Int)) fl (s_DescribeGroupsResponse v)) = true := by kernel_rfl
theorem h_lim : decide ((Sp.wtF fl + 10) * 1048576 ≤ 140737488355328) = true := by kernel_rfl
theorem h_law : Sp.Law P Sg.SJ Sg.IJ.e8 Sg.IJ.err 9 24 25 16 26 fl 5 6 s_DescribeGroupsResponse :=
  Sp.law_of Sg.fns Sg.TT_ok Sg.WW_ok h_zz h_ver h_max h_new h_def h_ds h_mx (by omega) h_again h_set h_read h_r h_w h_wf h_msg h_ok h_fit

/-- The walk. -/
theorem walk (a0 : Int) (w0 : (Lit.int .u8 a0).wf = true) {w : World} {cs : List Value} {t : Sp.Tr} {et : TypeId} {ev : Value} (ht : Sp.RepTr w cs t) (hb : t.bulk ≤ 1048576) (herr : w.cell? ⟨Sg.IJ.err, 0, none⟩ = some (.iface et ev)) :
    Calls Tryz.prog 7 #[.int .u8 a0, .agg cs.toArray] w fun e w' => e = .returned (.bool true) ∧ Below w.heap.size w w' := by
  have hx : 0 ≤ a0 ∧ a0 ≤ 255 := by simpa [Lit.wf, IntKind.min, IntKind.max, IntKind.signed, IntKind.bits] using w0
  have ha : ((a0.toNat : Nat) : Int) = a0 := by omega
  have h : In.wp P (.call 7) [.int .u8 ((a0.toNat : Nat) : Int), .agg cs.toArray] w fun v w' => v = .bool true ∧ Keep [] w w' :=
    Sp.law_again h_law h_f h_same (n := a0.toNat) (by omega) ht (fun v hv => Sp.lim_bulk h_lim hb v hv) herr fun w' k => ⟨rfl, k⟩
  rw [ha] at h
  refine Calls.mono h fun ev' w' hev => ?_
  match ev', hev with
  | .returned v, hev => exact ⟨by rw [hev.1], hev.2.below (fun x hx => by cases hx) (Nat.le_refl _)⟩

theorem own : ownKnob Tryz.prog.godebug = none := by kernel_rfl
theorem laidOut : laidOutB Tryz.prog = true := by kernel_rfl

theorem rowE (u : TypeId) (h : Tryz.prog.typeName? 3 u = some "*errors.errorString") : u = 249 :=
  typeName_ptr_named (nm := "errors.errorString") (by rw [show "*" ++ "errors.errorString" = "*errors.errorString" by decide]; kernel_rfl) (by kernel_rfl) (by decide) u (by rw [show "*" ++ "errors.errorString" = "*errors.errorString" by decide]; exact h)

/-- The error's variable. -/
theorem of_laid {W : World} (h : laidMetH Tryz.prog Rows.fnAgainDescribeGroupsResponseUptoRow.laid W) : ∃ (et : TypeId) (ev : Value), W.cell? ⟨Sg.IJ.err, 0, none⟩ = some (.iface et ev) := by
  rw [MakeChecks.laidMetH_plain _ _ _ (by kernel_rfl)] at h
  obtain ⟨a, s, hv, _⟩ := laid_sentinel h (show Tryz.prog.globalNamed "pub-kmsg/pub/kmsg/inner/kbin.ErrNotEnoughData" = some 1 by kernel_rfl) (show (Tryz.prog.globals[1]?).map (·.type) = some 56 by kernel_rfl) Tryz.underlying56 rowE Tryz.underlying249 Tryz.underlying267 rfl rfl Tryz.underlying9 (by kernel_rfl) (by kernel_rfl)
  have h0 : W.cell? ⟨1, 0, none⟩ = some (.iface 249 (.pointer (some a))) := by
    have := World.var?_cell (show Tryz.prog.globalNamed "pub-kmsg/pub/kmsg/inner/kbin.ErrNotEnoughData" = some 1 by kernel_rfl) hv 0
    simpa using this
  exact ⟨_, _, h0⟩

noncomputable def fsT : Array Go.Field := match P.underlying 26 with | some (.struct fs) => fs | _ => #[]
noncomputable def fsG : Array Go.Field := match P.underlying 75 with | some (.struct fs) => fs | _ => #[]
theorem ty : Sp.TyOk P 26 2 22 5 4 23 24 75 73 fsT fsG :=
  ⟨by kernel_rfl, by kernel_rfl, by kernel_rfl, by kernel_rfl, by kernel_rfl, by kernel_rfl, by kernel_rfl, by kernel_rfl, by kernel_rfl, by kernel_rfl, by kernel_rfl, by kernel_rfl, by kernel_rfl, by kernel_rfl⟩

/-- The measure that the rows give. -/
theorem meas (H : Type) : Sp.Meas (H := H) Rows.uptoBulk Rows.uptoBulkAll := by
  refine ⟨fun d => ?_, fun es sp => ?_, fun ps => ?_, ?_, fun d r => ?_⟩
  · cases d with
    | lit l => cases l <;> simp [Rows.uptoBulk]
    | _ => simp [Rows.uptoBulk]
  · simp only [Rows.uptoBulk]; omega
  · simp only [Rows.uptoBulk]; omega
  · simp only [Rows.uptoBulkAll]
  · simp only [Rows.uptoBulkAll]

theorem door_met (os : Os) (args : Array Value) : laidMetH Tryz.prog Rows.fnAgainDescribeGroupsResponseUptoRow.laid ((World.doorLaid Tryz.prog 400 os).forCall (fun _ _ => 0) ⟨#[], args, []⟩).memory :=
  laidMetH_of_parts3 (fuel := 8) (laidMet_of_run' 8 (by kernel_rfl) (by kernel_rfl)) (by kernel_rfl) (by kernel_rfl)

theorem reads (os : Os) {H : Type} (enc : TypeId × Value → H) : ∃ places, DataW.whole enc Tryz.prog ((World.doorLaid Tryz.prog 400 os).forCall (fun _ _ => 0) ⟨#[], #[.int .u8 0, .agg #[.int .i64 0, .slice none 0 0, .bool false, .slice none 0 0, .slice none 0 0]], []⟩).memory Tryz.f7.params.toList Rows.fnAgainDescribeGroupsResponseSpec.vars false #[Value.int .u8 0, .agg #[.int .i64 0, .slice none 0 0, .bool false, .slice none 0 0, .slice none 0 0]].toList 8 = some ([.lit (.int .u8 0), .agg [.lit (.int .i64 0), .nil, .lit (.bool false), .nil, .nil]], [], places) :=
  ⟨[], by kernel_rfl⟩

set_option maxRecDepth 100000 in
theorem lifted (os : Os) (started : os.Started) (H : Type) (enc : TypeId × Value → H) (Fi : Stop.Interp) :
    ReturnsInHanded {} Tryz.checked os 7 .any ((Rows.OpenSpec.upto Rows.fnAgainDescribeGroupsResponseSpec).preRow enc Tryz.prog Tryz.f7 Rows.fnAgainDescribeGroupsResponseUptoRow.domain false Rows.fnAgainDescribeGroupsResponseUptoRow.laid) (((Rows.OpenSpec.upto Rows.fnAgainDescribeGroupsResponseSpec).at Fi).post enc Tryz.prog Tryz.f7 false true false false) := by
  obtain ⟨places, hx⟩ := reads os enc
  refine returnsInHanded_of_row (C := Tryz.checked) (s := Rows.OpenSpec.upto Rows.fnAgainDescribeGroupsResponseSpec) own started (by kernel_rfl) Tryz.func7
    (witness_row_atRef (enc := enc) (C := Tryz.checked) false (World.doorLaid Tryz.prog 400 os) #[.int .u8 0, .agg #[.int .i64 0, .slice none 0 0, .bool false, .slice none 0 0, .slice none 0 0]] rfl (by kernel_rfl) (by kernel_rfl) (by kernel_rfl)
      (OpenSpec.preRow_of_cond 8 hx (by kernel_rfl) (fun k hk => by cases hk; kernel_rfl) (by kernel_rfl) (door_met os _))) ?_
  intro W base args ds gs before hval0 hW _ hcond _ hL _ _
  have hval : ∀ (j : Nat) t v, Tryz.f7.params[j]? = some t → args[j]? = some v → Value.okWide Tryz.prog W .any base t v := hval0
  have hW' := hW
  obtain ⟨p, q, hA0, hV, rfl, hfz, hnd⟩ := hW
  have hA : DataW.TrodAll enc Tryz.prog W 0 (fun _ => true) true Tryz.f7.params.toList args.toList ds p := hA0
  rw [Tryz.params7] at hA hval
  obtain ⟨v0, vs0, d0, ds0, p0, q0, hargs, rfl, rfl, h0, r0⟩ := trodAll_cons hA
  obtain ⟨v1, vs1, d1, ds1, p1, q1, hargs1, rfl, rfl, h1, r1⟩ := trodAll_cons r0
  obtain ⟨rfl, rfl, rfl⟩ := trodAll_nil r1
  obtain rfl : args = #[v0, v1] := by cases args; simp_all
  obtain ⟨rfl, rfl⟩ := trodVars_none hV
  obtain ⟨cs1, rfl, _⟩ := okWide_struct (by kernel_rfl : Tryz.prog.underlying 26 = some (.struct fsT)) (hval 1 26 v1 rfl rfl)
  obtain ⟨a0, rfl, rfl, rfl, w0⟩ := open_int Tryz.underlying5 (hval 0 5 v0 rfl rfl) h0
  obtain ⟨fuel, htrod⟩ := id h1
  obtain ⟨t, ht, htb⟩ := Sp.open_tree ty (meas H) fuel _ _ htrod
  have hb : t.bulk ≤ 1048576 := by
    have h : Rows.uptoBulkAll _ ≤ 1048576 := of_decide_eq_true (hcond _ rfl)
    simp only [List.cons_append, List.nil_append, Rows.uptoBulkAll] at h
    simp only at htb
    omega
  obtain ⟨et, ev, herr⟩ := of_laid hL
  clear hA0 hval0
  simp only [List.append_nil] at hW'
  have hlt : ∀ x ∈ p1, x.block < W.heap.size := fun x hx => by simpa using hW'.lt x (by simpa using hx)
  have ht' : Sp.RepTr W cs1.toList t := by simpa [Value.cells] using ht
  have hwalk := walk a0 w0 ht' hb herr
  rw [show cs1.toList.toArray = cs1 by simp] at hwalk
  refine hwalk.mono fun e W' ⟨he, hg⟩ => ?_
  subst he
  exact ⟨_, rfl, _, _, _, [], _, [], hW', (trodAll_cons_mk (shut_bool Tryz.underlying4 _) trodAll_mk0), (trodAll_cons_mk (shut_int Tryz.underlying5 w0) (trodAll_cons_mk (Below.trod laidOut (by kernel_rfl) (of_decide_eq_true (by kernel_rfl)) h1 hg hlt) trodAll_mk0)), rfl, hg.frame _, fun h => by cases h⟩

theorem over : Rows.fnAgainDescribeGroupsResponseUptoRow.holds Tryz.pinned (Rows.OpenSpec.upto Rows.fnAgainDescribeGroupsResponseSpec) :=
  OpenClaim.holds_of_cond 7 Tryz.f7 rfl rfl rfl rfl rfl rfl rfl ⟨rfl, rfl, rfl, rfl, rfl⟩ rfl rfl rfl rfl rfl (by kernel_rfl) Tryz.func7 (by kernel_rfl)
    (of_decide_eq_true (by kernel_rfl)) (by unfold Func.isWrapper; first | (rw [if_pos (by decide +kernel)]; kernel_rfl) | (rw [if_neg (by decide +kernel)]; exact ⟨rfl, rfl⟩))
    (fun os started H enc _ Fi => by rw [OpenClaim.pre_eq_preRow]; exact lifted os started H enc Fi)

/-- The statement. -/
theorem proved : Rows.FnAgainDescribeGroupsResponseUptoCardSaid :=
  Claim7.holds_tied_plain_at .later [] [.sentinel] true (true, "f0c661a2a083e2d8f090539c26fc314ec3ab7cafee4fe3973f86b558c0048d2a") false
    over (fun _ h => by cases h) (by kernel_rfl) (fun _ h => by cases h) fnAgainDescribeGroupsResponseUpto_row_tie rfl ⟨rfl, rfl⟩ (by kernel_rfl) rfl
    (fun f fn hf hfn => by
      obtain rfl : f = 7 := Option.some.inj ((show Tryz.prog.funcNamed "pub-kmsg/laws.FnAgainDescribeGroupsResponse" = some 7 by kernel_rfl).symm.trans hf) |>.symm
      obtain rfl : fn = Tryz.f7 := (Option.some.inj (Tryz.func7.symm.trans hfn)).symm
      exact ⟨by kernel_rfl, fun j t ht => by
        rw [Tryz.params7] at ht
        have hm : t ∈ [5, 26] := by simpa using Array.mem_of_getElem? ht
        have hall : ([5, 26].all fun u => !Tryz.prog.wantsStandIn u) = true := by kernel_rfl
        exact (show Tryz.prog.wantsStandIn t = false by simpa using List.all_eq_true.1 hall t hm)⟩)
    (by kernel_rfl)
#print axioms proved
end Go.Proofs.YtlbojjkfjhnaaaaGreatDoor.fnAgainDescribeGroupsResponse
