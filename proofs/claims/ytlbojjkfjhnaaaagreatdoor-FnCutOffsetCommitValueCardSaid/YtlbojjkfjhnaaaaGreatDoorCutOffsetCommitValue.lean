/- The law FnCutOffsetCommitValue: what the reference writes of a tree as a kept thing, if it ends anywhere ahead of its end, is not read. It holds for every number (an octet), tree and place; no further condition. -/
import Derived.Test.YtlbojjkfjhnaaaaGreatDoorSg
import Derived.Test.YtlbojjkfjhnaaaaGreatDoorSd
import Derived.Test.YtlbojjkfjhnaaaaGreatDoorCards
import Derived.Test.YtlbojjkfjhnaaaaGreatDoorTie
import Derived.WalkKit
import Derived.ProofKit
import Derived.OpenShut
import Derived.Carry
import Derived.LaidMore
import Derived.Stop.LaidErr
import Derived.SevenTiedAt
import Derived.Deep.DeepHandedRow
import Derived.Deep.DeepWitnessRowRef
import Derived.Stop.Joined
namespace Go.Proofs.YtlbojjkfjhnaaaaGreatDoor.fnCutOffsetCommitValue
open Go Go.ChangeShapes Go.WideShapes Go.ChangeAt Go.RowKit
open Go.Lx Go.Nx Go.Km Go.Mx Go.Kb Go.Mr
set_option linter.unusedVariables false
set_option maxRecDepth 100000

noncomputable abbrev P : Program := Tryz.prog

def s_OffsetCommitValue (v : Nat) : Fs := fld (true) 1 (.prim (.i64)) <| fld (decide (3 ≤ v)) 2 (.prim (.i32)) <| fld (true) 3 (.prim (.str (decide (4 ≤ v)))) <| fld (true) 4 (.prim (.i64)) <| fld (decide (1 ≤ v) && decide (v ≤ 1)) 5 (.prim (.i64)) <| .nil
def k_OffsetCommitValue (v : Nat) : List KU := [⟨0, 6, .prim (.uuid), .uu⟩]

noncomputable def z : List Value := [.int .i16 0, .int .i64 0, .int .i32 0, .string ByteArray.empty, .int .i64 0, .int .i64 0, .int .u8 0, .int .u8 0, .int .u8 0, .int .u8 0, .int .u8 0, .int .u8 0, .int .u8 0, .int .u8 0, .int .u8 0, .int .u8 0, .int .u8 0, .int .u8 0, .int .u8 0, .int .u8 0, .int .u8 0, .int .u8 0, .map none]
theorem h_zz : fnP P 9 1 = some (Sp.q_zzFits2 Sg.SJ) := by kernel_rfl
noncomputable def ds : List (Nat × Value) := (defC P 69).getD []
theorem h_f : fnP P 3 3 = some (Sp.p_fnCutK 9 11 10 12 ((5 : Nat) : Int)) := by kernel_rfl
theorem h_same : fnP P 27 2 = some p_same := by kernel_rfl
theorem h_kept : fnP P 10 3 = some (Sp.q_kept Sg.SJ) := by kernel_rfl
theorem h_new : fnP P 32 0 = some (Sp.p_newK z z.length 69) := by kernel_rfl
theorem h_def : Sg.TT.defs 69 = some ds := by kernel_rfl
theorem h_ds : (ds.all (fun d => decide (d.1 < z.length)) && (setD 0 ds z).all (·.oneCell')) = true := by kernel_rfl
theorem h_again : fnP P 12 1 = some (Sp.p_againK Sg.IJ.e8 z z.length 32 33 34) := by kernel_rfl
theorem h_read : fnP P 33 2 = some (p_read 70) := by kernel_rfl
def UU : KTab := { uv := Sg.IJ.rUvarint, span := Sg.IJ.rSpan, set := Sg.IJ.set }
theorem UU_ok : KTabOk P UU := ⟨Sg.c_rUvarint, Sg.c_rSpan, set_at Sg.hn Sg.f_set⟩
theorem h_r : rdC P Sg.TT 70 (fun p => dfOf p == some 69 && msgVR Sg.TT UU Sg.IJ.rInt16 (4 + 1) 4 s_OffsetCommitValue 22 (fun v => (k_OffsetCommitValue v).map KU.kt) (setD 0 ds z) false p) = true := by kernel_rfl
theorem h_w : wrC P 34 (fun p => (List.range (4 + 1)).all fun v => topVW Sg.WW Sg.IJ.eG (decide (4 ≤ v)) (s_OffsetCommitValue v) 22 (k_OffsetCommitValue v) (v : Int) (knownC 1 ((setD 0 ds (setD 0 ds z)).set 0 (.int .i16 (v : Int)))) p) = true := by kernel_rfl
theorem h_zk : ∀ v, v < 4 + 1 → ∀ k ∈ k_OffsetCommitValue v, ZzAll P k := by
  intro v _ k hk
  simp only [k_OffsetCommitValue, List.mem_cons, List.not_mem_nil, or_false] at hk
  rcases hk with rfl
  all_goals trivial
theorem h_k : Sp.ksV (setD 0 ds (setD 0 ds z)) (4 + 1) 4 k_OffsetCommitValue = true := by kernel_rfl
noncomputable def fl : Sp.Fl := ((Sp.msgC P 16 11).map (·.1)).getD .nil
theorem h_msg : Sp.msgC P 16 11 = some (fl, ((4 : Nat) : Int)) := by kernel_rfl
theorem h_us : fnP P Sg.SJ.usual 2 = some (Sp.q_usual Sg.SJ 27) := by kernel_rfl
theorem h_ok : (Sp.okSub fl && Sp.usT fl && Sp.smallT fl && decide (Sp.knT fl 0 ≤ 1000) && decide (fl.len ≤ 32767)) = true := by kernel_rfl
theorem h_tab : ((List.range (4 + 1)).all fun v => if 4 ≤ v then Sp.tabT (v : Int) fl (s_OffsetCommitValue v) (k_OffsetCommitValue v) else Sp.fitN (v : Int) false fl (s_OffsetCommitValue v) && wfF (s_OffsetCommitValue v)) = true := by kernel_rfl
theorem h_lim : (((List.range (4 + 1)).all fun v => decide (Sp.mxT (v : Int) fl < 4294967296) && decide (Sp.mxF (v : Int) true fl + (Sp.mxT (v : Int) fl + 10) * 1000 + 1074003999 ≤ 140737488355328) && decide (Sp.mxF (v : Int) false fl + 2 ≤ 140737488355328)) && decide (Sp.knT fl 0 * fl.len ≤ 1000)) = true := by kernel_rfl
theorem h_law : Sp.LawV P Sg.SJ Sg.IJ.e8 Sg.IJ.err 11 10 12 fl ((4 : Nat) : Int) (4 + 1) (Sp.decV 4 s_OffsetCommitValue k_OffsetCommitValue) (Sp.encV 4 s_OffsetCommitValue k_OffsetCommitValue) (Sp.preV 4 s_OffsetCommitValue k_OffsetCommitValue) (Sp.HT ((4 : Nat) : Int) fl) (Sp.RT ((4 : Nat) : Int) fl) :=
  Sp.law_ofV Sg.fns Sg.TT_ok UU_ok Sg.WW_ok Sg.c_rInt16 h_kept h_us h_same h_again rfl h_new h_def h_ds h_read h_r (by omega) h_w h_k h_zk h_msg h_ok h_tab

/-- The walk. -/
theorem walk (a0 : Int) (w0 : (Lit.int .u8 a0).wf = true) (a2 : Int) (w2 : (Lit.int .u16 a2).wf = true) {w : World} {cs : List Value} {t : Sp.Tr} {et : TypeId} {ev : Value} (ht : Sp.RepTr w cs t) (herr : w.cell? ⟨Sg.IJ.err, 0, none⟩ = some (.iface et ev)) :
    Calls Tryz.prog 3 #[.int .u8 a0, .agg cs.toArray, .int .u16 a2] w fun e w' => e = .returned (.bool true) ∧ Below w.heap.size w w' := by
  have hx : 0 ≤ a0 ∧ a0 ≤ 255 := by simpa [Lit.wf, IntKind.min, IntKind.max, IntKind.signed, IntKind.bits] using w0
  have ha : ((a0.toNat : Nat) : Int) = a0 := by omega
  have hx2 : 0 ≤ a2 ∧ a2 ≤ 65535 := by simpa [Lit.wf, IntKind.min, IntKind.max, IntKind.signed, IntKind.bits] using w2
  have ha2 : ((a2.toNat : Nat) : Int) = a2 := by omega
  have h : In.wp P (.call 3) [.int .u8 ((a0.toNat : Nat) : Int), .agg cs.toArray, .int .u16 ((a2.toNat : Nat) : Int)] w fun v w' => v = .bool true ∧ Keep [] w w' :=
    Sp.law_cutV h_law h_zz h_f (n := a0.toNat) (by omega) (at' := a2.toNat) (by omega) ht (fun v hv => Sp.HT_max h_lim t v (by omega)) herr fun w' k => ⟨rfl, k⟩
  rw [ha, ha2] at h
  refine Calls.mono h fun ev' w' hev => ?_
  match ev', hev with
  | .returned v, hev => exact ⟨by rw [hev.1], hev.2.below (fun x hx => by cases hx) (Nat.le_refl _)⟩

theorem own : ownKnob Tryz.prog.godebug = none := by kernel_rfl
theorem laidOut : laidOutB Tryz.prog = true := by kernel_rfl

theorem rowE (u : TypeId) (h : Tryz.prog.typeName? 3 u = some "*errors.errorString") : u = 249 :=
  typeName_ptr_named (nm := "errors.errorString") (by rw [show "*" ++ "errors.errorString" = "*errors.errorString" by decide]; kernel_rfl) (by kernel_rfl) (by decide) u (by rw [show "*" ++ "errors.errorString" = "*errors.errorString" by decide]; exact h)

/-- The error's variable. -/
theorem of_laid {W : World} (h : laidMetH Tryz.prog Rows.fnCutOffsetCommitValueRow.laid W) : ∃ (et : TypeId) (ev : Value), W.cell? ⟨Sg.IJ.err, 0, none⟩ = some (.iface et ev) := by
  rw [MakeChecks.laidMetH_plain _ _ _ (by kernel_rfl)] at h
  obtain ⟨a, s, hv, _⟩ := laid_sentinel h (show Tryz.prog.globalNamed "pub-kmsg/pub/kmsg/inner/kbin.ErrNotEnoughData" = some 1 by kernel_rfl) (show (Tryz.prog.globals[1]?).map (·.type) = some 56 by kernel_rfl) Tryz.underlying56 rowE Tryz.underlying249 Tryz.underlying267 rfl rfl Tryz.underlying9 (by kernel_rfl) (by kernel_rfl)
  have h0 : W.cell? ⟨1, 0, none⟩ = some (.iface 249 (.pointer (some a))) := by
    have := World.var?_cell (show Tryz.prog.globalNamed "pub-kmsg/pub/kmsg/inner/kbin.ErrNotEnoughData" = some 1 by kernel_rfl) hv 0
    simpa using this
  exact ⟨_, _, h0⟩

noncomputable def fsT : Array Go.Field := match P.underlying 26 with | some (.struct fs) => fs | _ => #[]
noncomputable def fsG : Array Go.Field := match P.underlying 75 with | some (.struct fs) => fs | _ => #[]
theorem ty : Sp.TyOk P 26 2 22 5 4 23 24 75 73 fsT fsG :=
  ⟨by kernel_rfl, by kernel_rfl, by kernel_rfl, by kernel_rfl, by kernel_rfl, by kernel_rfl, by kernel_rfl, by kernel_rfl, by kernel_rfl, by kernel_rfl, by kernel_rfl, by kernel_rfl, by kernel_rfl, by kernel_rfl⟩

/-- The measure that the rows give. -/
theorem meas (H : Type) : Sp.Meas (H := H) Rows.uptoBulk Rows.uptoBulkAll := by
  refine ⟨fun d => ?_, fun es sp => ?_, fun ps => ?_, ?_, fun d r => ?_⟩
  · cases d with
    | lit l => cases l <;> simp [Rows.uptoBulk]
    | _ => simp [Rows.uptoBulk]
  · simp only [Rows.uptoBulk]; omega
  · simp only [Rows.uptoBulk]; omega
  · simp only [Rows.uptoBulkAll]
  · simp only [Rows.uptoBulkAll]

theorem door_met (os : Os) (args : Array Value) : laidMetH Tryz.prog Rows.fnCutOffsetCommitValueRow.laid ((World.doorLaid Tryz.prog 400 os).forCall (fun _ _ => 0) ⟨#[], args, []⟩).memory :=
  laidMetH_of_parts3 (fuel := 8) (laidMet_of_run' 8 (by kernel_rfl) (by kernel_rfl)) (by kernel_rfl) (by kernel_rfl)

theorem reads (os : Os) {H : Type} (enc : TypeId × Value → H) : ∃ places, DataW.whole enc Tryz.prog ((World.doorLaid Tryz.prog 400 os).forCall (fun _ _ => 0) ⟨#[], #[.int .u8 0, .agg #[.int .i64 0, .slice none 0 0, .bool false, .slice none 0 0, .slice none 0 0], .int .u16 0], []⟩).memory Tryz.f3.params.toList Rows.fnCutOffsetCommitValueSpec.vars false #[Value.int .u8 0, .agg #[.int .i64 0, .slice none 0 0, .bool false, .slice none 0 0, .slice none 0 0], .int .u16 0].toList 8 = some ([.lit (.int .u8 0), .agg [.lit (.int .i64 0), .nil, .lit (.bool false), .nil, .nil], .lit (.int .u16 0)], [], places) :=
  ⟨[], by kernel_rfl⟩

set_option maxRecDepth 100000 in
theorem lifted (os : Os) (started : os.Started) (H : Type) (enc : TypeId × Value → H) (Fi : Stop.Interp) :
    ReturnsInHanded {} Tryz.checked os 3 .any ((OpenSpec.ofChange Rows.fnCutOffsetCommitValueSpec).preRow enc Tryz.prog Tryz.f3 Rows.fnCutOffsetCommitValueRow.domain false Rows.fnCutOffsetCommitValueRow.laid) (((OpenSpec.ofChange Rows.fnCutOffsetCommitValueSpec).at Fi).post enc Tryz.prog Tryz.f3 false true false false) := by
  obtain ⟨places, hx⟩ := reads os enc
  refine returnsInHanded_of_row (C := Tryz.checked) (s := OpenSpec.ofChange Rows.fnCutOffsetCommitValueSpec) own started (by kernel_rfl) Tryz.func3
    (witness_row_atRef (enc := enc) (C := Tryz.checked) false (World.doorLaid Tryz.prog 400 os) #[.int .u8 0, .agg #[.int .i64 0, .slice none 0 0, .bool false, .slice none 0 0, .slice none 0 0], .int .u16 0] rfl (by kernel_rfl) (by kernel_rfl) (by kernel_rfl)
      (OpenSpec.preRow_of_cond 8 hx (by kernel_rfl) (fun k hk => by cases hk) (by kernel_rfl) (door_met os _))) ?_
  intro W base args ds gs before hval0 hW _ hcond _ hL _ _
  have hval : ∀ (j : Nat) t v, Tryz.f3.params[j]? = some t → args[j]? = some v → Value.okWide Tryz.prog W .any base t v := hval0
  have hW' := hW
  obtain ⟨p, q, hA0, hV, rfl, hfz, hnd⟩ := hW
  have hA : DataW.TrodAll enc Tryz.prog W 0 (fun _ => true) true Tryz.f3.params.toList args.toList ds p := hA0
  rw [Tryz.params3] at hA hval
  obtain ⟨v0, vs0, d0, ds0, p0, q0, hargs, rfl, rfl, h0, r0⟩ := trodAll_cons hA
  obtain ⟨v1, vs1, d1, ds1, p1, q1, hargs1, rfl, rfl, h1, r1⟩ := trodAll_cons r0
  obtain ⟨v2, vs2, d2, ds2, p2, q2, hargs2, rfl, rfl, h2, r2⟩ := trodAll_cons r1
  obtain ⟨rfl, rfl, rfl⟩ := trodAll_nil r2
  obtain rfl : args = #[v0, v1, v2] := by cases args; simp_all
  obtain ⟨rfl, rfl⟩ := trodVars_none hV
  obtain ⟨cs1, rfl, _⟩ := okWide_struct (by kernel_rfl : Tryz.prog.underlying 26 = some (.struct fsT)) (hval 1 26 v1 rfl rfl)
  obtain ⟨a0, rfl, rfl, rfl, w0⟩ := open_int Tryz.underlying5 (hval 0 5 v0 rfl rfl) h0
  obtain ⟨a2, rfl, rfl, rfl, w2⟩ := open_int Tryz.underlying27 (hval 2 27 v2 rfl rfl) h2
  obtain ⟨fuel, htrod⟩ := id h1
  obtain ⟨t, ht, htb⟩ := Sp.open_tree ty (meas H) fuel _ _ htrod
  obtain ⟨et, ev, herr⟩ := of_laid hL
  clear hA0 hval0
  simp only [List.append_nil] at hW'
  have hlt : ∀ x ∈ p1, x.block < W.heap.size := fun x hx => by simpa using hW'.lt x (by simpa using hx)
  have ht' : Sp.RepTr W cs1.toList t := by simpa [Value.cells] using ht
  have hwalk := walk a0 w0 a2 w2 ht' herr
  rw [show cs1.toList.toArray = cs1 by simp] at hwalk
  refine hwalk.mono fun e W' ⟨he, hg⟩ => ?_
  subst he
  exact ⟨_, rfl, _, _, _, [], _, [], hW', (trodAll_cons_mk (shut_bool Tryz.underlying4 _) trodAll_mk0), (trodAll_cons_mk (shut_int Tryz.underlying5 w0) (trodAll_cons_mk (Below.trod laidOut (by kernel_rfl) (of_decide_eq_true (by kernel_rfl)) h1 hg hlt) (trodAll_cons_mk (shut_int Tryz.underlying27 w2) trodAll_mk0))), rfl, hg.frame _, fun h => by cases h⟩

theorem over : Rows.fnCutOffsetCommitValueRow.holds Tryz.pinned (OpenSpec.ofChange Rows.fnCutOffsetCommitValueSpec) :=
  OpenClaim.holds_of_cond 3 Tryz.f3 rfl rfl rfl rfl rfl rfl rfl ⟨rfl, rfl, rfl, rfl, rfl⟩ rfl rfl rfl rfl rfl (by kernel_rfl) Tryz.func3 (by kernel_rfl)
    (of_decide_eq_true (by kernel_rfl)) (by unfold Func.isWrapper; first | (rw [if_pos (by decide +kernel)]; kernel_rfl) | (rw [if_neg (by decide +kernel)]; exact ⟨rfl, rfl⟩))
    (fun os started H enc _ Fi => by rw [OpenClaim.pre_eq_preRow]; exact lifted os started H enc Fi)

/-- The statement. -/
theorem proved : Rows.FnCutOffsetCommitValueCardSaid :=
  Claim7.holds_tied_plain_at .later [] [.sentinel] true (true, "f0c661a2a083e2d8f090539c26fc314ec3ab7cafee4fe3973f86b558c0048d2a") false
    over (fun _ h => by cases h) (by kernel_rfl) (fun _ h => by cases h) fnCutOffsetCommitValue_row_tie rfl ⟨rfl, rfl⟩ (by kernel_rfl) rfl
    (fun f fn hf hfn => by
      obtain rfl : f = 3 := Option.some.inj ((show Tryz.prog.funcNamed "pub-kmsg/laws.FnCutOffsetCommitValue" = some 3 by kernel_rfl).symm.trans hf) |>.symm
      obtain rfl : fn = Tryz.f3 := (Option.some.inj (Tryz.func3.symm.trans hfn)).symm
      exact ⟨by kernel_rfl, fun j t ht => by
        rw [Tryz.params3] at ht
        have hm : t ∈ [5, 26, 27] := by simpa using Array.mem_of_getElem? ht
        have hall : ([5, 26, 27].all fun u => !Tryz.prog.wantsStandIn u) = true := by kernel_rfl
        exact (show Tryz.prog.wantsStandIn t = false by simpa using List.all_eq_true.1 hall t hm)⟩)
    (by kernel_rfl)
#print axioms proved
end Go.Proofs.YtlbojjkfjhnaaaaGreatDoor.fnCutOffsetCommitValue
