/- The law FnAnyConsumerMemberAssignment: what is read of any octets as a message is written as octets that are read again, and written as the same. It holds for whatever octets; no further condition. -/
import Derived.Test.YtlbojjkfjhnaaaaDoorSg
import Derived.Test.YtlbojjkfjhnaaaaDoorCards
import Derived.Test.YtlbojjkfjhnaaaaDoorTie
import Derived.WalkKit
import Derived.ProofKit
import Derived.OpenShut
import Derived.Carry
import Derived.LaidMore
import Derived.Stop.LaidErr
import Derived.SevenTiedAt
namespace Go.Proofs.YtlbojjkfjhnaaaaDoor.fnAnyConsumerMemberAssignment
open Go Go.ChangeShapes Go.WideShapes Go.ChangeAt Go.RowKit
open Go.Lx Go.Nx Go.Km Go.Mx Go.Kb Go.Mr
set_option linter.unusedVariables false
set_option maxRecDepth 100000

noncomputable abbrev P : Program := Tryd.prog

def s_ConsumerMemberAssignmentTopic (v : Nat) : Fs := fld (true) 0 (.prim (.str (false))) <| fld (true) 1 (.arr (false) 1 (.prim (.i32))) <| .nil
def s_ConsumerMemberAssignment (v : Nat) : Fs := fld (true) 1 (.arr (false) 2 (.str (s_ConsumerMemberAssignmentTopic v))) <| fld (true) 2 (.prim (.nbyt (false))) <| .nil

noncomputable def z : List Value := [.int .i16 0, .slice none 0 0, .slice none 0 0]
noncomputable def ds : List (Nat × Value) := (defC P 43).getD []
theorem h_f : fnP P 3 1 = some (Sp.p_fnAnyK 9 8 7 10) := by kernel_rfl
theorem h_same : fnP P 10 2 = some p_same := by kernel_rfl
theorem h_kept : fnP P 8 3 = some (Sp.q_kept Sg.SJ) := by kernel_rfl
theorem h_new : fnP P 21 0 = some (Sp.p_newK z z.length 43) := by kernel_rfl
theorem h_def : Sg.TT.defs 43 = some ds := by kernel_rfl
theorem h_ds : (ds.all (fun d => decide (d.1 < z.length)) && (setD 0 ds z).all (·.oneCell')) = true := by kernel_rfl
theorem h_again : fnP P 7 1 = some (Sp.p_againK Sg.IJ.e8 z z.length 21 22 23) := by kernel_rfl
theorem h_read : fnP P 22 2 = some (p_read 44) := by kernel_rfl
theorem h_r : rdC P Sg.TT 44 (fun p => topR Sg.TT (.cons 0 (.prim .i16) (s_ConsumerMemberAssignment 0)) 0 (setD 0 ds z) false p) = true := by kernel_rfl
theorem h_w : wrC P 23 (fun p => topW Sg.WW (.cons 0 (.prim .i16) (s_ConsumerMemberAssignment 0)) (knownC 0 z) p) = true := by kernel_rfl
theorem h_wf : wfF (s_ConsumerMemberAssignment 0) = true := by kernel_rfl
noncomputable def fl : Sp.Fl := ((Sp.msgC P 16 9).map (·.1)).getD .nil
theorem h_msg : Sp.msgC P 16 9 = some (fl, (-1)) := by kernel_rfl
theorem h_ok : (Sp.okFl fl && decide (fl.len ≤ 32767)) = true := by kernel_rfl
theorem h_fit : ((List.range 1).all fun v => Sp.fitF (v : Int) (Sp.isFlex (-1) (v : Int)) fl (s_ConsumerMemberAssignment 0)) = true := by kernel_rfl
theorem h_lim : ((List.range 1).all fun v => decide (Sp.mxF (v : Int) (Sp.isFlex (-1) (v : Int)) fl + 1074004166 ≤ 140737488355328)) = true := by kernel_rfl
theorem h_law : Sp.LawK P Sg.SJ Sg.IJ.e8 Sg.IJ.err 9 8 7 fl (-1) 1 (s_ConsumerMemberAssignment 0) :=
  Sp.lawK_of Sg.fns Sg.TT_ok Sg.WW_ok h_kept h_again h_new h_def h_ds h_read h_r h_w h_wf h_msg h_ok (by omega) h_fit
theorem lim (t : Sp.Tr) (v : Nat) (hv : v < 1) : (Sp.partB (v : Int) (Sp.isFlex (-1) (v : Int)) fl t).length + 2 ≤ Kb.lim := by
  have h1 := List.all_eq_true.1 h_lim v (by simpa using hv)
  have h2 := Sp.partB_max (v : Int) (Sp.isFlex (-1) (v : Int)) fl t
  simp only [decide_eq_true_eq] at h1
  unfold Kb.lim
  omega

theorem walk {w : World} {src : Value} {bs : Bs} {et : TypeId} {ev : Value} (hsl : SlE (fun _ => True) w src bs) (herr : w.cell? ⟨Sg.IJ.err, 0, none⟩ = some (.iface et ev)) (hlen : bs.length < 9223372036854775808) :
    Calls Tryd.prog 3 #[src] w fun e w' => e = .returned (.bool true) ∧ Below w.heap.size w w' := by
  have h : In.wp P (.call 3) [src] w fun v w' => v = .bool true ∧ Keep [] w w' := Sp.law_anyK h_law h_f h_same (fun t v hv => lim t v hv) hsl herr hlen fun w' k => ⟨rfl, k⟩
  refine Calls.mono h fun ev' w' hev => ?_
  match ev', hev with
  | .returned v, hev => exact ⟨by rw [hev.1], hev.2.below (fun x hx => by cases hx) (Nat.le_refl _)⟩

theorem own : ownKnob Tryd.prog.godebug = none := by kernel_rfl
theorem laidOut : laidOutB Tryd.prog = true := by kernel_rfl

theorem rowE (u : TypeId) (h : Tryd.prog.typeName? 3 u = some "*errors.errorString") : u = 189 :=
  typeName_ptr_named (nm := "errors.errorString") (by rw [show "*" ++ "errors.errorString" = "*errors.errorString" by decide]; kernel_rfl) (by kernel_rfl) (by decide) u (by rw [show "*" ++ "errors.errorString" = "*errors.errorString" by decide]; exact h)

/-- The error's variable. -/
theorem of_laid {W : World} (h : laidMetH Tryd.prog Rows.fnAnyConsumerMemberAssignmentRow.laid W) : ∃ (et : TypeId) (ev : Value), W.cell? ⟨Sg.IJ.err, 0, none⟩ = some (.iface et ev) := by
  rw [MakeChecks.laidMetH_plain _ _ _ (by kernel_rfl)] at h
  obtain ⟨a, s, hv, _⟩ := laid_sentinel h (show Tryd.prog.globalNamed "pub-kmsg/pub/kmsg/inner/kbin.ErrNotEnoughData" = some 1 by kernel_rfl) (show (Tryd.prog.globals[1]?).map (·.type) = some 49 by kernel_rfl) Tryd.underlying49 rowE Tryd.underlying189 Tryd.underlying206 rfl rfl Tryd.underlying9 (by kernel_rfl) (by kernel_rfl)
  have h0 : W.cell? ⟨1, 0, none⟩ = some (.iface 189 (.pointer (some a))) := by
    have := World.var?_cell (show Tryd.prog.globalNamed "pub-kmsg/pub/kmsg/inner/kbin.ErrNotEnoughData" = some 1 by kernel_rfl) hv 0
    simpa using this
  exact ⟨_, _, h0⟩

/-- A slice of octets that came in. -/
theorem open_sl {H : Type} {enc : TypeId × Value → H} {W : World} {base : Nat} {v1 : Value} {d1 : DataW H} {p1 : List MemPlace} (hval : Value.okWide Tryd.prog W .any base 22 v1) (h1 : DataW.Trod enc Tryd.prog W 0 (fun _ => true) true 22 v1 d1 p1) :
    ∃ bs : Bs, SlE (fun _ => True) W v1 bs ∧ bs.length < 9223372036854775808 := by
  obtain ⟨a1, len, cap, rfl⟩ := okWide_slice Tryd.underlying22 hval
  obtain ⟨fuel, hf⟩ := h1
  rcases open_ints Tryd.underlying22 Tryd.underlying5 (by kernel_rfl) hf with ⟨hcs, hx⟩ | ⟨a, len', cap', zs, hcs, _, hl, hm, hz, hx, hcell, hwz⟩
  · simp [Value.cells] at hcs
    obtain ⟨rfl, rfl, rfl⟩ := hcs
    exact ⟨[], .inl (.inl ⟨rfl, rfl⟩), by simp⟩
  · simp [Value.cells] at hcs
    obtain ⟨rfl, rfl, rfl⟩ := hcs
    simp only [if_true] at hz
    have hlen : ((zs.take len).map fun n => UInt8.ofNat n.toNat).length = len := by simp; omega
    refine ⟨(zs.take len).map fun n => UInt8.ofNat n.toNat, ?_, by rw [hlen]; have : maxLen = 9223372036854775807 := rfl; omega⟩
    rcases Nat.eq_zero_or_pos len with h0 | hp
    · subst h0
      exact .inr ⟨by simp, a, cap, rfl⟩
    · refine .inl (.inr ⟨a, cap, by rw [hlen], by rw [hlen]; exact hl, Kb.cell_lt (show W.cell? a = _ by have := hcell 0 (by omega); rwa [Addr.add_zero'] at this), trivial, fun j hj => ?_⟩)
      rw [hlen] at hj
      rw [hcell j (by omega)]
      have hb := range_u8 hwz j
      have e : zs.getD j 0 = zs[j]'(by omega) := by simp [List.getD, List.getElem?_eq_getElem (show j < zs.length by omega)]
      rw [List.getD_eq_getElem?_getD] at e
      rw [e] at hb
      simp only [List.getElem_map, List.getElem_take, u8]
      rw [List.getD_eq_getElem?_getD, e]
      congr 2
      simp only [UInt8.toNat_ofNat']
      omega

theorem door_met (os : Os) (args : Array Value) : laidMetH Tryd.prog Rows.fnAnyConsumerMemberAssignmentRow.laid ((World.doorLaid Tryd.prog 400 os).forCall (fun _ _ => 0) ⟨#[], args, []⟩).memory :=
  laidMetH_of_parts3 (fuel := 8) (laidMet_of_run' 8 (by kernel_rfl) (by kernel_rfl)) (by kernel_rfl) (by kernel_rfl)

theorem lifted (os : Os) (started : os.Started) (H : Type) (enc : TypeId × Value → H) :
    ReturnsInHanded {} Tryd.checked os 3 .any (fun w args => (Rows.fnAnyConsumerMemberAssignmentSpec.pre enc Tryd.prog Tryd.f3 Rows.fnAnyConsumerMemberAssignmentRow.domain false w args ∧ laidMetH Tryd.prog Rows.fnAnyConsumerMemberAssignmentRow.laid w) ∧ sizedMet enc Tryd.prog Tryd.f3 (OpenSpec.ofChange Rows.fnAnyConsumerMemberAssignmentSpec) false w args)
      (Rows.fnAnyConsumerMemberAssignmentSpec.post enc Tryd.prog Tryd.f3 false true false false) := by
  refine returnsInHanded_of_change_and (C := Tryd.checked) (X := fun w _ => laidMetH Tryd.prog Rows.fnAnyConsumerMemberAssignmentRow.laid w) (fun _ _ _ hh h => h.of_heap hh) own started (by kernel_rfl) Tryd.func3
    (ChangeSpec.witness_shaped (enc := enc) (C := Tryd.checked) (os := os) (X := fun w _ => laidMetH Tryd.prog Rows.fnAnyConsumerMemberAssignmentRow.laid w) false (World.doorLaid Tryd.prog 400 os) #[.slice none 0 0] 8 rfl (World.shaped_of_RefB (by kernel_rfl) (by kernel_rfl)) (by kernel_rfl) (by kernel_rfl) (by kernel_rfl) (door_met os _)) ?_
  intro W base args ds gs before hval0 hW hcnd _ hL _
  have hval : ∀ (j : Nat) t v, Tryd.f3.params[j]? = some t → args[j]? = some v → Value.okWide Tryd.prog W .any base t v := hval0
  have hW' := hW
  obtain ⟨p, q, hA0, hV, rfl, hfz, hnd⟩ := hW
  have hA : DataW.TrodAll enc Tryd.prog W 0 (fun _ => true) true Tryd.f3.params.toList args.toList ds p := hA0
  rw [Tryd.params3] at hA hval
  obtain ⟨v1, vs0, d1, ds0, p1, q0, hargs, rfl, rfl, h1, r0⟩ := trodAll_cons hA
  obtain ⟨rfl, rfl, rfl⟩ := trodAll_nil r0
  obtain rfl : args = #[v1] := by cases args; simp_all
  obtain ⟨rfl, rfl⟩ := trodVars_none hV
  obtain ⟨bs, hsl, hlen⟩ := open_sl (hval 0 22 v1 rfl rfl) h1
  obtain ⟨et, ev, herr⟩ := of_laid hL
  clear hA0 hval0
  simp only [List.append_nil] at hW'
  have hlt : ∀ x ∈ p1, x.block < W.heap.size := fun x hx => by simpa using hW'.lt x (by simpa using hx)
  refine (walk hsl herr hlen).mono fun e W' ⟨he, hg⟩ => ?_
  subst he
  exact ⟨_, rfl, _, _, _, [], _, [], hW', (trodAll_cons_mk (shut_bool Tryd.underlying4 _) trodAll_mk0), (trodAll_cons_mk (Below.trod laidOut (by kernel_rfl) (of_decide_eq_true (by kernel_rfl)) h1 hg hlt) trodAll_mk0), rfl, hg.frame _, fun h => by cases h⟩

theorem over : Rows.fnAnyConsumerMemberAssignmentRow.holds Tryd.pinned (OpenSpec.ofChange Rows.fnAnyConsumerMemberAssignmentSpec) :=
  OpenClaim.holds_of_wide 3 Tryd.f3 rfl rfl rfl rfl rfl rfl rfl ⟨rfl, rfl, rfl, rfl, rfl⟩ rfl rfl rfl rfl rfl (by kernel_rfl) Tryd.func3 (by kernel_rfl)
    (of_decide_eq_true (by kernel_rfl)) (by unfold Func.isWrapper; first | (rw [if_pos (by decide +kernel)]; kernel_rfl) | (rw [if_neg (by decide +kernel)]; exact ⟨rfl, rfl⟩))
    (fun os started H enc _ => lifted os started H enc)

/-- The statement. -/
theorem proved : Rows.FnAnyConsumerMemberAssignmentCardSaid :=
  Claim7.holds_tied_plain_at .later [] [.sentinel] true (true, "cd0d54a989250fcd7dc5c7fe23b2df76e975b451f65ff6d344efc21fe4a4e185") false
    over (fun _ h => by cases h) (by kernel_rfl) (fun _ h => by cases h) fnAnyConsumerMemberAssignment_row_tie rfl ⟨rfl, rfl⟩ (by kernel_rfl) rfl
    (fun f fn hf hfn => by
      obtain rfl : f = 3 := Option.some.inj ((show Tryd.prog.funcNamed "pub-kmsg/laws.FnAnyConsumerMemberAssignment" = some 3 by kernel_rfl).symm.trans hf) |>.symm
      obtain rfl : fn = Tryd.f3 := (Option.some.inj (Tryd.func3.symm.trans hfn)).symm
      exact ⟨by kernel_rfl, fun j t ht => by
        rw [Tryd.params3] at ht
        have hm : t ∈ [22] := by simpa using Array.mem_of_getElem? ht
        have hall : ([22].all fun u => !Tryd.prog.wantsStandIn u) = true := by kernel_rfl
        exact (show Tryd.prog.wantsStandIn t = false by simpa using List.all_eq_true.1 hall t hm)⟩)
    (by kernel_rfl)
#print axioms proved
end Go.Proofs.YtlbojjkfjhnaaaaDoor.fnAnyConsumerMemberAssignment
