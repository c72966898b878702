/- The law FnAnyShareFetchResponse: what is read of any octets as a message is written as octets that are read again, and written as the same. It holds for every number n (an octet) and whatever octets; no further condition. -/
import Derived.Test.YtlbojjkfjhnaaaaGreatDoorSg
import Derived.Test.YtlbojjkfjhnaaaaGreatDoorCards
import Derived.Test.YtlbojjkfjhnaaaaGreatDoorTie
import Derived.WalkKit
import Derived.ProofKit
import Derived.OpenShut
import Derived.Carry
import Derived.LaidMore
import Derived.Stop.LaidErr
import Derived.SevenTiedAt
namespace Go.Proofs.YtlbojjkfjhnaaaaGreatDoor.fnAnyShareFetchResponse
open Go Go.ChangeShapes Go.WideShapes Go.ChangeAt Go.RowKit
open Go.Lx Go.Nx Go.Km Go.Mx Go.Kb Go.Mr
set_option linter.unusedVariables false
set_option maxRecDepth 100000

noncomputable abbrev P : Program := Tryz.prog

def s_ShareFetchResponseTopicPartitionCurrentLeader (v : Nat) : Fs := fld (true) 0 (.prim (.i32)) <| fld (true) 1 (.prim (.i32)) <| endT (true) 2
def s_ShareFetchResponseTopicPartitionAcquiredRecord (v : Nat) : Fs := fld (true) 0 (.prim (.i64)) <| fld (true) 1 (.prim (.i64)) <| fld (true) 2 (.prim (.i16)) <| endT (true) 3
def s_ShareFetchResponseTopicPartition (v : Nat) : Fs := fld (true) 0 (.prim (.i32)) <| fld (true) 1 (.prim (.i16)) <| fld (true) 2 (.prim (.nstr (true))) <| fld (true) 3 (.prim (.i16)) <| fld (true) 4 (.prim (.nstr (true))) <| fld (true) 5 (.str (s_ShareFetchResponseTopicPartitionCurrentLeader v)) <| fld (true) 8 (.prim (.nbyt (true))) <| fld (true) 9 (.arr (true) 4 (.str (s_ShareFetchResponseTopicPartitionAcquiredRecord v))) <| endT (true) 10
def s_ShareFetchResponseTopic (v : Nat) : Fs := fld (true) 0 (.prim (.uuid)) <| fld (true) 16 (.arr (true) 11 (.str (s_ShareFetchResponseTopicPartition v))) <| endT (true) 17
def s_ShareFetchResponseNodeEndpoint (v : Nat) : Fs := fld (true) 0 (.prim (.i32)) <| fld (true) 1 (.prim (.str (true))) <| fld (true) 2 (.prim (.i32)) <| fld (true) 3 (.prim (.nstr (true))) <| endT (true) 4
def s_ShareFetchResponse (v : Nat) : Fs := fld (true) 1 (.prim (.i32)) <| fld (true) 2 (.prim (.i16)) <| fld (true) 3 (.prim (.nstr (true))) <| fld (decide (1 ≤ v)) 4 (.prim (.i32)) <| fld (true) 5 (.arr (true) 18 (.str (s_ShareFetchResponseTopic v))) <| fld (true) 6 (.arr (true) 5 (.str (s_ShareFetchResponseNodeEndpoint v))) <| endT (true) 7

noncomputable def z : List Value := [.int .i16 0, .int .i32 0, .int .i16 0, .pointer none, .int .i32 0, .slice none 0 0, .slice none 0 0, .map none]
noncomputable def ds : List (Nat × Value) := (defC P 108).getD []
theorem h_f : fnP P 8 2 = some (p_fnAny 28 16 29 27) := by kernel_rfl
theorem h_ver : fnP P 16 2 = some p_version := by kernel_rfl
theorem h_same : fnP P 27 2 = some p_same := by kernel_rfl
theorem h_max : fnP P 28 0 = some (p_max 63 64) := by kernel_rfl
theorem h_new : fnP P 63 0 = some (p_new z 108) := by kernel_rfl
theorem h_def : Sg.TT.defs 108 = some ds := by kernel_rfl
theorem h_ds : (decide (0 < z.length) && ds.all (fun d => decide (d.1 < z.length))) = true := by kernel_rfl
theorem h_mx : fnP P 64 1 = some (p_maxV ((2 : Nat) : Int)) := by kernel_rfl
theorem h_again : fnP P 29 2 = some (p_again Sg.IJ.e8 63 65 66 67) := by kernel_rfl
theorem h_set : fnP P 65 2 = some Mr.p_set := by kernel_rfl
theorem h_read : fnP P 66 2 = some (p_read 109) := by kernel_rfl
theorem h_r : msgR P Sg.TT 109 (setD 0 ds z) 2 s_ShareFetchResponse = true := by kernel_rfl
theorem h_w : msgW P Sg.WW 67 (setD 0 ds z) 2 s_ShareFetchResponse = true := by kernel_rfl
theorem h_wf : ((List.range (2 + 1)).all fun v => wfF (s_ShareFetchResponse v)) = true := by kernel_rfl

theorem law {w : World} {src : Value} {bs : Bs} {n : Nat} {et : TypeId} {ev : Value} (hn8 : n < 256) (hsl : SlE (fun _ => True) w src bs) (herr : w.cell? ⟨Sg.IJ.err, 0, none⟩ = some (.iface et ev)) (hlen : bs.length < 9223372036854775808) :
    In.wp P (.call 8) [.int .u8 (n : Int), src] w fun v w' => v = .bool true ∧ Keep [] w w' :=
  law_any Sg.hn Sg.TT_ok Sg.WW_ok h_f h_ver h_same h_max h_new h_def h_ds h_mx (by omega) h_again h_set h_read h_r h_w h_wf hn8 hsl herr hlen

theorem walk (a0 : Int) (w0 : (Lit.int .u8 a0).wf = true) {w : World} {src : Value} {bs : Bs} {et : TypeId} {ev : Value} (hsl : SlE (fun _ => True) w src bs) (herr : w.cell? ⟨Sg.IJ.err, 0, none⟩ = some (.iface et ev)) (hlen : bs.length < 9223372036854775808) :
    Calls Tryz.prog 8 #[.int .u8 a0, src] w fun e w' => e = .returned (.bool true) ∧ Below w.heap.size w w' := by
  have hx : 0 ≤ a0 ∧ a0 ≤ 255 := by simpa [Lit.wf, IntKind.min, IntKind.max, IntKind.signed, IntKind.bits] using w0
  have h := law (n := a0.toNat) (by omega) hsl herr hlen
  have ha : ((a0.toNat : Nat) : Int) = a0 := by omega
  rw [ha] at h
  refine Calls.mono h fun ev' w' hev => ?_
  match ev', hev with
  | .returned v, hev => exact ⟨by rw [hev.1], hev.2.below (fun x hx => by cases hx) (Nat.le_refl _)⟩

theorem own : ownKnob Tryz.prog.godebug = none := by kernel_rfl
theorem laidOut : laidOutB Tryz.prog = true := by kernel_rfl

theorem rowE (u : TypeId) (h : Tryz.prog.typeName? 3 u = some "*errors.errorString") : u = 249 :=
  typeName_ptr_named (nm := "errors.errorString") (by rw [show "*" ++ "errors.errorString" = "*errors.errorString" by decide]; kernel_rfl) (by kernel_rfl) (by decide) u (by rw [show "*" ++ "errors.errorString" = "*errors.errorString" by decide]; exact h)

/-- The error's variable. -/
theorem of_laid {W : World} (h : laidMetH Tryz.prog Rows.fnAnyShareFetchResponseRow.laid W) : ∃ (et : TypeId) (ev : Value), W.cell? ⟨Sg.IJ.err, 0, none⟩ = some (.iface et ev) := by
  rw [MakeChecks.laidMetH_plain _ _ _ (by kernel_rfl)] at h
  obtain ⟨a, s, hv, _⟩ := laid_sentinel h (show Tryz.prog.globalNamed "pub-kmsg/pub/kmsg/inner/kbin.ErrNotEnoughData" = some 1 by kernel_rfl) (show (Tryz.prog.globals[1]?).map (·.type) = some 56 by kernel_rfl) Tryz.underlying56 rowE Tryz.underlying249 Tryz.underlying267 rfl rfl Tryz.underlying9 (by kernel_rfl) (by kernel_rfl)
  have h0 : W.cell? ⟨1, 0, none⟩ = some (.iface 249 (.pointer (some a))) := by
    have := World.var?_cell (show Tryz.prog.globalNamed "pub-kmsg/pub/kmsg/inner/kbin.ErrNotEnoughData" = some 1 by kernel_rfl) hv 0
    simpa using this
  exact ⟨_, _, h0⟩

/-- A slice of octets that came in. -/
theorem open_sl {H : Type} {enc : TypeId × Value → H} {W : World} {base : Nat} {v1 : Value} {d1 : DataW H} {p1 : List MemPlace} (hval : Value.okWide Tryz.prog W .any base 22 v1) (h1 : DataW.Trod enc Tryz.prog W 0 (fun _ => true) true 22 v1 d1 p1) :
    ∃ bs : Bs, SlE (fun _ => True) W v1 bs ∧ bs.length < 9223372036854775808 := by
  obtain ⟨a1, len, cap, rfl⟩ := okWide_slice Tryz.underlying22 hval
  obtain ⟨fuel, hf⟩ := h1
  rcases open_ints Tryz.underlying22 Tryz.underlying5 (by kernel_rfl) hf with ⟨hcs, hx⟩ | ⟨a, len', cap', zs, hcs, _, hl, hm, hz, hx, hcell, hwz⟩
  · simp [Value.cells] at hcs
    obtain ⟨rfl, rfl, rfl⟩ := hcs
    exact ⟨[], .inl (.inl ⟨rfl, rfl⟩), by simp⟩
  · simp [Value.cells] at hcs
    obtain ⟨rfl, rfl, rfl⟩ := hcs
    simp only [if_true] at hz
    have hlen : ((zs.take len).map fun n => UInt8.ofNat n.toNat).length = len := by simp; omega
    refine ⟨(zs.take len).map fun n => UInt8.ofNat n.toNat, ?_, by rw [hlen]; have : maxLen = 9223372036854775807 := rfl; omega⟩
    rcases Nat.eq_zero_or_pos len with h0 | hp
    · subst h0
      exact .inr ⟨by simp, a, cap, rfl⟩
    · refine .inl (.inr ⟨a, cap, by rw [hlen], by rw [hlen]; exact hl, Kb.cell_lt (show W.cell? a = _ by have := hcell 0 (by omega); rwa [Addr.add_zero'] at this), trivial, fun j hj => ?_⟩)
      rw [hlen] at hj
      rw [hcell j (by omega)]
      have hb := range_u8 hwz j
      have e : zs.getD j 0 = zs[j]'(by omega) := by simp [List.getD, List.getElem?_eq_getElem (show j < zs.length by omega)]
      rw [List.getD_eq_getElem?_getD] at e
      rw [e] at hb
      simp only [List.getElem_map, List.getElem_take, u8]
      rw [List.getD_eq_getElem?_getD, e]
      congr 2
      simp only [UInt8.toNat_ofNat']
      omega

theorem door_met (os : Os) (args : Array Value) : laidMetH Tryz.prog Rows.fnAnyShareFetchResponseRow.laid ((World.doorLaid Tryz.prog 400 os).forCall (fun _ _ => 0) ⟨#[], args, []⟩).memory :=
  laidMetH_of_parts3 (fuel := 8) (laidMet_of_run' 8 (by kernel_rfl) (by kernel_rfl)) (by kernel_rfl) (by kernel_rfl)

theorem lifted (os : Os) (started : os.Started) (H : Type) (enc : TypeId × Value → H) :
    ReturnsInHanded {} Tryz.checked os 8 .any (fun w args => (Rows.fnAnyShareFetchResponseSpec.pre enc Tryz.prog Tryz.f8 Rows.fnAnyShareFetchResponseRow.domain false w args ∧ laidMetH Tryz.prog Rows.fnAnyShareFetchResponseRow.laid w) ∧ sizedMet enc Tryz.prog Tryz.f8 (OpenSpec.ofChange Rows.fnAnyShareFetchResponseSpec) false w args)
      (Rows.fnAnyShareFetchResponseSpec.post enc Tryz.prog Tryz.f8 false true false false) := by
  refine returnsInHanded_of_change_and (C := Tryz.checked) (X := fun w _ => laidMetH Tryz.prog Rows.fnAnyShareFetchResponseRow.laid w) (fun _ _ _ hh h => h.of_heap hh) own started (by kernel_rfl) Tryz.func8
    (ChangeSpec.witness_shaped (enc := enc) (C := Tryz.checked) (os := os) (X := fun w _ => laidMetH Tryz.prog Rows.fnAnyShareFetchResponseRow.laid w) false (World.doorLaid Tryz.prog 400 os) #[.int .u8 0, .slice none 0 0] 8 rfl (World.shaped_of_RefB (by kernel_rfl) (by kernel_rfl)) (by kernel_rfl) (by kernel_rfl) (by kernel_rfl) (door_met os _)) ?_
  intro W base args ds gs before hval0 hW hcnd _ hL _
  have hval : ∀ (j : Nat) t v, Tryz.f8.params[j]? = some t → args[j]? = some v → Value.okWide Tryz.prog W .any base t v := hval0
  have hW' := hW
  obtain ⟨p, q, hA0, hV, rfl, hfz, hnd⟩ := hW
  have hA : DataW.TrodAll enc Tryz.prog W 0 (fun _ => true) true Tryz.f8.params.toList args.toList ds p := hA0
  rw [Tryz.params8] at hA hval
  obtain ⟨v0, vs0, d0, ds0, p0, q0, hargs, rfl, rfl, h0, r0⟩ := trodAll_cons hA
  obtain ⟨v1, vs1, d1, ds1, p1, q1, hargs1, rfl, rfl, h1, r1⟩ := trodAll_cons r0
  obtain ⟨rfl, rfl, rfl⟩ := trodAll_nil r1
  obtain rfl : args = #[v0, v1] := by cases args; simp_all
  obtain ⟨rfl, rfl⟩ := trodVars_none hV
  obtain ⟨bs, hsl, hlen⟩ := open_sl (hval 1 22 v1 rfl rfl) h1
  obtain ⟨a0, rfl, rfl, rfl, w0⟩ := open_int Tryz.underlying5 (hval 0 5 v0 rfl rfl) h0
  obtain ⟨et, ev, herr⟩ := of_laid hL
  clear hA0 hval0
  simp only [List.append_nil] at hW'
  have hlt : ∀ x ∈ p1, x.block < W.heap.size := fun x hx => by simpa using hW'.lt x (by simpa using hx)
  refine (walk a0 w0 hsl herr hlen).mono fun e W' ⟨he, hg⟩ => ?_
  subst he
  exact ⟨_, rfl, _, _, _, [], _, [], hW', (trodAll_cons_mk (shut_bool Tryz.underlying4 _) trodAll_mk0), (trodAll_cons_mk (shut_int Tryz.underlying5 w0) (trodAll_cons_mk (Below.trod laidOut (by kernel_rfl) (of_decide_eq_true (by kernel_rfl)) h1 hg hlt) trodAll_mk0)), rfl, hg.frame _, fun h => by cases h⟩

theorem over : Rows.fnAnyShareFetchResponseRow.holds Tryz.pinned (OpenSpec.ofChange Rows.fnAnyShareFetchResponseSpec) :=
  OpenClaim.holds_of_wide 8 Tryz.f8 rfl rfl rfl rfl rfl rfl rfl ⟨rfl, rfl, rfl, rfl, rfl⟩ rfl rfl rfl rfl rfl (by kernel_rfl) Tryz.func8 (by kernel_rfl)
    (of_decide_eq_true (by kernel_rfl)) (by unfold Func.isWrapper; first | (rw [if_pos (by decide +kernel)]; kernel_rfl) | (rw [if_neg (by decide +kernel)]; exact ⟨rfl, rfl⟩))
    (fun os started H enc _ => lifted os started H enc)

/-- The statement. -/
theorem proved : Rows.FnAnyShareFetchResponseCardSaid :=
  Claim7.holds_tied_plain_at .later [] [.sentinel] true (true, "f0c661a2a083e2d8f090539c26fc314ec3ab7cafee4fe3973f86b558c0048d2a") false
    over (fun _ h => by cases h) (by kernel_rfl) (fun _ h => by cases h) fnAnyShareFetchResponse_row_tie rfl ⟨rfl, rfl⟩ (by kernel_rfl) rfl
    (fun f fn hf hfn => by
      obtain rfl : f = 8 := Option.some.inj ((show Tryz.prog.funcNamed "pub-kmsg/laws.FnAnyShareFetchResponse" = some 8 by kernel_rfl).symm.trans hf) |>.symm
      obtain rfl : fn = Tryz.f8 := (Option.some.inj (Tryz.func8.symm.trans hfn)).symm
      exact ⟨by kernel_rfl, fun j t ht => by
        rw [Tryz.params8] at ht
        have hm : t ∈ [5, 22] := by simpa using Array.mem_of_getElem? ht
        have hall : ([5, 22].all fun u => !Tryz.prog.wantsStandIn u) = true := by kernel_rfl
        exact (show Tryz.prog.wantsStandIn t = false by simpa using List.all_eq_true.1 hall t hm)⟩)
    (by kernel_rfl)
#print axioms proved
end Go.Proofs.YtlbojjkfjhnaaaaGreatDoor.fnAnyShareFetchResponse
