/- The law FnAnyUpdateRaftVoterResponse: what is read of any octets as a message is written as octets that are read again, and written as the same. It holds for every number n (an octet) and whatever octets; no further condition. -/
import Derived.Test.YtlbojjkfjhnaaaaDoorSg
import Derived.Test.YtlbojjkfjhnaaaaDoorMl
import Derived.Test.YtlbojjkfjhnaaaaDoorMm
import Derived.Test.YtlbojjkfjhnaaaaDoorCards
import Derived.Test.YtlbojjkfjhnaaaaDoorTie
import Derived.WalkKit
import Derived.ProofKit
import Derived.OpenShut
import Derived.Carry
import Derived.LaidMore
import Derived.Stop.LaidErr
import Derived.SevenTiedAt
namespace Go.Proofs.YtlbojjkfjhnaaaaDoor.fnAnyUpdateRaftVoterResponse
open Go Go.ChangeShapes Go.WideShapes Go.ChangeAt Go.RowKit
open Go.Lx Go.Nx Go.Km Go.Mx Go.Kb Go.Mr
set_option linter.unusedVariables false
set_option maxRecDepth 100000

noncomputable abbrev P : Program := Tryd.prog

def s_UpdateRaftVoterResponseCurrentLeader (v : Nat) : Fs := fld (true) 0 (.prim (.i32)) <| fld (true) 1 (.prim (.i32)) <| fld (true) 2 (.prim (.str (true))) <| fld (true) 3 (.prim (.i32)) <| endT (true) 4
def s_UpdateRaftVoterResponse (v : Nat) : Fs := fld (true) 1 (.prim (.i32)) <| fld (true) 2 (.prim (.i16)) <| .nil
def k_UpdateRaftVoterResponse (v : Nat) : List KU := [⟨0, 3, .str (s_UpdateRaftVoterResponseCurrentLeader v), .zz 72 71 dzL dL⟩]

noncomputable def z : List Value := [.int .i16 0, .int .i32 0, .int .i16 0, .int .i32 0, .int .i32 0, .string ByteArray.empty, .int .i32 0, .map none, .map none]
noncomputable def ds : List (Nat × Value) := (defC P 69).getD []
theorem h_f : fnP P 5 2 = some (p_fnAny 17 15 18 10) := by kernel_rfl
theorem h_ver : fnP P 15 2 = some p_version := by kernel_rfl
theorem h_same : fnP P 10 2 = some p_same := by kernel_rfl
theorem h_max : fnP P 17 0 = some (p_max 33 34) := by kernel_rfl
theorem h_new : fnP P 33 0 = some (p_new z 69) := by kernel_rfl
theorem h_def : Sg.TT.defs 69 = some ds := by kernel_rfl
theorem h_ds : (decide (0 < z.length) && ds.all (fun d => decide (d.1 < z.length))) = true := by kernel_rfl
theorem h_mx : fnP P 34 1 = some (p_maxV ((0 : Nat) : Int)) := by kernel_rfl
theorem h_again : fnP P 18 2 = some (p_again Sg.IJ.e8 33 35 36 37) := by kernel_rfl
theorem h_set : fnP P 35 2 = some Mr.p_set := by kernel_rfl
theorem h_read : fnP P 36 2 = some (p_read 70) := by kernel_rfl
def UU : KTab := { uv := Sg.IJ.rUvarint, span := Sg.IJ.rSpan, set := Sg.IJ.set }
theorem UU_ok : KTabOk P UU := ⟨Sg.c_rUvarint, Sg.c_rSpan, set_at Sg.hn Sg.f_set⟩
theorem h_r : msgRK P Sg.TT UU 69 70 (setD 0 ds z) 0 0 s_UpdateRaftVoterResponse 8 k_UpdateRaftVoterResponse = true := by kernel_rfl
theorem h_w : msgWK P Sg.WW Sg.IJ.eG 37 (setD 0 ds z) 0 0 s_UpdateRaftVoterResponse 8 k_UpdateRaftVoterResponse = true := by kernel_rfl
theorem z_1 : fnP P 108 2 = some p_zzT := by kernel_rfl
theorem z_2 : fnP P 71 2 = some (p_zzL 108) := by kernel_rfl
theorem z_3 : defC P 73 = some [(0, .int .i32 (-1)), (1, .int .i32 (-1))] := by kernel_rfl
theorem z_4 : fnP P 72 0 = some (p_dL 73) := by kernel_rfl
theorem h_zz : ∀ v, v ≤ 0 → ∀ k ∈ k_UpdateRaftVoterResponse v, ZzAll P k := by
    intro v _ k hk
    simp only [k_UpdateRaftVoterResponse, List.mem_cons, List.not_mem_nil, or_false] at hk
    rcases hk with rfl
    exact zzOk_L Sg.hn z_1 z_2 (defC_ok Sg.hn z_3) z_4 true
theorem h_k : ksC (setD 0 ds z) ds 0 0 k_UpdateRaftVoterResponse = true := by kernel_rfl
theorem h_wf : ((List.range (0 + 1)).all fun v => wfF (s_UpdateRaftVoterResponse v)) = true := by kernel_rfl

theorem law {w : World} {src : Value} {bs : Bs} {n : Nat} {et : TypeId} {ev : Value} (hn8 : n < 256) (hsl : SlE (fun _ => True) w src bs) (herr : w.cell? ⟨Sg.IJ.err, 0, none⟩ = some (.iface et ev)) (hlen : bs.length < 9223372036854775808) :
    In.wp P (.call 5) [.int .u8 (n : Int), src] w fun v w' => v = .bool true ∧ Keep [] w w' :=
  law_anyT Sg.hn Sg.TT_ok UU_ok Sg.WW_ok h_f h_ver h_same h_max h_new h_def h_ds h_mx (by omega) h_again h_set h_read h_r h_w h_k h_zz h_wf hn8 hsl herr hlen

theorem walk (a0 : Int) (w0 : (Lit.int .u8 a0).wf = true) {w : World} {src : Value} {bs : Bs} {et : TypeId} {ev : Value} (hsl : SlE (fun _ => True) w src bs) (herr : w.cell? ⟨Sg.IJ.err, 0, none⟩ = some (.iface et ev)) (hlen : bs.length < 9223372036854775808) :
    Calls Tryd.prog 5 #[.int .u8 a0, src] w fun e w' => e = .returned (.bool true) ∧ Below w.heap.size w w' := by
  have hx : 0 ≤ a0 ∧ a0 ≤ 255 := by simpa [Lit.wf, IntKind.min, IntKind.max, IntKind.signed, IntKind.bits] using w0
  have h := law (n := a0.toNat) (by omega) hsl herr hlen
  have ha : ((a0.toNat : Nat) : Int) = a0 := by omega
  rw [ha] at h
  refine Calls.mono h fun ev' w' hev => ?_
  match ev', hev with
  | .returned v, hev => exact ⟨by rw [hev.1], hev.2.below (fun x hx => by cases hx) (Nat.le_refl _)⟩

theorem own : ownKnob Tryd.prog.godebug = none := by kernel_rfl
theorem laidOut : laidOutB Tryd.prog = true := by kernel_rfl

theorem rowE (u : TypeId) (h : Tryd.prog.typeName? 3 u = some "*errors.errorString") : u = 189 :=
  typeName_ptr_named (nm := "errors.errorString") (by rw [show "*" ++ "errors.errorString" = "*errors.errorString" by decide]; kernel_rfl) (by kernel_rfl) (by decide) u (by rw [show "*" ++ "errors.errorString" = "*errors.errorString" by decide]; exact h)

/-- The error's variable. -/
theorem of_laid {W : World} (h : laidMetH Tryd.prog Rows.fnAnyUpdateRaftVoterResponseRow.laid W) : ∃ (et : TypeId) (ev : Value), W.cell? ⟨Sg.IJ.err, 0, none⟩ = some (.iface et ev) := by
  rw [MakeChecks.laidMetH_plain _ _ _ (by kernel_rfl)] at h
  obtain ⟨a, s, hv, _⟩ := laid_sentinel h (show Tryd.prog.globalNamed "pub-kmsg/pub/kmsg/inner/kbin.ErrNotEnoughData" = some 1 by kernel_rfl) (show (Tryd.prog.globals[1]?).map (·.type) = some 49 by kernel_rfl) Tryd.underlying49 rowE Tryd.underlying189 Tryd.underlying206 rfl rfl Tryd.underlying9 (by kernel_rfl) (by kernel_rfl)
  have h0 : W.cell? ⟨1, 0, none⟩ = some (.iface 189 (.pointer (some a))) := by
    have := World.var?_cell (show Tryd.prog.globalNamed "pub-kmsg/pub/kmsg/inner/kbin.ErrNotEnoughData" = some 1 by kernel_rfl) hv 0
    simpa using this
  exact ⟨_, _, h0⟩

/-- A slice of octets that came in. -/
theorem open_sl {H : Type} {enc : TypeId × Value → H} {W : World} {base : Nat} {v1 : Value} {d1 : DataW H} {p1 : List MemPlace} (hval : Value.okWide Tryd.prog W .any base 22 v1) (h1 : DataW.Trod enc Tryd.prog W 0 (fun _ => true) true 22 v1 d1 p1) :
    ∃ bs : Bs, SlE (fun _ => True) W v1 bs ∧ bs.length < 9223372036854775808 := by
  obtain ⟨a1, len, cap, rfl⟩ := okWide_slice Tryd.underlying22 hval
  obtain ⟨fuel, hf⟩ := h1
  rcases open_ints Tryd.underlying22 Tryd.underlying5 (by kernel_rfl) hf with ⟨hcs, hx⟩ | ⟨a, len', cap', zs, hcs, _, hl, hm, hz, hx, hcell, hwz⟩
  · simp [Value.cells] at hcs
    obtain ⟨rfl, rfl, rfl⟩ := hcs
    exact ⟨[], .inl (.inl ⟨rfl, rfl⟩), by simp⟩
  · simp [Value.cells] at hcs
    obtain ⟨rfl, rfl, rfl⟩ := hcs
    simp only [if_true] at hz
    have hlen : ((zs.take len).map fun n => UInt8.ofNat n.toNat).length = len := by simp; omega
    refine ⟨(zs.take len).map fun n => UInt8.ofNat n.toNat, ?_, by rw [hlen]; have : maxLen = 9223372036854775807 := rfl; omega⟩
    rcases Nat.eq_zero_or_pos len with h0 | hp
    · subst h0
      exact .inr ⟨by simp, a, cap, rfl⟩
    · refine .inl (.inr ⟨a, cap, by rw [hlen], by rw [hlen]; exact hl, Kb.cell_lt (show W.cell? a = _ by have := hcell 0 (by omega); rwa [Addr.add_zero'] at this), trivial, fun j hj => ?_⟩)
      rw [hlen] at hj
      rw [hcell j (by omega)]
      have hb := range_u8 hwz j
      have e : zs.getD j 0 = zs[j]'(by omega) := by simp [List.getD, List.getElem?_eq_getElem (show j < zs.length by omega)]
      rw [List.getD_eq_getElem?_getD] at e
      rw [e] at hb
      simp only [List.getElem_map, List.getElem_take, u8]
      rw [List.getD_eq_getElem?_getD, e]
      congr 2
      simp only [UInt8.toNat_ofNat']
      omega

theorem door_met (os : Os) (args : Array Value) : laidMetH Tryd.prog Rows.fnAnyUpdateRaftVoterResponseRow.laid ((World.doorLaid Tryd.prog 400 os).forCall (fun _ _ => 0) ⟨#[], args, []⟩).memory :=
  laidMetH_of_parts3 (fuel := 8) (laidMet_of_run' 8 (by kernel_rfl) (by kernel_rfl)) (by kernel_rfl) (by kernel_rfl)

theorem lifted (os : Os) (started : os.Started) (H : Type) (enc : TypeId × Value → H) :
    ReturnsInHanded {} Tryd.checked os 5 .any (fun w args => (Rows.fnAnyUpdateRaftVoterResponseSpec.pre enc Tryd.prog Tryd.f5 Rows.fnAnyUpdateRaftVoterResponseRow.domain false w args ∧ laidMetH Tryd.prog Rows.fnAnyUpdateRaftVoterResponseRow.laid w) ∧ sizedMet enc Tryd.prog Tryd.f5 (OpenSpec.ofChange Rows.fnAnyUpdateRaftVoterResponseSpec) false w args)
      (Rows.fnAnyUpdateRaftVoterResponseSpec.post enc Tryd.prog Tryd.f5 false true false false) := by
  refine returnsInHanded_of_change_and (C := Tryd.checked) (X := fun w _ => laidMetH Tryd.prog Rows.fnAnyUpdateRaftVoterResponseRow.laid w) (fun _ _ _ hh h => h.of_heap hh) own started (by kernel_rfl) Tryd.func5
    (ChangeSpec.witness_shaped (enc := enc) (C := Tryd.checked) (os := os) (X := fun w _ => laidMetH Tryd.prog Rows.fnAnyUpdateRaftVoterResponseRow.laid w) false (World.doorLaid Tryd.prog 400 os) #[.int .u8 0, .slice none 0 0] 8 rfl (World.shaped_of_RefB (by kernel_rfl) (by kernel_rfl)) (by kernel_rfl) (by kernel_rfl) (by kernel_rfl) (door_met os _)) ?_
  intro W base args ds gs before hval0 hW hcnd _ hL _
  have hval : ∀ (j : Nat) t v, Tryd.f5.params[j]? = some t → args[j]? = some v → Value.okWide Tryd.prog W .any base t v := hval0
  have hW' := hW
  obtain ⟨p, q, hA0, hV, rfl, hfz, hnd⟩ := hW
  have hA : DataW.TrodAll enc Tryd.prog W 0 (fun _ => true) true Tryd.f5.params.toList args.toList ds p := hA0
  rw [Tryd.params5] at hA hval
  obtain ⟨v0, vs0, d0, ds0, p0, q0, hargs, rfl, rfl, h0, r0⟩ := trodAll_cons hA
  obtain ⟨v1, vs1, d1, ds1, p1, q1, hargs1, rfl, rfl, h1, r1⟩ := trodAll_cons r0
  obtain ⟨rfl, rfl, rfl⟩ := trodAll_nil r1
  obtain rfl : args = #[v0, v1] := by cases args; simp_all
  obtain ⟨rfl, rfl⟩ := trodVars_none hV
  obtain ⟨bs, hsl, hlen⟩ := open_sl (hval 1 22 v1 rfl rfl) h1
  obtain ⟨a0, rfl, rfl, rfl, w0⟩ := open_int Tryd.underlying5 (hval 0 5 v0 rfl rfl) h0
  obtain ⟨et, ev, herr⟩ := of_laid hL
  clear hA0 hval0
  simp only [List.append_nil] at hW'
  have hlt : ∀ x ∈ p1, x.block < W.heap.size := fun x hx => by simpa using hW'.lt x (by simpa using hx)
  refine (walk a0 w0 hsl herr hlen).mono fun e W' ⟨he, hg⟩ => ?_
  subst he
  exact ⟨_, rfl, _, _, _, [], _, [], hW', (trodAll_cons_mk (shut_bool Tryd.underlying4 _) trodAll_mk0), (trodAll_cons_mk (shut_int Tryd.underlying5 w0) (trodAll_cons_mk (Below.trod laidOut (by kernel_rfl) (of_decide_eq_true (by kernel_rfl)) h1 hg hlt) trodAll_mk0)), rfl, hg.frame _, fun h => by cases h⟩

theorem over : Rows.fnAnyUpdateRaftVoterResponseRow.holds Tryd.pinned (OpenSpec.ofChange Rows.fnAnyUpdateRaftVoterResponseSpec) :=
  OpenClaim.holds_of_wide 5 Tryd.f5 rfl rfl rfl rfl rfl rfl rfl ⟨rfl, rfl, rfl, rfl, rfl⟩ rfl rfl rfl rfl rfl (by kernel_rfl) Tryd.func5 (by kernel_rfl)
    (of_decide_eq_true (by kernel_rfl)) (by unfold Func.isWrapper; first | (rw [if_pos (by decide +kernel)]; kernel_rfl) | (rw [if_neg (by decide +kernel)]; exact ⟨rfl, rfl⟩))
    (fun os started H enc _ => lifted os started H enc)

/-- The statement. -/
theorem proved : Rows.FnAnyUpdateRaftVoterResponseCardSaid :=
  Claim7.holds_tied_plain_at .later [] [.sentinel] true (true, "cd0d54a989250fcd7dc5c7fe23b2df76e975b451f65ff6d344efc21fe4a4e185") false
    over (fun _ h => by cases h) (by kernel_rfl) (fun _ h => by cases h) fnAnyUpdateRaftVoterResponse_row_tie rfl ⟨rfl, rfl⟩ (by kernel_rfl) rfl
    (fun f fn hf hfn => by
      obtain rfl : f = 5 := Option.some.inj ((show Tryd.prog.funcNamed "pub-kmsg/laws.FnAnyUpdateRaftVoterResponse" = some 5 by kernel_rfl).symm.trans hf) |>.symm
      obtain rfl : fn = Tryd.f5 := (Option.some.inj (Tryd.func5.symm.trans hfn)).symm
      exact ⟨by kernel_rfl, fun j t ht => by
        rw [Tryd.params5] at ht
        have hm : t ∈ [5, 22] := by simpa using Array.mem_of_getElem? ht
        have hall : ([5, 22].all fun u => !Tryd.prog.wantsStandIn u) = true := by kernel_rfl
        exact (show Tryd.prog.wantsStandIn t = false by simpa using List.all_eq_true.1 hall t hm)⟩)
    (by kernel_rfl)
#print axioms proved
end Go.Proofs.YtlbojjkfjhnaaaaDoor.fnAnyUpdateRaftVoterResponse
