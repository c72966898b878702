/- The law FnTransactionStateText: a value that the documentation names is written as its word, and marshalled so; both are read as the value. It holds for every number of eight bits; no further condition. -/
import Derived.Test.YtajakjfmeoclaaaDoorNs
import Derived.Test.YtajakjfmeoclaaaDoorCards
import Derived.Test.YtajakjfmeoclaaaDoorTie
import Derived.WalkKit
import Derived.ProofKit
import Derived.OpenShut
import Derived.Lay
import Derived.Lib.LaidU8
import Derived.ChangeMaps5
import Derived.LaidOnce
import Derived.SevenTiedAt
namespace Go.Proofs.YtajakjfmeoclaaaDoor.fnTransactionStateText
open Go Go.ChangeShapes Go.WideShapes Go.ChangeAt Go.RowKit
open Go.Lx Go.Nx Go.Km Go.Mx Go.Kb Go.Nm
set_option linter.unusedVariables false
set_option maxRecDepth 100000

noncomputable abbrev P : Program := Tryd.prog
def ns : List (Int × Bs) := [(0, [69, 109, 112, 116, 121]), (1, [79, 110, 103, 111, 105, 110, 103]), (2, [80, 114, 101, 112, 97, 114, 101, 67, 111, 109, 109, 105, 116]), (3, [80, 114, 101, 112, 97, 114, 101, 65, 98, 111, 114, 116]), (4, [67, 111, 109, 112, 108, 101, 116, 101, 67, 111, 109, 109, 105, 116]), (5, [67, 111, 109, 112, 108, 101, 116, 101, 65, 98, 111, 114, 116]), (6, [68, 101, 97, 100]), (7, [80, 114, 101, 112, 97, 114, 101, 69, 112, 111, 99, 104, 70, 101, 110, 99, 101])]
theorem h_names : fnP P 12 0 = some (p_names ns) := by kernel_rfl
theorem h_parse : fnP P 27 1 = some (p_parse Ns.NJ 42 [84, 114, 97, 110, 115, 97, 99, 116, 105, 111, 110, 83, 116, 97, 116, 101, 58, 32, 117, 110, 97, 98, 108, 101, 32, 116, 111, 32, 112, 97, 114, 115, 101] (wordsOf ns)) := by kernel_rfl
theorem h_unm : fnP P 28 2 = some (p_unm 27) := by kernel_rfl
theorem h_impl : fnP P 15 1 = some (p_implParse 27) := by kernel_rfl
theorem h_of : fnP P 16 1 = some (p_ofText 5 28) := by kernel_rfl
theorem h_string : fnP P 26 1 = some (p_string [85, 110, 107, 110, 111, 119, 110] ns) := by kernel_rfl
theorem h_marshal : fnP P 25 1 = some (p_marshal 26) := by kernel_rfl
theorem h_text : fnP P 13 1 = some (p_text 5 25) := by kernel_rfl
theorem h_implS : fnP P 14 1 = some (p_implString 26) := by kernel_rfl
theorem h_word : fnP P 11 2 = some p_word := by kernel_rfl
theorem h_f : fnP P 4 1 = some (p_lawText 12 11 13 14 16 15) := by kernel_rfl
theorem h_small : small (wordsOf ns) = true := by kernel_rfl
theorem h_good : goodNames ns = true := by kernel_rfl

theorem law {w : World} (x : Int) (hxs : -128 ≤ x ∧ x < 128) (hx : Ns.X w) : In.wp P (.call 4) [.int .i8 x] w fun v w' => v = .bool true ∧ Keep [] w w' :=
  lawText_ok Ns.hn Ns.stays h_good (by decide) h_string h_marshal h_names h_word h_text h_implS
    (implParse_ok Ns.hn (Ns.parses h_parse) h_small h_impl) (ofText_ok Ns.hn Ns.stays (Ns.parses h_parse) h_small h_unm h_of) h_f hxs hx

theorem walk {W : World} (x : Int) (hxs : -128 ≤ x ∧ x < 128) (hx : Ns.X W) : Calls Tryd.prog 4 #[.int .i8 x] W fun e w' => e = .returned (.bool true) ∧ Below W.heap.size W w' := by
  refine Calls.mono (show Calls P 4 #[.int .i8 x] W _ from law x hxs hx) ?_
  intro ev' w' hev
  match ev', hev with
  | .returned v, hev => exact ⟨by rw [hev.1], hev.2.below (fun x hx => by cases hx) (Nat.le_refl _)⟩

theorem of_laid {W : World} (h : laidMetH Tryd.prog Rows.fnTransactionStateTextRow.laid W) : Ns.X W := by
  rw [MakeChecks.laidMetH_plain _ _ _ (by kernel_rfl)] at h
  obtain ⟨g, t, cs, fuel, p, hg, ht, hvar, hd⟩ := Lib.laidMet.reads h (show ("strings.asciiSpace", Rows.laid_strings_asciiSpace) ∈ Rows.fnTransactionStateTextRow.laid from .tail _ (.tail _ (.head _)))
  obtain rfl := Option.some.inj (Ns.gX.symm.trans hg)
  have hty : (Tryd.prog.globals[Tryd.laysTrim_ren.g 0]?).map (·.type) = some 151 := by kernel_rfl
  obtain rfl := Option.some.inj (hty.symm.trans ht)
  have he : (Rows.laid_strings_asciiSpace : DataW Unit) = Lib.tabData .u8 Lib.asciiSpaceTab := by kernel_rfl
  rw [he] at hd
  unfold Ns.X Lib.TabIs
  rw [hvar, ← Lib.cells_of_tab Tryd.underlying151 Tryd.underlying5 (by kernel_rfl) (by kernel_rfl) hd]

theorem lifted (os : Os) (started : os.Started) (H : Type) (enc : TypeId × Value → H) :
    ReturnsInHanded {} Tryd.checked os 4 .any (fun w args => (Rows.fnTransactionStateTextSpec.pre enc Tryd.prog Tryd.f4 Rows.fnTransactionStateTextRow.domain false w args ∧ laidMetH Tryd.prog Rows.fnTransactionStateTextRow.laid w) ∧ sizedMet enc Tryd.prog Tryd.f4 (OpenSpec.ofChange Rows.fnTransactionStateTextSpec) false w args)
      (Rows.fnTransactionStateTextSpec.post enc Tryd.prog Tryd.f4 false true false false) := by
  refine returnsInHanded_of_change_and (C := Tryd.checked) (X := fun w _ => laidMetH Tryd.prog Rows.fnTransactionStateTextRow.laid w) (fun _ _ _ hh h => h.of_heap hh) Ns.own started (by kernel_rfl) Tryd.func4
    (ChangeSpec.witness_shaped (enc := enc) (C := Tryd.checked) (os := os) (X := fun w _ => laidMetH Tryd.prog Rows.fnTransactionStateTextRow.laid w) false (World.laidAll Tryd.prog os Rows.fnTransactionStateTextRow.laid) #[.int .i8 0] 8 (World.laidAll_os _ _ _)
      (World.shaped_of_ZipB (by kernel_rfl) (by kernel_rfl)) (by kernel_rfl) (by kernel_rfl) (by kernel_rfl)
      (by rw [MakeChecks.laidMetH_plain _ _ _ (by kernel_rfl)]; exact laidMet_laidAll _ (by kernel_rfl) (by kernel_rfl))) ?_
  intro W base args ds gs before hval0 hW _ _ hL _
  have hval : ∀ (j : Nat) t v, Tryd.f4.params[j]? = some t → args[j]? = some v → Value.okWide Tryd.prog W .any base t v := hval0
  have hW' := hW
  obtain ⟨p, q, hA0, hV, rfl, _, _⟩ := hW
  have hA : DataW.TrodAll enc Tryd.prog W 0 (fun _ => true) true Tryd.f4.params.toList args.toList ds p := hA0
  rw [Tryd.params4] at hA hval
  obtain ⟨v0, d0, rfl, rfl, h0⟩ := trodAll_one hA
  obtain ⟨rfl, rfl⟩ := trodVars_none hV
  obtain ⟨x, rfl, rfl, rfl, wx⟩ := open_int Tryd.underlying30 (hval 0 30 v0 rfl rfl) h0
  have hxs : -128 ≤ x ∧ x ≤ 127 := by simpa [Lit.wf, IntKind.min, IntKind.max, IntKind.signed, IntKind.bits] using wx
  simp only [List.append_nil] at hW'
  refine (walk x ⟨hxs.1, by omega⟩ (of_laid hL)).mono fun e W' ⟨he, hb⟩ => ?_
  subst he
  exact ⟨_, rfl, _, _, _, [], [], [], hW', trodAll_mk1 (shut_bool Tryd.underlying4 _), trodAll_mk1 (shut_int Tryd.underlying30 wx), rfl, hb.frame _, fun h => by cases h⟩

theorem over : Rows.fnTransactionStateTextRow.holds Tryd.pinned (OpenSpec.ofChange Rows.fnTransactionStateTextSpec) :=
  OpenClaim.holds_of_wide 4 Tryd.f4 rfl rfl rfl rfl rfl rfl rfl ⟨rfl, rfl, rfl, rfl, rfl⟩ rfl rfl rfl rfl rfl (by kernel_rfl) Tryd.func4 (by kernel_rfl)
    (of_decide_eq_true (by kernel_rfl)) (by unfold Func.isWrapper; first | (rw [if_pos (by decide +kernel)]; kernel_rfl) | (rw [if_neg (by decide +kernel)]; exact ⟨rfl, rfl⟩))
    (fun os started H enc _ => lifted os started H enc)

/-- The statement. -/
theorem proved : Rows.FnTransactionStateTextCardSaid :=
  Claim7.holds_tied_plain_at .later [] [.data, .listed, .data, .pinned, .pinned] true (true, "1f7abdcfed1ff5aaa6843a1d07cc8d0a8ccaec3c0c3b2904277ebb4503c74849") false
    over (fun _ h => by cases h) (by kernel_rfl) (fun _ h => by cases h) fnTransactionStateText_row_tie rfl ⟨rfl, rfl⟩ (by kernel_rfl) rfl
    (fun f fn hf hfn => by
      obtain rfl : f = 4 := Option.some.inj ((show Tryd.prog.funcNamed "pub-kmsg/laws.FnTransactionStateText" = some 4 by kernel_rfl).symm.trans hf) |>.symm
      obtain rfl : fn = Tryd.f4 := (Option.some.inj (Tryd.func4.symm.trans hfn)).symm
      exact ⟨by kernel_rfl, fun j t ht => by
        rw [Tryd.params4] at ht
        have hm : t ∈ [30] := by simpa using Array.mem_of_getElem? ht
        have hall : ([30].all fun u => !Tryd.prog.wantsStandIn u) = true := by kernel_rfl
        exact (show Tryd.prog.wantsStandIn t = false by simpa using List.all_eq_true.1 hall t hm)⟩)
    (by kernel_rfl)
#print axioms proved
end Go.Proofs.YtajakjfmeoclaaaDoor.fnTransactionStateText
