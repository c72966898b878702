/- The law FnParseACLResourceType: a text is read as the value whose word it is; any other one is an error; so is a text that is unmarshalled. It holds for every text; no further condition. -/
import Derived.Test.YtajakjfmeoclaaaDoorNs
import Derived.Test.YtajakjfmeoclaaaDoorCards
import Derived.Test.YtajakjfmeoclaaaDoorTie
import Derived.WalkKit
import Derived.ProofKit
import Derived.OpenShut
import Derived.Lay
import Derived.Lib.LaidU8
import Derived.ChangeMaps5
import Derived.LaidOnce
import Derived.SevenTiedAt
namespace Go.Proofs.YtajakjfmeoclaaaDoor.fnParseACLResourceType
open Go Go.ChangeShapes Go.WideShapes Go.ChangeAt Go.RowKit
open Go.Lx Go.Nx Go.Km Go.Mx Go.Kb Go.Nm
set_option linter.unusedVariables false
set_option maxRecDepth 100000

noncomputable abbrev P : Program := Tryd.prog
def ns : List (Int × Bs) := [(1, [65, 78, 89]), (2, [84, 79, 80, 73, 67]), (3, [71, 82, 79, 85, 80]), (4, [67, 76, 85, 83, 84, 69, 82]), (5, [84, 82, 65, 78, 83, 65, 67, 84, 73, 79, 78, 65, 76, 95, 73, 68]), (6, [68, 69, 76, 69, 71, 65, 84, 73, 79, 78, 95, 84, 79, 75, 69, 78]), (7, [85, 83, 69, 82])]
theorem h_names : fnP P 10 0 = some (p_names ns) := by kernel_rfl
theorem h_parse : fnP P 22 1 = some (p_parse Ns.NJ 42 [65, 67, 76, 82, 101, 115, 111, 117, 114, 99, 101, 84, 121, 112, 101, 58, 32, 117, 110, 97, 98, 108, 101, 32, 116, 111, 32, 112, 97, 114, 115, 101] (wordsOf ns)) := by kernel_rfl
theorem h_unm : fnP P 23 2 = some (p_unm 22) := by kernel_rfl
theorem h_impl : fnP P 7 1 = some (p_implParse 22) := by kernel_rfl
theorem h_of : fnP P 8 1 = some (p_ofText 5 23) := by kernel_rfl
theorem h_parsed : fnP P 24 2 = some (p_parsed Ns.NJ) := by kernel_rfl
theorem h_lp : fnP P 9 4 = some (p_lawParsed 24) := by kernel_rfl
theorem h_plain : fnP P 6 1 = some (p_plain Ns.NJ) := by kernel_rfl
theorem h_f : fnP P 3 1 = some (p_lawParse 6 7 8 10 9) := by kernel_rfl
theorem h_small : small (wordsOf ns) = true := by kernel_rfl
theorem h_len : (ns.all fun x => decide (x.2.length < 1048576)) = true := by kernel_rfl

theorem law {w : World} (l : Bs) (hlen : l.length < 9223372036854775808) (hx : Ns.X w) : In.wp P (.call 3) [S l] w fun v w' => v = .bool true ∧ Keep [] w w' :=
  lawParse_ok Ns.hn Ns.stays Ns.f_blank Ns.f_normal h_parsed h_lp h_plain (by decide) (fun x hx => by simpa using List.all_eq_true.1 h_len x hx) h_names
    (implParse_ok Ns.hn (Ns.parses h_parse) h_small h_impl) (ofText_ok Ns.hn Ns.stays (Ns.parses h_parse) h_small h_unm h_of) h_f hlen hx

theorem walk {W : World} (s : ByteArray) (hs : s.size < 9223372036854775808) (hx : Ns.X W) : Calls Tryd.prog 3 #[.string s] W fun e w' => e = .returned (.bool true) ∧ Below W.heap.size W w' := by
  refine Calls.mono (show Calls P 3 #[.string s] W _ from law s.data.toList (by rw [← Lib.size_eq]; exact hs) hx) ?_
  intro ev' w' hev
  match ev', hev with
  | .returned v, hev => exact ⟨by rw [hev.1], hev.2.below (fun x hx => by cases hx) (Nat.le_refl _)⟩

theorem of_laid {W : World} (h : laidMetH Tryd.prog Rows.fnParseACLResourceTypeRow.laid W) : Ns.X W := by
  rw [MakeChecks.laidMetH_plain _ _ _ (by kernel_rfl)] at h
  obtain ⟨g, t, cs, fuel, p, hg, ht, hvar, hd⟩ := Lib.laidMet.reads h (show ("strings.asciiSpace", Rows.laid_strings_asciiSpace) ∈ Rows.fnParseACLResourceTypeRow.laid from .tail _ (.tail _ (.head _)))
  obtain rfl := Option.some.inj (Ns.gX.symm.trans hg)
  have hty : (Tryd.prog.globals[Tryd.laysTrim_ren.g 0]?).map (·.type) = some 151 := by kernel_rfl
  obtain rfl := Option.some.inj (hty.symm.trans ht)
  have he : (Rows.laid_strings_asciiSpace : DataW Unit) = Lib.tabData .u8 Lib.asciiSpaceTab := by kernel_rfl
  rw [he] at hd
  unfold Ns.X Lib.TabIs
  rw [hvar, ← Lib.cells_of_tab Tryd.underlying151 Tryd.underlying5 (by kernel_rfl) (by kernel_rfl) hd]

theorem lifted (os : Os) (started : os.Started) (H : Type) (enc : TypeId × Value → H) :
    ReturnsInHanded {} Tryd.checked os 3 .any (fun w args => (Rows.fnParseACLResourceTypeSpec.pre enc Tryd.prog Tryd.f3 Rows.fnParseACLResourceTypeRow.domain false w args ∧ laidMetH Tryd.prog Rows.fnParseACLResourceTypeRow.laid w) ∧ sizedMet enc Tryd.prog Tryd.f3 (OpenSpec.ofChange Rows.fnParseACLResourceTypeSpec) false w args)
      (Rows.fnParseACLResourceTypeSpec.post enc Tryd.prog Tryd.f3 false true false false) := by
  refine returnsInHanded_of_change_and (C := Tryd.checked) (X := fun w _ => laidMetH Tryd.prog Rows.fnParseACLResourceTypeRow.laid w) (fun _ _ _ hh h => h.of_heap hh) Ns.own started (by kernel_rfl) Tryd.func3
    (ChangeSpec.witness_shaped (enc := enc) (C := Tryd.checked) (os := os) (X := fun w _ => laidMetH Tryd.prog Rows.fnParseACLResourceTypeRow.laid w) false (World.laidAll Tryd.prog os Rows.fnParseACLResourceTypeRow.laid) #[.string ByteArray.empty] 8 (World.laidAll_os _ _ _)
      (World.shaped_of_ZipB (by kernel_rfl) (by kernel_rfl)) (by kernel_rfl) (by kernel_rfl) (by kernel_rfl)
      (by rw [MakeChecks.laidMetH_plain _ _ _ (by kernel_rfl)]; exact laidMet_laidAll _ (by kernel_rfl) (by kernel_rfl))) ?_
  intro W base args ds gs before hval0 hW _ _ hL _
  have hval : ∀ (j : Nat) t v, Tryd.f3.params[j]? = some t → args[j]? = some v → Value.okWide Tryd.prog W .any base t v := hval0
  have hW' := hW
  obtain ⟨p, q, hA0, hV, rfl, _, _⟩ := hW
  have hA : DataW.TrodAll enc Tryd.prog W 0 (fun _ => true) true Tryd.f3.params.toList args.toList ds p := hA0
  rw [Tryd.params3] at hA hval
  obtain ⟨v0, d0, rfl, rfl, h0⟩ := trodAll_one hA
  obtain ⟨rfl, rfl⟩ := trodVars_none hV
  obtain ⟨s, rfl, rfl, rfl, ws⟩ := Go.ChangeMaps.open_string Tryd.underlying9 (hval 0 9 v0 rfl rfl) h0

  simp only [List.append_nil] at hW'
  refine (walk s (by have : maxLen = 9223372036854775807 := rfl; omega) (of_laid hL)).mono fun e W' ⟨he, hb⟩ => ?_
  subst he
  exact ⟨_, rfl, _, _, _, [], [], [], hW', trodAll_mk1 (shut_bool Tryd.underlying4 _), trodAll_mk1 (Go.ChangeMaps.shut_string Tryd.underlying9 ws), rfl, hb.frame _, fun h => by cases h⟩

theorem over : Rows.fnParseACLResourceTypeRow.holds Tryd.pinned (OpenSpec.ofChange Rows.fnParseACLResourceTypeSpec) :=
  OpenClaim.holds_of_wide 3 Tryd.f3 rfl rfl rfl rfl rfl rfl rfl ⟨rfl, rfl, rfl, rfl, rfl⟩ rfl rfl rfl rfl rfl (by kernel_rfl) Tryd.func3 (by kernel_rfl)
    (of_decide_eq_true (by kernel_rfl)) (by unfold Func.isWrapper; first | (rw [if_pos (by decide +kernel)]; kernel_rfl) | (rw [if_neg (by decide +kernel)]; exact ⟨rfl, rfl⟩))
    (fun os started H enc _ => lifted os started H enc)

/-- The statement. -/
theorem proved : Rows.FnParseACLResourceTypeCardSaid :=
  Claim7.holds_tied_plain_at .later [] [.data, .listed, .data, .pinned, .pinned] true (true, "1f7abdcfed1ff5aaa6843a1d07cc8d0a8ccaec3c0c3b2904277ebb4503c74849") false
    over (fun _ h => by cases h) (by kernel_rfl) (fun _ h => by cases h) fnParseACLResourceType_row_tie rfl ⟨rfl, rfl⟩ (by kernel_rfl) rfl
    (fun f fn hf hfn => by
      obtain rfl : f = 3 := Option.some.inj ((show Tryd.prog.funcNamed "pub-kmsg/laws.FnParseACLResourceType" = some 3 by kernel_rfl).symm.trans hf) |>.symm
      obtain rfl : fn = Tryd.f3 := (Option.some.inj (Tryd.func3.symm.trans hfn)).symm
      exact ⟨by kernel_rfl, fun j t ht => by
        rw [Tryd.params3] at ht
        have hm : t ∈ [9] := by simpa using Array.mem_of_getElem? ht
        have hall : ([9].all fun u => !Tryd.prog.wantsStandIn u) = true := by kernel_rfl
        exact (show Tryd.prog.wantsStandIn t = false by simpa using List.all_eq_true.1 hall t hm)⟩)
    (by kernel_rfl)
#print axioms proved
end Go.Proofs.YtajakjfmeoclaaaDoor.fnParseACLResourceType
