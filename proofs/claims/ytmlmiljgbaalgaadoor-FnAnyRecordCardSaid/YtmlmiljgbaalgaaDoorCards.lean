/-
  DERIVED. GIVEN WITH THE SEED: THE CARDS: each row of YtmlmiljgbaalgaaDoorRows.lean that lists a variable, with what it lists TIED to the program's text (the seventh form; the later family's looks); each row that meets fmt, with fmt's text TOLD by the authors' own Lean function (tested against real Go, not proved from fmt's source: count such statements apart). THE CARD IS WHAT COUNTS. Prove the row's statement (the work); the ties are given (YtmlmiljgbaalgaaDoorTie.lean); close each card by the builder's one call (the guide's Derived/Test/ToyasCard.lean, 'card_holds'). Laid BY PROGRAM, IN A SANDBOX (cutbox-door.mjs). By AI agents, Wed Nov 11 2026. No macro, syntax, notation, axiom, sorry.
-/
import Derived.Test.YtmlmiljgbaalgaaDoorRows
import GoSem.ClaimSeven
namespace Go.Proofs.YtmlmiljgbaalgaaDoor
namespace Rows

/-- THE TIED CARD OF 'laws.FnAnyRecord'. -/
def fnAnyRecordCard : Claim7 := { stood := { row := fnAnyRecordRow, standIns := [], harness := (true, "bd27d8f5aa6228c6902e822433e4b0b381ee2a0af80d33cf6844558e1dff4ee5"), looks := false }, kinds := [], alts := [], laidByText := true, laidKinds := [.sentinel], laidTests := true, laidLooks := .later }
def FnAnyRecordCardSaid : Prop := Claim7.holds Tryd.pinned (.plain (OpenSpec.ofChange fnAnyRecordSpec)) fnAnyRecordCard

/-- THE SECOND FORM's CARD OF 'laws.FnAnyRecord'. -/
def fnAnyRecordUptoCard : Claim7 := { stood := { row := fnAnyRecordUptoRow, standIns := [], harness := (true, "bd27d8f5aa6228c6902e822433e4b0b381ee2a0af80d33cf6844558e1dff4ee5"), looks := false }, kinds := [], alts := [], laidByText := true, laidKinds := [.sentinel], laidTests := true, laidLooks := .later }
def FnAnyRecordUptoCardSaid : Prop := Claim7.holds Tryd.pinned (.plain (OpenSpec.upto fnAnyRecordSpec)) fnAnyRecordUptoCard
end Rows
end Go.Proofs.YtmlmiljgbaalgaaDoor
