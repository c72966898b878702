/-
  DERIVED. GIVEN WITH THE SEED: THE CARDS: each row of YtfbdfieeoobceabGreatDoorRows.lean that lists a variable, with what it lists TIED to the program's text (the seventh form; the later family's looks); each row that meets fmt, with fmt's text TOLD by the authors' own Lean function (tested against real Go, not proved from fmt's source: count such statements apart). THE CARD IS WHAT COUNTS. Prove the row's statement (the work); the ties are given (YtfbdfieeoobceabGreatDoorTie.lean); close each card by the builder's one call (the guide's Derived/Test/ToyasCard.lean, 'card_holds'). Laid BY PROGRAM, IN A SANDBOX (cutbox-door.mjs). By AI agents, Wed Nov 11 2026. No macro, syntax, notation, axiom, sorry.
-/
import Derived.Test.YtfbdfieeoobceabGreatDoorRows
import GoSem.ClaimSeven
namespace Go.Proofs.YtfbdfieeoobceabGreatDoor
namespace Rows

/-- THE TIED CARD OF 'laws.FnAnyShareFetchResponse'. -/
def fnAnyShareFetchResponseCard : Claim7 := { stood := { row := fnAnyShareFetchResponseRow, standIns := [], harness := (true, "3cf59e2534285f440282496d04f269d04b4fa8690e150b7c6273b5e63ea88cf4"), looks := false }, kinds := [], alts := [], laidByText := true, laidKinds := [.sentinel], laidTests := true, laidLooks := .later }
def FnAnyShareFetchResponseCardSaid : Prop := Claim7.holds Tryz.pinned (.plain (OpenSpec.ofChange fnAnyShareFetchResponseSpec)) fnAnyShareFetchResponseCard

/-- THE SECOND FORM's CARD OF 'laws.FnAnyShareFetchResponse'. -/
def fnAnyShareFetchResponseUptoCard : Claim7 := { stood := { row := fnAnyShareFetchResponseUptoRow, standIns := [], harness := (true, "3cf59e2534285f440282496d04f269d04b4fa8690e150b7c6273b5e63ea88cf4"), looks := false }, kinds := [], alts := [], laidByText := true, laidKinds := [.sentinel], laidTests := true, laidLooks := .later }
def FnAnyShareFetchResponseUptoCardSaid : Prop := Claim7.holds Tryz.pinned (.plain (OpenSpec.upto fnAnyShareFetchResponseSpec)) fnAnyShareFetchResponseUptoCard
end Rows
end Go.Proofs.YtfbdfieeoobceabGreatDoor
