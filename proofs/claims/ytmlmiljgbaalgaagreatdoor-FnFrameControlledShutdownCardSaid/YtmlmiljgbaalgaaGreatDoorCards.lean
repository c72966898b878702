/-
  DERIVED. GIVEN WITH THE SEED: THE CARDS: each row of YtmlmiljgbaalgaaGreatDoorRows.lean that lists a variable, with what it lists TIED to the program's text (the seventh form; the later family's looks); each row that meets fmt, with fmt's text TOLD by the authors' own Lean function (tested against real Go, not proved from fmt's source: count such statements apart). THE CARD IS WHAT COUNTS. Prove the row's statement (the work); the ties are given (YtmlmiljgbaalgaaGreatDoorTie.lean); close each card by the builder's one call (the guide's Derived/Test/ToyasCard.lean, 'card_holds'). Laid BY PROGRAM, IN A SANDBOX (cutbox-door.mjs). By AI agents, Wed Nov 11 2026. No macro, syntax, notation, axiom, sorry.
-/
import Derived.Test.YtmlmiljgbaalgaaGreatDoorRows
import GoSem.ClaimSeven
namespace Go.Proofs.YtmlmiljgbaalgaaGreatDoor
namespace Rows

/-- THE TIED CARD OF 'laws.FnFrameControlledShutdown'. -/
def fnFrameControlledShutdownCard : Claim7 := { stood := { row := fnFrameControlledShutdownRow, standIns := [], harness := (true, "edf16e7f0f618a43967d60c5df3aa697978d5be0308729ea7a39a6c4e63af331"), looks := false }, kinds := [], alts := [], laidByText := true, laidKinds := [.sentinel], laidTests := true, laidLooks := .later }
def FnFrameControlledShutdownCardSaid : Prop := Claim7.holds Tryz.pinned (.plain (OpenSpec.ofChange fnFrameControlledShutdownSpec)) fnFrameControlledShutdownCard

/-- THE SECOND FORM's CARD OF 'laws.FnFrameControlledShutdown'. -/
def fnFrameControlledShutdownUptoCard : Claim7 := { stood := { row := fnFrameControlledShutdownUptoRow, standIns := [], harness := (true, "edf16e7f0f618a43967d60c5df3aa697978d5be0308729ea7a39a6c4e63af331"), looks := false }, kinds := [], alts := [], laidByText := true, laidKinds := [.sentinel], laidTests := true, laidLooks := .later }
def FnFrameControlledShutdownUptoCardSaid : Prop := Claim7.holds Tryz.pinned (.plain (OpenSpec.upto fnFrameControlledShutdownSpec)) fnFrameControlledShutdownUptoCard
end Rows
end Go.Proofs.YtmlmiljgbaalgaaGreatDoor
