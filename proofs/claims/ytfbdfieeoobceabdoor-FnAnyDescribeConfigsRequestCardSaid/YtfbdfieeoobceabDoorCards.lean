/-
  DERIVED. GIVEN WITH THE SEED: THE CARDS: each row of YtfbdfieeoobceabDoorRows.lean that lists a variable, with what it lists TIED to the program's text (the seventh form; the later family's looks); each row that meets fmt, with fmt's text TOLD by the authors' own Lean function (tested against real Go, not proved from fmt's source: count such statements apart). THE CARD IS WHAT COUNTS. Prove the row's statement (the work); the ties are given (YtfbdfieeoobceabDoorTie.lean); close each card by the builder's one call (the guide's Derived/Test/ToyasCard.lean, 'card_holds'). Laid BY PROGRAM, IN A SANDBOX (cutbox-door.mjs). By AI agents, Wed Nov 11 2026. No macro, syntax, notation, axiom, sorry.
-/
import Derived.Test.YtfbdfieeoobceabDoorRows
import GoSem.ClaimSeven
namespace Go.Proofs.YtfbdfieeoobceabDoor
namespace Rows

/-- THE TIED CARD OF 'laws.FnAnyDeleteRecordsResponse'. -/
def fnAnyDeleteRecordsResponseCard : Claim7 := { stood := { row := fnAnyDeleteRecordsResponseRow, standIns := [], harness := (true, "ad98ff6c053f483ac22410df770a56e9a3e15a604c9ee085d32e4958378f677e"), looks := false }, kinds := [], alts := [], laidByText := true, laidKinds := [.sentinel], laidTests := true, laidLooks := .later }
def FnAnyDeleteRecordsResponseCardSaid : Prop := Claim7.holds Tryd.pinned (.plain (OpenSpec.ofChange fnAnyDeleteRecordsResponseSpec)) fnAnyDeleteRecordsResponseCard

/-- THE TIED CARD OF 'laws.FnAnyCreateACLsRequest'. -/
def fnAnyCreateACLsRequestCard : Claim7 := { stood := { row := fnAnyCreateACLsRequestRow, standIns := [], harness := (true, "ad98ff6c053f483ac22410df770a56e9a3e15a604c9ee085d32e4958378f677e"), looks := false }, kinds := [], alts := [], laidByText := true, laidKinds := [.sentinel], laidTests := true, laidLooks := .later }
def FnAnyCreateACLsRequestCardSaid : Prop := Claim7.holds Tryd.pinned (.plain (OpenSpec.ofChange fnAnyCreateACLsRequestSpec)) fnAnyCreateACLsRequestCard

/-- THE TIED CARD OF 'laws.FnAnyDescribeConfigsRequest'. -/
def fnAnyDescribeConfigsRequestCard : Claim7 := { stood := { row := fnAnyDescribeConfigsRequestRow, standIns := [], harness := (true, "ad98ff6c053f483ac22410df770a56e9a3e15a604c9ee085d32e4958378f677e"), looks := false }, kinds := [], alts := [], laidByText := true, laidKinds := [.sentinel], laidTests := true, laidLooks := .later }
def FnAnyDescribeConfigsRequestCardSaid : Prop := Claim7.holds Tryd.pinned (.plain (OpenSpec.ofChange fnAnyDescribeConfigsRequestSpec)) fnAnyDescribeConfigsRequestCard

/-- THE TIED CARD OF 'laws.FnAnyBeginQuorumEpochResponse'. -/
def fnAnyBeginQuorumEpochResponseCard : Claim7 := { stood := { row := fnAnyBeginQuorumEpochResponseRow, standIns := [], harness := (true, "ad98ff6c053f483ac22410df770a56e9a3e15a604c9ee085d32e4958378f677e"), looks := false }, kinds := [], alts := [], laidByText := true, laidKinds := [.sentinel], laidTests := true, laidLooks := .later }
def FnAnyBeginQuorumEpochResponseCardSaid : Prop := Claim7.holds Tryd.pinned (.plain (OpenSpec.ofChange fnAnyBeginQuorumEpochResponseSpec)) fnAnyBeginQuorumEpochResponseCard

/-- THE TIED CARD OF 'laws.FnAnySyncGroupRequest'. -/
def fnAnySyncGroupRequestCard : Claim7 := { stood := { row := fnAnySyncGroupRequestRow, standIns := [], harness := (true, "ad98ff6c053f483ac22410df770a56e9a3e15a604c9ee085d32e4958378f677e"), looks := false }, kinds := [], alts := [], laidByText := true, laidKinds := [.sentinel], laidTests := true, laidLooks := .later }
def FnAnySyncGroupRequestCardSaid : Prop := Claim7.holds Tryd.pinned (.plain (OpenSpec.ofChange fnAnySyncGroupRequestSpec)) fnAnySyncGroupRequestCard

/-- THE TIED CARD OF 'laws.FnAnyAlterPartitionRequest'. -/
def fnAnyAlterPartitionRequestCard : Claim7 := { stood := { row := fnAnyAlterPartitionRequestRow, standIns := [], harness := (true, "ad98ff6c053f483ac22410df770a56e9a3e15a604c9ee085d32e4958378f677e"), looks := false }, kinds := [], alts := [], laidByText := true, laidKinds := [.sentinel], laidTests := true, laidLooks := .later }
def FnAnyAlterPartitionRequestCardSaid : Prop := Claim7.holds Tryd.pinned (.plain (OpenSpec.ofChange fnAnyAlterPartitionRequestSpec)) fnAnyAlterPartitionRequestCard

/-- THE TIED CARD OF 'laws.FnAnyDescribeShareGroupOffsetsResponse'. -/
def fnAnyDescribeShareGroupOffsetsResponseCard : Claim7 := { stood := { row := fnAnyDescribeShareGroupOffsetsResponseRow, standIns := [], harness := (true, "ad98ff6c053f483ac22410df770a56e9a3e15a604c9ee085d32e4958378f677e"), looks := false }, kinds := [], alts := [], laidByText := true, laidKinds := [.sentinel], laidTests := true, laidLooks := .later }
def FnAnyDescribeShareGroupOffsetsResponseCardSaid : Prop := Claim7.holds Tryd.pinned (.plain (OpenSpec.ofChange fnAnyDescribeShareGroupOffsetsResponseSpec)) fnAnyDescribeShareGroupOffsetsResponseCard

/-- THE SECOND FORM's CARD OF 'laws.FnAnyDeleteRecordsResponse'. -/
def fnAnyDeleteRecordsResponseUptoCard : Claim7 := { stood := { row := fnAnyDeleteRecordsResponseUptoRow, standIns := [], harness := (true, "ad98ff6c053f483ac22410df770a56e9a3e15a604c9ee085d32e4958378f677e"), looks := false }, kinds := [], alts := [], laidByText := true, laidKinds := [.sentinel], laidTests := true, laidLooks := .later }
def FnAnyDeleteRecordsResponseUptoCardSaid : Prop := Claim7.holds Tryd.pinned (.plain (OpenSpec.upto fnAnyDeleteRecordsResponseSpec)) fnAnyDeleteRecordsResponseUptoCard

/-- THE SECOND FORM's CARD OF 'laws.FnAnyCreateACLsRequest'. -/
def fnAnyCreateACLsRequestUptoCard : Claim7 := { stood := { row := fnAnyCreateACLsRequestUptoRow, standIns := [], harness := (true, "ad98ff6c053f483ac22410df770a56e9a3e15a604c9ee085d32e4958378f677e"), looks := false }, kinds := [], alts := [], laidByText := true, laidKinds := [.sentinel], laidTests := true, laidLooks := .later }
def FnAnyCreateACLsRequestUptoCardSaid : Prop := Claim7.holds Tryd.pinned (.plain (OpenSpec.upto fnAnyCreateACLsRequestSpec)) fnAnyCreateACLsRequestUptoCard

/-- THE SECOND FORM's CARD OF 'laws.FnAnyDescribeConfigsRequest'. -/
def fnAnyDescribeConfigsRequestUptoCard : Claim7 := { stood := { row := fnAnyDescribeConfigsRequestUptoRow, standIns := [], harness := (true, "ad98ff6c053f483ac22410df770a56e9a3e15a604c9ee085d32e4958378f677e"), looks := false }, kinds := [], alts := [], laidByText := true, laidKinds := [.sentinel], laidTests := true, laidLooks := .later }
def FnAnyDescribeConfigsRequestUptoCardSaid : Prop := Claim7.holds Tryd.pinned (.plain (OpenSpec.upto fnAnyDescribeConfigsRequestSpec)) fnAnyDescribeConfigsRequestUptoCard

/-- THE SECOND FORM's CARD OF 'laws.FnAnyBeginQuorumEpochResponse'. -/
def fnAnyBeginQuorumEpochResponseUptoCard : Claim7 := { stood := { row := fnAnyBeginQuorumEpochResponseUptoRow, standIns := [], harness := (true, "ad98ff6c053f483ac22410df770a56e9a3e15a604c9ee085d32e4958378f677e"), looks := false }, kinds := [], alts := [], laidByText := true, laidKinds := [.sentinel], laidTests := true, laidLooks := .later }
def FnAnyBeginQuorumEpochResponseUptoCardSaid : Prop := Claim7.holds Tryd.pinned (.plain (OpenSpec.upto fnAnyBeginQuorumEpochResponseSpec)) fnAnyBeginQuorumEpochResponseUptoCard

/-- THE SECOND FORM's CARD OF 'laws.FnAnySyncGroupRequest'. -/
def fnAnySyncGroupRequestUptoCard : Claim7 := { stood := { row := fnAnySyncGroupRequestUptoRow, standIns := [], harness := (true, "ad98ff6c053f483ac22410df770a56e9a3e15a604c9ee085d32e4958378f677e"), looks := false }, kinds := [], alts := [], laidByText := true, laidKinds := [.sentinel], laidTests := true, laidLooks := .later }
def FnAnySyncGroupRequestUptoCardSaid : Prop := Claim7.holds Tryd.pinned (.plain (OpenSpec.upto fnAnySyncGroupRequestSpec)) fnAnySyncGroupRequestUptoCard

/-- THE SECOND FORM's CARD OF 'laws.FnAnyAlterPartitionRequest'. -/
def fnAnyAlterPartitionRequestUptoCard : Claim7 := { stood := { row := fnAnyAlterPartitionRequestUptoRow, standIns := [], harness := (true, "ad98ff6c053f483ac22410df770a56e9a3e15a604c9ee085d32e4958378f677e"), looks := false }, kinds := [], alts := [], laidByText := true, laidKinds := [.sentinel], laidTests := true, laidLooks := .later }
def FnAnyAlterPartitionRequestUptoCardSaid : Prop := Claim7.holds Tryd.pinned (.plain (OpenSpec.upto fnAnyAlterPartitionRequestSpec)) fnAnyAlterPartitionRequestUptoCard

/-- THE SECOND FORM's CARD OF 'laws.FnAnyDescribeShareGroupOffsetsResponse'. -/
def fnAnyDescribeShareGroupOffsetsResponseUptoCard : Claim7 := { stood := { row := fnAnyDescribeShareGroupOffsetsResponseUptoRow, standIns := [], harness := (true, "ad98ff6c053f483ac22410df770a56e9a3e15a604c9ee085d32e4958378f677e"), looks := false }, kinds := [], alts := [], laidByText := true, laidKinds := [.sentinel], laidTests := true, laidLooks := .later }
def FnAnyDescribeShareGroupOffsetsResponseUptoCardSaid : Prop := Claim7.holds Tryd.pinned (.plain (OpenSpec.upto fnAnyDescribeShareGroupOffsetsResponseSpec)) fnAnyDescribeShareGroupOffsetsResponseUptoCard
end Rows
end Go.Proofs.YtfbdfieeoobceabDoor
