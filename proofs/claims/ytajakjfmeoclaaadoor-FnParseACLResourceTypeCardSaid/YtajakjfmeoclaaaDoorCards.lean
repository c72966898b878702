/-
  DERIVED. GIVEN WITH THE SEED: THE CARDS: each row of YtajakjfmeoclaaaDoorRows.lean that lists a variable, with what it lists TIED to the program's text (the seventh form; the later family's looks); each row that meets fmt, with fmt's text TOLD by the authors' own Lean function (tested against real Go, not proved from fmt's source: count such statements apart). THE CARD IS WHAT COUNTS. Prove the row's statement (the work); the ties are given (YtajakjfmeoclaaaDoorTie.lean); close each card by the builder's one call (the guide's Derived/Test/ToyasCard.lean, 'card_holds'). Laid BY PROGRAM, IN A SANDBOX (cutbox-door.mjs). By AI agents, Wed Nov 11 2026. No macro, syntax, notation, axiom, sorry.
-/
import Derived.Test.YtajakjfmeoclaaaDoorRows
import GoSem.ClaimSeven
namespace Go.Proofs.YtajakjfmeoclaaaDoor
namespace Rows

/-- THE TIED CARD OF 'laws.FnParseACLResourceType'. -/
def fnParseACLResourceTypeCard : Claim7 := { stood := { row := fnParseACLResourceTypeRow, standIns := [], harness := (true, "1f7abdcfed1ff5aaa6843a1d07cc8d0a8ccaec3c0c3b2904277ebb4503c74849"), looks := false }, kinds := [], alts := [], laidByText := true, laidKinds := [.data, .listed, .data, .pinned, .pinned], laidTests := true, laidLooks := .later }
def FnParseACLResourceTypeCardSaid : Prop := Claim7.holds Tryd.pinned (.plain (OpenSpec.ofChange fnParseACLResourceTypeSpec)) fnParseACLResourceTypeCard

/-- THE TIED CARD OF 'laws.FnTransactionStateText'. -/
def fnTransactionStateTextCard : Claim7 := { stood := { row := fnTransactionStateTextRow, standIns := [], harness := (true, "1f7abdcfed1ff5aaa6843a1d07cc8d0a8ccaec3c0c3b2904277ebb4503c74849"), looks := false }, kinds := [], alts := [], laidByText := true, laidKinds := [.data, .listed, .data, .pinned, .pinned], laidTests := true, laidLooks := .later }
def FnTransactionStateTextCardSaid : Prop := Claim7.holds Tryd.pinned (.plain (OpenSpec.ofChange fnTransactionStateTextSpec)) fnTransactionStateTextCard

/-- THE TIED CARD OF 'laws.FnAnyRecord'. -/
def fnAnyRecordCard : Claim7 := { stood := { row := fnAnyRecordRow, standIns := [], harness := (true, "1f7abdcfed1ff5aaa6843a1d07cc8d0a8ccaec3c0c3b2904277ebb4503c74849"), looks := false }, kinds := [], alts := [], laidByText := true, laidKinds := [.sentinel], laidTests := true, laidLooks := .later }
def FnAnyRecordCardSaid : Prop := Claim7.holds Tryd.pinned (.plain (OpenSpec.ofChange fnAnyRecordSpec)) fnAnyRecordCard

/-- THE SECOND FORM's CARD OF 'laws.FnParseACLResourceType'. -/
def fnParseACLResourceTypeUptoCard : Claim7 := { stood := { row := fnParseACLResourceTypeUptoRow, standIns := [], harness := (true, "1f7abdcfed1ff5aaa6843a1d07cc8d0a8ccaec3c0c3b2904277ebb4503c74849"), looks := false }, kinds := [], alts := [], laidByText := true, laidKinds := [.data, .listed, .data, .pinned, .pinned], laidTests := true, laidLooks := .later }
def FnParseACLResourceTypeUptoCardSaid : Prop := Claim7.holds Tryd.pinned (.plain (OpenSpec.upto fnParseACLResourceTypeSpec)) fnParseACLResourceTypeUptoCard

/-- THE SECOND FORM's CARD OF 'laws.FnTransactionStateText'. -/
def fnTransactionStateTextUptoCard : Claim7 := { stood := { row := fnTransactionStateTextUptoRow, standIns := [], harness := (true, "1f7abdcfed1ff5aaa6843a1d07cc8d0a8ccaec3c0c3b2904277ebb4503c74849"), looks := false }, kinds := [], alts := [], laidByText := true, laidKinds := [.data, .listed, .data, .pinned, .pinned], laidTests := true, laidLooks := .later }
def FnTransactionStateTextUptoCardSaid : Prop := Claim7.holds Tryd.pinned (.plain (OpenSpec.upto fnTransactionStateTextSpec)) fnTransactionStateTextUptoCard

/-- THE SECOND FORM's CARD OF 'laws.FnAnyRecord'. -/
def fnAnyRecordUptoCard : Claim7 := { stood := { row := fnAnyRecordUptoRow, standIns := [], harness := (true, "1f7abdcfed1ff5aaa6843a1d07cc8d0a8ccaec3c0c3b2904277ebb4503c74849"), looks := false }, kinds := [], alts := [], laidByText := true, laidKinds := [.sentinel], laidTests := true, laidLooks := .later }
def FnAnyRecordUptoCardSaid : Prop := Claim7.holds Tryd.pinned (.plain (OpenSpec.upto fnAnyRecordSpec)) fnAnyRecordUptoCard
end Rows
end Go.Proofs.YtajakjfmeoclaaaDoor
