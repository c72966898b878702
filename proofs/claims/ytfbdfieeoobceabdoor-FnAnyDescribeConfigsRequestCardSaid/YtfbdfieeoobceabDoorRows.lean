/-
  NARROWER THAN 'FOR EVERY INPUT', by the rows' own cells (each row's printed sentence says how): FnAnyDeleteRecordsResponse: laid · FnAnyCreateACLsRequest: laid · FnAnyDescribeConfigsRequest: laid · FnAnyBeginQuorumEpochResponse: laid · FnAnySyncGroupRequest: laid · FnAnyAlterPartitionRequest: laid · FnAnyDescribeShareGroupOffsetsResponse: laid.
  DERIVED. THE GIVEN ROWS OF THIS SEAT. 7 by the template 'for every input the law returns true; each argument reads behind the call as it read before'; 0 by the template 'total and deterministic' (their statements: YtfbdfieeoobceabDoorTotals.lean).
  GIVEN WITH THE SEED: the statements are not yours to turn. If you find one false, say at which input.
  Laid BY PROGRAM, IN A SANDBOX (cutbox-rows.mjs): the forced cells as the released guide's own fill.sh prints them over the translation 8664e6a0b21a5c86… (all of the seat's roots in one cut). By AI agents, Wed Nov 11 2026. No macro, syntax, notation, axiom, sorry.
-/
import Derived.Test.YtfbdfieeoobceabDoorChecked
import GoSem.Claim
import GoSem.ClaimJoined
import GoSem.ClaimMapViews
import Derived.JoinedTies
import Derived.KernelRfl
namespace Go.Proofs.YtfbdfieeoobceabDoor
/- THE CELL 'sum', in the pinned program and in every row, IS THE sha256 OF THE DUMP (.gsa) THAT YtfbdfieeoobceabDoorProg.lean LOADS. Nothing in Lean hashes anything: it is a label: what it is worth is what the hold of that sum in a sandbox is worth. -/
noncomputable def Tryd.pinned : Pinned := { name := "ytfbdfieeoobceabdoor", sum := "8664e6a0b21a5c86c7d826ef156a3d5b2007e36e2bc12b18f66accf1f7dcdc93", checked := Tryd.checked }
namespace Rows
def none {H : Type} : Left H := { results := [], args := [] }

/- WHAT THE LISTED PACKAGE-LEVEL VARIABLES READ AS WHEN THE CALL BEGINS. Each datum BY PROGRAM (the guide's laid-datum.mjs) off the statement by which the dump's own 'gosem.cut.vars' lays the variable. In a bare row this is a premise. The card (YtfbdfieeoobceabDoorCards.lean) ties it to the program's text. -/
def laid_pub_kmsg_pub_kmsg_inner_kbin_ErrNotEnoughData {H : Type} : DataW H := .iface "*errors.errorString" (.ptr (.agg [.lit (.string [114, 101, 115, 112, 111, 110, 115, 101, 32, 100, 105, 100, 32, 110, 111, 116, 32, 99, 111, 110, 116, 97, 105, 110, 32, 101, 110, 111, 117, 103, 104, 32, 100, 97, 116, 97, 32, 116, 111, 32, 98, 101, 32, 118, 97, 108, 105, 100])]))

/-- 'laws.FnAnyDeleteRecordsResponse': WHATEVER THE INPUT: true; the input reads as it did. -/
def fnAnyDeleteRecordsResponseSpec : ChangeSpec := { name := "fnAnyDeleteRecordsResponse", fn := fun _ => fun
  | [d1, d2] => { results := [.lit (.bool true)], args := [d1, d2] }
  | _ => none }
def fnAnyDeleteRecordsResponseRow : OpenClaim := { program := "ytfbdfieeoobceabdoor", sum := "8664e6a0b21a5c86c7d826ef156a3d5b2007e36e2bc12b18f66accf1f7dcdc93", func := "pub-kmsg/laws.FnAnyDeleteRecordsResponse", spec := "fnAnyDeleteRecordsResponse", inPlace := ["internal/reflectlite.ValueOf", "internal/reflectlite.Swapper", "(internal/reflectlite.Value).Len"], unfollowed := true, recurses := true, named := ["encoding/binary.BigEndian", "pub-kmsg/pub/kmsg/inner/kbin.ErrNotEnoughData"], apart := false, laid := [("pub-kmsg/pub/kmsg/inner/kbin.ErrNotEnoughData", laid_pub_kmsg_pub_kmsg_inner_kbin_ErrNotEnoughData)] }
def FnAnyDeleteRecordsResponseSaid : Prop := fnAnyDeleteRecordsResponseRow.holds Tryd.pinned (OpenSpec.ofChange fnAnyDeleteRecordsResponseSpec)

/-- ITS FALSE NEIGHBOUR: 'it returns false'. Refute it at one input. -/
def fnAnyDeleteRecordsResponseWrong : ChangeSpec := { name := "fnAnyDeleteRecordsResponse", fn := fun _ => fun
  | [d1, d2] => { results := [.lit (.bool false)], args := [d1, d2] }
  | _ => none }
def FnAnyDeleteRecordsResponseWrongFalsely : Prop := fnAnyDeleteRecordsResponseRow.holds Tryd.pinned (OpenSpec.ofChange fnAnyDeleteRecordsResponseWrong)

/-- 'laws.FnAnyCreateACLsRequest': WHATEVER THE INPUT: true; the input reads as it did. -/
def fnAnyCreateACLsRequestSpec : ChangeSpec := { name := "fnAnyCreateACLsRequest", fn := fun _ => fun
  | [d1, d2] => { results := [.lit (.bool true)], args := [d1, d2] }
  | _ => none }
def fnAnyCreateACLsRequestRow : OpenClaim := { program := "ytfbdfieeoobceabdoor", sum := "8664e6a0b21a5c86c7d826ef156a3d5b2007e36e2bc12b18f66accf1f7dcdc93", func := "pub-kmsg/laws.FnAnyCreateACLsRequest", spec := "fnAnyCreateACLsRequest", inPlace := ["internal/reflectlite.ValueOf", "internal/reflectlite.Swapper", "(internal/reflectlite.Value).Len"], unfollowed := true, recurses := true, named := ["encoding/binary.BigEndian", "pub-kmsg/pub/kmsg/inner/kbin.ErrNotEnoughData"], apart := false, laid := [("pub-kmsg/pub/kmsg/inner/kbin.ErrNotEnoughData", laid_pub_kmsg_pub_kmsg_inner_kbin_ErrNotEnoughData)] }
def FnAnyCreateACLsRequestSaid : Prop := fnAnyCreateACLsRequestRow.holds Tryd.pinned (OpenSpec.ofChange fnAnyCreateACLsRequestSpec)

/-- ITS FALSE NEIGHBOUR: 'it returns false'. Refute it at one input. -/
def fnAnyCreateACLsRequestWrong : ChangeSpec := { name := "fnAnyCreateACLsRequest", fn := fun _ => fun
  | [d1, d2] => { results := [.lit (.bool false)], args := [d1, d2] }
  | _ => none }
def FnAnyCreateACLsRequestWrongFalsely : Prop := fnAnyCreateACLsRequestRow.holds Tryd.pinned (OpenSpec.ofChange fnAnyCreateACLsRequestWrong)

/-- 'laws.FnAnyDescribeConfigsRequest': WHATEVER THE INPUT: true; the input reads as it did. -/
def fnAnyDescribeConfigsRequestSpec : ChangeSpec := { name := "fnAnyDescribeConfigsRequest", fn := fun _ => fun
  | [d1, d2] => { results := [.lit (.bool true)], args := [d1, d2] }
  | _ => none }
def fnAnyDescribeConfigsRequestRow : OpenClaim := { program := "ytfbdfieeoobceabdoor", sum := "8664e6a0b21a5c86c7d826ef156a3d5b2007e36e2bc12b18f66accf1f7dcdc93", func := "pub-kmsg/laws.FnAnyDescribeConfigsRequest", spec := "fnAnyDescribeConfigsRequest", inPlace := ["internal/reflectlite.ValueOf", "internal/reflectlite.Swapper", "(internal/reflectlite.Value).Len"], unfollowed := true, recurses := true, named := ["encoding/binary.BigEndian", "pub-kmsg/pub/kmsg/inner/kbin.ErrNotEnoughData"], apart := false, laid := [("pub-kmsg/pub/kmsg/inner/kbin.ErrNotEnoughData", laid_pub_kmsg_pub_kmsg_inner_kbin_ErrNotEnoughData)] }
def FnAnyDescribeConfigsRequestSaid : Prop := fnAnyDescribeConfigsRequestRow.holds Tryd.pinned (OpenSpec.ofChange fnAnyDescribeConfigsRequestSpec)

/-- ITS FALSE NEIGHBOUR: 'it returns false'. Refute it at one input. -/
def fnAnyDescribeConfigsRequestWrong : ChangeSpec := { name := "fnAnyDescribeConfigsRequest", fn := fun _ => fun
  | [d1, d2] => { results := [.lit (.bool false)], args := [d1, d2] }
  | _ => none }
def FnAnyDescribeConfigsRequestWrongFalsely : Prop := fnAnyDescribeConfigsRequestRow.holds Tryd.pinned (OpenSpec.ofChange fnAnyDescribeConfigsRequestWrong)

/-- 'laws.FnAnyBeginQuorumEpochResponse': WHATEVER THE INPUT: true; the input reads as it did. -/
def fnAnyBeginQuorumEpochResponseSpec : ChangeSpec := { name := "fnAnyBeginQuorumEpochResponse", fn := fun _ => fun
  | [d1, d2] => { results := [.lit (.bool true)], args := [d1, d2] }
  | _ => none }
def fnAnyBeginQuorumEpochResponseRow : OpenClaim := { program := "ytfbdfieeoobceabdoor", sum := "8664e6a0b21a5c86c7d826ef156a3d5b2007e36e2bc12b18f66accf1f7dcdc93", func := "pub-kmsg/laws.FnAnyBeginQuorumEpochResponse", spec := "fnAnyBeginQuorumEpochResponse", inPlace := ["internal/reflectlite.ValueOf", "internal/reflectlite.Swapper", "(internal/reflectlite.Value).Len"], unfollowed := true, recurses := true, named := ["encoding/binary.BigEndian", "pub-kmsg/pub/kmsg/inner/kbin.ErrNotEnoughData"], apart := false, laid := [("pub-kmsg/pub/kmsg/inner/kbin.ErrNotEnoughData", laid_pub_kmsg_pub_kmsg_inner_kbin_ErrNotEnoughData)] }
def FnAnyBeginQuorumEpochResponseSaid : Prop := fnAnyBeginQuorumEpochResponseRow.holds Tryd.pinned (OpenSpec.ofChange fnAnyBeginQuorumEpochResponseSpec)

/-- ITS FALSE NEIGHBOUR: 'it returns false'. Refute it at one input. -/
def fnAnyBeginQuorumEpochResponseWrong : ChangeSpec := { name := "fnAnyBeginQuorumEpochResponse", fn := fun _ => fun
  | [d1, d2] => { results := [.lit (.bool false)], args := [d1, d2] }
  | _ => none }
def FnAnyBeginQuorumEpochResponseWrongFalsely : Prop := fnAnyBeginQuorumEpochResponseRow.holds Tryd.pinned (OpenSpec.ofChange fnAnyBeginQuorumEpochResponseWrong)

/-- 'laws.FnAnySyncGroupRequest': WHATEVER THE INPUT: true; the input reads as it did. -/
def fnAnySyncGroupRequestSpec : ChangeSpec := { name := "fnAnySyncGroupRequest", fn := fun _ => fun
  | [d1, d2] => { results := [.lit (.bool true)], args := [d1, d2] }
  | _ => none }
def fnAnySyncGroupRequestRow : OpenClaim := { program := "ytfbdfieeoobceabdoor", sum := "8664e6a0b21a5c86c7d826ef156a3d5b2007e36e2bc12b18f66accf1f7dcdc93", func := "pub-kmsg/laws.FnAnySyncGroupRequest", spec := "fnAnySyncGroupRequest", inPlace := ["internal/reflectlite.ValueOf", "internal/reflectlite.Swapper", "(internal/reflectlite.Value).Len"], unfollowed := true, recurses := true, named := ["encoding/binary.BigEndian", "pub-kmsg/pub/kmsg/inner/kbin.ErrNotEnoughData"], apart := false, laid := [("pub-kmsg/pub/kmsg/inner/kbin.ErrNotEnoughData", laid_pub_kmsg_pub_kmsg_inner_kbin_ErrNotEnoughData)] }
def FnAnySyncGroupRequestSaid : Prop := fnAnySyncGroupRequestRow.holds Tryd.pinned (OpenSpec.ofChange fnAnySyncGroupRequestSpec)

/-- ITS FALSE NEIGHBOUR: 'it returns false'. Refute it at one input. -/
def fnAnySyncGroupRequestWrong : ChangeSpec := { name := "fnAnySyncGroupRequest", fn := fun _ => fun
  | [d1, d2] => { results := [.lit (.bool false)], args := [d1, d2] }
  | _ => none }
def FnAnySyncGroupRequestWrongFalsely : Prop := fnAnySyncGroupRequestRow.holds Tryd.pinned (OpenSpec.ofChange fnAnySyncGroupRequestWrong)

/-- 'laws.FnAnyAlterPartitionRequest': WHATEVER THE INPUT: true; the input reads as it did. -/
def fnAnyAlterPartitionRequestSpec : ChangeSpec := { name := "fnAnyAlterPartitionRequest", fn := fun _ => fun
  | [d1, d2] => { results := [.lit (.bool true)], args := [d1, d2] }
  | _ => none }
def fnAnyAlterPartitionRequestRow : OpenClaim := { program := "ytfbdfieeoobceabdoor", sum := "8664e6a0b21a5c86c7d826ef156a3d5b2007e36e2bc12b18f66accf1f7dcdc93", func := "pub-kmsg/laws.FnAnyAlterPartitionRequest", spec := "fnAnyAlterPartitionRequest", inPlace := ["internal/reflectlite.ValueOf", "internal/reflectlite.Swapper", "(internal/reflectlite.Value).Len"], unfollowed := true, recurses := true, named := ["encoding/binary.BigEndian", "pub-kmsg/pub/kmsg/inner/kbin.ErrNotEnoughData"], apart := false, laid := [("pub-kmsg/pub/kmsg/inner/kbin.ErrNotEnoughData", laid_pub_kmsg_pub_kmsg_inner_kbin_ErrNotEnoughData)] }
def FnAnyAlterPartitionRequestSaid : Prop := fnAnyAlterPartitionRequestRow.holds Tryd.pinned (OpenSpec.ofChange fnAnyAlterPartitionRequestSpec)

/-- ITS FALSE NEIGHBOUR: 'it returns false'. Refute it at one input. -/
def fnAnyAlterPartitionRequestWrong : ChangeSpec := { name := "fnAnyAlterPartitionRequest", fn := fun _ => fun
  | [d1, d2] => { results := [.lit (.bool false)], args := [d1, d2] }
  | _ => none }
def FnAnyAlterPartitionRequestWrongFalsely : Prop := fnAnyAlterPartitionRequestRow.holds Tryd.pinned (OpenSpec.ofChange fnAnyAlterPartitionRequestWrong)

/-- 'laws.FnAnyDescribeShareGroupOffsetsResponse': WHATEVER THE INPUT: true; the input reads as it did. -/
def fnAnyDescribeShareGroupOffsetsResponseSpec : ChangeSpec := { name := "fnAnyDescribeShareGroupOffsetsResponse", fn := fun _ => fun
  | [d1, d2] => { results := [.lit (.bool true)], args := [d1, d2] }
  | _ => none }
def fnAnyDescribeShareGroupOffsetsResponseRow : OpenClaim := { program := "ytfbdfieeoobceabdoor", sum := "8664e6a0b21a5c86c7d826ef156a3d5b2007e36e2bc12b18f66accf1f7dcdc93", func := "pub-kmsg/laws.FnAnyDescribeShareGroupOffsetsResponse", spec := "fnAnyDescribeShareGroupOffsetsResponse", inPlace := ["internal/reflectlite.ValueOf", "internal/reflectlite.Swapper", "(internal/reflectlite.Value).Len"], unfollowed := true, recurses := true, named := ["encoding/binary.BigEndian", "pub-kmsg/pub/kmsg/inner/kbin.ErrNotEnoughData"], apart := false, laid := [("pub-kmsg/pub/kmsg/inner/kbin.ErrNotEnoughData", laid_pub_kmsg_pub_kmsg_inner_kbin_ErrNotEnoughData)] }
def FnAnyDescribeShareGroupOffsetsResponseSaid : Prop := fnAnyDescribeShareGroupOffsetsResponseRow.holds Tryd.pinned (OpenSpec.ofChange fnAnyDescribeShareGroupOffsetsResponseSpec)

/-- ITS FALSE NEIGHBOUR: 'it returns false'. Refute it at one input. -/
def fnAnyDescribeShareGroupOffsetsResponseWrong : ChangeSpec := { name := "fnAnyDescribeShareGroupOffsetsResponse", fn := fun _ => fun
  | [d1, d2] => { results := [.lit (.bool false)], args := [d1, d2] }
  | _ => none }
def FnAnyDescribeShareGroupOffsetsResponseWrongFalsely : Prop := fnAnyDescribeShareGroupOffsetsResponseRow.holds Tryd.pinned (OpenSpec.ofChange fnAnyDescribeShareGroupOffsetsResponseWrong)

/- THE SECOND FORM. 'bulk': how many values and letters a reading holds, each counted each time it is reached (what is shared counts as often as it is met; a slice's spare places count too). A statement '..UptoSaid' is the law's where the arguments, and the package variables that the reading takes, are together of bulk at most 1048576: NARROWER than '..Said'. Prove '..Said' where nothing that the law and all that it calls make is longer than what came in: it says more and counts as full. Else prove '..UptoSaid'. A law counts once. -/
mutual
def uptoBulk {H : Type} : DataW H → Nat
  | .lit (.string bytes) => bytes.length + 1
  | .lit _ => 1
  | .nil => 1
  | .ptr d => uptoBulk d + 1
  | .slice elems spare => uptoBulkAll elems + uptoBulkAll spare + 1
  | .agg parts => uptoBulkAll parts + 1
  | .iface _ d => uptoBulk d + 1
  | .map entries => uptoBulkEntries entries + 1
  | .held _ => 1
def uptoBulkAll {H : Type} : List (DataW H) → Nat
  | [] => 0
  | d :: r => uptoBulk d + uptoBulkAll r
def uptoBulkEntries {H : Type} : List (Lit × DataW H) → Nat
  | [] => 0
  | x :: r => uptoBulkEntry x + uptoBulkEntries r
def uptoBulkEntry {H : Type} : Lit × DataW H → Nat
  | (.string bytes, d) => bytes.length + uptoBulk d + 1
  | (_, d) => uptoBulk d + 1
 end
def uptoSmall : (H : Type) → List (DataW H) → Bool := fun _ ds => decide (uptoBulkAll ds ≤ 1048576)
def OpenSpec.upto (s : _root_.Go.ChangeSpec) : _root_.Go.OpenSpec := { _root_.Go.OpenSpec.ofChange s with cond := some uptoSmall }

/-- 'laws.FnAnyDeleteRecordsResponse', WHERE WHAT IT READS IS OF BULK AT MOST 1048576: true; the input reads as it did. -/
def fnAnyDeleteRecordsResponseUptoRow : OpenClaim := { program := "ytfbdfieeoobceabdoor", sum := "8664e6a0b21a5c86c7d826ef156a3d5b2007e36e2bc12b18f66accf1f7dcdc93", func := "pub-kmsg/laws.FnAnyDeleteRecordsResponse", spec := "fnAnyDeleteRecordsResponse", inPlace := ["internal/reflectlite.ValueOf", "internal/reflectlite.Swapper", "(internal/reflectlite.Value).Len"], unfollowed := true, recurses := true, named := ["encoding/binary.BigEndian", "pub-kmsg/pub/kmsg/inner/kbin.ErrNotEnoughData"], apart := false, laid := [("pub-kmsg/pub/kmsg/inner/kbin.ErrNotEnoughData", laid_pub_kmsg_pub_kmsg_inner_kbin_ErrNotEnoughData)], narrowed := true }
def FnAnyDeleteRecordsResponseUptoSaid : Prop := fnAnyDeleteRecordsResponseUptoRow.holds Tryd.pinned (OpenSpec.upto fnAnyDeleteRecordsResponseSpec)

/-- 'laws.FnAnyCreateACLsRequest', WHERE WHAT IT READS IS OF BULK AT MOST 1048576: true; the input reads as it did. -/
def fnAnyCreateACLsRequestUptoRow : OpenClaim := { program := "ytfbdfieeoobceabdoor", sum := "8664e6a0b21a5c86c7d826ef156a3d5b2007e36e2bc12b18f66accf1f7dcdc93", func := "pub-kmsg/laws.FnAnyCreateACLsRequest", spec := "fnAnyCreateACLsRequest", inPlace := ["internal/reflectlite.ValueOf", "internal/reflectlite.Swapper", "(internal/reflectlite.Value).Len"], unfollowed := true, recurses := true, named := ["encoding/binary.BigEndian", "pub-kmsg/pub/kmsg/inner/kbin.ErrNotEnoughData"], apart := false, laid := [("pub-kmsg/pub/kmsg/inner/kbin.ErrNotEnoughData", laid_pub_kmsg_pub_kmsg_inner_kbin_ErrNotEnoughData)], narrowed := true }
def FnAnyCreateACLsRequestUptoSaid : Prop := fnAnyCreateACLsRequestUptoRow.holds Tryd.pinned (OpenSpec.upto fnAnyCreateACLsRequestSpec)

/-- 'laws.FnAnyDescribeConfigsRequest', WHERE WHAT IT READS IS OF BULK AT MOST 1048576: true; the input reads as it did. -/
def fnAnyDescribeConfigsRequestUptoRow : OpenClaim := { program := "ytfbdfieeoobceabdoor", sum := "8664e6a0b21a5c86c7d826ef156a3d5b2007e36e2bc12b18f66accf1f7dcdc93", func := "pub-kmsg/laws.FnAnyDescribeConfigsRequest", spec := "fnAnyDescribeConfigsRequest", inPlace := ["internal/reflectlite.ValueOf", "internal/reflectlite.Swapper", "(internal/reflectlite.Value).Len"], unfollowed := true, recurses := true, named := ["encoding/binary.BigEndian", "pub-kmsg/pub/kmsg/inner/kbin.ErrNotEnoughData"], apart := false, laid := [("pub-kmsg/pub/kmsg/inner/kbin.ErrNotEnoughData", laid_pub_kmsg_pub_kmsg_inner_kbin_ErrNotEnoughData)], narrowed := true }
def FnAnyDescribeConfigsRequestUptoSaid : Prop := fnAnyDescribeConfigsRequestUptoRow.holds Tryd.pinned (OpenSpec.upto fnAnyDescribeConfigsRequestSpec)

/-- 'laws.FnAnyBeginQuorumEpochResponse', WHERE WHAT IT READS IS OF BULK AT MOST 1048576: true; the input reads as it did. -/
def fnAnyBeginQuorumEpochResponseUptoRow : OpenClaim := { program := "ytfbdfieeoobceabdoor", sum := "8664e6a0b21a5c86c7d826ef156a3d5b2007e36e2bc12b18f66accf1f7dcdc93", func := "pub-kmsg/laws.FnAnyBeginQuorumEpochResponse", spec := "fnAnyBeginQuorumEpochResponse", inPlace := ["internal/reflectlite.ValueOf", "internal/reflectlite.Swapper", "(internal/reflectlite.Value).Len"], unfollowed := true, recurses := true, named := ["encoding/binary.BigEndian", "pub-kmsg/pub/kmsg/inner/kbin.ErrNotEnoughData"], apart := false, laid := [("pub-kmsg/pub/kmsg/inner/kbin.ErrNotEnoughData", laid_pub_kmsg_pub_kmsg_inner_kbin_ErrNotEnoughData)], narrowed := true }
def FnAnyBeginQuorumEpochResponseUptoSaid : Prop := fnAnyBeginQuorumEpochResponseUptoRow.holds Tryd.pinned (OpenSpec.upto fnAnyBeginQuorumEpochResponseSpec)

/-- 'laws.FnAnySyncGroupRequest', WHERE WHAT IT READS IS OF BULK AT MOST 1048576: true; the input reads as it did. -/
def fnAnySyncGroupRequestUptoRow : OpenClaim := { program := "ytfbdfieeoobceabdoor", sum := "8664e6a0b21a5c86c7d826ef156a3d5b2007e36e2bc12b18f66accf1f7dcdc93", func := "pub-kmsg/laws.FnAnySyncGroupRequest", spec := "fnAnySyncGroupRequest", inPlace := ["internal/reflectlite.ValueOf", "internal/reflectlite.Swapper", "(internal/reflectlite.Value).Len"], unfollowed := true, recurses := true, named := ["encoding/binary.BigEndian", "pub-kmsg/pub/kmsg/inner/kbin.ErrNotEnoughData"], apart := false, laid := [("pub-kmsg/pub/kmsg/inner/kbin.ErrNotEnoughData", laid_pub_kmsg_pub_kmsg_inner_kbin_ErrNotEnoughData)], narrowed := true }
def FnAnySyncGroupRequestUptoSaid : Prop := fnAnySyncGroupRequestUptoRow.holds Tryd.pinned (OpenSpec.upto fnAnySyncGroupRequestSpec)

/-- 'laws.FnAnyAlterPartitionRequest', WHERE WHAT IT READS IS OF BULK AT MOST 1048576: true; the input reads as it did. -/
def fnAnyAlterPartitionRequestUptoRow : OpenClaim := { program := "ytfbdfieeoobceabdoor", sum := "8664e6a0b21a5c86c7d826ef156a3d5b2007e36e2bc12b18f66accf1f7dcdc93", func := "pub-kmsg/laws.FnAnyAlterPartitionRequest", spec := "fnAnyAlterPartitionRequest", inPlace := ["internal/reflectlite.ValueOf", "internal/reflectlite.Swapper", "(internal/reflectlite.Value).Len"], unfollowed := true, recurses := true, named := ["encoding/binary.BigEndian", "pub-kmsg/pub/kmsg/inner/kbin.ErrNotEnoughData"], apart := false, laid := [("pub-kmsg/pub/kmsg/inner/kbin.ErrNotEnoughData", laid_pub_kmsg_pub_kmsg_inner_kbin_ErrNotEnoughData)], narrowed := true }
def FnAnyAlterPartitionRequestUptoSaid : Prop := fnAnyAlterPartitionRequestUptoRow.holds Tryd.pinned (OpenSpec.upto fnAnyAlterPartitionRequestSpec)

/-- 'laws.FnAnyDescribeShareGroupOffsetsResponse', WHERE WHAT IT READS IS OF BULK AT MOST 1048576: true; the input reads as it did. -/
def fnAnyDescribeShareGroupOffsetsResponseUptoRow : OpenClaim := { program := "ytfbdfieeoobceabdoor", sum := "8664e6a0b21a5c86c7d826ef156a3d5b2007e36e2bc12b18f66accf1f7dcdc93", func := "pub-kmsg/laws.FnAnyDescribeShareGroupOffsetsResponse", spec := "fnAnyDescribeShareGroupOffsetsResponse", inPlace := ["internal/reflectlite.ValueOf", "internal/reflectlite.Swapper", "(internal/reflectlite.Value).Len"], unfollowed := true, recurses := true, named := ["encoding/binary.BigEndian", "pub-kmsg/pub/kmsg/inner/kbin.ErrNotEnoughData"], apart := false, laid := [("pub-kmsg/pub/kmsg/inner/kbin.ErrNotEnoughData", laid_pub_kmsg_pub_kmsg_inner_kbin_ErrNotEnoughData)], narrowed := true }
def FnAnyDescribeShareGroupOffsetsResponseUptoSaid : Prop := fnAnyDescribeShareGroupOffsetsResponseUptoRow.holds Tryd.pinned (OpenSpec.upto fnAnyDescribeShareGroupOffsetsResponseSpec)

end Rows
end Go.Proofs.YtfbdfieeoobceabDoor
