/-
  No cell of these rows narrows 'for every input' (looked for: loops, veiled, ifaces, maps, wideKeys, modest, calm, conditions, laid).
  DERIVED. THE GIVEN ROWS OF THIS SEAT. 6 by the template 'for every input the law returns true; each argument reads behind the call as it read before'; 0 by the template 'total and deterministic' (their statements: YtfiadcfdnpggdabTotals.lean).
  GIVEN WITH THE SEED: the statements are not yours to turn. If you find one false, say at which input.
  Laid BY PROGRAM, IN A SANDBOX (cutbox-rows.mjs): the forced cells as the released guide's own fill.sh prints them over the translation 019ee8d4033db001… (all of the seat's roots in one cut). By AI agents, Wed Nov 11 2026. No macro, syntax, notation, axiom, sorry.
-/
import Derived.Test.YtfiadcfdnpggdabChecked
import GoSem.Claim
import GoSem.ClaimJoined
import GoSem.ClaimMapViews
import Derived.JoinedTies
import Derived.KernelRfl
namespace Go.Proofs.Ytfiadcfdnpggdab
/- THE CELL 'sum', in the pinned program and in every row, IS THE sha256 OF THE DUMP (.gsa) THAT YtfiadcfdnpggdabProg.lean LOADS. Nothing in Lean hashes anything: it is a label: what it is worth is what the hold of that sum in a sandbox is worth. -/
noncomputable def Try.pinned : Pinned := { name := "ytfiadcfdnpggdab", sum := "019ee8d4033db001f097bd69a57d32bfb14ad0acf1c913154e893a7049d16c65", checked := Try.checked }
namespace Rows
def none {H : Type} : Left H := { results := [], args := [] }

/-- 'laws.FnNewDeleteTopicsResponse': WHATEVER THE INPUT: true; the input reads as it did. -/
def fnNewDeleteTopicsResponseSpec : ChangeSpec := { name := "fnNewDeleteTopicsResponse", fn := fun _ => fun
  | [d] => { results := [.lit (.bool true)], args := [d] }
  | _ => none }
def fnNewDeleteTopicsResponseRow : OpenClaim := { program := "ytfiadcfdnpggdab", sum := "019ee8d4033db001f097bd69a57d32bfb14ad0acf1c913154e893a7049d16c65", func := "pub-kmsg/laws.FnNewDeleteTopicsResponse", spec := "fnNewDeleteTopicsResponse", inPlace := ["internal/reflectlite.ValueOf", "internal/reflectlite.Swapper", "(internal/reflectlite.Value).Len"], unfollowed := true, recurses := true, apart := false }
def FnNewDeleteTopicsResponseSaid : Prop := fnNewDeleteTopicsResponseRow.holds Try.pinned (OpenSpec.ofChange fnNewDeleteTopicsResponseSpec)

/-- ITS FALSE NEIGHBOUR: 'it returns false'. Refute it at one input. -/
def fnNewDeleteTopicsResponseWrong : ChangeSpec := { name := "fnNewDeleteTopicsResponse", fn := fun _ => fun
  | [d] => { results := [.lit (.bool false)], args := [d] }
  | _ => none }
def FnNewDeleteTopicsResponseWrongFalsely : Prop := fnNewDeleteTopicsResponseRow.holds Try.pinned (OpenSpec.ofChange fnNewDeleteTopicsResponseWrong)

/-- 'laws.FnNewAlterUserSCRAMCredentialsRequest': WHATEVER THE INPUT: true; the input reads as it did. -/
def fnNewAlterUserSCRAMCredentialsRequestSpec : ChangeSpec := { name := "fnNewAlterUserSCRAMCredentialsRequest", fn := fun _ => fun
  | [d] => { results := [.lit (.bool true)], args := [d] }
  | _ => none }
def fnNewAlterUserSCRAMCredentialsRequestRow : OpenClaim := { program := "ytfiadcfdnpggdab", sum := "019ee8d4033db001f097bd69a57d32bfb14ad0acf1c913154e893a7049d16c65", func := "pub-kmsg/laws.FnNewAlterUserSCRAMCredentialsRequest", spec := "fnNewAlterUserSCRAMCredentialsRequest", inPlace := ["internal/reflectlite.ValueOf", "internal/reflectlite.Swapper", "(internal/reflectlite.Value).Len"], unfollowed := true, recurses := true, apart := false }
def FnNewAlterUserSCRAMCredentialsRequestSaid : Prop := fnNewAlterUserSCRAMCredentialsRequestRow.holds Try.pinned (OpenSpec.ofChange fnNewAlterUserSCRAMCredentialsRequestSpec)

/-- ITS FALSE NEIGHBOUR: 'it returns false'. Refute it at one input. -/
def fnNewAlterUserSCRAMCredentialsRequestWrong : ChangeSpec := { name := "fnNewAlterUserSCRAMCredentialsRequest", fn := fun _ => fun
  | [d] => { results := [.lit (.bool false)], args := [d] }
  | _ => none }
def FnNewAlterUserSCRAMCredentialsRequestWrongFalsely : Prop := fnNewAlterUserSCRAMCredentialsRequestRow.holds Try.pinned (OpenSpec.ofChange fnNewAlterUserSCRAMCredentialsRequestWrong)

/-- 'laws.FnNewDescribeUserSCRAMCredentialsResponse': WHATEVER THE INPUT: true; the input reads as it did. -/
def fnNewDescribeUserSCRAMCredentialsResponseSpec : ChangeSpec := { name := "fnNewDescribeUserSCRAMCredentialsResponse", fn := fun _ => fun
  | [d] => { results := [.lit (.bool true)], args := [d] }
  | _ => none }
def fnNewDescribeUserSCRAMCredentialsResponseRow : OpenClaim := { program := "ytfiadcfdnpggdab", sum := "019ee8d4033db001f097bd69a57d32bfb14ad0acf1c913154e893a7049d16c65", func := "pub-kmsg/laws.FnNewDescribeUserSCRAMCredentialsResponse", spec := "fnNewDescribeUserSCRAMCredentialsResponse", inPlace := ["internal/reflectlite.ValueOf", "internal/reflectlite.Swapper", "(internal/reflectlite.Value).Len"], unfollowed := true, recurses := true, apart := false }
def FnNewDescribeUserSCRAMCredentialsResponseSaid : Prop := fnNewDescribeUserSCRAMCredentialsResponseRow.holds Try.pinned (OpenSpec.ofChange fnNewDescribeUserSCRAMCredentialsResponseSpec)

/-- ITS FALSE NEIGHBOUR: 'it returns false'. Refute it at one input. -/
def fnNewDescribeUserSCRAMCredentialsResponseWrong : ChangeSpec := { name := "fnNewDescribeUserSCRAMCredentialsResponse", fn := fun _ => fun
  | [d] => { results := [.lit (.bool false)], args := [d] }
  | _ => none }
def FnNewDescribeUserSCRAMCredentialsResponseWrongFalsely : Prop := fnNewDescribeUserSCRAMCredentialsResponseRow.holds Try.pinned (OpenSpec.ofChange fnNewDescribeUserSCRAMCredentialsResponseWrong)

/-- 'laws.FnNewCreateTopicsRequest': WHATEVER THE INPUT: true; the input reads as it did. -/
def fnNewCreateTopicsRequestSpec : ChangeSpec := { name := "fnNewCreateTopicsRequest", fn := fun _ => fun
  | [d] => { results := [.lit (.bool true)], args := [d] }
  | _ => none }
def fnNewCreateTopicsRequestRow : OpenClaim := { program := "ytfiadcfdnpggdab", sum := "019ee8d4033db001f097bd69a57d32bfb14ad0acf1c913154e893a7049d16c65", func := "pub-kmsg/laws.FnNewCreateTopicsRequest", spec := "fnNewCreateTopicsRequest", inPlace := ["internal/reflectlite.ValueOf", "internal/reflectlite.Swapper", "(internal/reflectlite.Value).Len"], unfollowed := true, recurses := true, apart := false }
def FnNewCreateTopicsRequestSaid : Prop := fnNewCreateTopicsRequestRow.holds Try.pinned (OpenSpec.ofChange fnNewCreateTopicsRequestSpec)

/-- ITS FALSE NEIGHBOUR: 'it returns false'. Refute it at one input. -/
def fnNewCreateTopicsRequestWrong : ChangeSpec := { name := "fnNewCreateTopicsRequest", fn := fun _ => fun
  | [d] => { results := [.lit (.bool false)], args := [d] }
  | _ => none }
def FnNewCreateTopicsRequestWrongFalsely : Prop := fnNewCreateTopicsRequestRow.holds Try.pinned (OpenSpec.ofChange fnNewCreateTopicsRequestWrong)

/-- 'laws.FnNewFetchSnapshotRequest': WHATEVER THE INPUT: true; the input reads as it did. -/
def fnNewFetchSnapshotRequestSpec : ChangeSpec := { name := "fnNewFetchSnapshotRequest", fn := fun _ => fun
  | [d] => { results := [.lit (.bool true)], args := [d] }
  | _ => none }
def fnNewFetchSnapshotRequestRow : OpenClaim := { program := "ytfiadcfdnpggdab", sum := "019ee8d4033db001f097bd69a57d32bfb14ad0acf1c913154e893a7049d16c65", func := "pub-kmsg/laws.FnNewFetchSnapshotRequest", spec := "fnNewFetchSnapshotRequest", inPlace := ["internal/reflectlite.ValueOf", "internal/reflectlite.Swapper", "(internal/reflectlite.Value).Len"], unfollowed := true, recurses := true, apart := false }
def FnNewFetchSnapshotRequestSaid : Prop := fnNewFetchSnapshotRequestRow.holds Try.pinned (OpenSpec.ofChange fnNewFetchSnapshotRequestSpec)

/-- ITS FALSE NEIGHBOUR: 'it returns false'. Refute it at one input. -/
def fnNewFetchSnapshotRequestWrong : ChangeSpec := { name := "fnNewFetchSnapshotRequest", fn := fun _ => fun
  | [d] => { results := [.lit (.bool false)], args := [d] }
  | _ => none }
def FnNewFetchSnapshotRequestWrongFalsely : Prop := fnNewFetchSnapshotRequestRow.holds Try.pinned (OpenSpec.ofChange fnNewFetchSnapshotRequestWrong)

/-- 'laws.FnNewConsumerGroupDescribeResponse': WHATEVER THE INPUT: true; the input reads as it did. -/
def fnNewConsumerGroupDescribeResponseSpec : ChangeSpec := { name := "fnNewConsumerGroupDescribeResponse", fn := fun _ => fun
  | [d] => { results := [.lit (.bool true)], args := [d] }
  | _ => none }
def fnNewConsumerGroupDescribeResponseRow : OpenClaim := { program := "ytfiadcfdnpggdab", sum := "019ee8d4033db001f097bd69a57d32bfb14ad0acf1c913154e893a7049d16c65", func := "pub-kmsg/laws.FnNewConsumerGroupDescribeResponse", spec := "fnNewConsumerGroupDescribeResponse", inPlace := ["internal/reflectlite.ValueOf", "internal/reflectlite.Swapper", "(internal/reflectlite.Value).Len"], unfollowed := true, recurses := true, apart := false }
def FnNewConsumerGroupDescribeResponseSaid : Prop := fnNewConsumerGroupDescribeResponseRow.holds Try.pinned (OpenSpec.ofChange fnNewConsumerGroupDescribeResponseSpec)

/-- ITS FALSE NEIGHBOUR: 'it returns false'. Refute it at one input. -/
def fnNewConsumerGroupDescribeResponseWrong : ChangeSpec := { name := "fnNewConsumerGroupDescribeResponse", fn := fun _ => fun
  | [d] => { results := [.lit (.bool false)], args := [d] }
  | _ => none }
def FnNewConsumerGroupDescribeResponseWrongFalsely : Prop := fnNewConsumerGroupDescribeResponseRow.holds Try.pinned (OpenSpec.ofChange fnNewConsumerGroupDescribeResponseWrong)

/- THE SECOND FORM. 'bulk': how many values and letters a reading holds, each counted each time it is reached (what is shared counts as often as it is met; a slice's spare places count too). A statement '..UptoSaid' is the law's where the arguments, and the package variables that the reading takes, are together of bulk at most 1048576: NARROWER than '..Said'. Prove '..Said' where nothing that the law and all that it calls make is longer than what came in: it says more and counts as full. Else prove '..UptoSaid'. A law counts once. -/
mutual
def uptoBulk {H : Type} : DataW H → Nat
  | .lit (.string bytes) => bytes.length + 1
  | .lit _ => 1
  | .nil => 1
  | .ptr d => uptoBulk d + 1
  | .slice elems spare => uptoBulkAll elems + uptoBulkAll spare + 1
  | .agg parts => uptoBulkAll parts + 1
  | .iface _ d => uptoBulk d + 1
  | .map entries => uptoBulkEntries entries + 1
  | .held _ => 1
def uptoBulkAll {H : Type} : List (DataW H) → Nat
  | [] => 0
  | d :: r => uptoBulk d + uptoBulkAll r
def uptoBulkEntries {H : Type} : List (Lit × DataW H) → Nat
  | [] => 0
  | x :: r => uptoBulkEntry x + uptoBulkEntries r
def uptoBulkEntry {H : Type} : Lit × DataW H → Nat
  | (.string bytes, d) => bytes.length + uptoBulk d + 1
  | (_, d) => uptoBulk d + 1
 end
def uptoSmall : (H : Type) → List (DataW H) → Bool := fun _ ds => decide (uptoBulkAll ds ≤ 1048576)
def OpenSpec.upto (s : _root_.Go.ChangeSpec) : _root_.Go.OpenSpec := { _root_.Go.OpenSpec.ofChange s with cond := some uptoSmall }

/-- 'laws.FnNewDeleteTopicsResponse', WHERE WHAT IT READS IS OF BULK AT MOST 1048576: true; the input reads as it did. -/
def fnNewDeleteTopicsResponseUptoRow : OpenClaim := { program := "ytfiadcfdnpggdab", sum := "019ee8d4033db001f097bd69a57d32bfb14ad0acf1c913154e893a7049d16c65", func := "pub-kmsg/laws.FnNewDeleteTopicsResponse", spec := "fnNewDeleteTopicsResponse", inPlace := ["internal/reflectlite.ValueOf", "internal/reflectlite.Swapper", "(internal/reflectlite.Value).Len"], unfollowed := true, recurses := true, apart := false, narrowed := true }
def FnNewDeleteTopicsResponseUptoSaid : Prop := fnNewDeleteTopicsResponseUptoRow.holds Try.pinned (OpenSpec.upto fnNewDeleteTopicsResponseSpec)

/-- 'laws.FnNewAlterUserSCRAMCredentialsRequest', WHERE WHAT IT READS IS OF BULK AT MOST 1048576: true; the input reads as it did. -/
def fnNewAlterUserSCRAMCredentialsRequestUptoRow : OpenClaim := { program := "ytfiadcfdnpggdab", sum := "019ee8d4033db001f097bd69a57d32bfb14ad0acf1c913154e893a7049d16c65", func := "pub-kmsg/laws.FnNewAlterUserSCRAMCredentialsRequest", spec := "fnNewAlterUserSCRAMCredentialsRequest", inPlace := ["internal/reflectlite.ValueOf", "internal/reflectlite.Swapper", "(internal/reflectlite.Value).Len"], unfollowed := true, recurses := true, apart := false, narrowed := true }
def FnNewAlterUserSCRAMCredentialsRequestUptoSaid : Prop := fnNewAlterUserSCRAMCredentialsRequestUptoRow.holds Try.pinned (OpenSpec.upto fnNewAlterUserSCRAMCredentialsRequestSpec)

/-- 'laws.FnNewDescribeUserSCRAMCredentialsResponse', WHERE WHAT IT READS IS OF BULK AT MOST 1048576: true; the input reads as it did. -/
def fnNewDescribeUserSCRAMCredentialsResponseUptoRow : OpenClaim := { program := "ytfiadcfdnpggdab", sum := "019ee8d4033db001f097bd69a57d32bfb14ad0acf1c913154e893a7049d16c65", func := "pub-kmsg/laws.FnNewDescribeUserSCRAMCredentialsResponse", spec := "fnNewDescribeUserSCRAMCredentialsResponse", inPlace := ["internal/reflectlite.ValueOf", "internal/reflectlite.Swapper", "(internal/reflectlite.Value).Len"], unfollowed := true, recurses := true, apart := false, narrowed := true }
def FnNewDescribeUserSCRAMCredentialsResponseUptoSaid : Prop := fnNewDescribeUserSCRAMCredentialsResponseUptoRow.holds Try.pinned (OpenSpec.upto fnNewDescribeUserSCRAMCredentialsResponseSpec)

/-- 'laws.FnNewCreateTopicsRequest', WHERE WHAT IT READS IS OF BULK AT MOST 1048576: true; the input reads as it did. -/
def fnNewCreateTopicsRequestUptoRow : OpenClaim := { program := "ytfiadcfdnpggdab", sum := "019ee8d4033db001f097bd69a57d32bfb14ad0acf1c913154e893a7049d16c65", func := "pub-kmsg/laws.FnNewCreateTopicsRequest", spec := "fnNewCreateTopicsRequest", inPlace := ["internal/reflectlite.ValueOf", "internal/reflectlite.Swapper", "(internal/reflectlite.Value).Len"], unfollowed := true, recurses := true, apart := false, narrowed := true }
def FnNewCreateTopicsRequestUptoSaid : Prop := fnNewCreateTopicsRequestUptoRow.holds Try.pinned (OpenSpec.upto fnNewCreateTopicsRequestSpec)

/-- 'laws.FnNewFetchSnapshotRequest', WHERE WHAT IT READS IS OF BULK AT MOST 1048576: true; the input reads as it did. -/
def fnNewFetchSnapshotRequestUptoRow : OpenClaim := { program := "ytfiadcfdnpggdab", sum := "019ee8d4033db001f097bd69a57d32bfb14ad0acf1c913154e893a7049d16c65", func := "pub-kmsg/laws.FnNewFetchSnapshotRequest", spec := "fnNewFetchSnapshotRequest", inPlace := ["internal/reflectlite.ValueOf", "internal/reflectlite.Swapper", "(internal/reflectlite.Value).Len"], unfollowed := true, recurses := true, apart := false, narrowed := true }
def FnNewFetchSnapshotRequestUptoSaid : Prop := fnNewFetchSnapshotRequestUptoRow.holds Try.pinned (OpenSpec.upto fnNewFetchSnapshotRequestSpec)

/-- 'laws.FnNewConsumerGroupDescribeResponse', WHERE WHAT IT READS IS OF BULK AT MOST 1048576: true; the input reads as it did. -/
def fnNewConsumerGroupDescribeResponseUptoRow : OpenClaim := { program := "ytfiadcfdnpggdab", sum := "019ee8d4033db001f097bd69a57d32bfb14ad0acf1c913154e893a7049d16c65", func := "pub-kmsg/laws.FnNewConsumerGroupDescribeResponse", spec := "fnNewConsumerGroupDescribeResponse", inPlace := ["internal/reflectlite.ValueOf", "internal/reflectlite.Swapper", "(internal/reflectlite.Value).Len"], unfollowed := true, recurses := true, apart := false, narrowed := true }
def FnNewConsumerGroupDescribeResponseUptoSaid : Prop := fnNewConsumerGroupDescribeResponseUptoRow.holds Try.pinned (OpenSpec.upto fnNewConsumerGroupDescribeResponseSpec)

end Rows
end Go.Proofs.Ytfiadcfdnpggdab
