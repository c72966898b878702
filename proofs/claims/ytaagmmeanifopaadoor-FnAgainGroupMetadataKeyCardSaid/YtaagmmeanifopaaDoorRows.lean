/-
  NARROWER THAN 'FOR EVERY INPUT', by the rows' own cells (each row's printed sentence says how): FnAgainGroupMetadataKey: loops, laid · FnCutSASLHandshakeResponse: loops, laid · FnAgainAllocateProducerIDsRequest: loops, laid · FnCutControlledShutdownRequest: loops, laid · FnAgainRenewDelegationTokenResponse: loops, laid.
  DERIVED. THE GIVEN ROWS OF THIS SEAT. 5 by the template 'for every input the law returns true; each argument reads behind the call as it read before'; 0 by the template 'total and deterministic' (their statements: YtaagmmeanifopaaDoorTotals.lean).
  GIVEN WITH THE SEED: the statements are not yours to turn. If you find one false, say at which input.
  Laid BY PROGRAM, IN A SANDBOX (cutbox-rows.mjs): the forced cells as the released guide's own fill.sh prints them over the translation b0a70b337128a585… (all of the seat's roots in one cut). By AI agents, Wed Nov 11 2026. No macro, syntax, notation, axiom, sorry.
-/
import Derived.Test.YtaagmmeanifopaaDoorChecked
import GoSem.Claim
import GoSem.ClaimJoined
import GoSem.ClaimMapViews
import Derived.JoinedTies
import Derived.KernelRfl
namespace Go.Proofs.YtaagmmeanifopaaDoor
/- THE CELL 'sum', in the pinned program and in every row, IS THE sha256 OF THE DUMP (.gsa) THAT YtaagmmeanifopaaDoorProg.lean LOADS. Nothing in Lean hashes anything: it is a label: what it is worth is what the hold of that sum in a sandbox is worth. -/
noncomputable def Tryd.pinned : Pinned := { name := "ytaagmmeanifopaadoor", sum := "b0a70b337128a585d09e42c84b635c8a77502044c4ea32520d99f50218a50121", checked := Tryd.checked }
namespace Rows
def none {H : Type} : Left H := { results := [], args := [] }

/- WHAT THE LISTED PACKAGE-LEVEL VARIABLES READ AS WHEN THE CALL BEGINS. Each datum BY PROGRAM (the guide's laid-datum.mjs) off the statement by which the dump's own 'gosem.cut.vars' lays the variable. In a bare row this is a premise. The card (YtaagmmeanifopaaDoorCards.lean) ties it to the program's text. -/
def laid_pub_kmsg_pub_kmsg_inner_kbin_ErrNotEnoughData {H : Type} : DataW H := .iface "*errors.errorString" (.ptr (.agg [.lit (.string [114, 101, 115, 112, 111, 110, 115, 101, 32, 100, 105, 100, 32, 110, 111, 116, 32, 99, 111, 110, 116, 97, 105, 110, 32, 101, 110, 111, 117, 103, 104, 32, 100, 97, 116, 97, 32, 116, 111, 32, 98, 101, 32, 118, 97, 108, 105, 100])]))

/-- 'laws.FnAgainGroupMetadataKey': WHATEVER THE INPUT: true; the input reads as it did. -/
def fnAgainGroupMetadataKeySpec : ChangeSpec := { name := "fnAgainGroupMetadataKey", fn := fun _ => fun
  | [d1, d2] => { results := [.lit (.bool true)], args := [d1, d2] }
  | _ => none }
def fnAgainGroupMetadataKeyRow : OpenClaim := { program := "ytaagmmeanifopaadoor", sum := "b0a70b337128a585d09e42c84b635c8a77502044c4ea32520d99f50218a50121", func := "pub-kmsg/laws.FnAgainGroupMetadataKey", spec := "fnAgainGroupMetadataKey", recurses := true, named := ["encoding/binary.BigEndian", "pub-kmsg/pub/kmsg/inner/kbin.ErrNotEnoughData"], loops := true, apart := false, laid := [("pub-kmsg/pub/kmsg/inner/kbin.ErrNotEnoughData", laid_pub_kmsg_pub_kmsg_inner_kbin_ErrNotEnoughData)] }
def FnAgainGroupMetadataKeySaid : Prop := fnAgainGroupMetadataKeyRow.holds Tryd.pinned (OpenSpec.ofChange fnAgainGroupMetadataKeySpec)

/-- ITS FALSE NEIGHBOUR: 'it returns false'. Refute it at one input. -/
def fnAgainGroupMetadataKeyWrong : ChangeSpec := { name := "fnAgainGroupMetadataKey", fn := fun _ => fun
  | [d1, d2] => { results := [.lit (.bool false)], args := [d1, d2] }
  | _ => none }
def FnAgainGroupMetadataKeyWrongFalsely : Prop := fnAgainGroupMetadataKeyRow.holds Tryd.pinned (OpenSpec.ofChange fnAgainGroupMetadataKeyWrong)

/-- 'laws.FnCutSASLHandshakeResponse': WHATEVER THE INPUT: true; the input reads as it did. -/
def fnCutSASLHandshakeResponseSpec : ChangeSpec := { name := "fnCutSASLHandshakeResponse", fn := fun _ => fun
  | [d1, d2, d3] => { results := [.lit (.bool true)], args := [d1, d2, d3] }
  | _ => none }
def fnCutSASLHandshakeResponseRow : OpenClaim := { program := "ytaagmmeanifopaadoor", sum := "b0a70b337128a585d09e42c84b635c8a77502044c4ea32520d99f50218a50121", func := "pub-kmsg/laws.FnCutSASLHandshakeResponse", spec := "fnCutSASLHandshakeResponse", recurses := true, named := ["encoding/binary.BigEndian", "pub-kmsg/pub/kmsg/inner/kbin.ErrNotEnoughData"], loops := true, apart := false, laid := [("pub-kmsg/pub/kmsg/inner/kbin.ErrNotEnoughData", laid_pub_kmsg_pub_kmsg_inner_kbin_ErrNotEnoughData)] }
def FnCutSASLHandshakeResponseSaid : Prop := fnCutSASLHandshakeResponseRow.holds Tryd.pinned (OpenSpec.ofChange fnCutSASLHandshakeResponseSpec)

/-- ITS FALSE NEIGHBOUR: 'it returns false'. Refute it at one input. -/
def fnCutSASLHandshakeResponseWrong : ChangeSpec := { name := "fnCutSASLHandshakeResponse", fn := fun _ => fun
  | [d1, d2, d3] => { results := [.lit (.bool false)], args := [d1, d2, d3] }
  | _ => none }
def FnCutSASLHandshakeResponseWrongFalsely : Prop := fnCutSASLHandshakeResponseRow.holds Tryd.pinned (OpenSpec.ofChange fnCutSASLHandshakeResponseWrong)

/-- 'laws.FnAgainAllocateProducerIDsRequest': WHATEVER THE INPUT: true; the input reads as it did. -/
def fnAgainAllocateProducerIDsRequestSpec : ChangeSpec := { name := "fnAgainAllocateProducerIDsRequest", fn := fun _ => fun
  | [d1, d2] => { results := [.lit (.bool true)], args := [d1, d2] }
  | _ => none }
def fnAgainAllocateProducerIDsRequestRow : OpenClaim := { program := "ytaagmmeanifopaadoor", sum := "b0a70b337128a585d09e42c84b635c8a77502044c4ea32520d99f50218a50121", func := "pub-kmsg/laws.FnAgainAllocateProducerIDsRequest", spec := "fnAgainAllocateProducerIDsRequest", inPlace := ["internal/reflectlite.ValueOf", "internal/reflectlite.Swapper", "(internal/reflectlite.Value).Len"], unfollowed := true, recurses := true, named := ["encoding/binary.BigEndian", "pub-kmsg/pub/kmsg/inner/kbin.ErrNotEnoughData"], loops := true, apart := false, laid := [("pub-kmsg/pub/kmsg/inner/kbin.ErrNotEnoughData", laid_pub_kmsg_pub_kmsg_inner_kbin_ErrNotEnoughData)] }
def FnAgainAllocateProducerIDsRequestSaid : Prop := fnAgainAllocateProducerIDsRequestRow.holds Tryd.pinned (OpenSpec.ofChange fnAgainAllocateProducerIDsRequestSpec)

/-- ITS FALSE NEIGHBOUR: 'it returns false'. Refute it at one input. -/
def fnAgainAllocateProducerIDsRequestWrong : ChangeSpec := { name := "fnAgainAllocateProducerIDsRequest", fn := fun _ => fun
  | [d1, d2] => { results := [.lit (.bool false)], args := [d1, d2] }
  | _ => none }
def FnAgainAllocateProducerIDsRequestWrongFalsely : Prop := fnAgainAllocateProducerIDsRequestRow.holds Tryd.pinned (OpenSpec.ofChange fnAgainAllocateProducerIDsRequestWrong)

/-- 'laws.FnCutControlledShutdownRequest': WHATEVER THE INPUT: true; the input reads as it did. -/
def fnCutControlledShutdownRequestSpec : ChangeSpec := { name := "fnCutControlledShutdownRequest", fn := fun _ => fun
  | [d1, d2, d3] => { results := [.lit (.bool true)], args := [d1, d2, d3] }
  | _ => none }
def fnCutControlledShutdownRequestRow : OpenClaim := { program := "ytaagmmeanifopaadoor", sum := "b0a70b337128a585d09e42c84b635c8a77502044c4ea32520d99f50218a50121", func := "pub-kmsg/laws.FnCutControlledShutdownRequest", spec := "fnCutControlledShutdownRequest", inPlace := ["internal/reflectlite.ValueOf", "internal/reflectlite.Swapper", "(internal/reflectlite.Value).Len"], unfollowed := true, recurses := true, named := ["encoding/binary.BigEndian", "pub-kmsg/pub/kmsg/inner/kbin.ErrNotEnoughData"], loops := true, apart := false, laid := [("pub-kmsg/pub/kmsg/inner/kbin.ErrNotEnoughData", laid_pub_kmsg_pub_kmsg_inner_kbin_ErrNotEnoughData)] }
def FnCutControlledShutdownRequestSaid : Prop := fnCutControlledShutdownRequestRow.holds Tryd.pinned (OpenSpec.ofChange fnCutControlledShutdownRequestSpec)

/-- ITS FALSE NEIGHBOUR: 'it returns false'. Refute it at one input. -/
def fnCutControlledShutdownRequestWrong : ChangeSpec := { name := "fnCutControlledShutdownRequest", fn := fun _ => fun
  | [d1, d2, d3] => { results := [.lit (.bool false)], args := [d1, d2, d3] }
  | _ => none }
def FnCutControlledShutdownRequestWrongFalsely : Prop := fnCutControlledShutdownRequestRow.holds Tryd.pinned (OpenSpec.ofChange fnCutControlledShutdownRequestWrong)

/-- 'laws.FnAgainRenewDelegationTokenResponse': WHATEVER THE INPUT: true; the input reads as it did. -/
def fnAgainRenewDelegationTokenResponseSpec : ChangeSpec := { name := "fnAgainRenewDelegationTokenResponse", fn := fun _ => fun
  | [d1, d2] => { results := [.lit (.bool true)], args := [d1, d2] }
  | _ => none }
def fnAgainRenewDelegationTokenResponseRow : OpenClaim := { program := "ytaagmmeanifopaadoor", sum := "b0a70b337128a585d09e42c84b635c8a77502044c4ea32520d99f50218a50121", func := "pub-kmsg/laws.FnAgainRenewDelegationTokenResponse", spec := "fnAgainRenewDelegationTokenResponse", inPlace := ["internal/reflectlite.ValueOf", "internal/reflectlite.Swapper", "(internal/reflectlite.Value).Len"], unfollowed := true, recurses := true, named := ["encoding/binary.BigEndian", "pub-kmsg/pub/kmsg/inner/kbin.ErrNotEnoughData"], loops := true, apart := false, laid := [("pub-kmsg/pub/kmsg/inner/kbin.ErrNotEnoughData", laid_pub_kmsg_pub_kmsg_inner_kbin_ErrNotEnoughData)] }
def FnAgainRenewDelegationTokenResponseSaid : Prop := fnAgainRenewDelegationTokenResponseRow.holds Tryd.pinned (OpenSpec.ofChange fnAgainRenewDelegationTokenResponseSpec)

/-- ITS FALSE NEIGHBOUR: 'it returns false'. Refute it at one input. -/
def fnAgainRenewDelegationTokenResponseWrong : ChangeSpec := { name := "fnAgainRenewDelegationTokenResponse", fn := fun _ => fun
  | [d1, d2] => { results := [.lit (.bool false)], args := [d1, d2] }
  | _ => none }
def FnAgainRenewDelegationTokenResponseWrongFalsely : Prop := fnAgainRenewDelegationTokenResponseRow.holds Tryd.pinned (OpenSpec.ofChange fnAgainRenewDelegationTokenResponseWrong)

/- THE SECOND FORM. 'bulk': how many values and letters a reading holds, each counted each time it is reached (what is shared counts as often as it is met; a slice's spare places count too). A statement '..UptoSaid' is the law's where the arguments, and the package variables that the reading takes, are together of bulk at most 1048576: NARROWER than '..Said'. Prove '..Said' where nothing that the law and all that it calls make is longer than what came in: it says more and counts as full. Else prove '..UptoSaid'. A law counts once. -/
mutual
def uptoBulk {H : Type} : DataW H → Nat
  | .lit (.string bytes) => bytes.length + 1
  | .lit _ => 1
  | .nil => 1
  | .ptr d => uptoBulk d + 1
  | .slice elems spare => uptoBulkAll elems + uptoBulkAll spare + 1
  | .agg parts => uptoBulkAll parts + 1
  | .iface _ d => uptoBulk d + 1
  | .map entries => uptoBulkEntries entries + 1
  | .held _ => 1
def uptoBulkAll {H : Type} : List (DataW H) → Nat
  | [] => 0
  | d :: r => uptoBulk d + uptoBulkAll r
def uptoBulkEntries {H : Type} : List (Lit × DataW H) → Nat
  | [] => 0
  | x :: r => uptoBulkEntry x + uptoBulkEntries r
def uptoBulkEntry {H : Type} : Lit × DataW H → Nat
  | (.string bytes, d) => bytes.length + uptoBulk d + 1
  | (_, d) => uptoBulk d + 1
 end
def uptoSmall : (H : Type) → List (DataW H) → Bool := fun _ ds => decide (uptoBulkAll ds ≤ 1048576)
def OpenSpec.upto (s : _root_.Go.ChangeSpec) : _root_.Go.OpenSpec := { _root_.Go.OpenSpec.ofChange s with cond := some uptoSmall }

/-- 'laws.FnAgainGroupMetadataKey', WHERE WHAT IT READS IS OF BULK AT MOST 1048576: true; the input reads as it did. -/
def fnAgainGroupMetadataKeyUptoRow : OpenClaim := { program := "ytaagmmeanifopaadoor", sum := "b0a70b337128a585d09e42c84b635c8a77502044c4ea32520d99f50218a50121", func := "pub-kmsg/laws.FnAgainGroupMetadataKey", spec := "fnAgainGroupMetadataKey", recurses := true, named := ["encoding/binary.BigEndian", "pub-kmsg/pub/kmsg/inner/kbin.ErrNotEnoughData"], loops := true, apart := false, laid := [("pub-kmsg/pub/kmsg/inner/kbin.ErrNotEnoughData", laid_pub_kmsg_pub_kmsg_inner_kbin_ErrNotEnoughData)], narrowed := true }
def FnAgainGroupMetadataKeyUptoSaid : Prop := fnAgainGroupMetadataKeyUptoRow.holds Tryd.pinned (OpenSpec.upto fnAgainGroupMetadataKeySpec)

/-- 'laws.FnCutSASLHandshakeResponse', WHERE WHAT IT READS IS OF BULK AT MOST 1048576: true; the input reads as it did. -/
def fnCutSASLHandshakeResponseUptoRow : OpenClaim := { program := "ytaagmmeanifopaadoor", sum := "b0a70b337128a585d09e42c84b635c8a77502044c4ea32520d99f50218a50121", func := "pub-kmsg/laws.FnCutSASLHandshakeResponse", spec := "fnCutSASLHandshakeResponse", recurses := true, named := ["encoding/binary.BigEndian", "pub-kmsg/pub/kmsg/inner/kbin.ErrNotEnoughData"], loops := true, apart := false, laid := [("pub-kmsg/pub/kmsg/inner/kbin.ErrNotEnoughData", laid_pub_kmsg_pub_kmsg_inner_kbin_ErrNotEnoughData)], narrowed := true }
def FnCutSASLHandshakeResponseUptoSaid : Prop := fnCutSASLHandshakeResponseUptoRow.holds Tryd.pinned (OpenSpec.upto fnCutSASLHandshakeResponseSpec)

/-- 'laws.FnAgainAllocateProducerIDsRequest', WHERE WHAT IT READS IS OF BULK AT MOST 1048576: true; the input reads as it did. -/
def fnAgainAllocateProducerIDsRequestUptoRow : OpenClaim := { program := "ytaagmmeanifopaadoor", sum := "b0a70b337128a585d09e42c84b635c8a77502044c4ea32520d99f50218a50121", func := "pub-kmsg/laws.FnAgainAllocateProducerIDsRequest", spec := "fnAgainAllocateProducerIDsRequest", inPlace := ["internal/reflectlite.ValueOf", "internal/reflectlite.Swapper", "(internal/reflectlite.Value).Len"], unfollowed := true, recurses := true, named := ["encoding/binary.BigEndian", "pub-kmsg/pub/kmsg/inner/kbin.ErrNotEnoughData"], loops := true, apart := false, laid := [("pub-kmsg/pub/kmsg/inner/kbin.ErrNotEnoughData", laid_pub_kmsg_pub_kmsg_inner_kbin_ErrNotEnoughData)], narrowed := true }
def FnAgainAllocateProducerIDsRequestUptoSaid : Prop := fnAgainAllocateProducerIDsRequestUptoRow.holds Tryd.pinned (OpenSpec.upto fnAgainAllocateProducerIDsRequestSpec)

/-- 'laws.FnCutControlledShutdownRequest', WHERE WHAT IT READS IS OF BULK AT MOST 1048576: true; the input reads as it did. -/
def fnCutControlledShutdownRequestUptoRow : OpenClaim := { program := "ytaagmmeanifopaadoor", sum := "b0a70b337128a585d09e42c84b635c8a77502044c4ea32520d99f50218a50121", func := "pub-kmsg/laws.FnCutControlledShutdownRequest", spec := "fnCutControlledShutdownRequest", inPlace := ["internal/reflectlite.ValueOf", "internal/reflectlite.Swapper", "(internal/reflectlite.Value).Len"], unfollowed := true, recurses := true, named := ["encoding/binary.BigEndian", "pub-kmsg/pub/kmsg/inner/kbin.ErrNotEnoughData"], loops := true, apart := false, laid := [("pub-kmsg/pub/kmsg/inner/kbin.ErrNotEnoughData", laid_pub_kmsg_pub_kmsg_inner_kbin_ErrNotEnoughData)], narrowed := true }
def FnCutControlledShutdownRequestUptoSaid : Prop := fnCutControlledShutdownRequestUptoRow.holds Tryd.pinned (OpenSpec.upto fnCutControlledShutdownRequestSpec)

/-- 'laws.FnAgainRenewDelegationTokenResponse', WHERE WHAT IT READS IS OF BULK AT MOST 1048576: true; the input reads as it did. -/
def fnAgainRenewDelegationTokenResponseUptoRow : OpenClaim := { program := "ytaagmmeanifopaadoor", sum := "b0a70b337128a585d09e42c84b635c8a77502044c4ea32520d99f50218a50121", func := "pub-kmsg/laws.FnAgainRenewDelegationTokenResponse", spec := "fnAgainRenewDelegationTokenResponse", inPlace := ["internal/reflectlite.ValueOf", "internal/reflectlite.Swapper", "(internal/reflectlite.Value).Len"], unfollowed := true, recurses := true, named := ["encoding/binary.BigEndian", "pub-kmsg/pub/kmsg/inner/kbin.ErrNotEnoughData"], loops := true, apart := false, laid := [("pub-kmsg/pub/kmsg/inner/kbin.ErrNotEnoughData", laid_pub_kmsg_pub_kmsg_inner_kbin_ErrNotEnoughData)], narrowed := true }
def FnAgainRenewDelegationTokenResponseUptoSaid : Prop := fnAgainRenewDelegationTokenResponseUptoRow.holds Tryd.pinned (OpenSpec.upto fnAgainRenewDelegationTokenResponseSpec)

end Rows
end Go.Proofs.YtaagmmeanifopaaDoor
