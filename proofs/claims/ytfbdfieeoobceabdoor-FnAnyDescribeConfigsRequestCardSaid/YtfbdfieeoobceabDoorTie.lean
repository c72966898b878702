/-
  DERIVED. GIVEN WITH THE SEED: THE PROGRAM's TIES (one call each: nine closed facts by the kernel) AND EACH ROW's TIE, after the 31st guide's Derived/Test/Toyas{Tie, Card}.lean. No idea stands in it: it is a product of the set-up. Laid BY PROGRAM, IN A SANDBOX (cutbox-door.mjs). By AI agents, Wed Nov 11 2026. No macro, syntax, notation, axiom, sorry.
-/
import Derived.Test.YtfbdfieeoobceabDoorRows
import Derived.LaidByTextLater
import Derived.SevenTiedAt
import Derived.LaidSub
import Derived.LaidOnce
namespace Go.Proofs.YtfbdfieeoobceabDoor
open Go
set_option maxRecDepth 100000
theorem seatTie1 : Tryd.prog.laidByTextLater [("pub-kmsg/pub/kmsg/inner/kbin.ErrNotEnoughData", Rows.laid_pub_kmsg_pub_kmsg_inner_kbin_ErrNotEnoughData)] [.sentinel] true :=
  Program.laidByTextLater_by_one 28 8 2 (by kernel_rfl) (by kernel_rfl) (by kernel_rfl) (by kernel_rfl) (by kernel_rfl) (by kernel_rfl) (fun _ _ => by kernel_rfl)
theorem noOwnUnsafe : Tryd.pinned.checked.prog.headLifts.contains "ownunsafe" = false := by kernel_rfl
theorem tie : Tryd.prog.laidByTextLater [("pub-kmsg/pub/kmsg/inner/kbin.ErrNotEnoughData", Rows.laid_pub_kmsg_pub_kmsg_inner_kbin_ErrNotEnoughData)] [.sentinel] true :=
  Program.laidByTextLater.sub seatTie1 ["pub-kmsg/pub/kmsg/inner/kbin.ErrNotEnoughData"] (by kernel_rfl) (by kernel_rfl)
theorem fnAnyDeleteRecordsResponse_row_tie : Rows.fnAnyDeleteRecordsResponseRow.laidByTextAt .later Tryd.pinned [.sentinel] true :=
  OpenClaim.laidByTextAt_later rfl rfl tie noOwnUnsafe
theorem fnAnyCreateACLsRequest_row_tie : Rows.fnAnyCreateACLsRequestRow.laidByTextAt .later Tryd.pinned [.sentinel] true :=
  OpenClaim.laidByTextAt_later rfl rfl tie noOwnUnsafe
theorem fnAnyDescribeConfigsRequest_row_tie : Rows.fnAnyDescribeConfigsRequestRow.laidByTextAt .later Tryd.pinned [.sentinel] true :=
  OpenClaim.laidByTextAt_later rfl rfl tie noOwnUnsafe
theorem fnAnyBeginQuorumEpochResponse_row_tie : Rows.fnAnyBeginQuorumEpochResponseRow.laidByTextAt .later Tryd.pinned [.sentinel] true :=
  OpenClaim.laidByTextAt_later rfl rfl tie noOwnUnsafe
theorem fnAnySyncGroupRequest_row_tie : Rows.fnAnySyncGroupRequestRow.laidByTextAt .later Tryd.pinned [.sentinel] true :=
  OpenClaim.laidByTextAt_later rfl rfl tie noOwnUnsafe
theorem fnAnyAlterPartitionRequest_row_tie : Rows.fnAnyAlterPartitionRequestRow.laidByTextAt .later Tryd.pinned [.sentinel] true :=
  OpenClaim.laidByTextAt_later rfl rfl tie noOwnUnsafe
theorem fnAnyDescribeShareGroupOffsetsResponse_row_tie : Rows.fnAnyDescribeShareGroupOffsetsResponseRow.laidByTextAt .later Tryd.pinned [.sentinel] true :=
  OpenClaim.laidByTextAt_later rfl rfl tie noOwnUnsafe
theorem fnAnyDeleteRecordsResponseUpto_row_tie : Rows.fnAnyDeleteRecordsResponseUptoRow.laidByTextAt .later Tryd.pinned [.sentinel] true :=
  OpenClaim.laidByTextAt_later rfl rfl tie noOwnUnsafe
theorem fnAnyCreateACLsRequestUpto_row_tie : Rows.fnAnyCreateACLsRequestUptoRow.laidByTextAt .later Tryd.pinned [.sentinel] true :=
  OpenClaim.laidByTextAt_later rfl rfl tie noOwnUnsafe
theorem fnAnyDescribeConfigsRequestUpto_row_tie : Rows.fnAnyDescribeConfigsRequestUptoRow.laidByTextAt .later Tryd.pinned [.sentinel] true :=
  OpenClaim.laidByTextAt_later rfl rfl tie noOwnUnsafe
theorem fnAnyBeginQuorumEpochResponseUpto_row_tie : Rows.fnAnyBeginQuorumEpochResponseUptoRow.laidByTextAt .later Tryd.pinned [.sentinel] true :=
  OpenClaim.laidByTextAt_later rfl rfl tie noOwnUnsafe
theorem fnAnySyncGroupRequestUpto_row_tie : Rows.fnAnySyncGroupRequestUptoRow.laidByTextAt .later Tryd.pinned [.sentinel] true :=
  OpenClaim.laidByTextAt_later rfl rfl tie noOwnUnsafe
theorem fnAnyAlterPartitionRequestUpto_row_tie : Rows.fnAnyAlterPartitionRequestUptoRow.laidByTextAt .later Tryd.pinned [.sentinel] true :=
  OpenClaim.laidByTextAt_later rfl rfl tie noOwnUnsafe
theorem fnAnyDescribeShareGroupOffsetsResponseUpto_row_tie : Rows.fnAnyDescribeShareGroupOffsetsResponseUptoRow.laidByTextAt .later Tryd.pinned [.sentinel] true :=
  OpenClaim.laidByTextAt_later rfl rfl tie noOwnUnsafe
end Go.Proofs.YtfbdfieeoobceabDoor
