/-
  DERIVED. GIVEN WITH THE SEED: THE PROGRAM's TIES (one call each: nine closed facts by the kernel) AND EACH ROW's TIE, after the 31st guide's Derived/Test/Toyas{Tie, Card}.lean. No idea stands in it: it is a product of the set-up. Laid BY PROGRAM, IN A SANDBOX (cutbox-door.mjs). By AI agents, Wed Nov 11 2026. No macro, syntax, notation, axiom, sorry.
-/
import Derived.Test.YtffgggfendppiaaGreatDoorRows
import Derived.LaidByTextLater
import Derived.SevenTiedAt
import Derived.LaidSub
import Derived.LaidOnce
namespace Go.Proofs.YtffgggfendppiaaGreatDoor
open Go
set_option maxRecDepth 100000
theorem seatTie1 : Tryz.prog.laidByTextLater [("pub-kmsg/pub/kmsg/inner/kbin.ErrNotEnoughData", Rows.laid_pub_kmsg_pub_kmsg_inner_kbin_ErrNotEnoughData)] [.sentinel] true :=
  Program.laidByTextLater_by_one 28 8 2 (by kernel_rfl) (by kernel_rfl) (by kernel_rfl) (by kernel_rfl) (by kernel_rfl) (by kernel_rfl) (fun _ _ => by kernel_rfl)
theorem noOwnUnsafe : Tryz.pinned.checked.prog.headLifts.contains "ownunsafe" = false := by kernel_rfl
theorem tie : Tryz.prog.laidByTextLater [("pub-kmsg/pub/kmsg/inner/kbin.ErrNotEnoughData", Rows.laid_pub_kmsg_pub_kmsg_inner_kbin_ErrNotEnoughData)] [.sentinel] true :=
  Program.laidByTextLater.sub seatTie1 ["pub-kmsg/pub/kmsg/inner/kbin.ErrNotEnoughData"] (by kernel_rfl) (by kernel_rfl)
theorem fnAgainAlterConfigsResponse_row_tie : Rows.fnAgainAlterConfigsResponseRow.laidByTextAt .later Tryz.pinned [.sentinel] true :=
  OpenClaim.laidByTextAt_later rfl rfl tie noOwnUnsafe
theorem fnCutIncrementalAlterConfigsRequest_row_tie : Rows.fnCutIncrementalAlterConfigsRequestRow.laidByTextAt .later Tryz.pinned [.sentinel] true :=
  OpenClaim.laidByTextAt_later rfl rfl tie noOwnUnsafe
theorem fnCutDescribeConfigsResponse_row_tie : Rows.fnCutDescribeConfigsResponseRow.laidByTextAt .later Tryz.pinned [.sentinel] true :=
  OpenClaim.laidByTextAt_later rfl rfl tie noOwnUnsafe
theorem fnCutDescribeTopicPartitionsRequest_row_tie : Rows.fnCutDescribeTopicPartitionsRequestRow.laidByTextAt .later Tryz.pinned [.sentinel] true :=
  OpenClaim.laidByTextAt_later rfl rfl tie noOwnUnsafe
theorem fnCutVoteRequest_row_tie : Rows.fnCutVoteRequestRow.laidByTextAt .later Tryz.pinned [.sentinel] true :=
  OpenClaim.laidByTextAt_later rfl rfl tie noOwnUnsafe
theorem fnAgainAssignReplicasToDirsRequest_row_tie : Rows.fnAgainAssignReplicasToDirsRequestRow.laidByTextAt .later Tryz.pinned [.sentinel] true :=
  OpenClaim.laidByTextAt_later rfl rfl tie noOwnUnsafe
theorem fnAgainAlterConfigsResponseUpto_row_tie : Rows.fnAgainAlterConfigsResponseUptoRow.laidByTextAt .later Tryz.pinned [.sentinel] true :=
  OpenClaim.laidByTextAt_later rfl rfl tie noOwnUnsafe
theorem fnCutIncrementalAlterConfigsRequestUpto_row_tie : Rows.fnCutIncrementalAlterConfigsRequestUptoRow.laidByTextAt .later Tryz.pinned [.sentinel] true :=
  OpenClaim.laidByTextAt_later rfl rfl tie noOwnUnsafe
theorem fnCutDescribeConfigsResponseUpto_row_tie : Rows.fnCutDescribeConfigsResponseUptoRow.laidByTextAt .later Tryz.pinned [.sentinel] true :=
  OpenClaim.laidByTextAt_later rfl rfl tie noOwnUnsafe
theorem fnCutDescribeTopicPartitionsRequestUpto_row_tie : Rows.fnCutDescribeTopicPartitionsRequestUptoRow.laidByTextAt .later Tryz.pinned [.sentinel] true :=
  OpenClaim.laidByTextAt_later rfl rfl tie noOwnUnsafe
theorem fnCutVoteRequestUpto_row_tie : Rows.fnCutVoteRequestUptoRow.laidByTextAt .later Tryz.pinned [.sentinel] true :=
  OpenClaim.laidByTextAt_later rfl rfl tie noOwnUnsafe
theorem fnAgainAssignReplicasToDirsRequestUpto_row_tie : Rows.fnAgainAssignReplicasToDirsRequestUptoRow.laidByTextAt .later Tryz.pinned [.sentinel] true :=
  OpenClaim.laidByTextAt_later rfl rfl tie noOwnUnsafe
end Go.Proofs.YtffgggfendppiaaGreatDoor
