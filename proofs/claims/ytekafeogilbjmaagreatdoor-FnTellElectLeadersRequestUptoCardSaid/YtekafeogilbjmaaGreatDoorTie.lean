/-
  DERIVED. GIVEN WITH THE SEED: THE PROGRAM's TIES (one call each: nine closed facts by the kernel) AND EACH ROW's TIE, after the 31st guide's Derived/Test/Toyas{Tie, Card}.lean. No idea stands in it: it is a product of the set-up. Laid BY PROGRAM, IN A SANDBOX (cutbox-door.mjs). By AI agents, Wed Nov 11 2026. No macro, syntax, notation, axiom, sorry.
-/
import Derived.Test.YtekafeogilbjmaaGreatDoorRows
import Derived.LaidByTextLater
import Derived.SevenTiedAt
import Derived.LaidSub
import Derived.LaidOnce
namespace Go.Proofs.YtekafeogilbjmaaGreatDoor
open Go
set_option maxRecDepth 100000
theorem seatTie1 : Tryz.prog.laidByTextLater [("pub-mailsack/pub/kmsg/inner/kbin.ErrNotEnoughData", Rows.laid_pub_mailsack_pub_kmsg_inner_kbin_ErrNotEnoughData)] [.sentinel] true :=
  Program.laidByTextLater_by_one 28 8 2 (by kernel_rfl) (by kernel_rfl) (by kernel_rfl) (by kernel_rfl) (by kernel_rfl) (by kernel_rfl) (fun _ _ => by kernel_rfl)
theorem noOwnUnsafe : Tryz.pinned.checked.prog.headLifts.contains "ownunsafe" = false := by kernel_rfl
theorem tie : Tryz.prog.laidByTextLater [("pub-mailsack/pub/kmsg/inner/kbin.ErrNotEnoughData", Rows.laid_pub_mailsack_pub_kmsg_inner_kbin_ErrNotEnoughData)] [.sentinel] true :=
  Program.laidByTextLater.sub seatTie1 ["pub-mailsack/pub/kmsg/inner/kbin.ErrNotEnoughData"] (by kernel_rfl) (by kernel_rfl)
theorem fnTellCreateACLsResponse_row_tie : Rows.fnTellCreateACLsResponseRow.laidByTextAt .later Tryz.pinned [.sentinel] true :=
  OpenClaim.laidByTextAt_later rfl rfl tie noOwnUnsafe
theorem fnTellElectLeadersRequest_row_tie : Rows.fnTellElectLeadersRequestRow.laidByTextAt .later Tryz.pinned [.sentinel] true :=
  OpenClaim.laidByTextAt_later rfl rfl tie noOwnUnsafe
theorem fnTellDeleteShareGroupStateRequest_row_tie : Rows.fnTellDeleteShareGroupStateRequestRow.laidByTextAt .later Tryz.pinned [.sentinel] true :=
  OpenClaim.laidByTextAt_later rfl rfl tie noOwnUnsafe
theorem fnTellDescribeTopicPartitionsRequest_row_tie : Rows.fnTellDescribeTopicPartitionsRequestRow.laidByTextAt .later Tryz.pinned [.sentinel] true :=
  OpenClaim.laidByTextAt_later rfl rfl tie noOwnUnsafe
theorem fnTellShareGroupHeartbeatRequest_row_tie : Rows.fnTellShareGroupHeartbeatRequestRow.laidByTextAt .later Tryz.pinned [.sentinel] true :=
  OpenClaim.laidByTextAt_later rfl rfl tie noOwnUnsafe
theorem fnTellLeaderAndISRResponse_row_tie : Rows.fnTellLeaderAndISRResponseRow.laidByTextAt .later Tryz.pinned [.sentinel] true :=
  OpenClaim.laidByTextAt_later rfl rfl tie noOwnUnsafe
theorem fnTellAddRaftVoterRequest_row_tie : Rows.fnTellAddRaftVoterRequestRow.laidByTextAt .later Tryz.pinned [.sentinel] true :=
  OpenClaim.laidByTextAt_later rfl rfl tie noOwnUnsafe
theorem fnTellConsumerGroupHeartbeatResponse_row_tie : Rows.fnTellConsumerGroupHeartbeatResponseRow.laidByTextAt .later Tryz.pinned [.sentinel] true :=
  OpenClaim.laidByTextAt_later rfl rfl tie noOwnUnsafe
theorem fnTellControllerRegistrationRequest_row_tie : Rows.fnTellControllerRegistrationRequestRow.laidByTextAt .later Tryz.pinned [.sentinel] true :=
  OpenClaim.laidByTextAt_later rfl rfl tie noOwnUnsafe
theorem fnTellShareAcknowledgeRequest_row_tie : Rows.fnTellShareAcknowledgeRequestRow.laidByTextAt .later Tryz.pinned [.sentinel] true :=
  OpenClaim.laidByTextAt_later rfl rfl tie noOwnUnsafe
theorem fnTellCreateACLsResponseUpto_row_tie : Rows.fnTellCreateACLsResponseUptoRow.laidByTextAt .later Tryz.pinned [.sentinel] true :=
  OpenClaim.laidByTextAt_later rfl rfl tie noOwnUnsafe
theorem fnTellElectLeadersRequestUpto_row_tie : Rows.fnTellElectLeadersRequestUptoRow.laidByTextAt .later Tryz.pinned [.sentinel] true :=
  OpenClaim.laidByTextAt_later rfl rfl tie noOwnUnsafe
theorem fnTellDeleteShareGroupStateRequestUpto_row_tie : Rows.fnTellDeleteShareGroupStateRequestUptoRow.laidByTextAt .later Tryz.pinned [.sentinel] true :=
  OpenClaim.laidByTextAt_later rfl rfl tie noOwnUnsafe
theorem fnTellDescribeTopicPartitionsRequestUpto_row_tie : Rows.fnTellDescribeTopicPartitionsRequestUptoRow.laidByTextAt .later Tryz.pinned [.sentinel] true :=
  OpenClaim.laidByTextAt_later rfl rfl tie noOwnUnsafe
theorem fnTellShareGroupHeartbeatRequestUpto_row_tie : Rows.fnTellShareGroupHeartbeatRequestUptoRow.laidByTextAt .later Tryz.pinned [.sentinel] true :=
  OpenClaim.laidByTextAt_later rfl rfl tie noOwnUnsafe
theorem fnTellLeaderAndISRResponseUpto_row_tie : Rows.fnTellLeaderAndISRResponseUptoRow.laidByTextAt .later Tryz.pinned [.sentinel] true :=
  OpenClaim.laidByTextAt_later rfl rfl tie noOwnUnsafe
theorem fnTellAddRaftVoterRequestUpto_row_tie : Rows.fnTellAddRaftVoterRequestUptoRow.laidByTextAt .later Tryz.pinned [.sentinel] true :=
  OpenClaim.laidByTextAt_later rfl rfl tie noOwnUnsafe
theorem fnTellConsumerGroupHeartbeatResponseUpto_row_tie : Rows.fnTellConsumerGroupHeartbeatResponseUptoRow.laidByTextAt .later Tryz.pinned [.sentinel] true :=
  OpenClaim.laidByTextAt_later rfl rfl tie noOwnUnsafe
theorem fnTellControllerRegistrationRequestUpto_row_tie : Rows.fnTellControllerRegistrationRequestUptoRow.laidByTextAt .later Tryz.pinned [.sentinel] true :=
  OpenClaim.laidByTextAt_later rfl rfl tie noOwnUnsafe
theorem fnTellShareAcknowledgeRequestUpto_row_tie : Rows.fnTellShareAcknowledgeRequestUptoRow.laidByTextAt .later Tryz.pinned [.sentinel] true :=
  OpenClaim.laidByTextAt_later rfl rfl tie noOwnUnsafe
end Go.Proofs.YtekafeogilbjmaaGreatDoor
