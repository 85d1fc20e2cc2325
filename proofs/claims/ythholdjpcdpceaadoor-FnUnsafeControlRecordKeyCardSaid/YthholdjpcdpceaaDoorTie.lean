/-
  DERIVED. GIVEN WITH THE SEED: THE PROGRAM's TIES (one call each: nine closed facts by the kernel) AND EACH ROW's TIE, after the 31st guide's Derived/Test/Toyas{Tie, Card}.lean. No idea stands in it: it is a product of the set-up. Laid BY PROGRAM, IN A SANDBOX (cutbox-door.mjs). By AI agents, Wed Nov 11 2026. No macro, syntax, notation, axiom, sorry.
-/
import Derived.Test.YthholdjpcdpceaaDoorRows
import Derived.LaidByTextLater
import Derived.SevenTiedAt
import Derived.LaidSub
import Derived.LaidOnce
namespace Go.Proofs.YthholdjpcdpceaaDoor
open Go
set_option maxRecDepth 100000
theorem seatTie1 : Tryd.prog.laidByTextLater [("pub-mailsack/pub/kmsg/inner/kbin.ErrNotEnoughData", Rows.laid_pub_mailsack_pub_kmsg_inner_kbin_ErrNotEnoughData)] [.sentinel] true :=
  Program.laidByTextLater_by_one 28 8 2 (by kernel_rfl) (by kernel_rfl) (by kernel_rfl) (by kernel_rfl) (by kernel_rfl) (by kernel_rfl) (fun _ _ => by kernel_rfl)
theorem noOwnUnsafe : Tryd.pinned.checked.prog.headLifts.contains "ownunsafe" = false := by kernel_rfl
theorem tie : Tryd.prog.laidByTextLater [("pub-mailsack/pub/kmsg/inner/kbin.ErrNotEnoughData", Rows.laid_pub_mailsack_pub_kmsg_inner_kbin_ErrNotEnoughData)] [.sentinel] true :=
  Program.laidByTextLater.sub seatTie1 ["pub-mailsack/pub/kmsg/inner/kbin.ErrNotEnoughData"] (by kernel_rfl) (by kernel_rfl)
theorem fnUnsafeControlRecordKey_row_tie : Rows.fnUnsafeControlRecordKeyRow.laidByTextAt .later Tryd.pinned [.sentinel] true :=
  OpenClaim.laidByTextAt_later rfl rfl tie noOwnUnsafe
theorem fnUnsafeDeleteGroupsRequest_row_tie : Rows.fnUnsafeDeleteGroupsRequestRow.laidByTextAt .later Tryd.pinned [.sentinel] true :=
  OpenClaim.laidByTextAt_later rfl rfl tie noOwnUnsafe
theorem fnUnsafeCreateACLsResponse_row_tie : Rows.fnUnsafeCreateACLsResponseRow.laidByTextAt .later Tryd.pinned [.sentinel] true :=
  OpenClaim.laidByTextAt_later rfl rfl tie noOwnUnsafe
theorem fnUnsafeElectLeadersRequest_row_tie : Rows.fnUnsafeElectLeadersRequestRow.laidByTextAt .later Tryd.pinned [.sentinel] true :=
  OpenClaim.laidByTextAt_later rfl rfl tie noOwnUnsafe
theorem fnUnsafeDeleteShareGroupStateRequest_row_tie : Rows.fnUnsafeDeleteShareGroupStateRequestRow.laidByTextAt .later Tryd.pinned [.sentinel] true :=
  OpenClaim.laidByTextAt_later rfl rfl tie noOwnUnsafe
theorem fnUnsafeDescribeTopicPartitionsRequest_row_tie : Rows.fnUnsafeDescribeTopicPartitionsRequestRow.laidByTextAt .later Tryd.pinned [.sentinel] true :=
  OpenClaim.laidByTextAt_later rfl rfl tie noOwnUnsafe
theorem fnUnsafeShareGroupHeartbeatRequest_row_tie : Rows.fnUnsafeShareGroupHeartbeatRequestRow.laidByTextAt .later Tryd.pinned [.sentinel] true :=
  OpenClaim.laidByTextAt_later rfl rfl tie noOwnUnsafe
theorem fnUnsafeControlRecordKeyUpto_row_tie : Rows.fnUnsafeControlRecordKeyUptoRow.laidByTextAt .later Tryd.pinned [.sentinel] true :=
  OpenClaim.laidByTextAt_later rfl rfl tie noOwnUnsafe
theorem fnUnsafeDeleteGroupsRequestUpto_row_tie : Rows.fnUnsafeDeleteGroupsRequestUptoRow.laidByTextAt .later Tryd.pinned [.sentinel] true :=
  OpenClaim.laidByTextAt_later rfl rfl tie noOwnUnsafe
theorem fnUnsafeCreateACLsResponseUpto_row_tie : Rows.fnUnsafeCreateACLsResponseUptoRow.laidByTextAt .later Tryd.pinned [.sentinel] true :=
  OpenClaim.laidByTextAt_later rfl rfl tie noOwnUnsafe
theorem fnUnsafeElectLeadersRequestUpto_row_tie : Rows.fnUnsafeElectLeadersRequestUptoRow.laidByTextAt .later Tryd.pinned [.sentinel] true :=
  OpenClaim.laidByTextAt_later rfl rfl tie noOwnUnsafe
theorem fnUnsafeDeleteShareGroupStateRequestUpto_row_tie : Rows.fnUnsafeDeleteShareGroupStateRequestUptoRow.laidByTextAt .later Tryd.pinned [.sentinel] true :=
  OpenClaim.laidByTextAt_later rfl rfl tie noOwnUnsafe
theorem fnUnsafeDescribeTopicPartitionsRequestUpto_row_tie : Rows.fnUnsafeDescribeTopicPartitionsRequestUptoRow.laidByTextAt .later Tryd.pinned [.sentinel] true :=
  OpenClaim.laidByTextAt_later rfl rfl tie noOwnUnsafe
theorem fnUnsafeShareGroupHeartbeatRequestUpto_row_tie : Rows.fnUnsafeShareGroupHeartbeatRequestUptoRow.laidByTextAt .later Tryd.pinned [.sentinel] true :=
  OpenClaim.laidByTextAt_later rfl rfl tie noOwnUnsafe
end Go.Proofs.YthholdjpcdpceaaDoor
