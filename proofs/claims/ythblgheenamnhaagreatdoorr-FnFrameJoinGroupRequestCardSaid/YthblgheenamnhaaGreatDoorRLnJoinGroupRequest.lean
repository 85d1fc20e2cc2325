/- Walks of functions that the laws of this seat reach. No statement of the seat stands here. -/
import Derived.Test.YthblgheenamnhaaGreatDoorRL4
import Derived.WalkKit
import Derived.ProofKit
import Derived.OpenShut
import Derived.Deep.DeepHandedRow
import Derived.Lib.LaidTab
import Derived.Stop.LaidErr
import Derived.SevenTiedAt
import Derived.MakeChecks
import Derived.Test.YthblgheenamnhaaGreatDoorRRows
import Derived.Test.YthblgheenamnhaaGreatDoorRFa
import Derived.Test.YthblgheenamnhaaGreatDoorRLcJoinGroupRequest
import Derived.Test.YthblgheenamnhaaGreatDoorRLrJoinGroupRequest
namespace Go.Proofs.YthblgheenamnhaaGreatDoorR
open Go Go.Mk
open Go.ChangeShapes Go.WideShapes Go.ChangeAt Go.RowKit
set_option maxRecDepth 100000 in
theorem lifted (os:Os) (started:os.Started) (H:Type) (enc:TypeId × Value → H) (F:Stop.Interp) :
    ReturnsInHanded {} Tryz.checked os 4 .any ((OpenSpec.ofChange Rows.fnFrameJoinGroupRequestSpec).preRow enc Tryz.prog Tryz.f4 Rows.fnFrameJoinGroupRequestRow.domain false Rows.fnFrameJoinGroupRequestRow.laid) (((OpenSpec.ofChange Rows.fnFrameJoinGroupRequestSpec).at F).post enc Tryz.prog Tryz.f4 false true false false):=by
  obtain ⟨places,hx⟩:=reads os enc
  refine returnsInHanded_of_row (C:=Tryz.checked) (s:=OpenSpec.ofChange Rows.fnFrameJoinGroupRequestSpec) own started (by kernel_rfl) Tryz.func4
    (witness_row_at (enc:=enc) (C:=Tryz.checked) false (laidWorld os) #[.int .u8 0,.agg #[.bool false,.string ⟨#[]⟩],.int .i32 0,.agg #[.int .i64 0,.slice none 0 0,.bool false,.slice none 0 0,.slice none 0 0]] rfl (by kernel_rfl) (by kernel_rfl) (by kernel_rfl)
      (OpenSpec.preRow_of_cond 8 hx (by kernel_rfl) (fun k hk=>by cases hk) (by kernel_rfl) (laid_met os))) ?_
  intro W base args ds gs before hval hW _ hk hwt hL _ _
  exact contract H enc W base args ds gs before hval hW (fun d0 d1 d2 d3 he=>lightOf he hwt) hL
theorem said:Rows.FnFrameJoinGroupRequestSaid :=
  OpenClaim.holds_of_cond 4 Tryz.f4 rfl rfl rfl rfl rfl rfl rfl ⟨rfl,rfl,rfl,rfl,rfl⟩ rfl rfl rfl rfl rfl (by kernel_rfl) Tryz.func4 closed
    (of_decide_eq_true (by kernel_rfl)) (by unfold Func.isWrapper; first | (rw [if_pos (by decide +kernel)]; kernel_rfl) | (rw [if_neg (by decide +kernel)]; exact ⟨rfl,rfl⟩))
    (fun os started H enc _ F=>by rw [OpenClaim.pre_eq_preRow]; exact lifted os started H enc F)
end Go.Proofs.YthblgheenamnhaaGreatDoorR
