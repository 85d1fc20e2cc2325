/- Walks of functions that the laws of this seat reach. No statement of the seat stands here. -/
import Derived.Test.YthblgheenamnhaaGreatDoorRL4
import Derived.WalkKit
import Derived.ProofKit
import Derived.OpenShut
import Derived.Deep.DeepHandedRow
import Derived.Lib.LaidTab
import Derived.Stop.LaidErr
import Derived.SevenTiedAt
import Derived.MakeChecks
import Derived.Test.YthblgheenamnhaaGreatDoorRRows
import Derived.Test.YthblgheenamnhaaGreatDoorRFa
import Derived.Test.YthblgheenamnhaaGreatDoorRLcProduceRequest
import Derived.Test.YthblgheenamnhaaGreatDoorRLrProduceRequest
namespace Go.Proofs.YthblgheenamnhaaGreatDoorR
open Go Go.Mk
open Go.ChangeShapes Go.WideShapes Go.ChangeAt Go.RowKit
mutual
theorem ub_d {H:Type}:∀ d:DataW H,Rows.uptoBulk d = bulkD d
  | .lit (.string bytes)=>by simp only [Rows.uptoBulk,bulkD]
  | .lit (.int _ _)=>by simp only [Rows.uptoBulk,bulkD]
  | .lit (.bool _)=>by simp only [Rows.uptoBulk,bulkD]
  | .lit (.float _ _)=>by simp only [Rows.uptoBulk,bulkD]
  | .lit .nil=>by simp only [Rows.uptoBulk,bulkD]
  | .nil=>by simp only [Rows.uptoBulk,bulkD]
  | .ptr d=>by simp only [Rows.uptoBulk,bulkD,ub_d d]
  | .slice elems spare=>by simp only [Rows.uptoBulk,bulkD,ub_ds elems,ub_ds spare]
  | .agg parts=>by simp only [Rows.uptoBulk,bulkD,ub_ds parts]
  | .iface _ d=>by simp only [Rows.uptoBulk,bulkD,ub_d d]
  | .map entries=>by simp only [Rows.uptoBulk,bulkD,ub_es entries]
  | .held _=>by simp only [Rows.uptoBulk,bulkD]
theorem ub_ds {H:Type}:∀ l:List (DataW H),Rows.uptoBulkAll l = bulkDs l
  | []=>by simp only [Rows.uptoBulkAll,bulkDs]
  | d :: r=>by simp only [Rows.uptoBulkAll,bulkDs,ub_d d,ub_ds r]
theorem ub_es {H:Type}:∀ l:List (Lit × DataW H),Rows.uptoBulkEntries l = bulkEs l
  | []=>by simp only [Rows.uptoBulkEntries,bulkEs]
  | (x,d) :: r=>by simp only [Rows.uptoBulkEntries,bulkEs,ub_e x d,ub_es r]
theorem ub_e {H:Type}:∀ (x:Lit) (d:DataW H),Rows.uptoBulkEntry (x,d) = bulkE (x,d)
  | .string bytes,d=>by simp only [Rows.uptoBulkEntry,bulkE,ub_d d]
  | .int _ _,d=>by simp only [Rows.uptoBulkEntry,bulkE,ub_d d]
  | .bool _,d=>by simp only [Rows.uptoBulkEntry,bulkE,ub_d d]
  | .float _ _,d=>by simp only [Rows.uptoBulkEntry,bulkE,ub_d d]
  | .nil,d=>by simp only [Rows.uptoBulkEntry,bulkE,ub_d d]
end
theorem bulkOf {H:Type} {ds gs:List (DataW H)} {d0 d1 d2 d3:DataW H} (he:ds ++ gs = [d0,d1,d2,d3]) (hk:Rows.uptoSmall H (ds ++ gs) = true):bulkD d3 ≤ 1048576:=by
  have hk2:Rows.uptoBulkAll [d0,d1,d2,d3] ≤ 1048576:=of_decide_eq_true (he ▸ hk)
  rw [ub_ds] at hk2
  simp only [bulkDs] at hk2
  omega
set_option maxRecDepth 100000 in
theorem lifted (os:Os) (started:os.Started) (H:Type) (enc:TypeId × Value → H) (F:Stop.Interp) :
    ReturnsInHanded {} Tryz.checked os 6 .any ((Rows.OpenSpec.upto Rows.fnFrameProduceRequestSpec).preRow enc Tryz.prog Tryz.f6 Rows.fnFrameProduceRequestUptoRow.domain false Rows.fnFrameProduceRequestUptoRow.laid) (((Rows.OpenSpec.upto Rows.fnFrameProduceRequestSpec).at F).post enc Tryz.prog Tryz.f6 false true false false):=by
  obtain ⟨places,hx⟩:=reads os enc
  refine returnsInHanded_of_row (C:=Tryz.checked) (s:=Rows.OpenSpec.upto Rows.fnFrameProduceRequestSpec) own started (by kernel_rfl) Tryz.func6
    (witness_row_at (enc:=enc) (C:=Tryz.checked) false (laidWorld os) #[.int .u8 0,.agg #[.bool false,.string ⟨#[]⟩],.int .i32 0,.agg #[.int .i64 0,.slice none 0 0,.bool false,.slice none 0 0,.slice none 0 0]] rfl (by kernel_rfl) (by kernel_rfl) (by kernel_rfl)
      (OpenSpec.preRow_of_cond 8 hx (by kernel_rfl) (fun k hk=>by cases hk; kernel_rfl) (by kernel_rfl) (laid_met os))) ?_
  intro W base args ds gs before hval hW _ hk hwt hL _ _
  exact contract H enc W base args ds gs before hval hW (fun d0 d1 d2 d3 he=>⟨lightOf he hwt,bulkOf he (hk _ rfl)⟩) hL
theorem said:Rows.FnFrameProduceRequestUptoSaid :=
  OpenClaim.holds_of_cond 6 Tryz.f6 rfl rfl rfl rfl rfl rfl rfl ⟨rfl,rfl,rfl,rfl,rfl⟩ rfl rfl rfl rfl rfl (by kernel_rfl) Tryz.func6 closed
    (of_decide_eq_true (by kernel_rfl)) (by unfold Func.isWrapper; first | (rw [if_pos (by decide +kernel)]; kernel_rfl) | (rw [if_neg (by decide +kernel)]; exact ⟨rfl,rfl⟩))
    (fun os started H enc _ F=>by rw [OpenClaim.pre_eq_preRow]; exact lifted os started H enc F)
end Go.Proofs.YthblgheenamnhaaGreatDoorR
