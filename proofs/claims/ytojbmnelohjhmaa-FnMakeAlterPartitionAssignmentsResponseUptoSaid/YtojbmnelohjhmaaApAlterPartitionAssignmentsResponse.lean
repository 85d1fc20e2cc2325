/- Walks of functions that the laws of this seat reach. No statement of the seat stands here. -/
import Derived.Test.YtojbmnelohjhmaaL2
import Derived.Test.YtojbmnelohjhmaaRows
import Derived.Test.YtojbmnelohjhmaaFa
import Derived.Test.YtojbmnelohjhmaaCf
import Derived.Test.YtojbmnelohjhmaaSch
namespace Go.Proofs.Ytojbmnelohjhmaa
open Go Go.Mk
noncomputable def cx_AlterPartitionAssignmentsResponse (V : Nat) : Ea.Cx := ⟨Try.prog, 5, 186, 21, cfgA, V, (decide ((V : Int) ≥ 0))⟩
theorem chk_AlterPartitionAssignmentsResponse : (List.range 2).all (fun V => Ea.chk (cx_AlterPartitionAssignmentsResponse V) sch_AlterPartitionAssignmentsResponse true Try.f118) = true := by kernel_rfl
theorem appendTo_AlterPartitionAssignmentsResponse {w0 : World} {Y : Nat → Prop} {t : T} {v : Value} {n g : Nat} {c xs : List Value} (V : Int) (h0 : 0 ≤ V) (h1 : V ≤ 1) (hrow : w0.ownsRow 0 5 1 v n xs) (hY : ∀ k, v.ownBlock = some k → Y k) (hsn : t.sane = true)
    (hC : Cel w0 Y g 0 (.int .i16 V :: c)) (hR : Rep w0 Y (wrS sch_AlterPartitionAssignmentsResponse true V (decide (V ≥ 0)) t) c) (hroom : n + (partP sch_AlterPartitionAssignmentsResponse V (decide (V ≥ 0)) t).length ≤ room) :
    Ret Try.prog 118 [.pointer (some ⟨g, 0, none⟩), v] w0 fun v' w' => RowTo w0 5 1 v (n + (partP sch_AlterPartitionAssignmentsResponse V (decide (V ≥ 0)) t).length) (xs ++ bv (partP sch_AlterPartitionAssignmentsResponse V (decide (V ≥ 0)) t)) v' w' := by
  obtain ⟨k, rfl⟩ := Int.eq_ofNat_of_zero_le h0
  have h : Ea.chk (cx_AlterPartitionAssignmentsResponse k) sch_AlterPartitionAssignmentsResponse true Try.f118 = true := Ea.all_range chk_AlterPartitionAssignmentsResponse (by omega)
  exact Ea.chk_sound (cx := cx_AlterPartitionAssignmentsResponse k) (fn := Try.f118) cfgA_ok Try.func118 h hrow hY hsn hC hR hroom
end Go.Proofs.Ytojbmnelohjhmaa
