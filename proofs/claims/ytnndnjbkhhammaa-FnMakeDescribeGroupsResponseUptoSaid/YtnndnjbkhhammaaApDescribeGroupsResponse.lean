/- Walks of functions that the laws of this seat reach. No statement of the seat stands here. -/
import Derived.Test.YtnndnjbkhhammaaL2
import Derived.Test.YtnndnjbkhhammaaRows
import Derived.Test.YtnndnjbkhhammaaFa
import Derived.Test.YtnndnjbkhhammaaCf
import Derived.Test.YtnndnjbkhhammaaSch
namespace Go.Proofs.Ytnndnjbkhhammaa
open Go Go.Mk
noncomputable def cx_DescribeGroupsResponse (V : Nat) : Ea.Cx := ⟨Try.prog, 5, 272, 27, cfgA, V, (decide ((V : Int) ≥ 5))⟩
theorem chk_DescribeGroupsResponse : (List.range 7).all (fun V => Ea.chk (cx_DescribeGroupsResponse V) sch_DescribeGroupsResponse true Try.f35) = true := by kernel_rfl
theorem appendTo_DescribeGroupsResponse {w0 : World} {Y : Nat → Prop} {t : T} {v : Value} {n g : Nat} {c xs : List Value} (V : Int) (h0 : 0 ≤ V) (h1 : V ≤ 6) (hrow : w0.ownsRow 0 5 1 v n xs) (hY : ∀ k, v.ownBlock = some k → Y k) (hsn : t.sane = true)
    (hC : Cel w0 Y g 0 (.int .i16 V :: c)) (hR : Rep w0 Y (wrS sch_DescribeGroupsResponse true V (decide (V ≥ 5)) t) c) (hroom : n + (partP sch_DescribeGroupsResponse V (decide (V ≥ 5)) t).length ≤ room) :
    Ret Try.prog 35 [.pointer (some ⟨g, 0, none⟩), v] w0 fun v' w' => RowTo w0 5 1 v (n + (partP sch_DescribeGroupsResponse V (decide (V ≥ 5)) t).length) (xs ++ bv (partP sch_DescribeGroupsResponse V (decide (V ≥ 5)) t)) v' w' := by
  obtain ⟨k, rfl⟩ := Int.eq_ofNat_of_zero_le h0
  have h : Ea.chk (cx_DescribeGroupsResponse k) sch_DescribeGroupsResponse true Try.f35 = true := Ea.all_range chk_DescribeGroupsResponse (by omega)
  exact Ea.chk_sound (cx := cx_DescribeGroupsResponse k) (fn := Try.f35) cfgA_ok Try.func35 h hrow hY hsn hC hR hroom
end Go.Proofs.Ytnndnjbkhhammaa
