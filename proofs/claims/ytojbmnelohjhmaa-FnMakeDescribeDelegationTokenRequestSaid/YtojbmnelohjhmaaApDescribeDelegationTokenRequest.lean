/- Walks of functions that the laws of this seat reach. No statement of the seat stands here. -/
import Derived.Test.YtojbmnelohjhmaaL2
import Derived.Test.YtojbmnelohjhmaaRows
import Derived.Test.YtojbmnelohjhmaaFa
import Derived.Test.YtojbmnelohjhmaaCf
import Derived.Test.YtojbmnelohjhmaaSch
namespace Go.Proofs.Ytojbmnelohjhmaa
open Go Go.Mk
noncomputable def cx_DescribeDelegationTokenRequest (V : Nat) : Ea.Cx := ⟨Try.prog, 5, 97, 12, cfgA, V, (decide ((V : Int) ≥ 2))⟩
theorem chk_DescribeDelegationTokenRequest : (List.range 4).all (fun V => Ea.chk (cx_DescribeDelegationTokenRequest V) sch_DescribeDelegationTokenRequest true Try.f88) = true := by kernel_rfl
theorem appendTo_DescribeDelegationTokenRequest {w0 : World} {Y : Nat → Prop} {t : T} {v : Value} {n g : Nat} {c xs : List Value} (V : Int) (h0 : 0 ≤ V) (h1 : V ≤ 3) (hrow : w0.ownsRow 0 5 1 v n xs) (hY : ∀ k, v.ownBlock = some k → Y k) (hsn : t.sane = true)
    (hC : Cel w0 Y g 0 (.int .i16 V :: c)) (hR : Rep w0 Y (wrS sch_DescribeDelegationTokenRequest true V (decide (V ≥ 2)) t) c) (hroom : n + (partP sch_DescribeDelegationTokenRequest V (decide (V ≥ 2)) t).length ≤ room) :
    Ret Try.prog 88 [.pointer (some ⟨g, 0, none⟩), v] w0 fun v' w' => RowTo w0 5 1 v (n + (partP sch_DescribeDelegationTokenRequest V (decide (V ≥ 2)) t).length) (xs ++ bv (partP sch_DescribeDelegationTokenRequest V (decide (V ≥ 2)) t)) v' w' := by
  obtain ⟨k, rfl⟩ := Int.eq_ofNat_of_zero_le h0
  have h : Ea.chk (cx_DescribeDelegationTokenRequest k) sch_DescribeDelegationTokenRequest true Try.f88 = true := Ea.all_range chk_DescribeDelegationTokenRequest (by omega)
  exact Ea.chk_sound (cx := cx_DescribeDelegationTokenRequest k) (fn := Try.f88) cfgA_ok Try.func88 h hrow hY hsn hC hR hroom
end Go.Proofs.Ytojbmnelohjhmaa
