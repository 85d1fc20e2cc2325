/- Walks of functions that the laws of this seat reach. No statement of the seat stands here. -/
import Derived.Test.YtnndnjbkhhammaaL2
import Derived.Test.YtnndnjbkhhammaaRows
import Derived.Test.YtnndnjbkhhammaaFa
import Derived.Test.YtnndnjbkhhammaaCf
import Derived.Test.YtnndnjbkhhammaaSch
namespace Go.Proofs.Ytnndnjbkhhammaa
open Go Go.Mk
noncomputable def cx_BrokerRegistrationRequest (V : Nat) : Ea.Cx := ⟨Try.prog, 5, 267, 29, cfgA, V, (decide ((V : Int) ≥ 0))⟩
theorem chk_BrokerRegistrationRequest : (List.range 5).all (fun V => Ea.chk (cx_BrokerRegistrationRequest V) sch_BrokerRegistrationRequest true Try.f24) = true := by kernel_rfl
theorem appendTo_BrokerRegistrationRequest {w0 : World} {Y : Nat → Prop} {t : T} {v : Value} {n g : Nat} {c xs : List Value} (V : Int) (h0 : 0 ≤ V) (h1 : V ≤ 4) (hrow : w0.ownsRow 0 5 1 v n xs) (hY : ∀ k, v.ownBlock = some k → Y k) (hsn : t.sane = true)
    (hC : Cel w0 Y g 0 (.int .i16 V :: c)) (hR : Rep w0 Y (wrS sch_BrokerRegistrationRequest true V (decide (V ≥ 0)) t) c) (hroom : n + (partP sch_BrokerRegistrationRequest V (decide (V ≥ 0)) t).length ≤ room) :
    Ret Try.prog 24 [.pointer (some ⟨g, 0, none⟩), v] w0 fun v' w' => RowTo w0 5 1 v (n + (partP sch_BrokerRegistrationRequest V (decide (V ≥ 0)) t).length) (xs ++ bv (partP sch_BrokerRegistrationRequest V (decide (V ≥ 0)) t)) v' w' := by
  obtain ⟨k, rfl⟩ := Int.eq_ofNat_of_zero_le h0
  have h : Ea.chk (cx_BrokerRegistrationRequest k) sch_BrokerRegistrationRequest true Try.f24 = true := Ea.all_range chk_BrokerRegistrationRequest (by omega)
  exact Ea.chk_sound (cx := cx_BrokerRegistrationRequest k) (fn := Try.f24) cfgA_ok Try.func24 h hrow hY hsn hC hR hroom
end Go.Proofs.Ytnndnjbkhhammaa
