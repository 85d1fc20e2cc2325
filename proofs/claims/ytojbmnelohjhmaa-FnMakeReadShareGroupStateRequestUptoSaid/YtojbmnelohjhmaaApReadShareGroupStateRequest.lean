/- Walks of functions that the laws of this seat reach. No statement of the seat stands here. -/
import Derived.Test.YtojbmnelohjhmaaL2
import Derived.Test.YtojbmnelohjhmaaRows
import Derived.Test.YtojbmnelohjhmaaFa
import Derived.Test.YtojbmnelohjhmaaCf
import Derived.Test.YtojbmnelohjhmaaSch
namespace Go.Proofs.Ytojbmnelohjhmaa
open Go Go.Mk
noncomputable def cx_ReadShareGroupStateRequest (V : Nat) : Ea.Cx := ⟨Try.prog, 5, 144, 17, cfgA, V, (decide ((V : Int) ≥ 0))⟩
theorem chk_ReadShareGroupStateRequest : (List.range 1).all (fun V => Ea.chk (cx_ReadShareGroupStateRequest V) sch_ReadShareGroupStateRequest true Try.f94) = true := by kernel_rfl
theorem appendTo_ReadShareGroupStateRequest {w0 : World} {Y : Nat → Prop} {t : T} {v : Value} {n g : Nat} {c xs : List Value} (V : Int) (h0 : 0 ≤ V) (h1 : V ≤ 0) (hrow : w0.ownsRow 0 5 1 v n xs) (hY : ∀ k, v.ownBlock = some k → Y k) (hsn : t.sane = true)
    (hC : Cel w0 Y g 0 (.int .i16 V :: c)) (hR : Rep w0 Y (wrS sch_ReadShareGroupStateRequest true V (decide (V ≥ 0)) t) c) (hroom : n + (partP sch_ReadShareGroupStateRequest V (decide (V ≥ 0)) t).length ≤ room) :
    Ret Try.prog 94 [.pointer (some ⟨g, 0, none⟩), v] w0 fun v' w' => RowTo w0 5 1 v (n + (partP sch_ReadShareGroupStateRequest V (decide (V ≥ 0)) t).length) (xs ++ bv (partP sch_ReadShareGroupStateRequest V (decide (V ≥ 0)) t)) v' w' := by
  obtain ⟨k, rfl⟩ := Int.eq_ofNat_of_zero_le h0
  have h : Ea.chk (cx_ReadShareGroupStateRequest k) sch_ReadShareGroupStateRequest true Try.f94 = true := Ea.all_range chk_ReadShareGroupStateRequest (by omega)
  exact Ea.chk_sound (cx := cx_ReadShareGroupStateRequest k) (fn := Try.f94) cfgA_ok Try.func94 h hrow hY hsn hC hR hroom
end Go.Proofs.Ytojbmnelohjhmaa
