/- Walks of functions that the laws of this seat reach. No statement of the seat stands here. -/
import Derived.Test.YtojbmnelohjhmaaL2
import Derived.Test.YtojbmnelohjhmaaRows
import Derived.Test.YtojbmnelohjhmaaFa
import Derived.Test.YtojbmnelohjhmaaCf
import Derived.Test.YtojbmnelohjhmaaSch
namespace Go.Proofs.Ytojbmnelohjhmaa
open Go Go.Mk
noncomputable def cx_ApiVersionsRequest (V : Nat) : Ea.Cx := ⟨Try.prog, 5, 82, 11, cfgA, V, (decide ((V : Int) ≥ 3))⟩
theorem chk_ApiVersionsRequest : (List.range 6).all (fun V => Ea.chk (cx_ApiVersionsRequest V) sch_ApiVersionsRequest true Try.f82) = true := by kernel_rfl
theorem appendTo_ApiVersionsRequest {w0 : World} {Y : Nat → Prop} {t : T} {v : Value} {n g : Nat} {c xs : List Value} (V : Int) (h0 : 0 ≤ V) (h1 : V ≤ 5) (hrow : w0.ownsRow 0 5 1 v n xs) (hY : ∀ k, v.ownBlock = some k → Y k) (hsn : t.sane = true)
    (hC : Cel w0 Y g 0 (.int .i16 V :: c)) (hR : Rep w0 Y (wrS sch_ApiVersionsRequest true V (decide (V ≥ 3)) t) c) (hroom : n + (partP sch_ApiVersionsRequest V (decide (V ≥ 3)) t).length ≤ room) :
    Ret Try.prog 82 [.pointer (some ⟨g, 0, none⟩), v] w0 fun v' w' => RowTo w0 5 1 v (n + (partP sch_ApiVersionsRequest V (decide (V ≥ 3)) t).length) (xs ++ bv (partP sch_ApiVersionsRequest V (decide (V ≥ 3)) t)) v' w' := by
  obtain ⟨k, rfl⟩ := Int.eq_ofNat_of_zero_le h0
  have h : Ea.chk (cx_ApiVersionsRequest k) sch_ApiVersionsRequest true Try.f82 = true := Ea.all_range chk_ApiVersionsRequest (by omega)
  exact Ea.chk_sound (cx := cx_ApiVersionsRequest k) (fn := Try.f82) cfgA_ok Try.func82 h hrow hY hsn hC hR hroom
end Go.Proofs.Ytojbmnelohjhmaa
