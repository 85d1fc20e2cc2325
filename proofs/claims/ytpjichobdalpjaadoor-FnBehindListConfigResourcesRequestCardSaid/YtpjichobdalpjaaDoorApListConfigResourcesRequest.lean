/- Walks of functions that the laws of this seat reach. No statement of the seat stands here. -/
import Derived.Test.YtpjichobdalpjaaDoorL2
import Derived.Test.YtpjichobdalpjaaDoorRows
import Derived.Test.YtpjichobdalpjaaDoorFa
import Derived.Test.YtpjichobdalpjaaDoorCf
import Derived.Test.YtpjichobdalpjaaDoorSch
namespace Go.Proofs.YtpjichobdalpjaaDoor
open Go Go.Mk
noncomputable def cx_ListConfigResourcesRequest (V : Nat) : Ea.Cx := ⟨Tryd.prog, 5, 61, 10, cfgA, V, (decide ((V : Int) ≥ 0))⟩
theorem chk_ListConfigResourcesRequest : (List.range 2).all (fun V => Ea.chk (cx_ListConfigResourcesRequest V) sch_ListConfigResourcesRequest true Tryd.f17) = true := by kernel_rfl
theorem appendTo_ListConfigResourcesRequest {w0 : World} {Y : Nat → Prop} {t : T} {v : Value} {n g : Nat} {c xs : List Value} (V : Int) (h0 : 0 ≤ V) (h1 : V ≤ 1) (hrow : w0.ownsRow 0 5 1 v n xs) (hY : ∀ k, v.ownBlock = some k → Y k) (hsn : t.sane = true)
    (hC : Cel w0 Y g 0 (.int .i16 V :: c)) (hR : Rep w0 Y (wrS sch_ListConfigResourcesRequest true V (decide (V ≥ 0)) t) c) (hroom : n + (partP sch_ListConfigResourcesRequest V (decide (V ≥ 0)) t).length ≤ room) :
    Ret Tryd.prog 17 [.pointer (some ⟨g, 0, none⟩), v] w0 fun v' w' => RowTo w0 5 1 v (n + (partP sch_ListConfigResourcesRequest V (decide (V ≥ 0)) t).length) (xs ++ bv (partP sch_ListConfigResourcesRequest V (decide (V ≥ 0)) t)) v' w' := by
  obtain ⟨k, rfl⟩ := Int.eq_ofNat_of_zero_le h0
  have h : Ea.chk (cx_ListConfigResourcesRequest k) sch_ListConfigResourcesRequest true Tryd.f17 = true := Ea.all_range chk_ListConfigResourcesRequest (by omega)
  exact Ea.chk_sound (cx := cx_ListConfigResourcesRequest k) (fn := Tryd.f17) cfgA_ok Tryd.func17 h hrow hY hsn hC hR hroom
end Go.Proofs.YtpjichobdalpjaaDoor
