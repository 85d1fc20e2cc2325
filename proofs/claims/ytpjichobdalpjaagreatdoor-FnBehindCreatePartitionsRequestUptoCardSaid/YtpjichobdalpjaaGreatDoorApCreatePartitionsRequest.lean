/- Walks of functions that the laws of this seat reach. No statement of the seat stands here. -/
import Derived.Test.YtpjichobdalpjaaGreatDoorL2
import Derived.Test.YtpjichobdalpjaaGreatDoorRows
import Derived.Test.YtpjichobdalpjaaGreatDoorFa
import Derived.Test.YtpjichobdalpjaaGreatDoorCf
import Derived.Test.YtpjichobdalpjaaGreatDoorSch
namespace Go.Proofs.YtpjichobdalpjaaGreatDoor
open Go Go.Mk
noncomputable def cx_CreatePartitionsRequest (V : Nat) : Ea.Cx := ⟨Tryz.prog, 5, 177, 20, cfgA, V, (decide ((V : Int) ≥ 2))⟩
theorem chk_CreatePartitionsRequest : (List.range 4).all (fun V => Ea.chk (cx_CreatePartitionsRequest V) sch_CreatePartitionsRequest true Tryz.f93) = true := by kernel_rfl
theorem appendTo_CreatePartitionsRequest {w0 : World} {Y : Nat → Prop} {t : T} {v : Value} {n g : Nat} {c xs : List Value} (V : Int) (h0 : 0 ≤ V) (h1 : V ≤ 3) (hrow : w0.ownsRow 0 5 1 v n xs) (hY : ∀ k, v.ownBlock = some k → Y k) (hsn : t.sane = true)
    (hC : Cel w0 Y g 0 (.int .i16 V :: c)) (hR : Rep w0 Y (wrS sch_CreatePartitionsRequest true V (decide (V ≥ 2)) t) c) (hroom : n + (partP sch_CreatePartitionsRequest V (decide (V ≥ 2)) t).length ≤ room) :
    Ret Tryz.prog 93 [.pointer (some ⟨g, 0, none⟩), v] w0 fun v' w' => RowTo w0 5 1 v (n + (partP sch_CreatePartitionsRequest V (decide (V ≥ 2)) t).length) (xs ++ bv (partP sch_CreatePartitionsRequest V (decide (V ≥ 2)) t)) v' w' := by
  obtain ⟨k, rfl⟩ := Int.eq_ofNat_of_zero_le h0
  have h : Ea.chk (cx_CreatePartitionsRequest k) sch_CreatePartitionsRequest true Tryz.f93 = true := Ea.all_range chk_CreatePartitionsRequest (by omega)
  exact Ea.chk_sound (cx := cx_CreatePartitionsRequest k) (fn := Tryz.f93) cfgA_ok Tryz.func93 h hrow hY hsn hC hR hroom
end Go.Proofs.YtpjichobdalpjaaGreatDoor
