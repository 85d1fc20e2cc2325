/- Walks of functions that the laws of this seat reach. No statement of the seat stands here. -/
import Derived.Test.YtpjichobdalpjaaGreatDoorL2
import Derived.Test.YtpjichobdalpjaaGreatDoorRows
import Derived.Test.YtpjichobdalpjaaGreatDoorFa
import Derived.Test.YtpjichobdalpjaaGreatDoorCf
import Derived.Test.YtpjichobdalpjaaGreatDoorSch
namespace Go.Proofs.YtpjichobdalpjaaGreatDoor
open Go Go.Mk
noncomputable def cx_AssignReplicasToDirsRequest (V : Nat) : Ea.Cx := ⟨Tryz.prog, 5, 187, 21, cfgA, V, (decide ((V : Int) ≥ 0))⟩
theorem chk_AssignReplicasToDirsRequest : (List.range 1).all (fun V => Ea.chk (cx_AssignReplicasToDirsRequest V) sch_AssignReplicasToDirsRequest true Tryz.f81) = true := by kernel_rfl
theorem appendTo_AssignReplicasToDirsRequest {w0 : World} {Y : Nat → Prop} {t : T} {v : Value} {n g : Nat} {c xs : List Value} (V : Int) (h0 : 0 ≤ V) (h1 : V ≤ 0) (hrow : w0.ownsRow 0 5 1 v n xs) (hY : ∀ k, v.ownBlock = some k → Y k) (hsn : t.sane = true)
    (hC : Cel w0 Y g 0 (.int .i16 V :: c)) (hR : Rep w0 Y (wrS sch_AssignReplicasToDirsRequest true V (decide (V ≥ 0)) t) c) (hroom : n + (partP sch_AssignReplicasToDirsRequest V (decide (V ≥ 0)) t).length ≤ room) :
    Ret Tryz.prog 81 [.pointer (some ⟨g, 0, none⟩), v] w0 fun v' w' => RowTo w0 5 1 v (n + (partP sch_AssignReplicasToDirsRequest V (decide (V ≥ 0)) t).length) (xs ++ bv (partP sch_AssignReplicasToDirsRequest V (decide (V ≥ 0)) t)) v' w' := by
  obtain ⟨k, rfl⟩ := Int.eq_ofNat_of_zero_le h0
  have h : Ea.chk (cx_AssignReplicasToDirsRequest k) sch_AssignReplicasToDirsRequest true Tryz.f81 = true := Ea.all_range chk_AssignReplicasToDirsRequest (by omega)
  exact Ea.chk_sound (cx := cx_AssignReplicasToDirsRequest k) (fn := Tryz.f81) cfgA_ok Tryz.func81 h hrow hY hsn hC hR hroom
end Go.Proofs.YtpjichobdalpjaaGreatDoor
