/- Walks of functions that the laws of this seat reach. No statement of the seat stands here. -/
import Derived.Test.YthblgheenamnhaaGreatDoorRL2
import Derived.Test.YthblgheenamnhaaGreatDoorRRows
import Derived.Test.YthblgheenamnhaaGreatDoorRFa
import Derived.Test.YthblgheenamnhaaGreatDoorRCf
import Derived.Test.YthblgheenamnhaaGreatDoorRSch
namespace Go.Proofs.YthblgheenamnhaaGreatDoorR
open Go Go.Mk
noncomputable def cx_JoinGroupRequest (V:Nat):Ea.Cx:=⟨Tryz.prog,5,175,19,cfgA,V,(decide ((V:Int) ≥ 6))⟩
theorem chk_JoinGroupRequest:(List.range 10).all (fun V=>Ea.chk (cx_JoinGroupRequest V) sch_JoinGroupRequest true Tryz.f190) = true:=by kernel_rfl
theorem appendTo_JoinGroupRequest {w0:World} {Y:Nat → Prop} {t:T} {v:Value} {n g:Nat} {c xs:List Value} (V:Int) (h0 : 0 ≤ V) (h1:V ≤ 9) (hrow:w0.ownsRow 0 5 1 v n xs) (hY:∀ k,v.ownBlock = some k → Y k) (hsn:t.sane = true)
    (hC:Cel w0 Y g 0 (.int .i16 V :: c)) (hR:Rep w0 Y (wrS sch_JoinGroupRequest true V (decide (V ≥ 6)) t) c) (hroom:n + (partP sch_JoinGroupRequest V (decide (V ≥ 6)) t).length ≤ room) :
    Ret Tryz.prog 190 [.pointer (some ⟨g,0,none⟩),v] w0 fun v' w'=>RowTo w0 5 1 v (n + (partP sch_JoinGroupRequest V (decide (V ≥ 6)) t).length) (xs ++ bv (partP sch_JoinGroupRequest V (decide (V ≥ 6)) t)) v' w':=by
  obtain ⟨k,rfl⟩:=Int.eq_ofNat_of_zero_le h0
  have h:Ea.chk (cx_JoinGroupRequest k) sch_JoinGroupRequest true Tryz.f190 = true:=Ea.all_range chk_JoinGroupRequest (by omega)
  exact Ea.chk_sound (cx:=cx_JoinGroupRequest k) (fn:=Tryz.f190) cfgA_ok Tryz.func190 h hrow hY hsn hC hR hroom
end Go.Proofs.YthblgheenamnhaaGreatDoorR
