/- Walks of functions that the laws of this seat reach. No statement of the seat stands here. -/
import Derived.Test.YthblgheenamnhaaGreatDoorRL2
import Derived.Test.YthblgheenamnhaaGreatDoorRRows
import Derived.Test.YthblgheenamnhaaGreatDoorRFa
import Derived.Test.YthblgheenamnhaaGreatDoorRCf
import Derived.Test.YthblgheenamnhaaGreatDoorRSch
namespace Go.Proofs.YthblgheenamnhaaGreatDoorR
open Go Go.Mk
noncomputable def cx_WriteShareGroupStateRequest (V:Nat):Ea.Cx:=⟨Tryz.prog,5,241,27,cfgA,V,(decide ((V:Int) ≥ 0))⟩
theorem chk_WriteShareGroupStateRequest:(List.range 2).all (fun V=>Ea.chk (cx_WriteShareGroupStateRequest V) sch_WriteShareGroupStateRequest true Tryz.f141) = true:=by kernel_rfl
theorem appendTo_WriteShareGroupStateRequest {w0:World} {Y:Nat → Prop} {t:T} {v:Value} {n g:Nat} {c xs:List Value} (V:Int) (h0 : 0 ≤ V) (h1:V ≤ 1) (hrow:w0.ownsRow 0 5 1 v n xs) (hY:∀ k,v.ownBlock = some k → Y k) (hsn:t.sane = true)
    (hC:Cel w0 Y g 0 (.int .i16 V :: c)) (hR:Rep w0 Y (wrS sch_WriteShareGroupStateRequest true V (decide (V ≥ 0)) t) c) (hroom:n + (partP sch_WriteShareGroupStateRequest V (decide (V ≥ 0)) t).length ≤ room) :
    Ret Tryz.prog 141 [.pointer (some ⟨g,0,none⟩),v] w0 fun v' w'=>RowTo w0 5 1 v (n + (partP sch_WriteShareGroupStateRequest V (decide (V ≥ 0)) t).length) (xs ++ bv (partP sch_WriteShareGroupStateRequest V (decide (V ≥ 0)) t)) v' w':=by
  obtain ⟨k,rfl⟩:=Int.eq_ofNat_of_zero_le h0
  have h:Ea.chk (cx_WriteShareGroupStateRequest k) sch_WriteShareGroupStateRequest true Tryz.f141 = true:=Ea.all_range chk_WriteShareGroupStateRequest (by omega)
  exact Ea.chk_sound (cx:=cx_WriteShareGroupStateRequest k) (fn:=Tryz.f141) cfgA_ok Tryz.func141 h hrow hY hsn hC hR hroom
end Go.Proofs.YthblgheenamnhaaGreatDoorR
