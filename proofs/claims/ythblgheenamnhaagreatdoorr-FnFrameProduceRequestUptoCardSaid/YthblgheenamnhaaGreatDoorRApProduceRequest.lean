/- Walks of functions that the laws of this seat reach. No statement of the seat stands here. -/
import Derived.Test.YthblgheenamnhaaGreatDoorRL2
import Derived.Test.YthblgheenamnhaaGreatDoorRRows
import Derived.Test.YthblgheenamnhaaGreatDoorRFa
import Derived.Test.YthblgheenamnhaaGreatDoorRCf
import Derived.Test.YthblgheenamnhaaGreatDoorRSch
namespace Go.Proofs.YthblgheenamnhaaGreatDoorR
open Go Go.Mk
noncomputable def cx_ProduceRequest (V:Nat):Ea.Cx:=⟨Tryz.prog,5,186,20,cfgA,V,(decide ((V:Int) ≥ 9))⟩
theorem chk_ProduceRequest:(List.range 14).all (fun V=>Ea.chk (cx_ProduceRequest V) sch_ProduceRequest true Tryz.f201) = true:=by kernel_rfl
theorem appendTo_ProduceRequest {w0:World} {Y:Nat → Prop} {t:T} {v:Value} {n g:Nat} {c xs:List Value} (V:Int) (h0 : 0 ≤ V) (h1:V ≤ 13) (hrow:w0.ownsRow 0 5 1 v n xs) (hY:∀ k,v.ownBlock = some k → Y k) (hsn:t.sane = true)
    (hC:Cel w0 Y g 0 (.int .i16 V :: c)) (hR:Rep w0 Y (wrS sch_ProduceRequest true V (decide (V ≥ 9)) t) c) (hroom:n + (partP sch_ProduceRequest V (decide (V ≥ 9)) t).length ≤ room) :
    Ret Tryz.prog 201 [.pointer (some ⟨g,0,none⟩),v] w0 fun v' w'=>RowTo w0 5 1 v (n + (partP sch_ProduceRequest V (decide (V ≥ 9)) t).length) (xs ++ bv (partP sch_ProduceRequest V (decide (V ≥ 9)) t)) v' w':=by
  obtain ⟨k,rfl⟩:=Int.eq_ofNat_of_zero_le h0
  have h:Ea.chk (cx_ProduceRequest k) sch_ProduceRequest true Tryz.f201 = true:=Ea.all_range chk_ProduceRequest (by omega)
  exact Ea.chk_sound (cx:=cx_ProduceRequest k) (fn:=Tryz.f201) cfgA_ok Tryz.func201 h hrow hY hsn hC hR hroom
end Go.Proofs.YthblgheenamnhaaGreatDoorR
