/- Walks of functions that the laws of this seat reach. No statement of the seat stands here. -/
import Derived.Test.YthblgheenamnhaaGreatDoorRL4
import Derived.Test.YthblgheenamnhaaGreatDoorRRows
import Derived.Test.YthblgheenamnhaaGreatDoorRFa
import Derived.Test.YthblgheenamnhaaGreatDoorRRj
import Derived.Test.YthblgheenamnhaaGreatDoorRSch
namespace Go.Proofs.YthblgheenamnhaaGreatDoorR
open Go Go.Mk
noncomputable def cxR_ProduceRequest (gv:Value) (V:Nat):Er.Cx:=cxR gv 186 30 6 V (decide ((V:Int) ≥ 9))
theorem rchk_ProduceRequest (gv:Value):(List.range 14).all (fun V=>Er.rdTop (cxR_ProduceRequest gv V) sch_ProduceRequest true false Tryz.f72) = true:=by kernel_rfl
theorem readFrom_ProduceRequest {w0:World} {Y:Nat → Prop} {v gv:Value} {o:Option (List UInt8)} {g:Nat} (V:Nat) (h1:V ≤ 13) (hg:w0.heap[g]? = some (.cells (.int .i16 (V:Int) :: Er.dflS sch_ProduceRequest true).toArray 101 (0,0))) (hR:Rep w0 Y (ddSrc o) [v]) (hY:Y g) (hG : ¬ Y 0 ∧ w0.cell? ⟨0,0,none⟩ = some gv) :
    Ret Tryz.prog 72 [.pointer (some ⟨g,0,none⟩),v,.bool false] w0 fun x w'=>Er.Told .nilIface gv sch_ProduceRequest true V (decide ((V:Int) ≥ 9)) o g 101 Y w0 x w':=by
  have h:Er.rdTop (cxR_ProduceRequest gv V) sch_ProduceRequest true false Tryz.f72 = true:=Ea.all_range (rchk_ProduceRequest gv) (by omega)
  exact Er.rd_sound (cx:=cxR_ProduceRequest gv V) (fn:=Tryz.f72) cfgR_ok Tryz.func72 h hg hR hY hG
theorem ReadFrom_ProduceRequest {w0:World} {Y:Nat → Prop} {v gv:Value} {o:Option (List UInt8)} {g:Nat} (V:Nat) (h1:V ≤ 13) (hg:w0.heap[g]? = some (.cells (.int .i16 (V:Int) :: Er.dflS sch_ProduceRequest true).toArray 101 (0,0))) (hR:Rep w0 Y (ddSrc o) [v]) (hY:Y g) (hG : ¬ Y 0 ∧ w0.cell? ⟨0,0,none⟩ = some gv) :
    Ret Tryz.prog 49 [.pointer (some ⟨g,0,none⟩),v] w0 fun x w'=>Er.Told .nilIface gv sch_ProduceRequest true V (decide ((V:Int) ≥ 9)) o g 101 Y w0 x w':=by
  refine c_call Tryz.func49 rfl rfl fun a hk=>?_
  have hk:Kn 8 [(0,.pointer (some ⟨g,0,none⟩)),(1,v)] a:=hk
  refine cR0 ?_
  refine oA0 hk rfl rfl fun a hk=>?_
  refine cE0 ?_
  refine cR0 ?_
  refine oM0 hk rfl rfl fun a hk=>?_
  refine oM0 hk rfl rfl fun a hk=>?_
  refine o_call hk cb_72 (readFrom_ProduceRequest V h1 hg hR hY hG) ⟨rfl,rfl,rfl,trivial⟩ rfl fun x w a hR hk=>?_
  refine oA0 hk rfl rfl fun a hk=>?_
  refine cE0 ?_
  refine wp_ret ?_
  refine bT0 rfl hk rfl ?_
  exact hR
theorem newPtrD_ProduceRequest {w0:World}:Ret Tryz.prog 45 [] w0 fun v w'=>Agr Nob w0 w' ∧ w0.heap.size < w'.heap.size ∧ v = .pointer (some ⟨w0.heap.size,0,none⟩) ∧ w'.heap[w0.heap.size]? = some (.cells (.int .i16 0 :: Er.dflS sch_ProduceRequest true).toArray 101 (0,0)):=by
  refine c_call Tryz.func45 rfl rfl fun a hk=>?_
  have hk:Kn 3 [] a:=hk
  refine cR0 ?_
  refine oA0 hk rfl rfl fun a hk=>?_
  refine cE0 ?_
  refine cR0 ?_
  refine Er.o_allocW (cs:=[.int .i16 0,.pointer none,.int .i16 0,.int .i32 0,.slice none 0 0,.map none]) hk tz_101 rfl rfl fun a w1 ag1 lt1 hb1 hk=>?_
  refine cE0 ?_
  refine cR0 ?_
  refine o_call hk cb_70 (dflt_ProduceRequest (good:=.nilIface) (gv:=.nilIface) (gb:=0) (pre:=[]) (post:=[]) (c:=[.int .i16 0,.pointer none,.int .i16 0,.int .i32 0,.slice none 0 0,.map none]) hb1 (by decide)) ⟨rfl,trivial⟩ rfl fun v w2 a hR hk=>?_
  obtain ⟨ag2,hb2⟩:=hR
  refine cE0 ?_
  refine cR0 ?_
  refine oA0 hk rfl rfl fun a hk=>?_
  refine cE0 ?_
  refine wp_ret ?_
  refine bT0 rfl hk rfl ?_
  exact ⟨ag1.trans ag2 (fun _ _ x=>x) (fun i hi x=>by omega),Nat.lt_of_lt_of_le lt1 ag2.size,rfl,hb2⟩
end Go.Proofs.YthblgheenamnhaaGreatDoorR
