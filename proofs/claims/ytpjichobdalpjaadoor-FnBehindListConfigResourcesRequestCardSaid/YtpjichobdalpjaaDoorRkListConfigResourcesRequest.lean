/- Walks of functions that the laws of this seat reach. No statement of the seat stands here. -/
import Derived.Test.YtpjichobdalpjaaDoorL5
import Derived.Test.YtpjichobdalpjaaDoorRows
import Derived.Test.YtpjichobdalpjaaDoorFa
import Derived.Test.YtpjichobdalpjaaDoorRj
import Derived.Test.YtpjichobdalpjaaDoorSch
namespace Go.Proofs.YtpjichobdalpjaaDoor
open Go Go.Mk
noncomputable def cxR_ListConfigResourcesRequest (gv : Value) (V : Nat) : Er.Cx := cxR gv 70 16 6 V (decide ((V : Int) ≥ 0))
theorem rchk_ListConfigResourcesRequest (gv : Value) : (List.range 2).all (fun V => Er.rdTop (cxR_ListConfigResourcesRequest gv V) sch_ListConfigResourcesRequest true false Tryd.f28) = true := by kernel_rfl
theorem readFrom_ListConfigResourcesRequest {w0 : World} {Y : Nat → Prop} {v gv : Value} {o : Option (List UInt8)} {g : Nat} (V : Nat) (h1 : V ≤ 1) (hg : w0.heap[g]? = some (.cells (.int .i16 (V : Int) :: Er.dflS sch_ListConfigResourcesRequest true).toArray 61 (0, 0))) (hR : Rep w0 Y (ddSrc o) [v]) (hY : Y g) (hG : ¬ Y 0 ∧ w0.cell? ⟨0, 0, none⟩ = some gv) :
    Ret Tryd.prog 28 [.pointer (some ⟨g, 0, none⟩), v, .bool false] w0 fun x w' => Er.Told .nilIface gv sch_ListConfigResourcesRequest true V (decide ((V : Int) ≥ 0)) o g 61 Y w0 x w' := by
  have h : Er.rdTop (cxR_ListConfigResourcesRequest gv V) sch_ListConfigResourcesRequest true false Tryd.f28 = true := Ea.all_range (rchk_ListConfigResourcesRequest gv) (by omega)
  exact Er.rd_sound (cx := cxR_ListConfigResourcesRequest gv V) (fn := Tryd.f28) cfgR_ok Tryd.func28 h hg hR hY hG
theorem ReadFrom_ListConfigResourcesRequest {w0 : World} {Y : Nat → Prop} {v gv : Value} {o : Option (List UInt8)} {g : Nat} (V : Nat) (h1 : V ≤ 1) (hg : w0.heap[g]? = some (.cells (.int .i16 (V : Int) :: Er.dflS sch_ListConfigResourcesRequest true).toArray 61 (0, 0))) (hR : Rep w0 Y (ddSrc o) [v]) (hY : Y g) (hG : ¬ Y 0 ∧ w0.cell? ⟨0, 0, none⟩ = some gv) :
    Ret Tryd.prog 16 [.pointer (some ⟨g, 0, none⟩), v] w0 fun x w' => Er.Told .nilIface gv sch_ListConfigResourcesRequest true V (decide ((V : Int) ≥ 0)) o g 61 Y w0 x w' := by
  refine c_call Tryd.func16 rfl rfl fun a hk => ?_
  have hk : Kn 8 [(0, .pointer (some ⟨g, 0, none⟩)), (1, v)] a := hk
  refine c_region ?_
  refine o_assign hk rfl rfl fun a hk => ?_
  refine c_end ?_
  refine c_region ?_
  refine o_move hk rfl rfl fun a hk => ?_
  refine o_move hk rfl rfl fun a hk => ?_
  refine o_call hk cb_28 (readFrom_ListConfigResourcesRequest V h1 hg hR hY hG) ⟨rfl, rfl, rfl, trivial⟩ rfl fun x w a hR hk => ?_
  refine o_assign hk rfl rfl fun a hk => ?_
  refine c_end ?_
  refine wp_ret ?_
  refine b_retTmp rfl hk rfl ?_
  exact hR
theorem newPtrD_ListConfigResourcesRequest {w0 : World} : Ret Tryd.prog 12 [] w0 fun v w' => Agr Nob w0 w' ∧ w0.heap.size < w'.heap.size ∧ v = .pointer (some ⟨w0.heap.size, 0, none⟩) ∧ w'.heap[w0.heap.size]? = some (.cells (.int .i16 0 :: Er.dflS sch_ListConfigResourcesRequest true).toArray 61 (0, 0)) := by
  refine c_call Tryd.func12 rfl rfl fun a hk => ?_
  have hk : Kn 3 [] a := hk
  refine c_region ?_
  refine o_assign hk rfl rfl fun a hk => ?_
  refine c_end ?_
  refine c_region ?_
  refine Er.o_allocW (cs := [.int .i16 0, .slice none 0 0, .map none]) hk tz_61 rfl rfl fun a w1 ag1 lt1 hb1 hk => ?_
  refine c_end ?_
  refine c_region ?_
  refine o_call hk cb_19 (dflt_ListConfigResourcesRequest (good := .nilIface) (gv := .nilIface) (gb := 0) (pre := []) (post := []) (c := [.int .i16 0, .slice none 0 0, .map none]) hb1 (by decide)) ⟨rfl, trivial⟩ rfl fun v w2 a hR hk => ?_
  obtain ⟨ag2, hb2⟩ := hR
  refine c_end ?_
  refine c_region ?_
  refine o_assign hk rfl rfl fun a hk => ?_
  refine c_end ?_
  refine wp_ret ?_
  refine b_retTmp rfl hk rfl ?_
  exact ⟨ag1.trans ag2 (fun _ _ x => x) (fun i hi x => by omega), Nat.lt_of_lt_of_le lt1 ag2.size, rfl, hb2⟩
end Go.Proofs.YtpjichobdalpjaaDoor
