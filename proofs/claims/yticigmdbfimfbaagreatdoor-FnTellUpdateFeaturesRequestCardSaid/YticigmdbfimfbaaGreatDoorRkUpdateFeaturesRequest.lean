/- Walks of functions that the laws of this seat reach. No statement of the seat stands here. -/
import Derived.Test.YticigmdbfimfbaaGreatDoorL3
import Derived.Test.YticigmdbfimfbaaGreatDoorRows
import Derived.Test.YticigmdbfimfbaaGreatDoorFa
import Derived.Test.YticigmdbfimfbaaGreatDoorRj
import Derived.Test.YticigmdbfimfbaaGreatDoorSch
namespace Go.Proofs.YticigmdbfimfbaaGreatDoor
open Go Go.Mk
noncomputable def cxR_UpdateFeaturesRequest (gv : Value) (V : Nat) : Er.Cx := cxR gv 127 23 6 V (decide ((V : Int) ≥ 0))
theorem rchk_UpdateFeaturesRequest (gv : Value) : (List.range 3).all (fun V => Er.rdTop (cxR_UpdateFeaturesRequest gv V) sch_UpdateFeaturesRequest true false Tryz.f115) = true := by kernel_rfl
theorem readFrom_UpdateFeaturesRequest {w0 : World} {Y : Nat → Prop} {v gv : Value} {o : Option (List UInt8)} {g : Nat} (V : Nat) (h1 : V ≤ 2) (hg : w0.heap[g]? = some (.cells (.int .i16 (V : Int) :: Er.dflS sch_UpdateFeaturesRequest true).toArray 129 (0, 0))) (hR : Rep w0 Y (ddSrc o) [v]) (hY : Y g) (hG : ¬ Y 1 ∧ w0.cell? ⟨1, 0, none⟩ = some gv) :
    Ret Tryz.prog 115 [.pointer (some ⟨g, 0, none⟩), v, .bool false] w0 fun x w' => Er.Told .nilIface gv sch_UpdateFeaturesRequest true V (decide ((V : Int) ≥ 0)) o g 129 Y w0 x w' := by
  have h : Er.rdTop (cxR_UpdateFeaturesRequest gv V) sch_UpdateFeaturesRequest true false Tryz.f115 = true := Ea.all_range (rchk_UpdateFeaturesRequest gv) (by omega)
  exact Er.rd_sound (cx := cxR_UpdateFeaturesRequest gv V) (fn := Tryz.f115) cfgR_ok Tryz.func115 h hg hR hY hG
theorem ReadFrom_UpdateFeaturesRequest {w0 : World} {Y : Nat → Prop} {v gv : Value} {o : Option (List UInt8)} {g : Nat} (V : Nat) (h1 : V ≤ 2) (hg : w0.heap[g]? = some (.cells (.int .i16 (V : Int) :: Er.dflS sch_UpdateFeaturesRequest true).toArray 129 (0, 0))) (hR : Rep w0 Y (ddSrc o) [v]) (hY : Y g) (hG : ¬ Y 1 ∧ w0.cell? ⟨1, 0, none⟩ = some gv) :
    Ret Tryz.prog 73 [.pointer (some ⟨g, 0, none⟩), v] w0 fun x w' => Er.Told .nilIface gv sch_UpdateFeaturesRequest true V (decide ((V : Int) ≥ 0)) o g 129 Y w0 x w' := by
  refine c_call Tryz.func73 rfl rfl fun a hk => ?_
  have hk : Kn 8 [(0, .pointer (some ⟨g, 0, none⟩)), (1, v)] a := hk
  refine c_region ?_
  refine o_assign hk rfl rfl fun a hk => ?_
  refine c_end ?_
  refine c_region ?_
  refine o_move hk rfl rfl fun a hk => ?_
  refine o_move hk rfl rfl fun a hk => ?_
  refine o_call hk cb_115 (readFrom_UpdateFeaturesRequest V h1 hg hR hY hG) ⟨rfl, rfl, rfl, trivial⟩ rfl fun x w a hR hk => ?_
  refine o_assign hk rfl rfl fun a hk => ?_
  refine c_end ?_
  refine wp_ret ?_
  refine b_retTmp rfl hk rfl ?_
  exact hR
theorem newPtrD_UpdateFeaturesRequest {w0 : World} : Ret Tryz.prog 69 [] w0 fun v w' => Agr Nob w0 w' ∧ w0.heap.size < w'.heap.size ∧ v = .pointer (some ⟨w0.heap.size, 0, none⟩) ∧ w'.heap[w0.heap.size]? = some (.cells (.int .i16 0 :: Er.dflS sch_UpdateFeaturesRequest true).toArray 129 (0, 0)) := by
  refine c_call Tryz.func69 rfl rfl fun a hk => ?_
  have hk : Kn 3 [] a := hk
  refine c_region ?_
  refine o_assign hk rfl rfl fun a hk => ?_
  refine c_end ?_
  refine c_region ?_
  refine Er.o_allocW (cs := [.int .i16 0, .int .i32 0, .slice none 0 0, .bool false, .map none]) hk tz_129 rfl rfl fun a w1 ag1 lt1 hb1 hk => ?_
  refine c_end ?_
  refine c_region ?_
  refine o_call hk cb_114 (dflt_UpdateFeaturesRequest (good := .nilIface) (gv := .nilIface) (gb := 1) (pre := []) (post := []) (c := [.int .i16 0, .int .i32 0, .slice none 0 0, .bool false, .map none]) hb1 (by decide)) ⟨rfl, trivial⟩ rfl fun v w2 a hR hk => ?_
  obtain ⟨ag2, hb2⟩ := hR
  refine c_end ?_
  refine c_region ?_
  refine o_assign hk rfl rfl fun a hk => ?_
  refine c_end ?_
  refine wp_ret ?_
  refine b_retTmp rfl hk rfl ?_
  exact ⟨ag1.trans ag2 (fun _ _ x => x) (fun i hi x => by omega), Nat.lt_of_lt_of_le lt1 ag2.size, rfl, hb2⟩
end Go.Proofs.YticigmdbfimfbaaGreatDoor
