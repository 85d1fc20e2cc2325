/- Walks of functions that the laws of this seat reach. No statement of the seat stands here. -/
import Derived.Test.YticigmdbfimfbaaGreatDoorL3
import Derived.Test.YticigmdbfimfbaaGreatDoorRows
import Derived.Test.YticigmdbfimfbaaGreatDoorFa
import Derived.Test.YticigmdbfimfbaaGreatDoorRj
import Derived.Test.YticigmdbfimfbaaGreatDoorSch
namespace Go.Proofs.YticigmdbfimfbaaGreatDoor
open Go Go.Mk
noncomputable def cxR_DeleteRecordsResponse (gv : Value) (V : Nat) : Er.Cx := cxR gv 156 28 6 V (decide ((V : Int) ≥ 2))
theorem rchk_DeleteRecordsResponse (gv : Value) : (List.range 3).all (fun V => Er.rdTop (cxR_DeleteRecordsResponse gv V) sch_DeleteRecordsResponse true false Tryz.f126) = true := by kernel_rfl
theorem readFrom_DeleteRecordsResponse {w0 : World} {Y : Nat → Prop} {v gv : Value} {o : Option (List UInt8)} {g : Nat} (V : Nat) (h1 : V ≤ 2) (hg : w0.heap[g]? = some (.cells (.int .i16 (V : Int) :: Er.dflS sch_DeleteRecordsResponse true).toArray 146 (0, 0))) (hR : Rep w0 Y (ddSrc o) [v]) (hY : Y g) (hG : ¬ Y 1 ∧ w0.cell? ⟨1, 0, none⟩ = some gv) :
    Ret Tryz.prog 126 [.pointer (some ⟨g, 0, none⟩), v, .bool false] w0 fun x w' => Er.Told .nilIface gv sch_DeleteRecordsResponse true V (decide ((V : Int) ≥ 2)) o g 146 Y w0 x w' := by
  have h : Er.rdTop (cxR_DeleteRecordsResponse gv V) sch_DeleteRecordsResponse true false Tryz.f126 = true := Ea.all_range (rchk_DeleteRecordsResponse gv) (by omega)
  exact Er.rd_sound (cx := cxR_DeleteRecordsResponse gv V) (fn := Tryz.f126) cfgR_ok Tryz.func126 h hg hR hY hG
theorem ReadFrom_DeleteRecordsResponse {w0 : World} {Y : Nat → Prop} {v gv : Value} {o : Option (List UInt8)} {g : Nat} (V : Nat) (h1 : V ≤ 2) (hg : w0.heap[g]? = some (.cells (.int .i16 (V : Int) :: Er.dflS sch_DeleteRecordsResponse true).toArray 146 (0, 0))) (hR : Rep w0 Y (ddSrc o) [v]) (hY : Y g) (hG : ¬ Y 1 ∧ w0.cell? ⟨1, 0, none⟩ = some gv) :
    Ret Tryz.prog 85 [.pointer (some ⟨g, 0, none⟩), v] w0 fun x w' => Er.Told .nilIface gv sch_DeleteRecordsResponse true V (decide ((V : Int) ≥ 2)) o g 146 Y w0 x w' := by
  refine c_call Tryz.func85 rfl rfl fun a hk => ?_
  have hk : Kn 8 [(0, .pointer (some ⟨g, 0, none⟩)), (1, v)] a := hk
  refine c_region ?_
  refine o_assign hk rfl rfl fun a hk => ?_
  refine c_end ?_
  refine c_region ?_
  refine o_move hk rfl rfl fun a hk => ?_
  refine o_move hk rfl rfl fun a hk => ?_
  refine o_call hk cb_126 (readFrom_DeleteRecordsResponse V h1 hg hR hY hG) ⟨rfl, rfl, rfl, trivial⟩ rfl fun x w a hR hk => ?_
  refine o_assign hk rfl rfl fun a hk => ?_
  refine c_end ?_
  refine wp_ret ?_
  refine b_retTmp rfl hk rfl ?_
  exact hR
theorem newPtrD_DeleteRecordsResponse {w0 : World} : Ret Tryz.prog 81 [] w0 fun v w' => Agr Nob w0 w' ∧ w0.heap.size < w'.heap.size ∧ v = .pointer (some ⟨w0.heap.size, 0, none⟩) ∧ w'.heap[w0.heap.size]? = some (.cells (.int .i16 0 :: Er.dflS sch_DeleteRecordsResponse true).toArray 146 (0, 0)) := by
  refine c_call Tryz.func81 rfl rfl fun a hk => ?_
  have hk : Kn 3 [] a := hk
  refine c_region ?_
  refine o_assign hk rfl rfl fun a hk => ?_
  refine c_end ?_
  refine c_region ?_
  refine Er.o_allocW (cs := [.int .i16 0, .int .i32 0, .slice none 0 0, .map none]) hk tz_146 rfl rfl fun a w1 ag1 lt1 hb1 hk => ?_
  refine c_end ?_
  refine c_region ?_
  refine o_call hk cb_124 (dflt_DeleteRecordsResponse (good := .nilIface) (gv := .nilIface) (gb := 1) (pre := []) (post := []) (c := [.int .i16 0, .int .i32 0, .slice none 0 0, .map none]) hb1 (by decide)) ⟨rfl, trivial⟩ rfl fun v w2 a hR hk => ?_
  obtain ⟨ag2, hb2⟩ := hR
  refine c_end ?_
  refine c_region ?_
  refine o_assign hk rfl rfl fun a hk => ?_
  refine c_end ?_
  refine wp_ret ?_
  refine b_retTmp rfl hk rfl ?_
  exact ⟨ag1.trans ag2 (fun _ _ x => x) (fun i hi x => by omega), Nat.lt_of_lt_of_le lt1 ag2.size, rfl, hb2⟩
end Go.Proofs.YticigmdbfimfbaaGreatDoor
