/- Walks of functions that the laws of this seat reach. No statement of the seat stands here. -/
import Derived.Test.YticigmdbfimfbaaGreatDoorL3
import Derived.Test.YticigmdbfimfbaaGreatDoorRows
import Derived.Test.YticigmdbfimfbaaGreatDoorFa
import Derived.Test.YticigmdbfimfbaaGreatDoorRj
import Derived.Test.YticigmdbfimfbaaGreatDoorSch
namespace Go.Proofs.YticigmdbfimfbaaGreatDoor
open Go Go.Mk
noncomputable def cxR_OffsetForLeaderEpochRequest (gv : Value) (V : Nat) : Er.Cx := cxR gv 160 28 6 V (decide ((V : Int) ≥ 4))
theorem rchk_OffsetForLeaderEpochRequest (gv : Value) : (List.range 5).all (fun V => Er.rdTop (cxR_OffsetForLeaderEpochRequest gv V) sch_OffsetForLeaderEpochRequest true false Tryz.f121) = true := by kernel_rfl
theorem readFrom_OffsetForLeaderEpochRequest {w0 : World} {Y : Nat → Prop} {v gv : Value} {o : Option (List UInt8)} {g : Nat} (V : Nat) (h1 : V ≤ 4) (hg : w0.heap[g]? = some (.cells (.int .i16 (V : Int) :: Er.dflS sch_OffsetForLeaderEpochRequest true).toArray 138 (0, 0))) (hR : Rep w0 Y (ddSrc o) [v]) (hY : Y g) (hG : ¬ Y 1 ∧ w0.cell? ⟨1, 0, none⟩ = some gv) :
    Ret Tryz.prog 121 [.pointer (some ⟨g, 0, none⟩), v, .bool false] w0 fun x w' => Er.Told .nilIface gv sch_OffsetForLeaderEpochRequest true V (decide ((V : Int) ≥ 4)) o g 138 Y w0 x w' := by
  have h : Er.rdTop (cxR_OffsetForLeaderEpochRequest gv V) sch_OffsetForLeaderEpochRequest true false Tryz.f121 = true := Ea.all_range (rchk_OffsetForLeaderEpochRequest gv) (by omega)
  exact Er.rd_sound (cx := cxR_OffsetForLeaderEpochRequest gv V) (fn := Tryz.f121) cfgR_ok Tryz.func121 h hg hR hY hG
theorem ReadFrom_OffsetForLeaderEpochRequest {w0 : World} {Y : Nat → Prop} {v gv : Value} {o : Option (List UInt8)} {g : Nat} (V : Nat) (h1 : V ≤ 4) (hg : w0.heap[g]? = some (.cells (.int .i16 (V : Int) :: Er.dflS sch_OffsetForLeaderEpochRequest true).toArray 138 (0, 0))) (hR : Rep w0 Y (ddSrc o) [v]) (hY : Y g) (hG : ¬ Y 1 ∧ w0.cell? ⟨1, 0, none⟩ = some gv) :
    Ret Tryz.prog 79 [.pointer (some ⟨g, 0, none⟩), v] w0 fun x w' => Er.Told .nilIface gv sch_OffsetForLeaderEpochRequest true V (decide ((V : Int) ≥ 4)) o g 138 Y w0 x w' := by
  refine c_call Tryz.func79 rfl rfl fun a hk => ?_
  have hk : Kn 8 [(0, .pointer (some ⟨g, 0, none⟩)), (1, v)] a := hk
  refine c_region ?_
  refine o_assign hk rfl rfl fun a hk => ?_
  refine c_end ?_
  refine c_region ?_
  refine o_move hk rfl rfl fun a hk => ?_
  refine o_move hk rfl rfl fun a hk => ?_
  refine o_call hk cb_121 (readFrom_OffsetForLeaderEpochRequest V h1 hg hR hY hG) ⟨rfl, rfl, rfl, trivial⟩ rfl fun x w a hR hk => ?_
  refine o_assign hk rfl rfl fun a hk => ?_
  refine c_end ?_
  refine wp_ret ?_
  refine b_retTmp rfl hk rfl ?_
  exact hR
theorem newPtrD_OffsetForLeaderEpochRequest {w0 : World} : Ret Tryz.prog 75 [] w0 fun v w' => Agr Nob w0 w' ∧ w0.heap.size < w'.heap.size ∧ v = .pointer (some ⟨w0.heap.size, 0, none⟩) ∧ w'.heap[w0.heap.size]? = some (.cells (.int .i16 0 :: Er.dflS sch_OffsetForLeaderEpochRequest true).toArray 138 (0, 0)) := by
  refine c_call Tryz.func75 rfl rfl fun a hk => ?_
  have hk : Kn 3 [] a := hk
  refine c_region ?_
  refine o_assign hk rfl rfl fun a hk => ?_
  refine c_end ?_
  refine c_region ?_
  refine Er.o_allocW (cs := [.int .i16 0, .int .i32 0, .slice none 0 0, .map none]) hk tz_138 rfl rfl fun a w1 ag1 lt1 hb1 hk => ?_
  refine c_end ?_
  refine c_region ?_
  refine o_call hk cb_119 (dflt_OffsetForLeaderEpochRequest (good := .nilIface) (gv := .nilIface) (gb := 1) (pre := []) (post := []) (c := [.int .i16 0, .int .i32 0, .slice none 0 0, .map none]) hb1 (by decide)) ⟨rfl, trivial⟩ rfl fun v w2 a hR hk => ?_
  obtain ⟨ag2, hb2⟩ := hR
  refine c_end ?_
  refine c_region ?_
  refine o_assign hk rfl rfl fun a hk => ?_
  refine c_end ?_
  refine wp_ret ?_
  refine b_retTmp rfl hk rfl ?_
  exact ⟨ag1.trans ag2 (fun _ _ x => x) (fun i hi x => by omega), Nat.lt_of_lt_of_le lt1 ag2.size, rfl, hb2⟩
end Go.Proofs.YticigmdbfimfbaaGreatDoor
