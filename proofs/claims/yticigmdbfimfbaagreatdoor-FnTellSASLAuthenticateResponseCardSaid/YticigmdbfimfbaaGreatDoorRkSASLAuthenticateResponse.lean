/- Walks of functions that the laws of this seat reach. No statement of the seat stands here. -/
import Derived.Test.YticigmdbfimfbaaGreatDoorL3
import Derived.Test.YticigmdbfimfbaaGreatDoorRows
import Derived.Test.YticigmdbfimfbaaGreatDoorFa
import Derived.Test.YticigmdbfimfbaaGreatDoorRj
import Derived.Test.YticigmdbfimfbaaGreatDoorSch
namespace Go.Proofs.YticigmdbfimfbaaGreatDoor
open Go Go.Mk
noncomputable def cxR_SASLAuthenticateResponse (gv : Value) (V : Nat) : Er.Cx := cxR gv 64 15 6 V (decide ((V : Int) ≥ 2))
theorem rchk_SASLAuthenticateResponse (gv : Value) : (List.range 3).all (fun V => Er.rdTop (cxR_SASLAuthenticateResponse gv V) sch_SASLAuthenticateResponse true false Tryz.f107) = true := by kernel_rfl
theorem readFrom_SASLAuthenticateResponse {w0 : World} {Y : Nat → Prop} {v gv : Value} {o : Option (List UInt8)} {g : Nat} (V : Nat) (h1 : V ≤ 2) (hg : w0.heap[g]? = some (.cells (.int .i16 (V : Int) :: Er.dflS sch_SASLAuthenticateResponse true).toArray 117 (0, 0))) (hR : Rep w0 Y (ddSrc o) [v]) (hY : Y g) (hG : ¬ Y 1 ∧ w0.cell? ⟨1, 0, none⟩ = some gv) :
    Ret Tryz.prog 107 [.pointer (some ⟨g, 0, none⟩), v, .bool false] w0 fun x w' => Er.Told .nilIface gv sch_SASLAuthenticateResponse true V (decide ((V : Int) ≥ 2)) o g 117 Y w0 x w' := by
  have h : Er.rdTop (cxR_SASLAuthenticateResponse gv V) sch_SASLAuthenticateResponse true false Tryz.f107 = true := Ea.all_range (rchk_SASLAuthenticateResponse gv) (by omega)
  exact Er.rd_sound (cx := cxR_SASLAuthenticateResponse gv V) (fn := Tryz.f107) cfgR_ok Tryz.func107 h hg hR hY hG
theorem ReadFrom_SASLAuthenticateResponse {w0 : World} {Y : Nat → Prop} {v gv : Value} {o : Option (List UInt8)} {g : Nat} (V : Nat) (h1 : V ≤ 2) (hg : w0.heap[g]? = some (.cells (.int .i16 (V : Int) :: Er.dflS sch_SASLAuthenticateResponse true).toArray 117 (0, 0))) (hR : Rep w0 Y (ddSrc o) [v]) (hY : Y g) (hG : ¬ Y 1 ∧ w0.cell? ⟨1, 0, none⟩ = some gv) :
    Ret Tryz.prog 61 [.pointer (some ⟨g, 0, none⟩), v] w0 fun x w' => Er.Told .nilIface gv sch_SASLAuthenticateResponse true V (decide ((V : Int) ≥ 2)) o g 117 Y w0 x w' := by
  refine c_call Tryz.func61 rfl rfl fun a hk => ?_
  have hk : Kn 8 [(0, .pointer (some ⟨g, 0, none⟩)), (1, v)] a := hk
  refine c_region ?_
  refine o_assign hk rfl rfl fun a hk => ?_
  refine c_end ?_
  refine c_region ?_
  refine o_move hk rfl rfl fun a hk => ?_
  refine o_move hk rfl rfl fun a hk => ?_
  refine o_call hk cb_107 (readFrom_SASLAuthenticateResponse V h1 hg hR hY hG) ⟨rfl, rfl, rfl, trivial⟩ rfl fun x w a hR hk => ?_
  refine o_assign hk rfl rfl fun a hk => ?_
  refine c_end ?_
  refine wp_ret ?_
  refine b_retTmp rfl hk rfl ?_
  exact hR
theorem newPtrD_SASLAuthenticateResponse {w0 : World} : Ret Tryz.prog 58 [] w0 fun v w' => Agr Nob w0 w' ∧ w0.heap.size < w'.heap.size ∧ v = .pointer (some ⟨w0.heap.size, 0, none⟩) ∧ w'.heap[w0.heap.size]? = some (.cells (.int .i16 0 :: Er.dflS sch_SASLAuthenticateResponse true).toArray 117 (0, 0)) := by
  refine c_call Tryz.func58 rfl rfl fun a hk => ?_
  have hk : Kn 3 [] a := hk
  refine c_region ?_
  refine o_assign hk rfl rfl fun a hk => ?_
  refine c_end ?_
  refine c_region ?_
  refine Er.o_allocW (cs := [.int .i16 0, .int .i16 0, .pointer none, .slice none 0 0, .int .i64 0, .map none]) hk tz_117 rfl rfl fun a w1 ag1 lt1 hb1 hk => ?_
  refine c_end ?_
  refine c_region ?_
  refine o_call hk cb_106 (dflt_SASLAuthenticateResponse (good := .nilIface) (gv := .nilIface) (gb := 1) (pre := []) (post := []) (c := [.int .i16 0, .int .i16 0, .pointer none, .slice none 0 0, .int .i64 0, .map none]) hb1 (by decide)) ⟨rfl, trivial⟩ rfl fun v w2 a hR hk => ?_
  obtain ⟨ag2, hb2⟩ := hR
  refine c_end ?_
  refine c_region ?_
  refine o_assign hk rfl rfl fun a hk => ?_
  refine c_end ?_
  refine wp_ret ?_
  refine b_retTmp rfl hk rfl ?_
  exact ⟨ag1.trans ag2 (fun _ _ x => x) (fun i hi x => by omega), Nat.lt_of_lt_of_le lt1 ag2.size, rfl, hb2⟩
end Go.Proofs.YticigmdbfimfbaaGreatDoor
