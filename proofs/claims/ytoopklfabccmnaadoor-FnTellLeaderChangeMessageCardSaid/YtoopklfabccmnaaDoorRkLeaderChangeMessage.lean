/- Walks of functions that the laws of this seat reach. No statement of the seat stands here. -/
import Derived.Test.YtoopklfabccmnaaDoorL3
import Derived.Test.YtoopklfabccmnaaDoorRows
import Derived.Test.YtoopklfabccmnaaDoorFa
import Derived.Test.YtoopklfabccmnaaDoorRj
import Derived.Test.YtoopklfabccmnaaDoorSch
namespace Go.Proofs.YtoopklfabccmnaaDoor
open Go Go.Mk
theorem dflt_LeaderChangeMessage {good gv : Value} {gb : Nat} : Er.RkOk Tryd.prog 89 good gb gv 27 (.dflt []) := Er.rk_dflt0 (er := 89) (good := good) (gb := gb) (gv := gv) Tryd.func27 rfl rfl rfl
theorem dflt_LeaderChangeMessageVoter {good gv : Value} {gb : Nat} : Er.RkOk Tryd.prog 89 good gb gv 45 (.dflt []) := Er.rk_dflt0 (er := 89) (good := good) (gb := gb) (gv := gv) Tryd.func45 rfl rfl rfl
theorem rk_dflt_LeaderChangeMessage {gv : Value} : Er.RkOk Tryd.prog 89 .nilIface 1 gv 27 (.dflt []) := by
  apply @dflt_LeaderChangeMessage .nilIface gv 1
theorem rk_Int16 {gv : Value} : Er.RkOk Tryd.prog 89 .nilIface 1 gv 39 (.val 2 false false) := by
  apply Er.rk_num (k := 2) (ik := .i16) rfl
  exact (fun h1 h2 => rdInt16_c h1 h2)
theorem rk_Int32 {gv : Value} : Er.RkOk Tryd.prog 89 .nilIface 1 gv 40 (.val 3 false false) := by
  apply Er.rk_num (k := 3) (ik := .i32) rfl
  exact (fun h1 h2 => rdInt32_c h1 h2)
theorem rk_CompactArrayLen {gv : Value} : Er.RkOk Tryd.prog 89 .nilIface 1 gv 41 (.cnt true) := by
  apply (fun {w0 Y rb s} => rdCompactArrayLen_c (w0 := w0) (Y := Y) (rb := rb) (s := s))
theorem rk_ArrayLen {gv : Value} : Er.RkOk Tryd.prog 89 .nilIface 1 gv 42 (.cnt false) := by
  apply (fun {w0 Y rb s} => rdArrayLen_c (w0 := w0) (Y := Y) (rb := rb) (s := s))
theorem rk_Ok {gv : Value} : Er.RkOk Tryd.prog 89 .nilIface 1 gv 43 (.ok) := by
  apply @rdOk_ok .nilIface gv 1
theorem rk_Complete {gv : Value} : Er.RkOk Tryd.prog 89 .nilIface 1 gv 44 (.done) := by
  apply @rdComplete_c gv
theorem rk_dflt_LeaderChangeMessageVoter {gv : Value} : Er.RkOk Tryd.prog 89 .nilIface 1 gv 45 (.dflt []) := by
  apply @dflt_LeaderChangeMessageVoter .nilIface gv 1
theorem rk_Uuid {gv : Value} : Er.RkOk Tryd.prog 89 .nilIface 1 gv 46 (.val 7 false false) := by
  apply Er.rk_uuid
  exact (fun h1 h2 => rdUuid_c h1 h2)
theorem rk_tags {gv : Value} : Er.RkOk Tryd.prog 89 .nilIface 1 gv 47 (.tags) := by
  apply @readTags_ok .nilIface gv 1
def cfgR : List (Nat × Er.RK) := (27, .dflt []) :: (39, .val 2 false false) :: (40, .val 3 false false) :: (41, .cnt true) :: (42, .cnt false) :: (43, .ok) :: (44, .done) :: (45, .dflt []) :: (46, .val 7 false false) :: (47, .tags) :: []
noncomputable def cxR (gv : Value) (n m rt V : Nat) (flex : Bool) : Er.Cx := ⟨Tryd.prog, n, m, rt, 89, cfgR, V, flex, .nilIface, 1, gv⟩
theorem cfgR_ok {gv : Value} {n m rt V : Nat} {flex : Bool} : Er.CfgOk (cxR gv n m rt V flex) := by
  intro f ck h
  simp only [cxR, cfgR, List.mem_cons, Prod.mk.injEq, List.not_mem_nil, or_false] at h
  rcases h with ⟨rfl, rfl⟩ | ⟨rfl, rfl⟩ | ⟨rfl, rfl⟩ | ⟨rfl, rfl⟩ | ⟨rfl, rfl⟩ | ⟨rfl, rfl⟩ | ⟨rfl, rfl⟩ | ⟨rfl, rfl⟩ | ⟨rfl, rfl⟩ | ⟨rfl, rfl⟩
  · exact ⟨@rk_dflt_LeaderChangeMessage gv, cb_27⟩
  · exact ⟨@rk_Int16 gv, cb_39⟩
  · exact ⟨@rk_Int32 gv, cb_40⟩
  · exact ⟨@rk_CompactArrayLen gv, cb_41⟩
  · exact ⟨@rk_ArrayLen gv, cb_42⟩
  · exact ⟨@rk_Ok gv, cb_43⟩
  · exact ⟨@rk_Complete gv, cb_44⟩
  · exact ⟨@rk_dflt_LeaderChangeMessageVoter gv, cb_45⟩
  · exact ⟨@rk_Uuid gv, cb_46⟩
  · exact ⟨@rk_tags gv, cb_47⟩
noncomputable def cxR_LeaderChangeMessage (gv : Value) (V : Nat) : Er.Cx := cxR gv 158 28 6 V (decide ((V : Int) ≥ 0))
theorem rchk_LeaderChangeMessage (gv : Value) : (List.range 2).all (fun V => Er.rdTopK (cxR_LeaderChangeMessage gv V) sch_LeaderChangeMessage true false Tryd.f28) = true := by kernel_rfl
theorem readFrom_LeaderChangeMessage {w0 : World} {Y : Nat → Prop} {v gv x0 : Value} {o : Option (List UInt8)} {g : Nat} {tv : T} {s1 : RS} (V : Nat) (h1 : V ≤ 1) (hg : w0.heap[g]? = some (.cells (x0 :: Er.dflS sch_LeaderChangeMessage true).toArray 53 (0, 0))) (hR : Rep w0 Y (ddSrc o) [v]) (hY : Y g) (hG : ¬ Y 1 ∧ w0.cell? ⟨1, 0, none⟩ = some gv)
    (hv : Er.rdV 2 false false ⟨o, false⟩ = (tv, s1)) (hV : IntKind.i16.wrap tv.n = (V : Int)) :
    Ret Tryd.prog 28 [.pointer (some ⟨g, 0, none⟩), v, .bool false] w0 fun x w' => Er.ToldS .nilIface gv sch_LeaderChangeMessage true V (decide ((V : Int) ≥ 0)) s1 g 53 Y w0 x w' := by
  have h : Er.rdTopK (cxR_LeaderChangeMessage gv V) sch_LeaderChangeMessage true false Tryd.f28 = true := Ea.all_range (rchk_LeaderChangeMessage gv) (by omega)
  exact Er.rd_soundK (cx := cxR_LeaderChangeMessage gv V) (fn := Tryd.f28) cfgR_ok Tryd.func28 h hg hR hY hG hv hV
theorem ReadFrom_LeaderChangeMessage {w0 : World} {Y : Nat → Prop} {v gv x0 : Value} {o : Option (List UInt8)} {g : Nat} {tv : T} {s1 : RS} (V : Nat) (h1 : V ≤ 1) (hg : w0.heap[g]? = some (.cells (x0 :: Er.dflS sch_LeaderChangeMessage true).toArray 53 (0, 0))) (hR : Rep w0 Y (ddSrc o) [v]) (hY : Y g) (hG : ¬ Y 1 ∧ w0.cell? ⟨1, 0, none⟩ = some gv)
    (hv : Er.rdV 2 false false ⟨o, false⟩ = (tv, s1)) (hV : IntKind.i16.wrap tv.n = (V : Int)) :
    Ret Tryd.prog 14 [.pointer (some ⟨g, 0, none⟩), v] w0 fun x w' => Er.ToldS .nilIface gv sch_LeaderChangeMessage true V (decide ((V : Int) ≥ 0)) s1 g 53 Y w0 x w' := by
  refine c_call Tryd.func14 rfl rfl fun a hk => ?_
  have hk : Kn 8 [(0, .pointer (some ⟨g, 0, none⟩)), (1, v)] a := hk
  refine cR0 ?_
  refine oA0 hk rfl rfl fun a hk => ?_
  refine cE0 ?_
  refine cR0 ?_
  refine oM0 hk rfl rfl fun a hk => ?_
  refine oM0 hk rfl rfl fun a hk => ?_
  refine o_call hk cb_28 (readFrom_LeaderChangeMessage V h1 hg hR hY hG hv hV) ⟨rfl, rfl, rfl, trivial⟩ rfl fun x w a hR hk => ?_
  refine oA0 hk rfl rfl fun a hk => ?_
  refine cE0 ?_
  refine wp_ret ?_
  refine bT0 rfl hk rfl ?_
  exact hR
theorem newK_LeaderChangeMessage {w0 : World} : Ret Tryd.prog 13 [] w0 fun v w' => Agr Nob w0 w' ∧ v = .agg (.int .i16 0 :: Er.dflS sch_LeaderChangeMessage true).toArray := by
  refine c_call Tryd.func13 rfl rfl fun a hk => ?_
  have hk : Kn 4 [] a := hk
  have hm : Mem w0 Nob Nob [] w0 := Mem.start rfl (by simp)
  refine cR0 ?_
  refine o_alloc (cs := [.int .i16 0, .int .i32 0, .slice none 0 0, .slice none 0 0, .map none]) hk hm tz_53 rfl rfl fun a rb w hk hm => ?_
  refine cE0 ?_
  refine cR0 ?_
  refine o_alloc (cs := [.int .i16 0, .int .i32 0, .slice none 0 0, .slice none 0 0, .map none]) hk hm tz_53 rfl rfl fun a b w hk hm => ?_
  refine cE0 ?_
  refine cR0 ?_
  refine o_call hk cb_27 (dflt_LeaderChangeMessage (good := .nilIface) (gv := .nilIface) (gb := 1) (pre := []) (post := []) (c := [.int .i16 0, .int .i32 0, .slice none 0 0, .slice none 0 0, .map none]) (hm.all _ (eA0 (i := 0) rfl)) (by decide)) ⟨rfl, trivial⟩ rfl fun v w a hR hk => ?_
  obtain ⟨hp, hb⟩ := hR
  have hm := hm.write (i := 0) rfl hp hb
  refine cE0 ?_
  refine cR0 ?_
  refine o_loadN (cs := [.int .i16 0, .int .i32 0, .slice none 0 0, .slice none 0 0, .map none]) hk ts_53 rfl (hm.cells_blk (i := 0) (off := 0) rfl rfl) rfl fun a hk => ?_
  refine o_store (i := 1) (b := rb) (off := 0) (v := .agg ([.int .i16 0, .int .i32 0, .slice none 0 0, .slice none 0 0, .map none] : List Value).toArray) (vs := [.int .i16 0, .int .i32 0, .slice none 0 0, .slice none 0 0, .map none]) (cs := [.int .i16 0, .int .i32 0, .slice none 0 0, .slice none 0 0, .map none]) hk hm ts_53 rfl rfl rfl rfl rfl rfl (Nat.le_refl _) fun a w hk hm => ?_
  refine cE0 ?_
  refine wp_ret ?_
  exact b_retCell (i := 1) (cs := [.int .i16 0, .int .i32 0, .slice none 0 0, .slice none 0 0, .map none]) rfl ts_53 hk hm rfl rfl ⟨hm.agr, rfl⟩
end Go.Proofs.YtoopklfabccmnaaDoor
