/- Walks of functions that the laws of this seat reach. No statement of the seat stands here. -/
import Derived.Test.YtpjichobdalpjaaDoorL5
import Derived.Test.YtpjichobdalpjaaDoorRows
import Derived.Test.YtpjichobdalpjaaDoorFa
import Derived.Test.YtpjichobdalpjaaDoorRi
namespace Go.Proofs.YtpjichobdalpjaaDoor
open Go Go.Mk
theorem rdOk_ok {good gv : Value} {gb : Nat} : Er.RkOk Tryd.prog 83 good gb gv 43 .ok := by
  intro w0 Y rb s hb
  obtain ⟨x, hb, -⟩ := hb
  refine c_call Tryd.func43 rfl rfl fun a hk => ?_
  have hk : Kn 8 [(0, .pointer (some ⟨rb, 0, none⟩))] a := hk
  refine c_region ?_
  refine o_assign hk rfl rfl fun a hk => ?_
  refine c_end ?_
  refine c_region ?_
  refine o_move hk rfl rfl fun a hk => ?_
  refine o_nilCheck hk rfl rfl fun a hk => ?_
  refine o_fieldAddr hk fo_83_1 rfl rfl fun a hk => ?_
  refine o_load hk ts_4 rfl (show w0.cell? _ = some (.bool s.bad) by simp [World.cell?, hb]) rfl fun a hk => ?_
  refine o_not hk rfl rfl fun a hk => ?_
  refine o_assign hk rfl rfl fun a hk => ?_
  refine c_end ?_
  refine wp_ret ?_
  refine b_retTmp rfl hk rfl ?_
  exact ⟨rfl, rfl⟩
theorem dflt_ListConfigResourcesRequest {good gv : Value} {gb : Nat} : Er.RkOk Tryd.prog 83 good gb gv 19 (.dflt []) := Er.rk_dflt0 (er := 83) (good := good) (gb := gb) (gv := gv) Tryd.func19 rfl rfl rfl
theorem rk_dflt_ListConfigResourcesRequest {gv : Value} : Er.RkOk Tryd.prog 83 .nilIface 0 gv 19 (.dflt []) := by
  apply @dflt_ListConfigResourcesRequest .nilIface gv 0
theorem rk_CompactArrayLen {gv : Value} : Er.RkOk Tryd.prog 83 .nilIface 0 gv 41 (.cnt true) := by
  apply (fun {w0 Y rb s} => rdCompactArrayLen_c (w0 := w0) (Y := Y) (rb := rb) (s := s))
theorem rk_ArrayLen {gv : Value} : Er.RkOk Tryd.prog 83 .nilIface 0 gv 42 (.cnt false) := by
  apply (fun {w0 Y rb s} => rdArrayLen_c (w0 := w0) (Y := Y) (rb := rb) (s := s))
theorem rk_Ok {gv : Value} : Er.RkOk Tryd.prog 83 .nilIface 0 gv 43 (.ok) := by
  apply @rdOk_ok .nilIface gv 0
theorem rk_Complete {gv : Value} : Er.RkOk Tryd.prog 83 .nilIface 0 gv 44 (.done) := by
  apply @rdComplete_c gv
theorem rk_Int8 {gv : Value} : Er.RkOk Tryd.prog 83 .nilIface 0 gv 45 (.val 1 false false) := by
  apply Er.rk_num (k := 1) (ik := .i8) rfl
  exact (fun h1 h2 => rdInt8_c h1 h2)
theorem rk_tags {gv : Value} : Er.RkOk Tryd.prog 83 .nilIface 0 gv 46 (.tags) := by
  apply @readTags_ok .nilIface gv 0
theorem rk_Int32 {gv : Value} : Er.RkOk Tryd.prog 83 .nilIface 0 gv 52 (.val 3 false false) := by
  apply Er.rk_num (k := 3) (ik := .i32) rfl
  exact (fun h1 h2 => rdInt32_c h1 h2)
def cfgR : List (Nat × Er.RK) := (19, .dflt []) :: (41, .cnt true) :: (42, .cnt false) :: (43, .ok) :: (44, .done) :: (45, .val 1 false false) :: (46, .tags) :: (52, .val 3 false false) :: []
noncomputable def cxR (gv : Value) (n m rt V : Nat) (flex : Bool) : Er.Cx := ⟨Tryd.prog, n, m, rt, 83, cfgR, V, flex, .nilIface, 0, gv⟩
theorem cfgR_ok {gv : Value} {n m rt V : Nat} {flex : Bool} : Er.CfgOk (cxR gv n m rt V flex) := by
  intro f ck h
  simp only [cxR, cfgR, List.mem_cons, Prod.mk.injEq, List.not_mem_nil, or_false] at h
  rcases h with ⟨rfl, rfl⟩ | ⟨rfl, rfl⟩ | ⟨rfl, rfl⟩ | ⟨rfl, rfl⟩ | ⟨rfl, rfl⟩ | ⟨rfl, rfl⟩ | ⟨rfl, rfl⟩ | ⟨rfl, rfl⟩
  · exact ⟨@rk_dflt_ListConfigResourcesRequest gv, cb_19⟩
  · exact ⟨@rk_CompactArrayLen gv, cb_41⟩
  · exact ⟨@rk_ArrayLen gv, cb_42⟩
  · exact ⟨@rk_Ok gv, cb_43⟩
  · exact ⟨@rk_Complete gv, cb_44⟩
  · exact ⟨@rk_Int8 gv, cb_45⟩
  · exact ⟨@rk_tags gv, cb_46⟩
  · exact ⟨@rk_Int32 gv, cb_52⟩
end Go.Proofs.YtpjichobdalpjaaDoor
