/- Walks of functions that the laws of this seat reach. No statement of the seat stands here. -/
import Derived.Test.YtnoklacheaplkaaGreatDoorL3
import Derived.Test.YtnoklacheaplkaaGreatDoorRows
import Derived.Test.YtnoklacheaplkaaGreatDoorFa
import Derived.Test.YtnoklacheaplkaaGreatDoorRj
import Derived.Test.YtnoklacheaplkaaGreatDoorSch
namespace Go.Proofs.YtnoklacheaplkaaGreatDoor
open Go Go.Mk
theorem dflt_AlterConfigsRequest {good gv : Value} {gb : Nat} : Er.RkOk Tryz.prog 231 good gb gv 186 (.dflt []) := Er.rk_dflt0 (er := 231) (good := good) (gb := gb) (gv := gv) Tryz.func186 rfl rfl rfl
theorem dflt_AlterConfigsRequestResource {good gv : Value} {gb : Nat} : Er.RkOk Tryz.prog 231 good gb gv 263 (.dflt []) := Er.rk_dflt0 (er := 231) (good := good) (gb := gb) (gv := gv) Tryz.func263 rfl rfl rfl
theorem dflt_AlterConfigsRequestResourceConfig {good gv : Value} {gb : Nat} : Er.RkOk Tryz.prog 231 good gb gv 264 (.dflt []) := Er.rk_dflt0 (er := 231) (good := good) (gb := gb) (gv := gv) Tryz.func264 rfl rfl rfl
theorem rk_dflt_AlterConfigsRequest {gv : Value} : Er.RkOk Tryz.prog 231 .nilIface 1 gv 186 (.dflt []) := by
  apply @dflt_AlterConfigsRequest .nilIface gv 1
theorem rk_Int32 {gv : Value} : Er.RkOk Tryz.prog 231 .nilIface 1 gv 212 (.val 3 false false) := by
  apply Er.rk_num (k := 3) (ik := .i32) rfl
  exact (fun h1 h2 => rdInt32_c h1 h2)
theorem rk_CompactArrayLen {gv : Value} : Er.RkOk Tryz.prog 231 .nilIface 1 gv 213 (.cnt true) := by
  apply (fun {w0 Y rb s} => rdCompactArrayLen_c (w0 := w0) (Y := Y) (rb := rb) (s := s))
theorem rk_ArrayLen {gv : Value} : Er.RkOk Tryz.prog 231 .nilIface 1 gv 214 (.cnt false) := by
  apply (fun {w0 Y rb s} => rdArrayLen_c (w0 := w0) (Y := Y) (rb := rb) (s := s))
theorem rk_Ok {gv : Value} : Er.RkOk Tryz.prog 231 .nilIface 1 gv 215 (.ok) := by
  apply @rdOk_ok .nilIface gv 1
theorem rk_Complete {gv : Value} : Er.RkOk Tryz.prog 231 .nilIface 1 gv 216 (.done) := by
  apply @rdComplete_c gv
theorem rk_Int16 {gv : Value} : Er.RkOk Tryz.prog 231 .nilIface 1 gv 218 (.val 2 false false) := by
  apply Er.rk_num (k := 2) (ik := .i16) rfl
  exact (fun h1 h2 => rdInt16_c h1 h2)
theorem rk_CompactNullableString {gv : Value} : Er.RkOk Tryz.prog 231 .nilIface 1 gv 220 (.val 8 true true) := by
  apply Er.rk_textN
  exact (fun h1 h2 => rdCompactNullableString_c h1 h2)
theorem rk_NullableString {gv : Value} : Er.RkOk Tryz.prog 231 .nilIface 1 gv 222 (.val 8 true false) := by
  apply Er.rk_textN
  exact (fun h1 h2 => rdNullableString_c h1 h2)
theorem rk_Int8 {gv : Value} : Er.RkOk Tryz.prog 231 .nilIface 1 gv 223 (.val 1 false false) := by
  apply Er.rk_num (k := 1) (ik := .i8) rfl
  exact (fun h1 h2 => rdInt8_c h1 h2)
theorem rk_CompactString {gv : Value} : Er.RkOk Tryz.prog 231 .nilIface 1 gv 226 (.val 8 false true) := by
  apply Er.rk_text
  exact (fun h1 h2 => rdCompactString_c h1 h2)
theorem rk_String {gv : Value} : Er.RkOk Tryz.prog 231 .nilIface 1 gv 227 (.val 8 false false) := by
  apply Er.rk_text
  exact (fun h1 h2 => rdString_c h1 h2)
theorem rk_tags {gv : Value} : Er.RkOk Tryz.prog 231 .nilIface 1 gv 228 (.tags) := by
  apply @readTags_ok .nilIface gv 1
theorem rk_Int64 {gv : Value} : Er.RkOk Tryz.prog 231 .nilIface 1 gv 235 (.val 4 false false) := by
  apply Er.rk_num (k := 4) (ik := .i64) rfl
  exact (fun h1 h2 => rdInt64_c h1 h2)
theorem rk_Uuid {gv : Value} : Er.RkOk Tryz.prog 231 .nilIface 1 gv 238 (.val 7 false false) := by
  apply Er.rk_uuid
  exact (fun h1 h2 => rdUuid_c h1 h2)
theorem rk_Bool {gv : Value} : Er.RkOk Tryz.prog 231 .nilIface 1 gv 241 (.val 0 false false) := by
  apply Er.rk_bool
  exact (fun h1 h2 => rdBool_c h1 h2)
theorem rk_Uint16 {gv : Value} : Er.RkOk Tryz.prog 231 .nilIface 1 gv 253 (.val 5 false false) := by
  apply Er.rk_num (k := 5) (ik := .u16) rfl
  exact (fun h1 h2 => Ret.mono (rdUint16_c h1 h2) fun v w' hv => ⟨hv.1, by show v = .int .u16 (IntKind.u16.wrap ((RS.num 2 _).1 : Int)); rw [Er.wrap_u16_num]; exact hv.2.1, hv.2.2⟩)
theorem rk_dflt_AlterConfigsRequestResource {gv : Value} : Er.RkOk Tryz.prog 231 .nilIface 1 gv 263 (.dflt []) := by
  apply @dflt_AlterConfigsRequestResource .nilIface gv 1
theorem rk_dflt_AlterConfigsRequestResourceConfig {gv : Value} : Er.RkOk Tryz.prog 231 .nilIface 1 gv 264 (.dflt []) := by
  apply @dflt_AlterConfigsRequestResourceConfig .nilIface gv 1
def cfgR : List (Nat × Er.RK) := (186, .dflt []) :: (212, .val 3 false false) :: (213, .cnt true) :: (214, .cnt false) :: (215, .ok) :: (216, .done) :: (218, .val 2 false false) :: (220, .val 8 true true) :: (222, .val 8 true false) :: (223, .val 1 false false) :: (226, .val 8 false true) :: (227, .val 8 false false) :: (228, .tags) :: (235, .val 4 false false) :: (238, .val 7 false false) :: (241, .val 0 false false) :: (253, .val 5 false false) :: (263, .dflt []) :: (264, .dflt []) :: []
noncomputable def cxR (gv : Value) (n m rt V : Nat) (flex : Bool) : Er.Cx := ⟨Tryz.prog, n, m, rt, 231, cfgR, V, flex, .nilIface, 1, gv⟩
theorem cfgR_ok {gv : Value} {n m rt V : Nat} {flex : Bool} : Er.CfgOk (cxR gv n m rt V flex) := by
  intro f ck h
  simp only [cxR, cfgR, List.mem_cons, Prod.mk.injEq, List.not_mem_nil, or_false] at h
  rcases h with ⟨rfl, rfl⟩ | ⟨rfl, rfl⟩ | ⟨rfl, rfl⟩ | ⟨rfl, rfl⟩ | ⟨rfl, rfl⟩ | ⟨rfl, rfl⟩ | ⟨rfl, rfl⟩ | ⟨rfl, rfl⟩ | ⟨rfl, rfl⟩ | ⟨rfl, rfl⟩ | ⟨rfl, rfl⟩ | ⟨rfl, rfl⟩ | ⟨rfl, rfl⟩ | ⟨rfl, rfl⟩ | ⟨rfl, rfl⟩ | ⟨rfl, rfl⟩ | ⟨rfl, rfl⟩ | ⟨rfl, rfl⟩ | ⟨rfl, rfl⟩
  · exact ⟨@rk_dflt_AlterConfigsRequest gv, cb_186⟩
  · exact ⟨@rk_Int32 gv, cb_212⟩
  · exact ⟨@rk_CompactArrayLen gv, cb_213⟩
  · exact ⟨@rk_ArrayLen gv, cb_214⟩
  · exact ⟨@rk_Ok gv, cb_215⟩
  · exact ⟨@rk_Complete gv, cb_216⟩
  · exact ⟨@rk_Int16 gv, cb_218⟩
  · exact ⟨@rk_CompactNullableString gv, cb_220⟩
  · exact ⟨@rk_NullableString gv, cb_222⟩
  · exact ⟨@rk_Int8 gv, cb_223⟩
  · exact ⟨@rk_CompactString gv, cb_226⟩
  · exact ⟨@rk_String gv, cb_227⟩
  · exact ⟨@rk_tags gv, cb_228⟩
  · exact ⟨@rk_Int64 gv, cb_235⟩
  · exact ⟨@rk_Uuid gv, cb_238⟩
  · exact ⟨@rk_Bool gv, cb_241⟩
  · exact ⟨@rk_Uint16 gv, cb_253⟩
  · exact ⟨@rk_dflt_AlterConfigsRequestResource gv, cb_263⟩
  · exact ⟨@rk_dflt_AlterConfigsRequestResourceConfig gv, cb_264⟩
noncomputable def cxR_AlterConfigsRequest (gv : Value) (V : Nat) : Er.Cx := cxR gv 172 30 6 V (decide ((V : Int) ≥ 2))
theorem rchk_AlterConfigsRequest (gv : Value) : (List.range 3).all (fun V => Er.rdTop (cxR_AlterConfigsRequest gv V) sch_AlterConfigsRequest true false Tryz.f188) = true := by kernel_rfl
theorem readFrom_AlterConfigsRequest {w0 : World} {Y : Nat → Prop} {v gv : Value} {o : Option (List UInt8)} {g : Nat} (V : Nat) (h1 : V ≤ 2) (hg : w0.heap[g]? = some (.cells (.int .i16 (V : Int) :: Er.dflS sch_AlterConfigsRequest true).toArray 191 (0, 0))) (hR : Rep w0 Y (ddSrc o) [v]) (hY : Y g) (hG : ¬ Y 1 ∧ w0.cell? ⟨1, 0, none⟩ = some gv) :
    Ret Tryz.prog 188 [.pointer (some ⟨g, 0, none⟩), v, .bool false] w0 fun x w' => Er.Told .nilIface gv sch_AlterConfigsRequest true V (decide ((V : Int) ≥ 2)) o g 191 Y w0 x w' := by
  have h : Er.rdTop (cxR_AlterConfigsRequest gv V) sch_AlterConfigsRequest true false Tryz.f188 = true := Ea.all_range (rchk_AlterConfigsRequest gv) (by omega)
  exact Er.rd_sound (cx := cxR_AlterConfigsRequest gv V) (fn := Tryz.f188) cfgR_ok Tryz.func188 h hg hR hY hG
theorem ReadFrom_AlterConfigsRequest {w0 : World} {Y : Nat → Prop} {v gv : Value} {o : Option (List UInt8)} {g : Nat} (V : Nat) (h1 : V ≤ 2) (hg : w0.heap[g]? = some (.cells (.int .i16 (V : Int) :: Er.dflS sch_AlterConfigsRequest true).toArray 191 (0, 0))) (hR : Rep w0 Y (ddSrc o) [v]) (hY : Y g) (hG : ¬ Y 1 ∧ w0.cell? ⟨1, 0, none⟩ = some gv) :
    Ret Tryz.prog 115 [.pointer (some ⟨g, 0, none⟩), v] w0 fun x w' => Er.Told .nilIface gv sch_AlterConfigsRequest true V (decide ((V : Int) ≥ 2)) o g 191 Y w0 x w' := by
  refine c_call Tryz.func115 rfl rfl fun a hk => ?_
  have hk : Kn 8 [(0, .pointer (some ⟨g, 0, none⟩)), (1, v)] a := hk
  refine cR0 ?_
  refine oA0 hk rfl rfl fun a hk => ?_
  refine cE0 ?_
  refine cR0 ?_
  refine oM0 hk rfl rfl fun a hk => ?_
  refine oM0 hk rfl rfl fun a hk => ?_
  refine o_call hk cb_188 (readFrom_AlterConfigsRequest V h1 hg hR hY hG) ⟨rfl, rfl, rfl, trivial⟩ rfl fun x w a hR hk => ?_
  refine oA0 hk rfl rfl fun a hk => ?_
  refine cE0 ?_
  refine wp_ret ?_
  refine bT0 rfl hk rfl ?_
  exact hR
theorem newPtrD_AlterConfigsRequest {w0 : World} : Ret Tryz.prog 111 [] w0 fun v w' => Agr Nob w0 w' ∧ w0.heap.size < w'.heap.size ∧ v = .pointer (some ⟨w0.heap.size, 0, none⟩) ∧ w'.heap[w0.heap.size]? = some (.cells (.int .i16 0 :: Er.dflS sch_AlterConfigsRequest true).toArray 191 (0, 0)) := by
  refine c_call Tryz.func111 rfl rfl fun a hk => ?_
  have hk : Kn 3 [] a := hk
  refine cR0 ?_
  refine oA0 hk rfl rfl fun a hk => ?_
  refine cE0 ?_
  refine cR0 ?_
  refine Er.o_allocW (cs := [.int .i16 0, .slice none 0 0, .bool false, .map none]) hk tz_191 rfl rfl fun a w1 ag1 lt1 hb1 hk => ?_
  refine cE0 ?_
  refine cR0 ?_
  refine o_call hk cb_186 (dflt_AlterConfigsRequest (good := .nilIface) (gv := .nilIface) (gb := 1) (pre := []) (post := []) (c := [.int .i16 0, .slice none 0 0, .bool false, .map none]) hb1 (by decide)) ⟨rfl, trivial⟩ rfl fun v w2 a hR hk => ?_
  obtain ⟨ag2, hb2⟩ := hR
  refine cE0 ?_
  refine cR0 ?_
  refine oA0 hk rfl rfl fun a hk => ?_
  refine cE0 ?_
  refine wp_ret ?_
  refine bT0 rfl hk rfl ?_
  exact ⟨ag1.trans ag2 (fun _ _ x => x) (fun i hi x => by omega), Nat.lt_of_lt_of_le lt1 ag2.size, rfl, hb2⟩
end Go.Proofs.YtnoklacheaplkaaGreatDoor
