/- Walks of functions that the laws of this seat reach. No statement of the seat stands here. -/
import Derived.Test.YthholdjpcdpceaaDoorL3
import Derived.Test.YthholdjpcdpceaaDoorRows
import Derived.Test.YthholdjpcdpceaaDoorFa
import Derived.Test.YthholdjpcdpceaaDoorRj
import Derived.Test.YthholdjpcdpceaaDoorSch
namespace Go.Proofs.YthholdjpcdpceaaDoor
open Go Go.Mk
theorem dflt_DescribeTopicPartitionsRequest {good gv : Value} {gb : Nat} : Er.RkOk Tryd.prog 133 good gb gv 98 (.dflt [(2, (.int .i32 (2000) : Value))]) := by
  intro w0 b ty pre c post hbk hd
  have h0 : 2 < c.length := hd (2, .int .i32 (2000)) (by simp)
  refine c_call Tryd.func98 rfl rfl fun a hk => ?_
  have hk : Kn 10 [(0, .pointer (some ⟨b, pre.length, none⟩))] a := hk
  have hm : Mem w0 (fun k => k = b) (fun k => k = b) [.blk b (pre ++ c ++ post) ty] w0 := Mem.startBlk (Z := fun k => k = b) (m := []) hbk rfl rfl (by simp)
  refine cR0 ?_
  refine oM0 hk rfl rfl fun a hk => ?_
  refine oN0 hk rfl rfl fun a hk => ?_
  refine oF0 hk fo_123_2 rfl rfl fun a hk => ?_
  refine o_store (i := 0) hk hm ts_21 rfl rfl rfl rfl rfl rfl (show pre.length + 2 + 1 ≤ _ by simp only [List.length_append]; omega) fun a w hk hm => ?_
  have hm : Mem w0 (fun k => k = b) (fun k => k = b) [.blk b (pre ++ (c.set 2 (.int .i32 (2000))) ++ post) ty] w := by rw [← spl_mid (by simpa using h0)]; exact hm
  refine cE0 ?_
  refine cR0 ?_
  refine oM0 hk rfl rfl fun a hk => ?_
  refine oN0 hk rfl rfl fun a hk => ?_
  refine oF0 hk fo_123_3 rfl rfl fun a hk => ?_
  refine oA0 hk rfl rfl fun a hk => ?_
  refine cE0 ?_
  refine c_reg ?_
  refine oM0 hk rfl rfl fun a hk => ?_
  refine c_endQ ?_
  refine b_endNone rfl hk ?_
  exact ⟨hm.agr, hm.all _ (eA0 (i := 0) rfl)⟩
theorem dflt_DescribeTopicPartitionsRequestTopic {good gv : Value} {gb : Nat} : Er.RkOk Tryd.prog 133 good gb gv 142 (.dflt []) := Er.rk_dflt0 (er := 133) (good := good) (gb := gb) (gv := gv) Tryd.func142 rfl rfl rfl
theorem dflt_DescribeTopicPartitionsRequestCursor {good gv : Value} {gb : Nat} : Er.RkOk Tryd.prog 133 good gb gv 143 (.dflt []) := Er.rk_dflt0 (er := 133) (good := good) (gb := gb) (gv := gv) Tryd.func143 rfl rfl rfl
theorem rk_dflt_DescribeTopicPartitionsRequest {gv : Value} : Er.RkOk Tryd.prog 133 .nilIface 1 gv 98 (.dflt [(2, (.int .i32 (2000) : Value))]) := by
  apply @dflt_DescribeTopicPartitionsRequest .nilIface gv 1
theorem rk_Int16 {gv : Value} : Er.RkOk Tryd.prog 133 .nilIface 1 gv 107 (.val 2 false false) := by
  apply Er.rk_num (k := 2) (ik := .i16) rfl
  exact (fun h1 h2 => rdInt16_c h1 h2)
theorem rk_Complete {gv : Value} : Er.RkOk Tryd.prog 133 .nilIface 1 gv 108 (.done) := by
  apply @rdComplete_c gv
theorem rk_CompactArrayLen {gv : Value} : Er.RkOk Tryd.prog 133 .nilIface 1 gv 117 (.cnt true) := by
  apply (fun {w0 Y rb s} => rdCompactArrayLen_c (w0 := w0) (Y := Y) (rb := rb) (s := s))
theorem rk_ArrayLen {gv : Value} : Er.RkOk Tryd.prog 133 .nilIface 1 gv 118 (.cnt false) := by
  apply (fun {w0 Y rb s} => rdArrayLen_c (w0 := w0) (Y := Y) (rb := rb) (s := s))
theorem rk_Ok {gv : Value} : Er.RkOk Tryd.prog 133 .nilIface 1 gv 119 (.ok) := by
  apply @rdOk_ok .nilIface gv 1
theorem rk_UnsafeCompactString {gv : Value} : Er.RkOk Tryd.prog 133 .nilIface 1 gv 120 (.val 8 false true) := by
  apply Er.rk_text
  exact (fun h1 h2 => rdUnsafeCompactString_c h1 h2)
theorem rk_UnsafeString {gv : Value} : Er.RkOk Tryd.prog 133 .nilIface 1 gv 121 (.val 8 false false) := by
  apply Er.rk_text
  exact (fun h1 h2 => rdUnsafeString_c h1 h2)
theorem rk_CompactString {gv : Value} : Er.RkOk Tryd.prog 133 .nilIface 1 gv 122 (.val 8 false true) := by
  apply Er.rk_text
  exact (fun h1 h2 => rdCompactString_c h1 h2)
theorem rk_String {gv : Value} : Er.RkOk Tryd.prog 133 .nilIface 1 gv 123 (.val 8 false false) := by
  apply Er.rk_text
  exact (fun h1 h2 => rdString_c h1 h2)
theorem rk_tags {gv : Value} : Er.RkOk Tryd.prog 133 .nilIface 1 gv 124 (.tags) := by
  apply @readTags_ok .nilIface gv 1
theorem rk_Int32 {gv : Value} : Er.RkOk Tryd.prog 133 .nilIface 1 gv 127 (.val 3 false false) := by
  apply Er.rk_num (k := 3) (ik := .i32) rfl
  exact (fun h1 h2 => rdInt32_c h1 h2)
theorem rk_UnsafeCompactNullableString {gv : Value} : Er.RkOk Tryd.prog 133 .nilIface 1 gv 129 (.val 8 true true) := by
  apply Er.rk_textN
  exact (fun h1 h2 => rdUnsafeCompactNullableString_c h1 h2)
theorem rk_CompactNullableString {gv : Value} : Er.RkOk Tryd.prog 133 .nilIface 1 gv 130 (.val 8 true true) := by
  apply Er.rk_textN
  exact (fun h1 h2 => rdCompactNullableString_c h1 h2)
theorem rk_UnsafeNullableString {gv : Value} : Er.RkOk Tryd.prog 133 .nilIface 1 gv 131 (.val 8 true false) := by
  apply Er.rk_textN
  exact (fun h1 h2 => rdUnsafeNullableString_c h1 h2)
theorem rk_NullableString {gv : Value} : Er.RkOk Tryd.prog 133 .nilIface 1 gv 132 (.val 8 true false) := by
  apply Er.rk_textN
  exact (fun h1 h2 => rdNullableString_c h1 h2)
theorem rk_Int8 {gv : Value} : Er.RkOk Tryd.prog 133 .nilIface 1 gv 134 (.val 1 false false) := by
  apply Er.rk_num (k := 1) (ik := .i8) rfl
  exact (fun h1 h2 => rdInt8_c h1 h2)
theorem rk_Uuid {gv : Value} : Er.RkOk Tryd.prog 133 .nilIface 1 gv 138 (.val 7 false false) := by
  apply Er.rk_uuid
  exact (fun h1 h2 => rdUuid_c h1 h2)
theorem rk_dflt_DescribeTopicPartitionsRequestTopic {gv : Value} : Er.RkOk Tryd.prog 133 .nilIface 1 gv 142 (.dflt []) := by
  apply @dflt_DescribeTopicPartitionsRequestTopic .nilIface gv 1
theorem rk_dflt_DescribeTopicPartitionsRequestCursor {gv : Value} : Er.RkOk Tryd.prog 133 .nilIface 1 gv 143 (.dflt []) := by
  apply @dflt_DescribeTopicPartitionsRequestCursor .nilIface gv 1
def cfgR : List (Nat × Er.RK) := (98, .dflt [(2, (.int .i32 (2000) : Value))]) :: (107, .val 2 false false) :: (108, .done) :: (117, .cnt true) :: (118, .cnt false) :: (119, .ok) :: (120, .val 8 false true) :: (121, .val 8 false false) :: (122, .val 8 false true) :: (123, .val 8 false false) :: (124, .tags) :: (127, .val 3 false false) :: (129, .val 8 true true) :: (130, .val 8 true true) :: (131, .val 8 true false) :: (132, .val 8 true false) :: (134, .val 1 false false) :: (138, .val 7 false false) :: (142, .dflt []) :: (143, .dflt []) :: []
noncomputable def cxR (gv : Value) (n m rt V : Nat) (flex : Bool) : Er.Cx := ⟨Tryd.prog, n, m, rt, 133, cfgR, V, flex, .nilIface, 1, gv⟩
theorem cfgR_ok {gv : Value} {n m rt V : Nat} {flex : Bool} : Er.CfgOk (cxR gv n m rt V flex) := by
  intro f ck h
  simp only [cxR, cfgR, List.mem_cons, Prod.mk.injEq, List.not_mem_nil, or_false] at h
  rcases h with ⟨rfl, rfl⟩ | ⟨rfl, rfl⟩ | ⟨rfl, rfl⟩ | ⟨rfl, rfl⟩ | ⟨rfl, rfl⟩ | ⟨rfl, rfl⟩ | ⟨rfl, rfl⟩ | ⟨rfl, rfl⟩ | ⟨rfl, rfl⟩ | ⟨rfl, rfl⟩ | ⟨rfl, rfl⟩ | ⟨rfl, rfl⟩ | ⟨rfl, rfl⟩ | ⟨rfl, rfl⟩ | ⟨rfl, rfl⟩ | ⟨rfl, rfl⟩ | ⟨rfl, rfl⟩ | ⟨rfl, rfl⟩ | ⟨rfl, rfl⟩ | ⟨rfl, rfl⟩
  · exact ⟨@rk_dflt_DescribeTopicPartitionsRequest gv, cb_98⟩
  · exact ⟨@rk_Int16 gv, cb_107⟩
  · exact ⟨@rk_Complete gv, cb_108⟩
  · exact ⟨@rk_CompactArrayLen gv, cb_117⟩
  · exact ⟨@rk_ArrayLen gv, cb_118⟩
  · exact ⟨@rk_Ok gv, cb_119⟩
  · exact ⟨@rk_UnsafeCompactString gv, cb_120⟩
  · exact ⟨@rk_UnsafeString gv, cb_121⟩
  · exact ⟨@rk_CompactString gv, cb_122⟩
  · exact ⟨@rk_String gv, cb_123⟩
  · exact ⟨@rk_tags gv, cb_124⟩
  · exact ⟨@rk_Int32 gv, cb_127⟩
  · exact ⟨@rk_UnsafeCompactNullableString gv, cb_129⟩
  · exact ⟨@rk_CompactNullableString gv, cb_130⟩
  · exact ⟨@rk_UnsafeNullableString gv, cb_131⟩
  · exact ⟨@rk_NullableString gv, cb_132⟩
  · exact ⟨@rk_Int8 gv, cb_134⟩
  · exact ⟨@rk_Uuid gv, cb_138⟩
  · exact ⟨@rk_dflt_DescribeTopicPartitionsRequestTopic gv, cb_142⟩
  · exact ⟨@rk_dflt_DescribeTopicPartitionsRequestCursor gv, cb_143⟩
noncomputable def cxR_DescribeTopicPartitionsRequest (gv : Value) (V : Nat) : Er.Cx := cxR gv 136 24 6 V (decide ((V : Int) ≥ 0))
theorem rchk_DescribeTopicPartitionsRequest (gv : Value) : (List.range 1).all (fun V => Er.rdTop (cxR_DescribeTopicPartitionsRequest gv V) sch_DescribeTopicPartitionsRequest true false Tryd.f99) = true := by kernel_rfl
theorem readFrom_DescribeTopicPartitionsRequest {w0 : World} {Y : Nat → Prop} {v gv : Value} {o : Option (List UInt8)} {g : Nat} (V : Nat) (h1 : V ≤ 0) (hg : w0.heap[g]? = some (.cells (.int .i16 (V : Int) :: Er.dflS sch_DescribeTopicPartitionsRequest true).toArray 123 (0, 0))) (hR : Rep w0 Y (ddSrc o) [v]) (hY : Y g) (hG : ¬ Y 1 ∧ w0.cell? ⟨1, 0, none⟩ = some gv) :
    Ret Tryd.prog 99 [.pointer (some ⟨g, 0, none⟩), v, .bool false] w0 fun x w' => Er.Told .nilIface gv sch_DescribeTopicPartitionsRequest true V (decide ((V : Int) ≥ 0)) o g 123 Y w0 x w' := by
  have h : Er.rdTop (cxR_DescribeTopicPartitionsRequest gv V) sch_DescribeTopicPartitionsRequest true false Tryd.f99 = true := Ea.all_range (rchk_DescribeTopicPartitionsRequest gv) (by omega)
  exact Er.rd_sound (cx := cxR_DescribeTopicPartitionsRequest gv V) (fn := Tryd.f99) cfgR_ok Tryd.func99 h hg hR hY hG
theorem ReadFrom_DescribeTopicPartitionsRequest {w0 : World} {Y : Nat → Prop} {v gv : Value} {o : Option (List UInt8)} {g : Nat} (V : Nat) (h1 : V ≤ 0) (hg : w0.heap[g]? = some (.cells (.int .i16 (V : Int) :: Er.dflS sch_DescribeTopicPartitionsRequest true).toArray 123 (0, 0))) (hR : Rep w0 Y (ddSrc o) [v]) (hY : Y g) (hG : ¬ Y 1 ∧ w0.cell? ⟨1, 0, none⟩ = some gv) :
    Ret Tryd.prog 69 [.pointer (some ⟨g, 0, none⟩), v] w0 fun x w' => Er.Told .nilIface gv sch_DescribeTopicPartitionsRequest true V (decide ((V : Int) ≥ 0)) o g 123 Y w0 x w' := by
  refine c_call Tryd.func69 rfl rfl fun a hk => ?_
  have hk : Kn 8 [(0, .pointer (some ⟨g, 0, none⟩)), (1, v)] a := hk
  refine cR0 ?_
  refine oA0 hk rfl rfl fun a hk => ?_
  refine cE0 ?_
  refine cR0 ?_
  refine oM0 hk rfl rfl fun a hk => ?_
  refine oM0 hk rfl rfl fun a hk => ?_
  refine o_call hk cb_99 (readFrom_DescribeTopicPartitionsRequest V h1 hg hR hY hG) ⟨rfl, rfl, rfl, trivial⟩ rfl fun x w a hR hk => ?_
  refine oA0 hk rfl rfl fun a hk => ?_
  refine cE0 ?_
  refine wp_ret ?_
  refine bT0 rfl hk rfl ?_
  exact hR
theorem rchkU_DescribeTopicPartitionsRequest (gv : Value) : (List.range 1).all (fun V => Er.rdTop (cxR_DescribeTopicPartitionsRequest gv V) sch_DescribeTopicPartitionsRequest true true Tryd.f99) = true := by kernel_rfl
theorem readFromU_DescribeTopicPartitionsRequest {w0 : World} {Y : Nat → Prop} {v gv : Value} {o : Option (List UInt8)} {g : Nat} (V : Nat) (h1 : V ≤ 0) (hg : w0.heap[g]? = some (.cells (.int .i16 (V : Int) :: Er.dflS sch_DescribeTopicPartitionsRequest true).toArray 123 (0, 0))) (hR : Rep w0 Y (ddSrc o) [v]) (hY : Y g) (hG : ¬ Y 1 ∧ w0.cell? ⟨1, 0, none⟩ = some gv) :
    Ret Tryd.prog 99 [.pointer (some ⟨g, 0, none⟩), v, .bool true] w0 fun x w' => Er.Told .nilIface gv sch_DescribeTopicPartitionsRequest true V (decide ((V : Int) ≥ 0)) o g 123 Y w0 x w' := by
  have h : Er.rdTop (cxR_DescribeTopicPartitionsRequest gv V) sch_DescribeTopicPartitionsRequest true true Tryd.f99 = true := Ea.all_range (rchkU_DescribeTopicPartitionsRequest gv) (by omega)
  exact Er.rd_sound (cx := cxR_DescribeTopicPartitionsRequest gv V) (fn := Tryd.f99) cfgR_ok Tryd.func99 h hg hR hY hG
theorem ReadFromU_DescribeTopicPartitionsRequest {w0 : World} {Y : Nat → Prop} {v gv : Value} {o : Option (List UInt8)} {g : Nat} (V : Nat) (h1 : V ≤ 0) (hg : w0.heap[g]? = some (.cells (.int .i16 (V : Int) :: Er.dflS sch_DescribeTopicPartitionsRequest true).toArray 123 (0, 0))) (hR : Rep w0 Y (ddSrc o) [v]) (hY : Y g) (hG : ¬ Y 1 ∧ w0.cell? ⟨1, 0, none⟩ = some gv) :
    Ret Tryd.prog 71 [.pointer (some ⟨g, 0, none⟩), v] w0 fun x w' => Er.Told .nilIface gv sch_DescribeTopicPartitionsRequest true V (decide ((V : Int) ≥ 0)) o g 123 Y w0 x w' := by
  refine c_call Tryd.func71 rfl rfl fun a hk => ?_
  have hk : Kn 8 [(0, .pointer (some ⟨g, 0, none⟩)), (1, v)] a := hk
  refine cR0 ?_
  refine oA0 hk rfl rfl fun a hk => ?_
  refine cE0 ?_
  refine cR0 ?_
  refine oM0 hk rfl rfl fun a hk => ?_
  refine oM0 hk rfl rfl fun a hk => ?_
  refine o_call hk cb_99 (readFromU_DescribeTopicPartitionsRequest V h1 hg hR hY hG) ⟨rfl, rfl, rfl, trivial⟩ rfl fun x w a hR hk => ?_
  refine oA0 hk rfl rfl fun a hk => ?_
  refine cE0 ?_
  refine wp_ret ?_
  refine bT0 rfl hk rfl ?_
  exact hR
theorem newPtrD_DescribeTopicPartitionsRequest {w0 : World} : Ret Tryd.prog 66 [] w0 fun v w' => Agr Nob w0 w' ∧ w0.heap.size < w'.heap.size ∧ v = .pointer (some ⟨w0.heap.size, 0, none⟩) ∧ w'.heap[w0.heap.size]? = some (.cells (.int .i16 0 :: Er.dflS sch_DescribeTopicPartitionsRequest true).toArray 123 (0, 0)) := by
  refine c_call Tryd.func66 rfl rfl fun a hk => ?_
  have hk : Kn 3 [] a := hk
  refine cR0 ?_
  refine oA0 hk rfl rfl fun a hk => ?_
  refine cE0 ?_
  refine cR0 ?_
  refine Er.o_allocW (cs := [.int .i16 0, .slice none 0 0, .int .i32 0, .pointer none, .map none]) hk tz_123 rfl rfl fun a w1 ag1 lt1 hb1 hk => ?_
  refine cE0 ?_
  refine cR0 ?_
  refine o_call hk cb_98 (dflt_DescribeTopicPartitionsRequest (good := .nilIface) (gv := .nilIface) (gb := 1) (pre := []) (post := []) (c := [.int .i16 0, .slice none 0 0, .int .i32 0, .pointer none, .map none]) hb1 (by decide)) ⟨rfl, trivial⟩ rfl fun v w2 a hR hk => ?_
  obtain ⟨ag2, hb2⟩ := hR
  refine cE0 ?_
  refine cR0 ?_
  refine oA0 hk rfl rfl fun a hk => ?_
  refine cE0 ?_
  refine wp_ret ?_
  refine bT0 rfl hk rfl ?_
  exact ⟨ag1.trans ag2 (fun _ _ x => x) (fun i hi x => by omega), Nat.lt_of_lt_of_le lt1 ag2.size, rfl, hb2⟩
end Go.Proofs.YthholdjpcdpceaaDoor
