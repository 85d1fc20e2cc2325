/- Walks of functions that the laws of this seat reach. No statement of the seat stands here. -/
import Derived.Test.YtnoklacheaplkabGreatDoorL3
import Derived.Test.YtnoklacheaplkabGreatDoorRows
import Derived.Test.YtnoklacheaplkabGreatDoorFa
import Derived.Test.YtnoklacheaplkabGreatDoorRj
import Derived.Test.YtnoklacheaplkabGreatDoorSch
namespace Go.Proofs.YtnoklacheaplkabGreatDoor
open Go Go.Mk
theorem dflt_DescribeQuorumResponse {good gv : Value} {gb : Nat} : Er.RkOk Tryz.prog 121 good gb gv 59 (.dflt []) := Er.rk_dflt0 (er := 121) (good := good) (gb := gb) (gv := gv) Tryz.func59 rfl rfl rfl
theorem dflt_DescribeQuorumResponseTopic {good gv : Value} {gb : Nat} : Er.RkOk Tryz.prog 121 good gb gv 100 (.dflt []) := Er.rk_dflt0 (er := 121) (good := good) (gb := gb) (gv := gv) Tryz.func100 rfl rfl rfl
theorem dflt_DescribeQuorumResponseTopicPartition {good gv : Value} {gb : Nat} : Er.RkOk Tryz.prog 121 good gb gv 101 (.dflt []) := Er.rk_dflt0 (er := 121) (good := good) (gb := gb) (gv := gv) Tryz.func101 rfl rfl rfl
theorem dflt_DescribeQuorumResponseTopicPartitionReplicaState {good gv : Value} {gb : Nat} : Er.RkOk Tryz.prog 121 good gb gv 102 (.dflt [(18, (.int .i64 (-1) : Value)), (19, (.int .i64 (-1) : Value))]) := by
  intro w0 b ty pre c post hbk hd
  have h0 : 18 < c.length := hd (18, .int .i64 (-1)) (by simp)
  have h1 : 19 < c.length := hd (19, .int .i64 (-1)) (by simp)
  refine c_call Tryz.func102 rfl rfl fun a hk => ?_
  have hk : Kn 8 [(0, .pointer (some ⟨b, pre.length, none⟩))] a := hk
  have hm : Mem w0 (fun k => k = b) (fun k => k = b) [.blk b (pre ++ c ++ post) ty] w0 := Mem.startBlk (Z := fun k => k = b) (m := []) hbk rfl rfl (by simp)
  refine cR0 ?_
  refine oM0 hk rfl rfl fun a hk => ?_
  refine oN0 hk rfl rfl fun a hk => ?_
  refine oF0 hk fo_158_3 rfl rfl fun a hk => ?_
  refine o_store (i := 0) hk hm ts_2 rfl rfl rfl rfl rfl rfl (show pre.length + 18 + 1 ≤ _ by simp only [List.length_append]; omega) fun a w hk hm => ?_
  have hm : Mem w0 (fun k => k = b) (fun k => k = b) [.blk b (pre ++ (c.set 18 (.int .i64 (-1))) ++ post) ty] w := by rw [← spl_mid (by simpa using h0)]; exact hm
  refine cE0 ?_
  refine c_reg ?_
  refine oM0 hk rfl rfl fun a hk => ?_
  refine oN0 hk rfl rfl fun a hk => ?_
  refine oF0 hk fo_158_4 rfl rfl fun a hk => ?_
  refine o_store (i := 0) hk hm ts_2 rfl rfl rfl rfl rfl rfl (show pre.length + 19 + 1 ≤ _ by simp only [List.length_append, List.length_set]; omega) fun a w hk hm => ?_
  have hm : Mem w0 (fun k => k = b) (fun k => k = b) [.blk b (pre ++ ((c.set 18 (.int .i64 (-1))).set 19 (.int .i64 (-1))) ++ post) ty] w := by rw [← spl_mid (by simpa using h1)]; exact hm
  refine c_endQ ?_
  refine b_endNone rfl hk ?_
  exact ⟨hm.agr, hm.all _ (eA0 (i := 0) rfl)⟩
theorem dflt_DescribeQuorumResponseNode {good gv : Value} {gb : Nat} : Er.RkOk Tryz.prog 121 good gb gv 103 (.dflt []) := Er.rk_dflt0 (er := 121) (good := good) (gb := gb) (gv := gv) Tryz.func103 rfl rfl rfl
theorem dflt_DescribeQuorumResponseNodeListener {good gv : Value} {gb : Nat} : Er.RkOk Tryz.prog 121 good gb gv 104 (.dflt []) := Er.rk_dflt0 (er := 121) (good := good) (gb := gb) (gv := gv) Tryz.func104 rfl rfl rfl
theorem rk_dflt_DescribeQuorumResponse {gv : Value} : Er.RkOk Tryz.prog 121 .nilIface 1 gv 59 (.dflt []) := by
  apply @dflt_DescribeQuorumResponse .nilIface gv 1
theorem rk_Int32 {gv : Value} : Er.RkOk Tryz.prog 121 .nilIface 1 gv 68 (.val 3 false false) := by
  apply Er.rk_num (k := 3) (ik := .i32) rfl
  exact (fun h1 h2 => rdInt32_c h1 h2)
theorem rk_Int16 {gv : Value} : Er.RkOk Tryz.prog 121 .nilIface 1 gv 69 (.val 2 false false) := by
  apply Er.rk_num (k := 2) (ik := .i16) rfl
  exact (fun h1 h2 => rdInt16_c h1 h2)
theorem rk_CompactNullableString {gv : Value} : Er.RkOk Tryz.prog 121 .nilIface 1 gv 71 (.val 8 true true) := by
  apply Er.rk_textN
  exact (fun h1 h2 => rdCompactNullableString_c h1 h2)
theorem rk_NullableString {gv : Value} : Er.RkOk Tryz.prog 121 .nilIface 1 gv 73 (.val 8 true false) := by
  apply Er.rk_textN
  exact (fun h1 h2 => rdNullableString_c h1 h2)
theorem rk_CompactArrayLen {gv : Value} : Er.RkOk Tryz.prog 121 .nilIface 1 gv 74 (.cnt true) := by
  apply (fun {w0 Y rb s} => rdCompactArrayLen_c (w0 := w0) (Y := Y) (rb := rb) (s := s))
theorem rk_ArrayLen {gv : Value} : Er.RkOk Tryz.prog 121 .nilIface 1 gv 75 (.cnt false) := by
  apply (fun {w0 Y rb s} => rdArrayLen_c (w0 := w0) (Y := Y) (rb := rb) (s := s))
theorem rk_Ok {gv : Value} : Er.RkOk Tryz.prog 121 .nilIface 1 gv 76 (.ok) := by
  apply @rdOk_ok .nilIface gv 1
theorem rk_Complete {gv : Value} : Er.RkOk Tryz.prog 121 .nilIface 1 gv 77 (.done) := by
  apply @rdComplete_c gv
theorem rk_Uuid {gv : Value} : Er.RkOk Tryz.prog 121 .nilIface 1 gv 79 (.val 7 false false) := by
  apply Er.rk_uuid
  exact (fun h1 h2 => rdUuid_c h1 h2)
theorem rk_tags {gv : Value} : Er.RkOk Tryz.prog 121 .nilIface 1 gv 82 (.tags) := by
  apply @readTags_ok .nilIface gv 1
theorem rk_CompactNullableBytes {gv : Value} : Er.RkOk Tryz.prog 121 .nilIface 1 gv 83 (.val 9 true true) := by
  apply Er.rk_bytes
  exact (fun h1 h2 => rdCompactNullableBytes_c h1 h2)
theorem rk_NullableBytes {gv : Value} : Er.RkOk Tryz.prog 121 .nilIface 1 gv 84 (.val 9 true false) := by
  apply Er.rk_bytes
  exact (fun h1 h2 => rdNullableBytes_c h1 h2)
theorem rk_Int64 {gv : Value} : Er.RkOk Tryz.prog 121 .nilIface 1 gv 86 (.val 4 false false) := by
  apply Er.rk_num (k := 4) (ik := .i64) rfl
  exact (fun h1 h2 => rdInt64_c h1 h2)
theorem rk_CompactString {gv : Value} : Er.RkOk Tryz.prog 121 .nilIface 1 gv 90 (.val 8 false true) := by
  apply Er.rk_text
  exact (fun h1 h2 => rdCompactString_c h1 h2)
theorem rk_String {gv : Value} : Er.RkOk Tryz.prog 121 .nilIface 1 gv 91 (.val 8 false false) := by
  apply Er.rk_text
  exact (fun h1 h2 => rdString_c h1 h2)
theorem rk_dflt_DescribeQuorumResponseTopic {gv : Value} : Er.RkOk Tryz.prog 121 .nilIface 1 gv 100 (.dflt []) := by
  apply @dflt_DescribeQuorumResponseTopic .nilIface gv 1
theorem rk_dflt_DescribeQuorumResponseTopicPartition {gv : Value} : Er.RkOk Tryz.prog 121 .nilIface 1 gv 101 (.dflt []) := by
  apply @dflt_DescribeQuorumResponseTopicPartition .nilIface gv 1
theorem rk_dflt_DescribeQuorumResponseTopicPartitionReplicaState {gv : Value} : Er.RkOk Tryz.prog 121 .nilIface 1 gv 102 (.dflt [(18, (.int .i64 (-1) : Value)), (19, (.int .i64 (-1) : Value))]) := by
  apply @dflt_DescribeQuorumResponseTopicPartitionReplicaState .nilIface gv 1
theorem rk_dflt_DescribeQuorumResponseNode {gv : Value} : Er.RkOk Tryz.prog 121 .nilIface 1 gv 103 (.dflt []) := by
  apply @dflt_DescribeQuorumResponseNode .nilIface gv 1
theorem rk_dflt_DescribeQuorumResponseNodeListener {gv : Value} : Er.RkOk Tryz.prog 121 .nilIface 1 gv 104 (.dflt []) := by
  apply @dflt_DescribeQuorumResponseNodeListener .nilIface gv 1
theorem rk_Uint16 {gv : Value} : Er.RkOk Tryz.prog 121 .nilIface 1 gv 105 (.val 5 false false) := by
  apply Er.rk_num (k := 5) (ik := .u16) rfl
  exact (fun h1 h2 => Ret.mono (rdUint16_c h1 h2) fun v w' hv => ⟨hv.1, by show v = .int .u16 (IntKind.u16.wrap ((RS.num 2 _).1 : Int)); rw [Er.wrap_u16_num]; exact hv.2.1, hv.2.2⟩)
def cfgR : List (Nat × Er.RK) := (59, .dflt []) :: (68, .val 3 false false) :: (69, .val 2 false false) :: (71, .val 8 true true) :: (73, .val 8 true false) :: (74, .cnt true) :: (75, .cnt false) :: (76, .ok) :: (77, .done) :: (79, .val 7 false false) :: (82, .tags) :: (83, .val 9 true true) :: (84, .val 9 true false) :: (86, .val 4 false false) :: (90, .val 8 false true) :: (91, .val 8 false false) :: (100, .dflt []) :: (101, .dflt []) :: (102, .dflt [(18, (.int .i64 (-1) : Value)), (19, (.int .i64 (-1) : Value))]) :: (103, .dflt []) :: (104, .dflt []) :: (105, .val 5 false false) :: []
noncomputable def cxR (gv : Value) (n m rt V : Nat) (flex : Bool) : Er.Cx := ⟨Tryz.prog, n, m, rt, 121, cfgR, V, flex, .nilIface, 1, gv⟩
theorem cfgR_ok {gv : Value} {n m rt V : Nat} {flex : Bool} : Er.CfgOk (cxR gv n m rt V flex) := by
  intro f ck h
  simp only [cxR, cfgR, List.mem_cons, Prod.mk.injEq, List.not_mem_nil, or_false] at h
  rcases h with ⟨rfl, rfl⟩ | ⟨rfl, rfl⟩ | ⟨rfl, rfl⟩ | ⟨rfl, rfl⟩ | ⟨rfl, rfl⟩ | ⟨rfl, rfl⟩ | ⟨rfl, rfl⟩ | ⟨rfl, rfl⟩ | ⟨rfl, rfl⟩ | ⟨rfl, rfl⟩ | ⟨rfl, rfl⟩ | ⟨rfl, rfl⟩ | ⟨rfl, rfl⟩ | ⟨rfl, rfl⟩ | ⟨rfl, rfl⟩ | ⟨rfl, rfl⟩ | ⟨rfl, rfl⟩ | ⟨rfl, rfl⟩ | ⟨rfl, rfl⟩ | ⟨rfl, rfl⟩ | ⟨rfl, rfl⟩ | ⟨rfl, rfl⟩
  · exact ⟨@rk_dflt_DescribeQuorumResponse gv, cb_59⟩
  · exact ⟨@rk_Int32 gv, cb_68⟩
  · exact ⟨@rk_Int16 gv, cb_69⟩
  · exact ⟨@rk_CompactNullableString gv, cb_71⟩
  · exact ⟨@rk_NullableString gv, cb_73⟩
  · exact ⟨@rk_CompactArrayLen gv, cb_74⟩
  · exact ⟨@rk_ArrayLen gv, cb_75⟩
  · exact ⟨@rk_Ok gv, cb_76⟩
  · exact ⟨@rk_Complete gv, cb_77⟩
  · exact ⟨@rk_Uuid gv, cb_79⟩
  · exact ⟨@rk_tags gv, cb_82⟩
  · exact ⟨@rk_CompactNullableBytes gv, cb_83⟩
  · exact ⟨@rk_NullableBytes gv, cb_84⟩
  · exact ⟨@rk_Int64 gv, cb_86⟩
  · exact ⟨@rk_CompactString gv, cb_90⟩
  · exact ⟨@rk_String gv, cb_91⟩
  · exact ⟨@rk_dflt_DescribeQuorumResponseTopic gv, cb_100⟩
  · exact ⟨@rk_dflt_DescribeQuorumResponseTopicPartition gv, cb_101⟩
  · exact ⟨@rk_dflt_DescribeQuorumResponseTopicPartitionReplicaState gv, cb_102⟩
  · exact ⟨@rk_dflt_DescribeQuorumResponseNode gv, cb_103⟩
  · exact ⟨@rk_dflt_DescribeQuorumResponseNodeListener gv, cb_104⟩
  · exact ⟨@rk_Uint16 gv, cb_105⟩
noncomputable def cxR_DescribeQuorumResponse (gv : Value) (V : Nat) : Er.Cx := cxR gv 486 70 6 V (decide ((V : Int) ≥ 0))
theorem rchk_DescribeQuorumResponse (gv : Value) : (List.range 3).all (fun V => Er.rdTop (cxR_DescribeQuorumResponse gv V) sch_DescribeQuorumResponse true false Tryz.f62) = true := by kernel_rfl
theorem readFrom_DescribeQuorumResponse {w0 : World} {Y : Nat → Prop} {v gv : Value} {o : Option (List UInt8)} {g : Nat} (V : Nat) (h1 : V ≤ 2) (hg : w0.heap[g]? = some (.cells (.int .i16 (V : Int) :: Er.dflS sch_DescribeQuorumResponse true).toArray 109 (0, 0))) (hR : Rep w0 Y (ddSrc o) [v]) (hY : Y g) (hG : ¬ Y 1 ∧ w0.cell? ⟨1, 0, none⟩ = some gv) :
    Ret Tryz.prog 62 [.pointer (some ⟨g, 0, none⟩), v, .bool false] w0 fun x w' => Er.Told .nilIface gv sch_DescribeQuorumResponse true V (decide ((V : Int) ≥ 0)) o g 109 Y w0 x w' := by
  have h : Er.rdTop (cxR_DescribeQuorumResponse gv V) sch_DescribeQuorumResponse true false Tryz.f62 = true := Ea.all_range (rchk_DescribeQuorumResponse gv) (by omega)
  exact Er.rd_sound (cx := cxR_DescribeQuorumResponse gv V) (fn := Tryz.f62) cfgR_ok Tryz.func62 h hg hR hY hG
theorem ReadFrom_DescribeQuorumResponse {w0 : World} {Y : Nat → Prop} {v gv : Value} {o : Option (List UInt8)} {g : Nat} (V : Nat) (h1 : V ≤ 2) (hg : w0.heap[g]? = some (.cells (.int .i16 (V : Int) :: Er.dflS sch_DescribeQuorumResponse true).toArray 109 (0, 0))) (hR : Rep w0 Y (ddSrc o) [v]) (hY : Y g) (hG : ¬ Y 1 ∧ w0.cell? ⟨1, 0, none⟩ = some gv) :
    Ret Tryz.prog 39 [.pointer (some ⟨g, 0, none⟩), v] w0 fun x w' => Er.Told .nilIface gv sch_DescribeQuorumResponse true V (decide ((V : Int) ≥ 0)) o g 109 Y w0 x w' := by
  refine c_call Tryz.func39 rfl rfl fun a hk => ?_
  have hk : Kn 8 [(0, .pointer (some ⟨g, 0, none⟩)), (1, v)] a := hk
  refine cR0 ?_
  refine oA0 hk rfl rfl fun a hk => ?_
  refine cE0 ?_
  refine cR0 ?_
  refine oM0 hk rfl rfl fun a hk => ?_
  refine oM0 hk rfl rfl fun a hk => ?_
  refine o_call hk cb_62 (readFrom_DescribeQuorumResponse V h1 hg hR hY hG) ⟨rfl, rfl, rfl, trivial⟩ rfl fun x w a hR hk => ?_
  refine oA0 hk rfl rfl fun a hk => ?_
  refine cE0 ?_
  refine wp_ret ?_
  refine bT0 rfl hk rfl ?_
  exact hR
theorem newPtrD_DescribeQuorumResponse {w0 : World} : Ret Tryz.prog 34 [] w0 fun v w' => Agr Nob w0 w' ∧ w0.heap.size < w'.heap.size ∧ v = .pointer (some ⟨w0.heap.size, 0, none⟩) ∧ w'.heap[w0.heap.size]? = some (.cells (.int .i16 0 :: Er.dflS sch_DescribeQuorumResponse true).toArray 109 (0, 0)) := by
  refine c_call Tryz.func34 rfl rfl fun a hk => ?_
  have hk : Kn 3 [] a := hk
  refine cR0 ?_
  refine oA0 hk rfl rfl fun a hk => ?_
  refine cE0 ?_
  refine cR0 ?_
  refine Er.o_allocW (cs := [.int .i16 0, .int .i16 0, .pointer none, .slice none 0 0, .slice none 0 0, .map none]) hk tz_109 rfl rfl fun a w1 ag1 lt1 hb1 hk => ?_
  refine cE0 ?_
  refine cR0 ?_
  refine o_call hk cb_59 (dflt_DescribeQuorumResponse (good := .nilIface) (gv := .nilIface) (gb := 1) (pre := []) (post := []) (c := [.int .i16 0, .int .i16 0, .pointer none, .slice none 0 0, .slice none 0 0, .map none]) hb1 (by decide)) ⟨rfl, trivial⟩ rfl fun v w2 a hR hk => ?_
  obtain ⟨ag2, hb2⟩ := hR
  refine cE0 ?_
  refine cR0 ?_
  refine oA0 hk rfl rfl fun a hk => ?_
  refine cE0 ?_
  refine wp_ret ?_
  refine bT0 rfl hk rfl ?_
  exact ⟨ag1.trans ag2 (fun _ _ x => x) (fun i hi x => by omega), Nat.lt_of_lt_of_le lt1 ag2.size, rfl, hb2⟩
end Go.Proofs.YtnoklacheaplkabGreatDoor
