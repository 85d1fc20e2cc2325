/- Walks of functions that the laws of this seat reach. No statement of the seat stands here. -/
import Derived.Test.YticigmdbfimfbaaGreatDoorL3
import Derived.Test.YticigmdbfimfbaaGreatDoorRows
import Derived.Test.YticigmdbfimfbaaGreatDoorFa
import Derived.Test.YticigmdbfimfbaaGreatDoorRi
namespace Go.Proofs.YticigmdbfimfbaaGreatDoor
open Go Go.Mk
theorem rdOk_ok {good gv : Value} {gb : Nat} : Er.RkOk Tryz.prog 153 good gb gv 147 .ok := by
 intro w0 Y rb s hb
 obtain ⟨x, hb, -⟩ := hb
 refine c_call Tryz.func147 rfl rfl fun a hk => ?_
 have hk : Kn 8 [(0, .pointer (some ⟨rb, 0, none⟩))] a := hk
 refine c_region ?_
 refine o_assign hk rfl rfl fun a hk => ?_
 refine c_end ?_
 refine c_region ?_
 refine o_move hk rfl rfl fun a hk => ?_
 refine o_nilCheck hk rfl rfl fun a hk => ?_
 refine o_fieldAddr hk fo_153_1 rfl rfl fun a hk => ?_
 refine o_load hk ts_4 rfl (show w0.cell? _ = some (.bool s.bad) by simp [World.cell?, hb]) rfl fun a hk => ?_
 refine o_not hk rfl rfl fun a hk => ?_
 refine o_assign hk rfl rfl fun a hk => ?_
 refine c_end ?_
 refine wp_ret ?_
 refine b_retTmp rfl hk rfl ?_
 exact ⟨rfl, rfl⟩
theorem dflt_HeartbeatRequest {good gv : Value} {gb : Nat} : Er.RkOk Tryz.prog 153 good gb gv 88 (.dflt []) := Er.rk_dflt0 (er := 153) (good := good) (gb := gb) (gv := gv) Tryz.func88 rfl rfl rfl
theorem dflt_StopReplicaResponse {good gv : Value} {gb : Nat} : Er.RkOk Tryz.prog 153 good gb gv 102 (.dflt []) := Er.rk_dflt0 (er := 153) (good := good) (gb := gb) (gv := gv) Tryz.func102 rfl rfl rfl
theorem dflt_SASLAuthenticateResponse {good gv : Value} {gb : Nat} : Er.RkOk Tryz.prog 153 good gb gv 106 (.dflt []) := Er.rk_dflt0 (er := 153) (good := good) (gb := gb) (gv := gv) Tryz.func106 rfl rfl rfl
theorem dflt_DescribeProducersRequest {good gv : Value} {gb : Nat} : Er.RkOk Tryz.prog 153 good gb gv 110 (.dflt []) := Er.rk_dflt0 (er := 153) (good := good) (gb := gb) (gv := gv) Tryz.func110 rfl rfl rfl
theorem dflt_UpdateFeaturesRequest {good gv : Value} {gb : Nat} : Er.RkOk Tryz.prog 153 good gb gv 114 (.dflt [(1, (.int .i32 (60000) : Value))]) := by
 intro w0 b ty pre c post hbk hd
 have h0 : 1 < c.length := hd (1, .int .i32 (60000)) (by simp)
 refine c_call Tryz.func114 rfl rfl fun a hk => ?_
 have hk : Kn 5 [(0, .pointer (some ⟨b, pre.length, none⟩))] a := hk
 have hm : Mem w0 (fun k => k = b) (fun k => k = b) [.blk b (pre ++ c ++ post) ty] w0 := Mem.startBlk (Z := fun k => k = b) (m := []) hbk rfl rfl (by simp)
 refine c_reg ?_
 refine o_move hk rfl rfl fun a hk => ?_
 refine o_nilCheck hk rfl rfl fun a hk => ?_
 refine o_fieldAddr hk fo_129_1 rfl rfl fun a hk => ?_
 refine o_store (i := 0) hk hm ts_21 rfl rfl rfl rfl rfl rfl (show pre.length + 1 + 1 ≤ _ by simp only [List.length_append]; omega) fun a w hk hm => ?_
 have hm : Mem w0 (fun k => k = b) (fun k => k = b) [.blk b (pre ++ (c.set 1 (.int .i32 (60000))) ++ post) ty] w := by rw [← spl_mid (by simpa using h0)]; exact hm
 refine c_endQ ?_
 refine b_endNone rfl hk ?_
 exact ⟨hm.agr, hm.all _ (entAt_mem (i := 0) rfl)⟩
theorem dflt_OffsetForLeaderEpochRequest {good gv : Value} {gb : Nat} : Er.RkOk Tryz.prog 153 good gb gv 119 (.dflt [(1, (.int .i32 (-2) : Value))]) := by
 intro w0 b ty pre c post hbk hd
 have h0 : 1 < c.length := hd (1, .int .i32 (-2)) (by simp)
 refine c_call Tryz.func119 rfl rfl fun a hk => ?_
 have hk : Kn 5 [(0, .pointer (some ⟨b, pre.length, none⟩))] a := hk
 have hm : Mem w0 (fun k => k = b) (fun k => k = b) [.blk b (pre ++ c ++ post) ty] w0 := Mem.startBlk (Z := fun k => k = b) (m := []) hbk rfl rfl (by simp)
 refine c_reg ?_
 refine o_move hk rfl rfl fun a hk => ?_
 refine o_nilCheck hk rfl rfl fun a hk => ?_
 refine o_fieldAddr hk fo_138_1 rfl rfl fun a hk => ?_
 refine o_store (i := 0) hk hm ts_21 rfl rfl rfl rfl rfl rfl (show pre.length + 1 + 1 ≤ _ by simp only [List.length_append]; omega) fun a w hk hm => ?_
 have hm : Mem w0 (fun k => k = b) (fun k => k = b) [.blk b (pre ++ (c.set 1 (.int .i32 (-2))) ++ post) ty] w := by rw [← spl_mid (by simpa using h0)]; exact hm
 refine c_endQ ?_
 refine b_endNone rfl hk ?_
 exact ⟨hm.agr, hm.all _ (entAt_mem (i := 0) rfl)⟩
theorem dflt_DeleteRecordsResponse {good gv : Value} {gb : Nat} : Er.RkOk Tryz.prog 153 good gb gv 124 (.dflt []) := Er.rk_dflt0 (er := 153) (good := good) (gb := gb) (gv := gv) Tryz.func124 rfl rfl rfl
theorem dflt_StopReplicaResponsePartition {good gv : Value} {gb : Nat} : Er.RkOk Tryz.prog 153 good gb gv 148 (.dflt []) := Er.rk_dflt0 (er := 153) (good := good) (gb := gb) (gv := gv) Tryz.func148 rfl rfl rfl
theorem dflt_DescribeProducersRequestTopic {good gv : Value} {gb : Nat} : Er.RkOk Tryz.prog 153 good gb gv 153 (.dflt []) := Er.rk_dflt0 (er := 153) (good := good) (gb := gb) (gv := gv) Tryz.func153 rfl rfl rfl
theorem dflt_UpdateFeaturesRequestFeatureUpdate {good gv : Value} {gb : Nat} : Er.RkOk Tryz.prog 153 good gb gv 155 (.dflt []) := Er.rk_dflt0 (er := 153) (good := good) (gb := gb) (gv := gv) Tryz.func155 rfl rfl rfl
theorem dflt_OffsetForLeaderEpochRequestTopic {good gv : Value} {gb : Nat} : Er.RkOk Tryz.prog 153 good gb gv 159 (.dflt []) := Er.rk_dflt0 (er := 153) (good := good) (gb := gb) (gv := gv) Tryz.func159 rfl rfl rfl
theorem dflt_OffsetForLeaderEpochRequestTopicPartition {good gv : Value} {gb : Nat} : Er.RkOk Tryz.prog 153 good gb gv 160 (.dflt [(1, (.int .i32 (-1) : Value))]) := by
 intro w0 b ty pre c post hbk hd
 have h0 : 1 < c.length := hd (1, .int .i32 (-1)) (by simp)
 refine c_call Tryz.func160 rfl rfl fun a hk => ?_
 have hk : Kn 5 [(0, .pointer (some ⟨b, pre.length, none⟩))] a := hk
 have hm : Mem w0 (fun k => k = b) (fun k => k = b) [.blk b (pre ++ c ++ post) ty] w0 := Mem.startBlk (Z := fun k => k = b) (m := []) hbk rfl rfl (by simp)
 refine c_reg ?_
 refine o_move hk rfl rfl fun a hk => ?_
 refine o_nilCheck hk rfl rfl fun a hk => ?_
 refine o_fieldAddr hk fo_174_1 rfl rfl fun a hk => ?_
 refine o_store (i := 0) hk hm ts_21 rfl rfl rfl rfl rfl rfl (show pre.length + 1 + 1 ≤ _ by simp only [List.length_append]; omega) fun a w hk hm => ?_
 have hm : Mem w0 (fun k => k = b) (fun k => k = b) [.blk b (pre ++ (c.set 1 (.int .i32 (-1))) ++ post) ty] w := by rw [← spl_mid (by simpa using h0)]; exact hm
 refine c_endQ ?_
 refine b_endNone rfl hk ?_
 exact ⟨hm.agr, hm.all _ (entAt_mem (i := 0) rfl)⟩
theorem dflt_DeleteRecordsResponseTopic {good gv : Value} {gb : Nat} : Er.RkOk Tryz.prog 153 good gb gv 163 (.dflt []) := Er.rk_dflt0 (er := 153) (good := good) (gb := gb) (gv := gv) Tryz.func163 rfl rfl rfl
theorem dflt_DeleteRecordsResponseTopicPartition {good gv : Value} {gb : Nat} : Er.RkOk Tryz.prog 153 good gb gv 164 (.dflt []) := Er.rk_dflt0 (er := 153) (good := good) (gb := gb) (gv := gv) Tryz.func164 rfl rfl rfl
theorem rk_dflt_HeartbeatRequest {gv : Value} : Er.RkOk Tryz.prog 153 .nilIface 1 gv 88 (.dflt []) := by
 apply @dflt_HeartbeatRequest .nilIface gv 1
theorem rk_dflt_StopReplicaResponse {gv : Value} : Er.RkOk Tryz.prog 153 .nilIface 1 gv 102 (.dflt []) := by
 apply @dflt_StopReplicaResponse .nilIface gv 1
theorem rk_dflt_SASLAuthenticateResponse {gv : Value} : Er.RkOk Tryz.prog 153 .nilIface 1 gv 106 (.dflt []) := by
 apply @dflt_SASLAuthenticateResponse .nilIface gv 1
theorem rk_dflt_DescribeProducersRequest {gv : Value} : Er.RkOk Tryz.prog 153 .nilIface 1 gv 110 (.dflt []) := by
 apply @dflt_DescribeProducersRequest .nilIface gv 1
theorem rk_dflt_UpdateFeaturesRequest {gv : Value} : Er.RkOk Tryz.prog 153 .nilIface 1 gv 114 (.dflt [(1, (.int .i32 (60000) : Value))]) := by
 apply @dflt_UpdateFeaturesRequest .nilIface gv 1
theorem rk_dflt_OffsetForLeaderEpochRequest {gv : Value} : Er.RkOk Tryz.prog 153 .nilIface 1 gv 119 (.dflt [(1, (.int .i32 (-2) : Value))]) := by
 apply @dflt_OffsetForLeaderEpochRequest .nilIface gv 1
theorem rk_dflt_DeleteRecordsResponse {gv : Value} : Er.RkOk Tryz.prog 153 .nilIface 1 gv 124 (.dflt []) := by
 apply @dflt_DeleteRecordsResponse .nilIface gv 1
theorem rk_CompactString {gv : Value} : Er.RkOk Tryz.prog 153 .nilIface 1 gv 131 (.val 8 false true) := by
 apply Er.rk_text
 exact (fun h1 h2 => rdCompactString_c h1 h2)
theorem rk_String {gv : Value} : Er.RkOk Tryz.prog 153 .nilIface 1 gv 132 (.val 8 false false) := by
 apply Er.rk_text
 exact (fun h1 h2 => rdString_c h1 h2)
theorem rk_Int32 {gv : Value} : Er.RkOk Tryz.prog 153 .nilIface 1 gv 133 (.val 3 false false) := by
 apply Er.rk_num (k := 3) (ik := .i32) rfl
 exact (fun h1 h2 => rdInt32_c h1 h2)
theorem rk_CompactNullableString {gv : Value} : Er.RkOk Tryz.prog 153 .nilIface 1 gv 135 (.val 8 true true) := by
 apply Er.rk_textN
 exact (fun h1 h2 => rdCompactNullableString_c h1 h2)
theorem rk_NullableString {gv : Value} : Er.RkOk Tryz.prog 153 .nilIface 1 gv 137 (.val 8 true false) := by
 apply Er.rk_textN
 exact (fun h1 h2 => rdNullableString_c h1 h2)
theorem rk_tags {gv : Value} : Er.RkOk Tryz.prog 153 .nilIface 1 gv 138 (.tags) := by
 apply @readTags_ok .nilIface gv 1
theorem rk_Complete {gv : Value} : Er.RkOk Tryz.prog 153 .nilIface 1 gv 139 (.done) := by
 apply @rdComplete_c gv
theorem rk_Int16 {gv : Value} : Er.RkOk Tryz.prog 153 .nilIface 1 gv 144 (.val 2 false false) := by
 apply Er.rk_num (k := 2) (ik := .i16) rfl
 exact (fun h1 h2 => rdInt16_c h1 h2)
theorem rk_CompactArrayLen {gv : Value} : Er.RkOk Tryz.prog 153 .nilIface 1 gv 145 (.cnt true) := by
 apply (fun {w0 Y rb s} => rdCompactArrayLen_c (w0 := w0) (Y := Y) (rb := rb) (s := s))
theorem rk_ArrayLen {gv : Value} : Er.RkOk Tryz.prog 153 .nilIface 1 gv 146 (.cnt false) := by
 apply (fun {w0 Y rb s} => rdArrayLen_c (w0 := w0) (Y := Y) (rb := rb) (s := s))
theorem rk_Ok {gv : Value} : Er.RkOk Tryz.prog 153 .nilIface 1 gv 147 (.ok) := by
 apply @rdOk_ok .nilIface gv 1
theorem rk_dflt_StopReplicaResponsePartition {gv : Value} : Er.RkOk Tryz.prog 153 .nilIface 1 gv 148 (.dflt []) := by
 apply @dflt_StopReplicaResponsePartition .nilIface gv 1
theorem rk_CompactBytes {gv : Value} : Er.RkOk Tryz.prog 153 .nilIface 1 gv 150 (.val 9 false true) := by
 apply Er.rk_bytes
 exact (fun h1 h2 => rdCompactBytes_c h1 h2)
theorem rk_Bytes {gv : Value} : Er.RkOk Tryz.prog 153 .nilIface 1 gv 151 (.val 9 false false) := by
 apply Er.rk_bytes
 exact (fun h1 h2 => rdBytes_c h1 h2)
theorem rk_Int64 {gv : Value} : Er.RkOk Tryz.prog 153 .nilIface 1 gv 152 (.val 4 false false) := by
 apply Er.rk_num (k := 4) (ik := .i64) rfl
 exact (fun h1 h2 => rdInt64_c h1 h2)
theorem rk_dflt_DescribeProducersRequestTopic {gv : Value} : Er.RkOk Tryz.prog 153 .nilIface 1 gv 153 (.dflt []) := by
 apply @dflt_DescribeProducersRequestTopic .nilIface gv 1
theorem rk_dflt_UpdateFeaturesRequestFeatureUpdate {gv : Value} : Er.RkOk Tryz.prog 153 .nilIface 1 gv 155 (.dflt []) := by
 apply @dflt_UpdateFeaturesRequestFeatureUpdate .nilIface gv 1
theorem rk_Bool {gv : Value} : Er.RkOk Tryz.prog 153 .nilIface 1 gv 156 (.val 0 false false) := by
 apply Er.rk_bool
 exact (fun h1 h2 => rdBool_c h1 h2)
theorem rk_Int8 {gv : Value} : Er.RkOk Tryz.prog 153 .nilIface 1 gv 157 (.val 1 false false) := by
 apply Er.rk_num (k := 1) (ik := .i8) rfl
 exact (fun h1 h2 => rdInt8_c h1 h2)
theorem rk_dflt_OffsetForLeaderEpochRequestTopic {gv : Value} : Er.RkOk Tryz.prog 153 .nilIface 1 gv 159 (.dflt []) := by
 apply @dflt_OffsetForLeaderEpochRequestTopic .nilIface gv 1
theorem rk_dflt_OffsetForLeaderEpochRequestTopicPartition {gv : Value} : Er.RkOk Tryz.prog 153 .nilIface 1 gv 160 (.dflt [(1, (.int .i32 (-1) : Value))]) := by
 apply @dflt_OffsetForLeaderEpochRequestTopicPartition .nilIface gv 1
theorem rk_dflt_DeleteRecordsResponseTopic {gv : Value} : Er.RkOk Tryz.prog 153 .nilIface 1 gv 163 (.dflt []) := by
 apply @dflt_DeleteRecordsResponseTopic .nilIface gv 1
theorem rk_dflt_DeleteRecordsResponseTopicPartition {gv : Value} : Er.RkOk Tryz.prog 153 .nilIface 1 gv 164 (.dflt []) := by
 apply @dflt_DeleteRecordsResponseTopicPartition .nilIface gv 1
def cfgR : List (Nat × Er.RK) := (88, .dflt []) :: (102, .dflt []) :: (106, .dflt []) :: (110, .dflt []) :: (114, .dflt [(1, (.int .i32 (60000) : Value))]) :: (119, .dflt [(1, (.int .i32 (-2) : Value))]) :: (124, .dflt []) :: (131, .val 8 false true) :: (132, .val 8 false false) :: (133, .val 3 false false) :: (135, .val 8 true true) :: (137, .val 8 true false) :: (138, .tags) :: (139, .done) :: (144, .val 2 false false) :: (145, .cnt true) :: (146, .cnt false) :: (147, .ok) :: (148, .dflt []) :: (150, .val 9 false true) :: (151, .val 9 false false) :: (152, .val 4 false false) :: (153, .dflt []) :: (155, .dflt []) :: (156, .val 0 false false) :: (157, .val 1 false false) :: (159, .dflt []) :: (160, .dflt [(1, (.int .i32 (-1) : Value))]) :: (163, .dflt []) :: (164, .dflt []) :: []
noncomputable def cxR (gv : Value) (n m rt V : Nat) (flex : Bool) : Er.Cx := ⟨Tryz.prog, n, m, rt, 153, cfgR, V, flex, .nilIface, 1, gv⟩
theorem cfgR_ok {gv : Value} {n m rt V : Nat} {flex : Bool} : Er.CfgOk (cxR gv n m rt V flex) := by
 intro f ck h
 simp only [cxR, cfgR, List.mem_cons, Prod.mk.injEq, List.not_mem_nil, or_false] at h
 rcases h with ⟨rfl, rfl⟩ | ⟨rfl, rfl⟩ | ⟨rfl, rfl⟩ | ⟨rfl, rfl⟩ | ⟨rfl, rfl⟩ | ⟨rfl, rfl⟩ | ⟨rfl, rfl⟩ | ⟨rfl, rfl⟩ | ⟨rfl, rfl⟩ | ⟨rfl, rfl⟩ | ⟨rfl, rfl⟩ | ⟨rfl, rfl⟩ | ⟨rfl, rfl⟩ | ⟨rfl, rfl⟩ | ⟨rfl, rfl⟩ | ⟨rfl, rfl⟩ | ⟨rfl, rfl⟩ | ⟨rfl, rfl⟩ | ⟨rfl, rfl⟩ | ⟨rfl, rfl⟩ | ⟨rfl, rfl⟩ | ⟨rfl, rfl⟩ | ⟨rfl, rfl⟩ | ⟨rfl, rfl⟩ | ⟨rfl, rfl⟩ | ⟨rfl, rfl⟩ | ⟨rfl, rfl⟩ | ⟨rfl, rfl⟩ | ⟨rfl, rfl⟩ | ⟨rfl, rfl⟩
 ·exact ⟨@rk_dflt_HeartbeatRequest gv, cb_88⟩
 ·exact ⟨@rk_dflt_StopReplicaResponse gv, cb_102⟩
 ·exact ⟨@rk_dflt_SASLAuthenticateResponse gv, cb_106⟩
 ·exact ⟨@rk_dflt_DescribeProducersRequest gv, cb_110⟩
 ·exact ⟨@rk_dflt_UpdateFeaturesRequest gv, cb_114⟩
 ·exact ⟨@rk_dflt_OffsetForLeaderEpochRequest gv, cb_119⟩
 ·exact ⟨@rk_dflt_DeleteRecordsResponse gv, cb_124⟩
 ·exact ⟨@rk_CompactString gv, cb_131⟩
 ·exact ⟨@rk_String gv, cb_132⟩
 ·exact ⟨@rk_Int32 gv, cb_133⟩
 ·exact ⟨@rk_CompactNullableString gv, cb_135⟩
 ·exact ⟨@rk_NullableString gv, cb_137⟩
 ·exact ⟨@rk_tags gv, cb_138⟩
 ·exact ⟨@rk_Complete gv, cb_139⟩
 ·exact ⟨@rk_Int16 gv, cb_144⟩
 ·exact ⟨@rk_CompactArrayLen gv, cb_145⟩
 ·exact ⟨@rk_ArrayLen gv, cb_146⟩
 ·exact ⟨@rk_Ok gv, cb_147⟩
 ·exact ⟨@rk_dflt_StopReplicaResponsePartition gv, cb_148⟩
 ·exact ⟨@rk_CompactBytes gv, cb_150⟩
 ·exact ⟨@rk_Bytes gv, cb_151⟩
 ·exact ⟨@rk_Int64 gv, cb_152⟩
 ·exact ⟨@rk_dflt_DescribeProducersRequestTopic gv, cb_153⟩
 ·exact ⟨@rk_dflt_UpdateFeaturesRequestFeatureUpdate gv, cb_155⟩
 ·exact ⟨@rk_Bool gv, cb_156⟩
 ·exact ⟨@rk_Int8 gv, cb_157⟩
 ·exact ⟨@rk_dflt_OffsetForLeaderEpochRequestTopic gv, cb_159⟩
 ·exact ⟨@rk_dflt_OffsetForLeaderEpochRequestTopicPartition gv, cb_160⟩
 ·exact ⟨@rk_dflt_DeleteRecordsResponseTopic gv, cb_163⟩
 ·exact ⟨@rk_dflt_DeleteRecordsResponseTopicPartition gv, cb_164⟩
end Go.Proofs.YticigmdbfimfbaaGreatDoor
