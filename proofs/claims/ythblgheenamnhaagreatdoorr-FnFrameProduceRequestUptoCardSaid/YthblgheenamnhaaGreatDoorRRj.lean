/- Walks of functions that the laws of this seat reach. No statement of the seat stands here. -/
import Derived.Test.YthblgheenamnhaaGreatDoorRL4
import Derived.Test.YthblgheenamnhaaGreatDoorRRows
import Derived.Test.YthblgheenamnhaaGreatDoorRFa
import Derived.Test.YthblgheenamnhaaGreatDoorRRi
namespace Go.Proofs.YthblgheenamnhaaGreatDoorR
open Go Go.Mk
theorem mixedU:Tryz.prog.follows .mixedOrders = true:=Tryz.checked.mixed
theorem rdUuid_c {w0:World} {Y:Nat → Prop} {rb:Nat} {s:RS} (hb:RdrAt w0 Y rb 109 s) (hY:Y rb):Ret Tryz.prog 88 [.pointer (some ⟨rb,0,none⟩)] w0 fun v w'=>Agr (fun k=>k = rb) w0 w' ∧ v = .agg (bv (sixteen ((RS.span 16 s).1.getD []))).toArray ∧ RdrAt w' (fun b=>b < w0.heap.size ∧ Y b) rb 109 (RS.span 16 s).2:=by
 obtain ⟨x0,hbk,hx0⟩:=hb
 refine c_call Tryz.func88 rfl rfl fun a hk=>?_
 have hk:Kn 9 [(0,.pointer (some ⟨rb,0,none⟩))] a:=hk
 have hm:Mem w0 (fun k=>k = rb) Y [.blk rb [x0,.bool s.bad] 109,.rep (ddSrc s.src) [x0]] w0:=Mem.startBlk hbk hY rfl (by simp only [List.forall_mem_cons,List.not_mem_nil,false_imp_iff,implies_true,and_true]; exact hx0)
 refine cR0 ?_
 refine o_alloc hk hm tz_115 rfl rfl fun a b1 w hk hm=>?_
 refine cE0 ?_
 refine cR0 ?_
 refine o_alloc hk hm tz_115 rfl rfl fun a b2 w hk hm=>?_
 refine cE0 ?_
 refine wp_seq ?_
 refine d_start (fun _=>True) 3 mixedU ?_
 have hm:=hm.pure (Agr.drew Nob w)
 generalize w.drew = w at hm ⊢
 refine d_takeF (i:=0) rfl rfl rfl (by kernel_rfl) (fun _ _ _ h=>h) hk rfl (fun w=>r_sliceArr hk at_115 ts_5 rfl) (fun _=>trivial) fun a hk=>?_
 refine d_takeF (i:=1) rfl rfl rfl (by kernel_rfl) (fun _ _ _ h=>h) hk rfl (fun w=>r_move hk rfl) (fun _=>trivial) fun a hk=>?_
 refine d_one (k:=2) (by kernel_rfl) rfl rfl ?_
 refine o_call hk cb_115 (rdSpan_c 16 ⟨x0,hm.blkAt (i:=2) rfl,hm.rep (i:=3) rfl⟩ (hm.yofBlk (i:=2) rfl)) ⟨rfl,rfl,trivial⟩ rfl fun v w a hR hk=>?_
 obtain ⟨hp,hv,x1,hb1,hx1⟩:=hR
 have hm:=hm.blkCall2 (i:=2) rfl hp hb1 hx1 hv
 refine c_endQ (cT0 ⟨fun _=>trivial,?_⟩)
 refine d_one (k:=3) (by kernel_rfl) rfl rfl ?_
 refine o_copyB (i:=2) hk hm te_24 cz_5 rfl rfl rfl rfl (src_bytes (hm.rep (i:=0) rfl)) rfl fun a w hk hm=>?_
 have e16:(bv ((RS.span 16 s).1.getD [])).take 16 ++ List.drop ((RS.span 16 s).1.getD []).length [Value.int .u8 0,Value.int .u8 0,Value.int .u8 0,Value.int .u8 0,Value.int .u8 0,Value.int .u8 0,Value.int .u8 0,Value.int .u8 0,Value.int .u8 0,Value.int .u8 0,Value.int .u8 0,Value.int .u8 0,Value.int .u8 0,Value.int .u8 0,Value.int .u8 0,Value.int .u8 0] = bv (sixteen ((RS.span 16 s).1.getD [])):=sixteen_copied _
 have hm:Mem w0 (fun k=>k = rb) Y [.rep (ddSrc (RS.span 16 s).1) [v],.rep (ddSrc (RS.span 16 s).2.src) [x1],.blk b2 ((bv ((RS.span 16 s).1.getD [])).take 16 ++ List.drop ((RS.span 16 s).1.getD []).length [Value.int .u8 0,Value.int .u8 0,Value.int .u8 0,Value.int .u8 0,Value.int .u8 0,Value.int .u8 0,Value.int .u8 0,Value.int .u8 0,Value.int .u8 0,Value.int .u8 0,Value.int .u8 0,Value.int .u8 0,Value.int .u8 0,Value.int .u8 0,Value.int .u8 0,Value.int .u8 0]) 115,.blk b1 [Value.int .u8 0,Value.int .u8 0,Value.int .u8 0,Value.int .u8 0,Value.int .u8 0,Value.int .u8 0,Value.int .u8 0,Value.int .u8 0,Value.int .u8 0,Value.int .u8 0,Value.int .u8 0,Value.int .u8 0,Value.int .u8 0,Value.int .u8 0,Value.int .u8 0,Value.int .u8 0] 115,.blk rb [x1,.bool (RS.span 16 s).2.bad] 109,.rep (ddSrc s.src) [x0]] w:=hm
 rw [e16] at hm
 refine c_endQ (cT0 ⟨fun _=>trivial,?_⟩)
 refine d_done (by kernel_rfl) ?_ _
 refine cT0 ?_
 have hl:(bv (sixteen ((RS.span 16 s).1.getD []))).length = 16:=by rw [bv_length,sixteen_length]
 refine cR0 ?_
 refine o_loadN (cs:=bv (sixteen ((RS.span 16 s).1.getD []))) hk (by rw [hl]; exact ts_115) rfl (hm.cells_blk (i:=2) rfl (by simp)) rfl fun a hk=>?_
 refine o_store (i:=3) (vs:=bv (sixteen ((RS.span 16 s).1.getD []))) hk hm (s:=16) ts_115 rfl rfl (by simp [cellsOf]) hl (bv_one _) rfl (by rw [hl]; exact Nat.le_refl _) fun a w hk hm=>?_
 have hm:Mem w0 (fun k=>k = rb) Y [.rep (ddSrc (RS.span 16 s).1) [v],.rep (ddSrc (RS.span 16 s).2.src) [x1],.blk b2 (bv (sixteen ((RS.span 16 s).1.getD []))) 115,.blk b1 (spl [Value.int .u8 0,Value.int .u8 0,Value.int .u8 0,Value.int .u8 0,Value.int .u8 0,Value.int .u8 0,Value.int .u8 0,Value.int .u8 0,Value.int .u8 0,Value.int .u8 0,Value.int .u8 0,Value.int .u8 0,Value.int .u8 0,Value.int .u8 0,Value.int .u8 0,Value.int .u8 0] 0 (bv (sixteen ((RS.span 16 s).1.getD [])))) 115,.blk rb [x1,.bool (RS.span 16 s).2.bad] 109,.rep (ddSrc s.src) [x0]] w:=hm
 rw [spl_whole (by rw [hl]; rfl)] at hm
 refine cE0 ?_
 refine wp_ret ?_
 refine b_retCell (i:=3) (cs:=bv (sixteen ((RS.span 16 s).1.getD []))) rfl (by rw [hl]; exact ts_115) hk hm rfl rfl ?_
 exact ⟨hm.agr,rfl,x1,hm.blkAt (i:=4) rfl,hm.out (hm.rep (i:=1) rfl)⟩
theorem rdOk_ok {good gv:Value} {gb:Nat}:Er.RkOk Tryz.prog 109 good gb gv 85 .ok:=by
 intro w0 Y rb s hb
 obtain ⟨x,hb,-⟩:=hb
 refine c_call Tryz.func85 rfl rfl fun a hk=>?_
 have hk:Kn 8 [(0,.pointer (some ⟨rb,0,none⟩))] a:=hk
 refine cR0 ?_
 refine oA0 hk rfl rfl fun a hk=>?_
 refine cE0 ?_
 refine cR0 ?_
 refine oM0 hk rfl rfl fun a hk=>?_
 refine oN0 hk rfl rfl fun a hk=>?_
 refine oF0 hk fo_109_1 rfl rfl fun a hk=>?_
 refine o_load hk ts_4 rfl (show w0.cell? _ = some (.bool s.bad) by simp [World.cell?,hb]) rfl fun a hk=>?_
 refine o_not hk rfl rfl fun a hk=>?_
 refine oA0 hk rfl rfl fun a hk=>?_
 refine cE0 ?_
 refine wp_ret ?_
 refine bT0 rfl hk rfl ?_
 exact ⟨rfl,rfl⟩
theorem dflt_WriteShareGroupStateRequest {good gv:Value} {gb:Nat}:Er.RkOk Tryz.prog 109 good gb gv 51 (.dflt []):=Er.rk_dflt0 (er:=109) (good:=good) (gb:=gb) (gv:=gv) Tryz.func51 rfl rfl rfl
theorem dflt_JoinGroupRequest {good gv:Value} {gb:Nat}:Er.RkOk Tryz.prog 109 good gb gv 65 (.dflt [(3,(.int .i32 (-1):Value))]):=by
 intro w0 b ty pre c post hbk hd
 have h0 : 3 < c.length:=hd (3,.int .i32 (-1)) (by simp)
 refine c_call Tryz.func65 rfl rfl fun a hk=>?_
 have hk:Kn 5 [(0,.pointer (some ⟨b,pre.length,none⟩))] a:=hk
 have hm:Mem w0 (fun k=>k = b) (fun k=>k = b) [.blk b (pre ++ c ++ post) ty] w0:=Mem.startBlk (Z:=fun k=>k = b) (m:=[]) hbk rfl rfl (by simp)
 refine c_reg ?_
 refine oM0 hk rfl rfl fun a hk=>?_
 refine oN0 hk rfl rfl fun a hk=>?_
 refine oF0 hk fo_95_3 rfl rfl fun a hk=>?_
 refine o_store (i:=0) hk hm ts_21 rfl rfl rfl rfl rfl rfl (show pre.length + 3 + 1 ≤ _ by simp only [List.length_append]; omega) fun a w hk hm=>?_
 have hm:Mem w0 (fun k=>k = b) (fun k=>k = b) [.blk b (pre ++ (c.set 3 (.int .i32 (-1))) ++ post) ty] w:=by rw [← spl_mid (by simpa using h0)]; exact hm
 refine c_endQ ?_
 refine b_endNone rfl hk ?_
 exact ⟨hm.agr,hm.all _ (eA0 (i:=0) rfl)⟩
theorem dflt_AlterShareGroupOffsetsRequest {good gv:Value} {gb:Nat}:Er.RkOk Tryz.prog 109 good gb gv 67 (.dflt []):=Er.rk_dflt0 (er:=109) (good:=good) (gb:=gb) (gv:=gv) Tryz.func67 rfl rfl rfl
theorem dflt_ProduceRequest {good gv:Value} {gb:Nat}:Er.RkOk Tryz.prog 109 good gb gv 70 (.dflt [(3,(.int .i32 (15000):Value))]):=by
 intro w0 b ty pre c post hbk hd
 have h0 : 3 < c.length:=hd (3,.int .i32 (15000)) (by simp)
 refine c_call Tryz.func70 rfl rfl fun a hk=>?_
 have hk:Kn 5 [(0,.pointer (some ⟨b,pre.length,none⟩))] a:=hk
 have hm:Mem w0 (fun k=>k = b) (fun k=>k = b) [.blk b (pre ++ c ++ post) ty] w0:=Mem.startBlk (Z:=fun k=>k = b) (m:=[]) hbk rfl rfl (by simp)
 refine c_reg ?_
 refine oM0 hk rfl rfl fun a hk=>?_
 refine oN0 hk rfl rfl fun a hk=>?_
 refine oF0 hk fo_101_3 rfl rfl fun a hk=>?_
 refine o_store (i:=0) hk hm ts_21 rfl rfl rfl rfl rfl rfl (show pre.length + 3 + 1 ≤ _ by simp only [List.length_append]; omega) fun a w hk hm=>?_
 have hm:Mem w0 (fun k=>k = b) (fun k=>k = b) [.blk b (pre ++ (c.set 3 (.int .i32 (15000))) ++ post) ty] w:=by rw [← spl_mid (by simpa using h0)]; exact hm
 refine c_endQ ?_
 refine b_endNone rfl hk ?_
 exact ⟨hm.agr,hm.all _ (eA0 (i:=0) rfl)⟩
theorem dflt_WriteShareGroupStateRequestTopic {good gv:Value} {gb:Nat}:Er.RkOk Tryz.prog 109 good gb gv 87 (.dflt []):=Er.rk_dflt0 (er:=109) (good:=good) (gb:=gb) (gv:=gv) Tryz.func87 rfl rfl rfl
theorem dflt_WriteShareGroupStateRequestTopicPartition {good gv:Value} {gb:Nat}:Er.RkOk Tryz.prog 109 good gb gv 89 (.dflt [(4,(.int .i32 (-1):Value))]):=by
 intro w0 b ty pre c post hbk hd
 have h0 : 4 < c.length:=hd (4,.int .i32 (-1)) (by simp)
 refine c_call Tryz.func89 rfl rfl fun a hk=>?_
 have hk:Kn 5 [(0,.pointer (some ⟨b,pre.length,none⟩))] a:=hk
 have hm:Mem w0 (fun k=>k = b) (fun k=>k = b) [.blk b (pre ++ c ++ post) ty] w0:=Mem.startBlk (Z:=fun k=>k = b) (m:=[]) hbk rfl rfl (by simp)
 refine c_reg ?_
 refine oM0 hk rfl rfl fun a hk=>?_
 refine oN0 hk rfl rfl fun a hk=>?_
 refine oF0 hk fo_123_4 rfl rfl fun a hk=>?_
 refine o_store (i:=0) hk hm ts_21 rfl rfl rfl rfl rfl rfl (show pre.length + 4 + 1 ≤ _ by simp only [List.length_append]; omega) fun a w hk hm=>?_
 have hm:Mem w0 (fun k=>k = b) (fun k=>k = b) [.blk b (pre ++ (c.set 4 (.int .i32 (-1))) ++ post) ty] w:=by rw [← spl_mid (by simpa using h0)]; exact hm
 refine c_endQ ?_
 refine b_endNone rfl hk ?_
 exact ⟨hm.agr,hm.all _ (eA0 (i:=0) rfl)⟩
theorem dflt_WriteShareGroupStateRequestTopicPartitionStateBatch {good gv:Value} {gb:Nat}:Er.RkOk Tryz.prog 109 good gb gv 92 (.dflt []):=Er.rk_dflt0 (er:=109) (good:=good) (gb:=gb) (gv:=gv) Tryz.func92 rfl rfl rfl
theorem dflt_JoinGroupRequestProtocol {good gv:Value} {gb:Nat}:Er.RkOk Tryz.prog 109 good gb gv 104 (.dflt []):=Er.rk_dflt0 (er:=109) (good:=good) (gb:=gb) (gv:=gv) Tryz.func104 rfl rfl rfl
theorem dflt_AlterShareGroupOffsetsRequestTopic {good gv:Value} {gb:Nat}:Er.RkOk Tryz.prog 109 good gb gv 107 (.dflt []):=Er.rk_dflt0 (er:=109) (good:=good) (gb:=gb) (gv:=gv) Tryz.func107 rfl rfl rfl
theorem dflt_AlterShareGroupOffsetsRequestTopicPartition {good gv:Value} {gb:Nat}:Er.RkOk Tryz.prog 109 good gb gv 108 (.dflt []):=Er.rk_dflt0 (er:=109) (good:=good) (gb:=gb) (gv:=gv) Tryz.func108 rfl rfl rfl
theorem dflt_ProduceRequestTopic {good gv:Value} {gb:Nat}:Er.RkOk Tryz.prog 109 good gb gv 109 (.dflt []):=Er.rk_dflt0 (er:=109) (good:=good) (gb:=gb) (gv:=gv) Tryz.func109 rfl rfl rfl
theorem dflt_ProduceRequestTopicPartition {good gv:Value} {gb:Nat}:Er.RkOk Tryz.prog 109 good gb gv 110 (.dflt []):=Er.rk_dflt0 (er:=109) (good:=good) (gb:=gb) (gv:=gv) Tryz.func110 rfl rfl rfl
theorem rk_dflt_WriteShareGroupStateRequest {gv:Value}:Er.RkOk Tryz.prog 109 .nilIface 0 gv 51 (.dflt []):=by
 apply @dflt_WriteShareGroupStateRequest .nilIface gv 0
theorem rk_dflt_JoinGroupRequest {gv:Value}:Er.RkOk Tryz.prog 109 .nilIface 0 gv 65 (.dflt [(3,(.int .i32 (-1):Value))]):=by
 apply @dflt_JoinGroupRequest .nilIface gv 0
theorem rk_dflt_AlterShareGroupOffsetsRequest {gv:Value}:Er.RkOk Tryz.prog 109 .nilIface 0 gv 67 (.dflt []):=by
 apply @dflt_AlterShareGroupOffsetsRequest .nilIface gv 0
theorem rk_dflt_ProduceRequest {gv:Value}:Er.RkOk Tryz.prog 109 .nilIface 0 gv 70 (.dflt [(3,(.int .i32 (15000):Value))]):=by
 apply @dflt_ProduceRequest .nilIface gv 0
theorem rk_CompactString {gv:Value}:Er.RkOk Tryz.prog 109 .nilIface 0 gv 81 (.val 8 false true):=by
 apply Er.rk_text
 exact (fun h1 h2=>rdCompactString_c h1 h2)
theorem rk_String {gv:Value}:Er.RkOk Tryz.prog 109 .nilIface 0 gv 82 (.val 8 false false):=by
 apply Er.rk_text
 exact (fun h1 h2=>rdString_c h1 h2)
theorem rk_CompactArrayLen {gv:Value}:Er.RkOk Tryz.prog 109 .nilIface 0 gv 83 (.cnt true):=by
 apply (fun {w0 Y rb s}=>rdCompactArrayLen_c (w0:=w0) (Y:=Y) (rb:=rb) (s:=s))
theorem rk_ArrayLen {gv:Value}:Er.RkOk Tryz.prog 109 .nilIface 0 gv 84 (.cnt false):=by
 apply (fun {w0 Y rb s}=>rdArrayLen_c (w0:=w0) (Y:=Y) (rb:=rb) (s:=s))
theorem rk_Ok {gv:Value}:Er.RkOk Tryz.prog 109 .nilIface 0 gv 85 (.ok):=by
 apply @rdOk_ok .nilIface gv 0
theorem rk_Complete {gv:Value}:Er.RkOk Tryz.prog 109 .nilIface 0 gv 86 (.done):=by
 apply @rdComplete_c gv
theorem rk_dflt_WriteShareGroupStateRequestTopic {gv:Value}:Er.RkOk Tryz.prog 109 .nilIface 0 gv 87 (.dflt []):=by
 apply @dflt_WriteShareGroupStateRequestTopic .nilIface gv 0
theorem rk_Uuid {gv:Value}:Er.RkOk Tryz.prog 109 .nilIface 0 gv 88 (.val 7 false false):=by
 apply Er.rk_uuid
 exact (fun h1 h2=>rdUuid_c h1 h2)
theorem rk_dflt_WriteShareGroupStateRequestTopicPartition {gv:Value}:Er.RkOk Tryz.prog 109 .nilIface 0 gv 89 (.dflt [(4,(.int .i32 (-1):Value))]):=by
 apply @dflt_WriteShareGroupStateRequestTopicPartition .nilIface gv 0
theorem rk_Int32 {gv:Value}:Er.RkOk Tryz.prog 109 .nilIface 0 gv 90 (.val 3 false false):=by
 apply Er.rk_num (k:=3) (ik:=.i32) rfl
 exact (fun h1 h2=>rdInt32_c h1 h2)
theorem rk_Int64 {gv:Value}:Er.RkOk Tryz.prog 109 .nilIface 0 gv 91 (.val 4 false false):=by
 apply Er.rk_num (k:=4) (ik:=.i64) rfl
 exact (fun h1 h2=>rdInt64_c h1 h2)
theorem rk_dflt_WriteShareGroupStateRequestTopicPartitionStateBatch {gv:Value}:Er.RkOk Tryz.prog 109 .nilIface 0 gv 92 (.dflt []):=by
 apply @dflt_WriteShareGroupStateRequestTopicPartitionStateBatch .nilIface gv 0
theorem rk_Int8 {gv:Value}:Er.RkOk Tryz.prog 109 .nilIface 0 gv 93 (.val 1 false false):=by
 apply Er.rk_num (k:=1) (ik:=.i8) rfl
 exact (fun h1 h2=>rdInt8_c h1 h2)
theorem rk_Int16 {gv:Value}:Er.RkOk Tryz.prog 109 .nilIface 0 gv 94 (.val 2 false false):=by
 apply Er.rk_num (k:=2) (ik:=.i16) rfl
 exact (fun h1 h2=>rdInt16_c h1 h2)
theorem rk_tags {gv:Value}:Er.RkOk Tryz.prog 109 .nilIface 0 gv 95 (.tags):=by
 apply @readTags_ok .nilIface gv 0
theorem rk_CompactNullableString {gv:Value}:Er.RkOk Tryz.prog 109 .nilIface 0 gv 101 (.val 8 true true):=by
 apply Er.rk_textN
 exact (fun h1 h2=>rdCompactNullableString_c h1 h2)
theorem rk_NullableString {gv:Value}:Er.RkOk Tryz.prog 109 .nilIface 0 gv 103 (.val 8 true false):=by
 apply Er.rk_textN
 exact (fun h1 h2=>rdNullableString_c h1 h2)
theorem rk_dflt_JoinGroupRequestProtocol {gv:Value}:Er.RkOk Tryz.prog 109 .nilIface 0 gv 104 (.dflt []):=by
 apply @dflt_JoinGroupRequestProtocol .nilIface gv 0
theorem rk_CompactBytes {gv:Value}:Er.RkOk Tryz.prog 109 .nilIface 0 gv 105 (.val 9 false true):=by
 apply Er.rk_bytes
 exact (fun h1 h2=>rdCompactBytes_c h1 h2)
theorem rk_Bytes {gv:Value}:Er.RkOk Tryz.prog 109 .nilIface 0 gv 106 (.val 9 false false):=by
 apply Er.rk_bytes
 exact (fun h1 h2=>rdBytes_c h1 h2)
theorem rk_dflt_AlterShareGroupOffsetsRequestTopic {gv:Value}:Er.RkOk Tryz.prog 109 .nilIface 0 gv 107 (.dflt []):=by
 apply @dflt_AlterShareGroupOffsetsRequestTopic .nilIface gv 0
theorem rk_dflt_AlterShareGroupOffsetsRequestTopicPartition {gv:Value}:Er.RkOk Tryz.prog 109 .nilIface 0 gv 108 (.dflt []):=by
 apply @dflt_AlterShareGroupOffsetsRequestTopicPartition .nilIface gv 0
theorem rk_dflt_ProduceRequestTopic {gv:Value}:Er.RkOk Tryz.prog 109 .nilIface 0 gv 109 (.dflt []):=by
 apply @dflt_ProduceRequestTopic .nilIface gv 0
theorem rk_dflt_ProduceRequestTopicPartition {gv:Value}:Er.RkOk Tryz.prog 109 .nilIface 0 gv 110 (.dflt []):=by
 apply @dflt_ProduceRequestTopicPartition .nilIface gv 0
theorem rk_CompactNullableBytes {gv:Value}:Er.RkOk Tryz.prog 109 .nilIface 0 gv 111 (.val 9 true true):=by
 apply Er.rk_bytes
 exact (fun h1 h2=>rdCompactNullableBytes_c h1 h2)
theorem rk_NullableBytes {gv:Value}:Er.RkOk Tryz.prog 109 .nilIface 0 gv 112 (.val 9 true false):=by
 apply Er.rk_bytes
 exact (fun h1 h2=>rdNullableBytes_c h1 h2)
def cfgR:List (Nat × Er.RK):=(51,.dflt []) :: (65,.dflt [(3,(.int .i32 (-1):Value))]) :: (67,.dflt []) :: (70,.dflt [(3,(.int .i32 (15000):Value))]) :: (81,.val 8 false true) :: (82,.val 8 false false) :: (83,.cnt true) :: (84,.cnt false) :: (85,.ok) :: (86,.done) :: (87,.dflt []) :: (88,.val 7 false false) :: (89,.dflt [(4,(.int .i32 (-1):Value))]) :: (90,.val 3 false false) :: (91,.val 4 false false) :: (92,.dflt []) :: (93,.val 1 false false) :: (94,.val 2 false false) :: (95,.tags) :: (101,.val 8 true true) :: (103,.val 8 true false) :: (104,.dflt []) :: (105,.val 9 false true) :: (106,.val 9 false false) :: (107,.dflt []) :: (108,.dflt []) :: (109,.dflt []) :: (110,.dflt []) :: (111,.val 9 true true) :: (112,.val 9 true false) :: []
noncomputable def cxR (gv:Value) (n m rt V:Nat) (flex:Bool):Er.Cx:=⟨Tryz.prog,n,m,rt,109,cfgR,V,flex,.nilIface,0,gv⟩
theorem cfgR_ok {gv:Value} {n m rt V:Nat} {flex:Bool}:Er.CfgOk (cxR gv n m rt V flex):=by
 intro f ck h
 simp only [cxR,cfgR,List.mem_cons,Prod.mk.injEq,List.not_mem_nil,or_false] at h
 rcases h with ⟨rfl,rfl⟩ | ⟨rfl,rfl⟩ | ⟨rfl,rfl⟩ | ⟨rfl,rfl⟩ | ⟨rfl,rfl⟩ | ⟨rfl,rfl⟩ | ⟨rfl,rfl⟩ | ⟨rfl,rfl⟩ | ⟨rfl,rfl⟩ | ⟨rfl,rfl⟩ | ⟨rfl,rfl⟩ | ⟨rfl,rfl⟩ | ⟨rfl,rfl⟩ | ⟨rfl,rfl⟩ | ⟨rfl,rfl⟩ | ⟨rfl,rfl⟩ | ⟨rfl,rfl⟩ | ⟨rfl,rfl⟩ | ⟨rfl,rfl⟩ | ⟨rfl,rfl⟩ | ⟨rfl,rfl⟩ | ⟨rfl,rfl⟩ | ⟨rfl,rfl⟩ | ⟨rfl,rfl⟩ | ⟨rfl,rfl⟩ | ⟨rfl,rfl⟩ | ⟨rfl,rfl⟩ | ⟨rfl,rfl⟩ | ⟨rfl,rfl⟩ | ⟨rfl,rfl⟩
 ·exact ⟨@rk_dflt_WriteShareGroupStateRequest gv,cb_51⟩
 ·exact ⟨@rk_dflt_JoinGroupRequest gv,cb_65⟩
 ·exact ⟨@rk_dflt_AlterShareGroupOffsetsRequest gv,cb_67⟩
 ·exact ⟨@rk_dflt_ProduceRequest gv,cb_70⟩
 ·exact ⟨@rk_CompactString gv,cb_81⟩
 ·exact ⟨@rk_String gv,cb_82⟩
 ·exact ⟨@rk_CompactArrayLen gv,cb_83⟩
 ·exact ⟨@rk_ArrayLen gv,cb_84⟩
 ·exact ⟨@rk_Ok gv,cb_85⟩
 ·exact ⟨@rk_Complete gv,cb_86⟩
 ·exact ⟨@rk_dflt_WriteShareGroupStateRequestTopic gv,cb_87⟩
 ·exact ⟨@rk_Uuid gv,cb_88⟩
 ·exact ⟨@rk_dflt_WriteShareGroupStateRequestTopicPartition gv,cb_89⟩
 ·exact ⟨@rk_Int32 gv,cb_90⟩
 ·exact ⟨@rk_Int64 gv,cb_91⟩
 ·exact ⟨@rk_dflt_WriteShareGroupStateRequestTopicPartitionStateBatch gv,cb_92⟩
 ·exact ⟨@rk_Int8 gv,cb_93⟩
 ·exact ⟨@rk_Int16 gv,cb_94⟩
 ·exact ⟨@rk_tags gv,cb_95⟩
 ·exact ⟨@rk_CompactNullableString gv,cb_101⟩
 ·exact ⟨@rk_NullableString gv,cb_103⟩
 ·exact ⟨@rk_dflt_JoinGroupRequestProtocol gv,cb_104⟩
 ·exact ⟨@rk_CompactBytes gv,cb_105⟩
 ·exact ⟨@rk_Bytes gv,cb_106⟩
 ·exact ⟨@rk_dflt_AlterShareGroupOffsetsRequestTopic gv,cb_107⟩
 ·exact ⟨@rk_dflt_AlterShareGroupOffsetsRequestTopicPartition gv,cb_108⟩
 ·exact ⟨@rk_dflt_ProduceRequestTopic gv,cb_109⟩
 ·exact ⟨@rk_dflt_ProduceRequestTopicPartition gv,cb_110⟩
 ·exact ⟨@rk_CompactNullableBytes gv,cb_111⟩
 ·exact ⟨@rk_NullableBytes gv,cb_112⟩
end Go.Proofs.YthblgheenamnhaaGreatDoorR
