/- Walks of functions that the laws of this seat reach. No statement of the seat stands here. -/
import Derived.Test.YtpjichobdalpjaaGreatDoorL5
import Derived.Test.YtpjichobdalpjaaGreatDoorRows
import Derived.Test.YtpjichobdalpjaaGreatDoorFa
import Derived.Test.YtpjichobdalpjaaGreatDoorRi
namespace Go.Proofs.YtpjichobdalpjaaGreatDoor
open Go Go.Mk
theorem mixedU : Tryz.prog.follows .mixedOrders = true := Tryz.checked.mixed
theorem rdUuid_c {w0 : World} {Y : Nat → Prop} {rb : Nat} {s : RS} (hb : RdrAt w0 Y rb 197 s) (hY : Y rb) : Ret Tryz.prog 168 [.pointer (some ⟨rb, 0, none⟩)] w0 fun v w' => Agr (fun k => k = rb) w0 w' ∧ v = .agg (bv (sixteen ((RS.span 16 s).1.getD []))).toArray ∧ RdrAt w' (fun b => b < w0.heap.size ∧ Y b) rb 197 (RS.span 16 s).2 := by
  obtain ⟨x0, hbk, hx0⟩ := hb
  refine c_call Tryz.func168 rfl rfl fun a hk => ?_
  have hk : Kn 9 [(0, .pointer (some ⟨rb, 0, none⟩))] a := hk
  have hm : Mem w0 (fun k => k = rb) Y [.blk rb [x0, .bool s.bad] 197, .rep (ddSrc s.src) [x0]] w0 := Mem.startBlk hbk hY rfl (by simp only [List.forall_mem_cons, List.not_mem_nil, false_imp_iff, implies_true, and_true]; exact hx0)
  refine c_region ?_
  refine o_alloc hk hm tz_101 rfl rfl fun a b1 w hk hm => ?_
  refine c_end ?_
  refine c_region ?_
  refine o_alloc hk hm tz_101 rfl rfl fun a b2 w hk hm => ?_
  refine c_end ?_
  refine wp_seq ?_
  refine d_start (fun _ => True) 3 mixedU ?_
  have hm := hm.pure (Agr.drew Nob w)
  generalize w.drew = w at hm ⊢
  refine d_takeF (i := 0) rfl rfl rfl (by kernel_rfl) (fun _ _ _ h => h) hk rfl (fun w => r_sliceArr hk at_101 ts_5 rfl) (fun _ => trivial) fun a hk => ?_
  refine d_takeF (i := 1) rfl rfl rfl (by kernel_rfl) (fun _ _ _ h => h) hk rfl (fun w => r_move hk rfl) (fun _ => trivial) fun a hk => ?_
  refine d_one (k := 2) (by kernel_rfl) rfl rfl ?_
  refine o_call hk cb_220 (rdSpan_c 16 ⟨x0, hm.blkAt (i := 2) rfl, hm.rep (i := 3) rfl⟩ (hm.yofBlk (i := 2) rfl)) ⟨rfl, rfl, trivial⟩ rfl fun v w a hR hk => ?_
  obtain ⟨hp, hv, x1, hb1, hx1⟩ := hR
  have hm := hm.blkCall2 (i := 2) rfl hp hb1 hx1 hv
  refine c_endQ (c_then ⟨fun _ => trivial, ?_⟩)
  refine d_one (k := 3) (by kernel_rfl) rfl rfl ?_
  refine o_copyB (i := 2) hk hm te_22 cz_5 rfl rfl rfl rfl (src_bytes (hm.rep (i := 0) rfl)) rfl fun a w hk hm => ?_
  have e16 : (bv ((RS.span 16 s).1.getD [])).take 16 ++ List.drop ((RS.span 16 s).1.getD []).length [Value.int .u8 0, Value.int .u8 0, Value.int .u8 0, Value.int .u8 0, Value.int .u8 0, Value.int .u8 0, Value.int .u8 0, Value.int .u8 0, Value.int .u8 0, Value.int .u8 0, Value.int .u8 0, Value.int .u8 0, Value.int .u8 0, Value.int .u8 0, Value.int .u8 0, Value.int .u8 0] = bv (sixteen ((RS.span 16 s).1.getD [])) := sixteen_copied _
  have hm : Mem w0 (fun k => k = rb) Y [.rep (ddSrc (RS.span 16 s).1) [v], .rep (ddSrc (RS.span 16 s).2.src) [x1], .blk b2 ((bv ((RS.span 16 s).1.getD [])).take 16 ++ List.drop ((RS.span 16 s).1.getD []).length [Value.int .u8 0, Value.int .u8 0, Value.int .u8 0, Value.int .u8 0, Value.int .u8 0, Value.int .u8 0, Value.int .u8 0, Value.int .u8 0, Value.int .u8 0, Value.int .u8 0, Value.int .u8 0, Value.int .u8 0, Value.int .u8 0, Value.int .u8 0, Value.int .u8 0, Value.int .u8 0]) 101, .blk b1 [Value.int .u8 0, Value.int .u8 0, Value.int .u8 0, Value.int .u8 0, Value.int .u8 0, Value.int .u8 0, Value.int .u8 0, Value.int .u8 0, Value.int .u8 0, Value.int .u8 0, Value.int .u8 0, Value.int .u8 0, Value.int .u8 0, Value.int .u8 0, Value.int .u8 0, Value.int .u8 0] 101, .blk rb [x1, .bool (RS.span 16 s).2.bad] 197, .rep (ddSrc s.src) [x0]] w := hm
  rw [e16] at hm
  refine c_endQ (c_then ⟨fun _ => trivial, ?_⟩)
  refine d_done (by kernel_rfl) ?_ _
  refine c_then ?_
  have hl : (bv (sixteen ((RS.span 16 s).1.getD []))).length = 16 := by rw [bv_length, sixteen_length]
  refine c_region ?_
  refine o_loadN (cs := bv (sixteen ((RS.span 16 s).1.getD []))) hk (by rw [hl]; exact ts_101) rfl (hm.cells_blk (i := 2) rfl (by simp)) rfl fun a hk => ?_
  refine o_store (i := 3) (vs := bv (sixteen ((RS.span 16 s).1.getD []))) hk hm (s := 16) ts_101 rfl rfl (by simp [cellsOf]) hl (bv_one _) rfl (by rw [hl]; exact Nat.le_refl _) fun a w hk hm => ?_
  have hm : Mem w0 (fun k => k = rb) Y [.rep (ddSrc (RS.span 16 s).1) [v], .rep (ddSrc (RS.span 16 s).2.src) [x1], .blk b2 (bv (sixteen ((RS.span 16 s).1.getD []))) 101, .blk b1 (spl [Value.int .u8 0, Value.int .u8 0, Value.int .u8 0, Value.int .u8 0, Value.int .u8 0, Value.int .u8 0, Value.int .u8 0, Value.int .u8 0, Value.int .u8 0, Value.int .u8 0, Value.int .u8 0, Value.int .u8 0, Value.int .u8 0, Value.int .u8 0, Value.int .u8 0, Value.int .u8 0] 0 (bv (sixteen ((RS.span 16 s).1.getD [])))) 101, .blk rb [x1, .bool (RS.span 16 s).2.bad] 197, .rep (ddSrc s.src) [x0]] w := hm
  rw [spl_whole (by rw [hl]; rfl)] at hm
  refine c_end ?_
  refine wp_ret ?_
  refine b_retCell (i := 3) (cs := bv (sixteen ((RS.span 16 s).1.getD []))) rfl (by rw [hl]; exact ts_101) hk hm rfl rfl ?_
  exact ⟨hm.agr, rfl, x1, hm.blkAt (i := 4) rfl, hm.out (hm.rep (i := 1) rfl)⟩
theorem rdOk_ok {good gv : Value} {gb : Nat} : Er.RkOk Tryz.prog 197 good gb gv 165 .ok := by
  intro w0 Y rb s hb
  obtain ⟨x, hb, -⟩ := hb
  refine c_call Tryz.func165 rfl rfl fun a hk => ?_
  have hk : Kn 8 [(0, .pointer (some ⟨rb, 0, none⟩))] a := hk
  refine c_region ?_
  refine o_assign hk rfl rfl fun a hk => ?_
  refine c_end ?_
  refine c_region ?_
  refine o_move hk rfl rfl fun a hk => ?_
  refine o_nilCheck hk rfl rfl fun a hk => ?_
  refine o_fieldAddr hk fo_197_1 rfl rfl fun a hk => ?_
  refine o_load hk ts_4 rfl (show w0.cell? _ = some (.bool s.bad) by simp [World.cell?, hb]) rfl fun a hk => ?_
  refine o_not hk rfl rfl fun a hk => ?_
  refine o_assign hk rfl rfl fun a hk => ?_
  refine c_end ?_
  refine wp_ret ?_
  refine b_retTmp rfl hk rfl ?_
  exact ⟨rfl, rfl⟩
theorem dflt_ShareFetchResponse {good gv : Value} {gb : Nat} : Er.RkOk Tryz.prog 197 good gb gv 101 (.dflt []) := Er.rk_dflt0 (er := 197) (good := good) (gb := gb) (gv := gv) Tryz.func101 rfl rfl rfl
theorem dflt_DescribeQuorumResponse {good gv : Value} {gb : Nat} : Er.RkOk Tryz.prog 197 good gb gv 118 (.dflt []) := Er.rk_dflt0 (er := 197) (good := good) (gb := gb) (gv := gv) Tryz.func118 rfl rfl rfl
theorem dflt_ConsumerGroupDescribeRequest {good gv : Value} {gb : Nat} : Er.RkOk Tryz.prog 197 good gb gv 125 (.dflt []) := Er.rk_dflt0 (er := 197) (good := good) (gb := gb) (gv := gv) Tryz.func125 rfl rfl rfl
theorem dflt_ListPartitionReassignmentsRequest {good gv : Value} {gb : Nat} : Er.RkOk Tryz.prog 197 good gb gv 135 (.dflt [(1, (.int .i32 (60000) : Value))]) := by
  intro w0 b ty pre c post hbk hd
  have h0 : 1 < c.length := hd (1, .int .i32 (60000)) (by simp)
  refine c_call Tryz.func135 rfl rfl fun a hk => ?_
  have hk : Kn 5 [(0, .pointer (some ⟨b, pre.length, none⟩))] a := hk
  have hm : Mem w0 (fun k => k = b) (fun k => k = b) [.blk b (pre ++ c ++ post) ty] w0 := Mem.startBlk (Z := fun k => k = b) (m := []) hbk rfl rfl (by simp)
  refine c_reg ?_
  refine o_move hk rfl rfl fun a hk => ?_
  refine o_nilCheck hk rfl rfl fun a hk => ?_
  refine o_fieldAddr hk fo_144_1 rfl rfl fun a hk => ?_
  refine o_store (i := 0) hk hm ts_21 rfl rfl rfl rfl rfl rfl (show pre.length + 1 + 1 ≤ _ by simp only [List.length_append]; omega) fun a w hk hm => ?_
  have hm : Mem w0 (fun k => k = b) (fun k => k = b) [.blk b (pre ++ (c.set 1 (.int .i32 (60000))) ++ post) ty] w := by rw [← spl_mid (by simpa using h0)]; exact hm
  refine c_endQ ?_
  refine b_endNone rfl hk ?_
  exact ⟨hm.agr, hm.all _ (entAt_mem (i := 0) rfl)⟩
theorem dflt_AssignReplicasToDirsRequest {good gv : Value} {gb : Nat} : Er.RkOk Tryz.prog 197 good gb gv 140 (.dflt [(2, (.int .i64 (-1) : Value))]) := by
  intro w0 b ty pre c post hbk hd
  have h0 : 2 < c.length := hd (2, .int .i64 (-1)) (by simp)
  refine c_call Tryz.func140 rfl rfl fun a hk => ?_
  have hk : Kn 5 [(0, .pointer (some ⟨b, pre.length, none⟩))] a := hk
  have hm : Mem w0 (fun k => k = b) (fun k => k = b) [.blk b (pre ++ c ++ post) ty] w0 := Mem.startBlk (Z := fun k => k = b) (m := []) hbk rfl rfl (by simp)
  refine c_reg ?_
  refine o_move hk rfl rfl fun a hk => ?_
  refine o_nilCheck hk rfl rfl fun a hk => ?_
  refine o_fieldAddr hk fo_153_2 rfl rfl fun a hk => ?_
  refine o_store (i := 0) hk hm ts_2 rfl rfl rfl rfl rfl rfl (show pre.length + 2 + 1 ≤ _ by simp only [List.length_append]; omega) fun a w hk hm => ?_
  have hm : Mem w0 (fun k => k = b) (fun k => k = b) [.blk b (pre ++ (c.set 2 (.int .i64 (-1))) ++ post) ty] w := by rw [← spl_mid (by simpa using h0)]; exact hm
  refine c_endQ ?_
  refine b_endNone rfl hk ?_
  exact ⟨hm.agr, hm.all _ (entAt_mem (i := 0) rfl)⟩
theorem dflt_ListGroupsResponse {good gv : Value} {gb : Nat} : Er.RkOk Tryz.prog 197 good gb gv 145 (.dflt []) := Er.rk_dflt0 (er := 197) (good := good) (gb := gb) (gv := gv) Tryz.func145 rfl rfl rfl
theorem dflt_CreatePartitionsRequest {good gv : Value} {gb : Nat} : Er.RkOk Tryz.prog 197 good gb gv 148 (.dflt [(2, (.int .i32 (15000) : Value))]) := by
  intro w0 b ty pre c post hbk hd
  have h0 : 2 < c.length := hd (2, .int .i32 (15000)) (by simp)
  refine c_call Tryz.func148 rfl rfl fun a hk => ?_
  have hk : Kn 5 [(0, .pointer (some ⟨b, pre.length, none⟩))] a := hk
  have hm : Mem w0 (fun k => k = b) (fun k => k = b) [.blk b (pre ++ c ++ post) ty] w0 := Mem.startBlk (Z := fun k => k = b) (m := []) hbk rfl rfl (by simp)
  refine c_reg ?_
  refine o_move hk rfl rfl fun a hk => ?_
  refine o_nilCheck hk rfl rfl fun a hk => ?_
  refine o_fieldAddr hk fo_176_2 rfl rfl fun a hk => ?_
  refine o_store (i := 0) hk hm ts_21 rfl rfl rfl rfl rfl rfl (show pre.length + 2 + 1 ≤ _ by simp only [List.length_append]; omega) fun a w hk hm => ?_
  have hm : Mem w0 (fun k => k = b) (fun k => k = b) [.blk b (pre ++ (c.set 2 (.int .i32 (15000))) ++ post) ty] w := by rw [← spl_mid (by simpa using h0)]; exact hm
  refine c_endQ ?_
  refine b_endNone rfl hk ?_
  exact ⟨hm.agr, hm.all _ (entAt_mem (i := 0) rfl)⟩
theorem dflt_AlterPartitionResponse {good gv : Value} {gb : Nat} : Er.RkOk Tryz.prog 197 good gb gv 151 (.dflt []) := Er.rk_dflt0 (er := 197) (good := good) (gb := gb) (gv := gv) Tryz.func151 rfl rfl rfl
theorem dflt_ShareFetchResponseTopic {good gv : Value} {gb : Nat} : Er.RkOk Tryz.prog 197 good gb gv 167 (.dflt []) := Er.rk_dflt0 (er := 197) (good := good) (gb := gb) (gv := gv) Tryz.func167 rfl rfl rfl
theorem dflt_ShareFetchResponseTopicPartition {good gv : Value} {gb : Nat} : Er.RkOk Tryz.prog 197 good gb gv 169 (.dflt []) := by
  intro w0 b ty pre c post hbk hd
  refine c_call Tryz.func169 rfl rfl fun a hk => ?_
  have hk : Kn 7 [(0, .pointer (some ⟨b, pre.length, none⟩))] a := hk
  have hm : Mem w0 (fun k => k = b) (fun k => k = b) [.blk b (pre ++ c ++ post) ty] w0 := Mem.startBlk (Z := fun k => k = b) (m := []) hbk rfl rfl (by simp)
  refine c_region ?_
  refine o_move hk rfl rfl fun a hk => ?_
  refine o_nilCheck hk rfl rfl fun a hk => ?_
  refine o_fieldAddr hk fo_208_5 rfl rfl fun a hk => ?_
  refine o_assign hk rfl rfl fun a hk => ?_
  refine c_end ?_
  refine c_reg ?_
  refine o_move hk rfl rfl fun a hk => ?_
  refine c_endQ ?_
  refine b_endNone rfl hk ?_
  exact ⟨hm.agr, hm.all _ (entAt_mem (i := 0) rfl)⟩
theorem dflt_ShareFetchResponseTopicPartitionCurrentLeader {good gv : Value} {gb : Nat} : Er.RkOk Tryz.prog 197 good gb gv 170 (.dflt []) := Er.rk_dflt0 (er := 197) (good := good) (gb := gb) (gv := gv) Tryz.func170 rfl rfl rfl
theorem dflt_ShareFetchResponseTopicPartitionAcquiredRecord {good gv : Value} {gb : Nat} : Er.RkOk Tryz.prog 197 good gb gv 174 (.dflt []) := Er.rk_dflt0 (er := 197) (good := good) (gb := gb) (gv := gv) Tryz.func174 rfl rfl rfl
theorem dflt_ShareFetchResponseNodeEndpoint {good gv : Value} {gb : Nat} : Er.RkOk Tryz.prog 197 good gb gv 176 (.dflt []) := Er.rk_dflt0 (er := 197) (good := good) (gb := gb) (gv := gv) Tryz.func176 rfl rfl rfl
theorem dflt_DescribeQuorumResponseTopic {good gv : Value} {gb : Nat} : Er.RkOk Tryz.prog 197 good gb gv 189 (.dflt []) := Er.rk_dflt0 (er := 197) (good := good) (gb := gb) (gv := gv) Tryz.func189 rfl rfl rfl
theorem dflt_DescribeQuorumResponseTopicPartition {good gv : Value} {gb : Nat} : Er.RkOk Tryz.prog 197 good gb gv 190 (.dflt []) := Er.rk_dflt0 (er := 197) (good := good) (gb := gb) (gv := gv) Tryz.func190 rfl rfl rfl
theorem dflt_DescribeQuorumResponseTopicPartitionReplicaState {good gv : Value} {gb : Nat} : Er.RkOk Tryz.prog 197 good gb gv 191 (.dflt [(18, (.int .i64 (-1) : Value)), (19, (.int .i64 (-1) : Value))]) := by
  intro w0 b ty pre c post hbk hd
  have h0 : 18 < c.length := hd (18, .int .i64 (-1)) (by simp)
  have h1 : 19 < c.length := hd (19, .int .i64 (-1)) (by simp)
  refine c_call Tryz.func191 rfl rfl fun a hk => ?_
  have hk : Kn 8 [(0, .pointer (some ⟨b, pre.length, none⟩))] a := hk
  have hm : Mem w0 (fun k => k = b) (fun k => k = b) [.blk b (pre ++ c ++ post) ty] w0 := Mem.startBlk (Z := fun k => k = b) (m := []) hbk rfl rfl (by simp)
  refine c_region ?_
  refine o_move hk rfl rfl fun a hk => ?_
  refine o_nilCheck hk rfl rfl fun a hk => ?_
  refine o_fieldAddr hk fo_233_3 rfl rfl fun a hk => ?_
  refine o_store (i := 0) hk hm ts_2 rfl rfl rfl rfl rfl rfl (show pre.length + 18 + 1 ≤ _ by simp only [List.length_append]; omega) fun a w hk hm => ?_
  have hm : Mem w0 (fun k => k = b) (fun k => k = b) [.blk b (pre ++ (c.set 18 (.int .i64 (-1))) ++ post) ty] w := by rw [← spl_mid (by simpa using h0)]; exact hm
  refine c_end ?_
  refine c_reg ?_
  refine o_move hk rfl rfl fun a hk => ?_
  refine o_nilCheck hk rfl rfl fun a hk => ?_
  refine o_fieldAddr hk fo_233_4 rfl rfl fun a hk => ?_
  refine o_store (i := 0) hk hm ts_2 rfl rfl rfl rfl rfl rfl (show pre.length + 19 + 1 ≤ _ by simp only [List.length_append, List.length_set]; omega) fun a w hk hm => ?_
  have hm : Mem w0 (fun k => k = b) (fun k => k = b) [.blk b (pre ++ ((c.set 18 (.int .i64 (-1))).set 19 (.int .i64 (-1))) ++ post) ty] w := by rw [← spl_mid (by simpa using h1)]; exact hm
  refine c_endQ ?_
  refine b_endNone rfl hk ?_
  exact ⟨hm.agr, hm.all _ (entAt_mem (i := 0) rfl)⟩
theorem dflt_DescribeQuorumResponseNode {good gv : Value} {gb : Nat} : Er.RkOk Tryz.prog 197 good gb gv 192 (.dflt []) := Er.rk_dflt0 (er := 197) (good := good) (gb := gb) (gv := gv) Tryz.func192 rfl rfl rfl
theorem dflt_DescribeQuorumResponseNodeListener {good gv : Value} {gb : Nat} : Er.RkOk Tryz.prog 197 good gb gv 193 (.dflt []) := Er.rk_dflt0 (er := 197) (good := good) (gb := gb) (gv := gv) Tryz.func193 rfl rfl rfl
theorem dflt_ListPartitionReassignmentsRequestTopic {good gv : Value} {gb : Nat} : Er.RkOk Tryz.prog 197 good gb gv 202 (.dflt []) := Er.rk_dflt0 (er := 197) (good := good) (gb := gb) (gv := gv) Tryz.func202 rfl rfl rfl
theorem dflt_AssignReplicasToDirsRequestDirectory {good gv : Value} {gb : Nat} : Er.RkOk Tryz.prog 197 good gb gv 205 (.dflt []) := Er.rk_dflt0 (er := 197) (good := good) (gb := gb) (gv := gv) Tryz.func205 rfl rfl rfl
theorem dflt_AssignReplicasToDirsRequestDirectoryTopic {good gv : Value} {gb : Nat} : Er.RkOk Tryz.prog 197 good gb gv 206 (.dflt []) := Er.rk_dflt0 (er := 197) (good := good) (gb := gb) (gv := gv) Tryz.func206 rfl rfl rfl
theorem dflt_AssignReplicasToDirsRequestDirectoryTopicPartition {good gv : Value} {gb : Nat} : Er.RkOk Tryz.prog 197 good gb gv 207 (.dflt []) := Er.rk_dflt0 (er := 197) (good := good) (gb := gb) (gv := gv) Tryz.func207 rfl rfl rfl
theorem dflt_ListGroupsResponseGroup {good gv : Value} {gb : Nat} : Er.RkOk Tryz.prog 197 good gb gv 209 (.dflt []) := Er.rk_dflt0 (er := 197) (good := good) (gb := gb) (gv := gv) Tryz.func209 rfl rfl rfl
theorem dflt_CreatePartitionsRequestTopic {good gv : Value} {gb : Nat} : Er.RkOk Tryz.prog 197 good gb gv 211 (.dflt []) := Er.rk_dflt0 (er := 197) (good := good) (gb := gb) (gv := gv) Tryz.func211 rfl rfl rfl
theorem dflt_CreatePartitionsRequestTopicAssignment {good gv : Value} {gb : Nat} : Er.RkOk Tryz.prog 197 good gb gv 212 (.dflt []) := Er.rk_dflt0 (er := 197) (good := good) (gb := gb) (gv := gv) Tryz.func212 rfl rfl rfl
theorem dflt_AlterPartitionResponseTopic {good gv : Value} {gb : Nat} : Er.RkOk Tryz.prog 197 good gb gv 213 (.dflt []) := Er.rk_dflt0 (er := 197) (good := good) (gb := gb) (gv := gv) Tryz.func213 rfl rfl rfl
theorem dflt_AlterPartitionResponseTopicPartition {good gv : Value} {gb : Nat} : Er.RkOk Tryz.prog 197 good gb gv 214 (.dflt []) := Er.rk_dflt0 (er := 197) (good := good) (gb := gb) (gv := gv) Tryz.func214 rfl rfl rfl
theorem rk_dflt_ShareFetchResponse {gv : Value} : Er.RkOk Tryz.prog 197 .nilIface 1 gv 101 (.dflt []) := by
  apply @dflt_ShareFetchResponse .nilIface gv 1
theorem rk_dflt_DescribeQuorumResponse {gv : Value} : Er.RkOk Tryz.prog 197 .nilIface 1 gv 118 (.dflt []) := by
  apply @dflt_DescribeQuorumResponse .nilIface gv 1
theorem rk_dflt_ConsumerGroupDescribeRequest {gv : Value} : Er.RkOk Tryz.prog 197 .nilIface 1 gv 125 (.dflt []) := by
  apply @dflt_ConsumerGroupDescribeRequest .nilIface gv 1
theorem rk_dflt_ListPartitionReassignmentsRequest {gv : Value} : Er.RkOk Tryz.prog 197 .nilIface 1 gv 135 (.dflt [(1, (.int .i32 (60000) : Value))]) := by
  apply @dflt_ListPartitionReassignmentsRequest .nilIface gv 1
theorem rk_dflt_AssignReplicasToDirsRequest {gv : Value} : Er.RkOk Tryz.prog 197 .nilIface 1 gv 140 (.dflt [(2, (.int .i64 (-1) : Value))]) := by
  apply @dflt_AssignReplicasToDirsRequest .nilIface gv 1
theorem rk_dflt_ListGroupsResponse {gv : Value} : Er.RkOk Tryz.prog 197 .nilIface 1 gv 145 (.dflt []) := by
  apply @dflt_ListGroupsResponse .nilIface gv 1
theorem rk_dflt_CreatePartitionsRequest {gv : Value} : Er.RkOk Tryz.prog 197 .nilIface 1 gv 148 (.dflt [(2, (.int .i32 (15000) : Value))]) := by
  apply @dflt_CreatePartitionsRequest .nilIface gv 1
theorem rk_dflt_AlterPartitionResponse {gv : Value} : Er.RkOk Tryz.prog 197 .nilIface 1 gv 151 (.dflt []) := by
  apply @dflt_AlterPartitionResponse .nilIface gv 1
theorem rk_Int32 {gv : Value} : Er.RkOk Tryz.prog 197 .nilIface 1 gv 157 (.val 3 false false) := by
  apply Er.rk_num (k := 3) (ik := .i32) rfl
  exact (fun h1 h2 => rdInt32_c h1 h2)
theorem rk_Int16 {gv : Value} : Er.RkOk Tryz.prog 197 .nilIface 1 gv 158 (.val 2 false false) := by
  apply Er.rk_num (k := 2) (ik := .i16) rfl
  exact (fun h1 h2 => rdInt16_c h1 h2)
theorem rk_UnsafeCompactNullableString {gv : Value} : Er.RkOk Tryz.prog 197 .nilIface 1 gv 159 (.val 8 true true) := by
  apply Er.rk_textN
  exact (fun h1 h2 => rdUnsafeCompactNullableString_c h1 h2)
theorem rk_CompactNullableString {gv : Value} : Er.RkOk Tryz.prog 197 .nilIface 1 gv 160 (.val 8 true true) := by
  apply Er.rk_textN
  exact (fun h1 h2 => rdCompactNullableString_c h1 h2)
theorem rk_UnsafeNullableString {gv : Value} : Er.RkOk Tryz.prog 197 .nilIface 1 gv 161 (.val 8 true false) := by
  apply Er.rk_textN
  exact (fun h1 h2 => rdUnsafeNullableString_c h1 h2)
theorem rk_NullableString {gv : Value} : Er.RkOk Tryz.prog 197 .nilIface 1 gv 162 (.val 8 true false) := by
  apply Er.rk_textN
  exact (fun h1 h2 => rdNullableString_c h1 h2)
theorem rk_CompactArrayLen {gv : Value} : Er.RkOk Tryz.prog 197 .nilIface 1 gv 163 (.cnt true) := by
  apply (fun {w0 Y rb s} => rdCompactArrayLen_c (w0 := w0) (Y := Y) (rb := rb) (s := s))
theorem rk_ArrayLen {gv : Value} : Er.RkOk Tryz.prog 197 .nilIface 1 gv 164 (.cnt false) := by
  apply (fun {w0 Y rb s} => rdArrayLen_c (w0 := w0) (Y := Y) (rb := rb) (s := s))
theorem rk_Ok {gv : Value} : Er.RkOk Tryz.prog 197 .nilIface 1 gv 165 (.ok) := by
  apply @rdOk_ok .nilIface gv 1
theorem rk_Complete {gv : Value} : Er.RkOk Tryz.prog 197 .nilIface 1 gv 166 (.done) := by
  apply @rdComplete_c gv
theorem rk_dflt_ShareFetchResponseTopic {gv : Value} : Er.RkOk Tryz.prog 197 .nilIface 1 gv 167 (.dflt []) := by
  apply @dflt_ShareFetchResponseTopic .nilIface gv 1
theorem rk_Uuid {gv : Value} : Er.RkOk Tryz.prog 197 .nilIface 1 gv 168 (.val 7 false false) := by
  apply Er.rk_uuid
  exact (fun h1 h2 => rdUuid_c h1 h2)
theorem rk_dflt_ShareFetchResponseTopicPartition {gv : Value} : Er.RkOk Tryz.prog 197 .nilIface 1 gv 169 (.dflt []) := by
  apply @dflt_ShareFetchResponseTopicPartition .nilIface gv 1
theorem rk_dflt_ShareFetchResponseTopicPartitionCurrentLeader {gv : Value} : Er.RkOk Tryz.prog 197 .nilIface 1 gv 170 (.dflt []) := by
  apply @dflt_ShareFetchResponseTopicPartitionCurrentLeader .nilIface gv 1
theorem rk_tags {gv : Value} : Er.RkOk Tryz.prog 197 .nilIface 1 gv 171 (.tags) := by
  apply @readTags_ok .nilIface gv 1
theorem rk_CompactNullableBytes {gv : Value} : Er.RkOk Tryz.prog 197 .nilIface 1 gv 172 (.val 9 true true) := by
  apply Er.rk_bytes
  exact (fun h1 h2 => rdCompactNullableBytes_c h1 h2)
theorem rk_NullableBytes {gv : Value} : Er.RkOk Tryz.prog 197 .nilIface 1 gv 173 (.val 9 true false) := by
  apply Er.rk_bytes
  exact (fun h1 h2 => rdNullableBytes_c h1 h2)
theorem rk_dflt_ShareFetchResponseTopicPartitionAcquiredRecord {gv : Value} : Er.RkOk Tryz.prog 197 .nilIface 1 gv 174 (.dflt []) := by
  apply @dflt_ShareFetchResponseTopicPartitionAcquiredRecord .nilIface gv 1
theorem rk_Int64 {gv : Value} : Er.RkOk Tryz.prog 197 .nilIface 1 gv 175 (.val 4 false false) := by
  apply Er.rk_num (k := 4) (ik := .i64) rfl
  exact (fun h1 h2 => rdInt64_c h1 h2)
theorem rk_dflt_ShareFetchResponseNodeEndpoint {gv : Value} : Er.RkOk Tryz.prog 197 .nilIface 1 gv 176 (.dflt []) := by
  apply @dflt_ShareFetchResponseNodeEndpoint .nilIface gv 1
theorem rk_UnsafeCompactString {gv : Value} : Er.RkOk Tryz.prog 197 .nilIface 1 gv 177 (.val 8 false true) := by
  apply Er.rk_text
  exact (fun h1 h2 => rdUnsafeCompactString_c h1 h2)
theorem rk_UnsafeString {gv : Value} : Er.RkOk Tryz.prog 197 .nilIface 1 gv 178 (.val 8 false false) := by
  apply Er.rk_text
  exact (fun h1 h2 => rdUnsafeString_c h1 h2)
theorem rk_CompactString {gv : Value} : Er.RkOk Tryz.prog 197 .nilIface 1 gv 179 (.val 8 false true) := by
  apply Er.rk_text
  exact (fun h1 h2 => rdCompactString_c h1 h2)
theorem rk_String {gv : Value} : Er.RkOk Tryz.prog 197 .nilIface 1 gv 180 (.val 8 false false) := by
  apply Er.rk_text
  exact (fun h1 h2 => rdString_c h1 h2)
theorem rk_dflt_DescribeQuorumResponseTopic {gv : Value} : Er.RkOk Tryz.prog 197 .nilIface 1 gv 189 (.dflt []) := by
  apply @dflt_DescribeQuorumResponseTopic .nilIface gv 1
theorem rk_dflt_DescribeQuorumResponseTopicPartition {gv : Value} : Er.RkOk Tryz.prog 197 .nilIface 1 gv 190 (.dflt []) := by
  apply @dflt_DescribeQuorumResponseTopicPartition .nilIface gv 1
theorem rk_dflt_DescribeQuorumResponseTopicPartitionReplicaState {gv : Value} : Er.RkOk Tryz.prog 197 .nilIface 1 gv 191 (.dflt [(18, (.int .i64 (-1) : Value)), (19, (.int .i64 (-1) : Value))]) := by
  apply @dflt_DescribeQuorumResponseTopicPartitionReplicaState .nilIface gv 1
theorem rk_dflt_DescribeQuorumResponseNode {gv : Value} : Er.RkOk Tryz.prog 197 .nilIface 1 gv 192 (.dflt []) := by
  apply @dflt_DescribeQuorumResponseNode .nilIface gv 1
theorem rk_dflt_DescribeQuorumResponseNodeListener {gv : Value} : Er.RkOk Tryz.prog 197 .nilIface 1 gv 193 (.dflt []) := by
  apply @dflt_DescribeQuorumResponseNodeListener .nilIface gv 1
theorem rk_Uint16 {gv : Value} : Er.RkOk Tryz.prog 197 .nilIface 1 gv 194 (.val 5 false false) := by
  apply Er.rk_num (k := 5) (ik := .u16) rfl
  exact (fun h1 h2 => Ret.mono (rdUint16_c h1 h2) fun v w' hv => ⟨hv.1, by show v = .int .u16 (IntKind.u16.wrap ((RS.num 2 _).1 : Int)); rw [Er.wrap_u16_num]; exact hv.2.1, hv.2.2⟩)
theorem rk_Bool {gv : Value} : Er.RkOk Tryz.prog 197 .nilIface 1 gv 199 (.val 0 false false) := by
  apply Er.rk_bool
  exact (fun h1 h2 => rdBool_c h1 h2)
theorem rk_dflt_ListPartitionReassignmentsRequestTopic {gv : Value} : Er.RkOk Tryz.prog 197 .nilIface 1 gv 202 (.dflt []) := by
  apply @dflt_ListPartitionReassignmentsRequestTopic .nilIface gv 1
theorem rk_dflt_AssignReplicasToDirsRequestDirectory {gv : Value} : Er.RkOk Tryz.prog 197 .nilIface 1 gv 205 (.dflt []) := by
  apply @dflt_AssignReplicasToDirsRequestDirectory .nilIface gv 1
theorem rk_dflt_AssignReplicasToDirsRequestDirectoryTopic {gv : Value} : Er.RkOk Tryz.prog 197 .nilIface 1 gv 206 (.dflt []) := by
  apply @dflt_AssignReplicasToDirsRequestDirectoryTopic .nilIface gv 1
theorem rk_dflt_AssignReplicasToDirsRequestDirectoryTopicPartition {gv : Value} : Er.RkOk Tryz.prog 197 .nilIface 1 gv 207 (.dflt []) := by
  apply @dflt_AssignReplicasToDirsRequestDirectoryTopicPartition .nilIface gv 1
theorem rk_dflt_ListGroupsResponseGroup {gv : Value} : Er.RkOk Tryz.prog 197 .nilIface 1 gv 209 (.dflt []) := by
  apply @dflt_ListGroupsResponseGroup .nilIface gv 1
theorem rk_dflt_CreatePartitionsRequestTopic {gv : Value} : Er.RkOk Tryz.prog 197 .nilIface 1 gv 211 (.dflt []) := by
  apply @dflt_CreatePartitionsRequestTopic .nilIface gv 1
theorem rk_dflt_CreatePartitionsRequestTopicAssignment {gv : Value} : Er.RkOk Tryz.prog 197 .nilIface 1 gv 212 (.dflt []) := by
  apply @dflt_CreatePartitionsRequestTopicAssignment .nilIface gv 1
theorem rk_dflt_AlterPartitionResponseTopic {gv : Value} : Er.RkOk Tryz.prog 197 .nilIface 1 gv 213 (.dflt []) := by
  apply @dflt_AlterPartitionResponseTopic .nilIface gv 1
theorem rk_dflt_AlterPartitionResponseTopicPartition {gv : Value} : Er.RkOk Tryz.prog 197 .nilIface 1 gv 214 (.dflt []) := by
  apply @dflt_AlterPartitionResponseTopicPartition .nilIface gv 1
theorem rk_Int8 {gv : Value} : Er.RkOk Tryz.prog 197 .nilIface 1 gv 215 (.val 1 false false) := by
  apply Er.rk_num (k := 1) (ik := .i8) rfl
  exact (fun h1 h2 => rdInt8_c h1 h2)
def cfgR : List (Nat × Er.RK) := (101, .dflt []) :: (118, .dflt []) :: (125, .dflt []) :: (135, .dflt [(1, (.int .i32 (60000) : Value))]) :: (140, .dflt [(2, (.int .i64 (-1) : Value))]) :: (145, .dflt []) :: (148, .dflt [(2, (.int .i32 (15000) : Value))]) :: (151, .dflt []) :: (157, .val 3 false false) :: (158, .val 2 false false) :: (159, .val 8 true true) :: (160, .val 8 true true) :: (161, .val 8 true false) :: (162, .val 8 true false) :: (163, .cnt true) :: (164, .cnt false) :: (165, .ok) :: (166, .done) :: (167, .dflt []) :: (168, .val 7 false false) :: (169, .dflt []) :: (170, .dflt []) :: (171, .tags) :: (172, .val 9 true true) :: (173, .val 9 true false) :: (174, .dflt []) :: (175, .val 4 false false) :: (176, .dflt []) :: (177, .val 8 false true) :: (178, .val 8 false false) :: (179, .val 8 false true) :: (180, .val 8 false false) :: (189, .dflt []) :: (190, .dflt []) :: (191, .dflt [(18, (.int .i64 (-1) : Value)), (19, (.int .i64 (-1) : Value))]) :: (192, .dflt []) :: (193, .dflt []) :: (194, .val 5 false false) :: (199, .val 0 false false) :: (202, .dflt []) :: (205, .dflt []) :: (206, .dflt []) :: (207, .dflt []) :: (209, .dflt []) :: (211, .dflt []) :: (212, .dflt []) :: (213, .dflt []) :: (214, .dflt []) :: (215, .val 1 false false) :: []
noncomputable def cxR (gv : Value) (n m rt V : Nat) (flex : Bool) : Er.Cx := ⟨Tryz.prog, n, m, rt, 197, cfgR, V, flex, .nilIface, 1, gv⟩
theorem cfgR_ok {gv : Value} {n m rt V : Nat} {flex : Bool} : Er.CfgOk (cxR gv n m rt V flex) := by
  intro f ck h
  simp only [cxR, cfgR, List.mem_cons, Prod.mk.injEq, List.not_mem_nil, or_false] at h
  rcases h with ⟨rfl, rfl⟩ | ⟨rfl, rfl⟩ | ⟨rfl, rfl⟩ | ⟨rfl, rfl⟩ | ⟨rfl, rfl⟩ | ⟨rfl, rfl⟩ | ⟨rfl, rfl⟩ | ⟨rfl, rfl⟩ | ⟨rfl, rfl⟩ | ⟨rfl, rfl⟩ | ⟨rfl, rfl⟩ | ⟨rfl, rfl⟩ | ⟨rfl, rfl⟩ | ⟨rfl, rfl⟩ | ⟨rfl, rfl⟩ | ⟨rfl, rfl⟩ | ⟨rfl, rfl⟩ | ⟨rfl, rfl⟩ | ⟨rfl, rfl⟩ | ⟨rfl, rfl⟩ | ⟨rfl, rfl⟩ | ⟨rfl, rfl⟩ | ⟨rfl, rfl⟩ | ⟨rfl, rfl⟩ | ⟨rfl, rfl⟩ | ⟨rfl, rfl⟩ | ⟨rfl, rfl⟩ | ⟨rfl, rfl⟩ | ⟨rfl, rfl⟩ | ⟨rfl, rfl⟩ | ⟨rfl, rfl⟩ | ⟨rfl, rfl⟩ | ⟨rfl, rfl⟩ | ⟨rfl, rfl⟩ | ⟨rfl, rfl⟩ | ⟨rfl, rfl⟩ | ⟨rfl, rfl⟩ | ⟨rfl, rfl⟩ | ⟨rfl, rfl⟩ | ⟨rfl, rfl⟩ | ⟨rfl, rfl⟩ | ⟨rfl, rfl⟩ | ⟨rfl, rfl⟩ | ⟨rfl, rfl⟩ | ⟨rfl, rfl⟩ | ⟨rfl, rfl⟩ | ⟨rfl, rfl⟩ | ⟨rfl, rfl⟩ | ⟨rfl, rfl⟩
  · exact ⟨@rk_dflt_ShareFetchResponse gv, cb_101⟩
  · exact ⟨@rk_dflt_DescribeQuorumResponse gv, cb_118⟩
  · exact ⟨@rk_dflt_ConsumerGroupDescribeRequest gv, cb_125⟩
  · exact ⟨@rk_dflt_ListPartitionReassignmentsRequest gv, cb_135⟩
  · exact ⟨@rk_dflt_AssignReplicasToDirsRequest gv, cb_140⟩
  · exact ⟨@rk_dflt_ListGroupsResponse gv, cb_145⟩
  · exact ⟨@rk_dflt_CreatePartitionsRequest gv, cb_148⟩
  · exact ⟨@rk_dflt_AlterPartitionResponse gv, cb_151⟩
  · exact ⟨@rk_Int32 gv, cb_157⟩
  · exact ⟨@rk_Int16 gv, cb_158⟩
  · exact ⟨@rk_UnsafeCompactNullableString gv, cb_159⟩
  · exact ⟨@rk_CompactNullableString gv, cb_160⟩
  · exact ⟨@rk_UnsafeNullableString gv, cb_161⟩
  · exact ⟨@rk_NullableString gv, cb_162⟩
  · exact ⟨@rk_CompactArrayLen gv, cb_163⟩
  · exact ⟨@rk_ArrayLen gv, cb_164⟩
  · exact ⟨@rk_Ok gv, cb_165⟩
  · exact ⟨@rk_Complete gv, cb_166⟩
  · exact ⟨@rk_dflt_ShareFetchResponseTopic gv, cb_167⟩
  · exact ⟨@rk_Uuid gv, cb_168⟩
  · exact ⟨@rk_dflt_ShareFetchResponseTopicPartition gv, cb_169⟩
  · exact ⟨@rk_dflt_ShareFetchResponseTopicPartitionCurrentLeader gv, cb_170⟩
  · exact ⟨@rk_tags gv, cb_171⟩
  · exact ⟨@rk_CompactNullableBytes gv, cb_172⟩
  · exact ⟨@rk_NullableBytes gv, cb_173⟩
  · exact ⟨@rk_dflt_ShareFetchResponseTopicPartitionAcquiredRecord gv, cb_174⟩
  · exact ⟨@rk_Int64 gv, cb_175⟩
  · exact ⟨@rk_dflt_ShareFetchResponseNodeEndpoint gv, cb_176⟩
  · exact ⟨@rk_UnsafeCompactString gv, cb_177⟩
  · exact ⟨@rk_UnsafeString gv, cb_178⟩
  · exact ⟨@rk_CompactString gv, cb_179⟩
  · exact ⟨@rk_String gv, cb_180⟩
  · exact ⟨@rk_dflt_DescribeQuorumResponseTopic gv, cb_189⟩
  · exact ⟨@rk_dflt_DescribeQuorumResponseTopicPartition gv, cb_190⟩
  · exact ⟨@rk_dflt_DescribeQuorumResponseTopicPartitionReplicaState gv, cb_191⟩
  · exact ⟨@rk_dflt_DescribeQuorumResponseNode gv, cb_192⟩
  · exact ⟨@rk_dflt_DescribeQuorumResponseNodeListener gv, cb_193⟩
  · exact ⟨@rk_Uint16 gv, cb_194⟩
  · exact ⟨@rk_Bool gv, cb_199⟩
  · exact ⟨@rk_dflt_ListPartitionReassignmentsRequestTopic gv, cb_202⟩
  · exact ⟨@rk_dflt_AssignReplicasToDirsRequestDirectory gv, cb_205⟩
  · exact ⟨@rk_dflt_AssignReplicasToDirsRequestDirectoryTopic gv, cb_206⟩
  · exact ⟨@rk_dflt_AssignReplicasToDirsRequestDirectoryTopicPartition gv, cb_207⟩
  · exact ⟨@rk_dflt_ListGroupsResponseGroup gv, cb_209⟩
  · exact ⟨@rk_dflt_CreatePartitionsRequestTopic gv, cb_211⟩
  · exact ⟨@rk_dflt_CreatePartitionsRequestTopicAssignment gv, cb_212⟩
  · exact ⟨@rk_dflt_AlterPartitionResponseTopic gv, cb_213⟩
  · exact ⟨@rk_dflt_AlterPartitionResponseTopicPartition gv, cb_214⟩
  · exact ⟨@rk_Int8 gv, cb_215⟩
end Go.Proofs.YtpjichobdalpjaaGreatDoor
