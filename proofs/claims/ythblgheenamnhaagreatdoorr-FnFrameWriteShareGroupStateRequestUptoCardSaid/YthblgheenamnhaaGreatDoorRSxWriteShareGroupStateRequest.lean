/- Walks of functions that the laws of this seat reach. No statement of the seat stands here. -/
import Derived.Test.YthblgheenamnhaaGreatDoorRL2
import Derived.Test.YthblgheenamnhaaGreatDoorRRows
import Derived.Test.YthblgheenamnhaaGreatDoorRFa
import Derived.Test.YthblgheenamnhaaGreatDoorRSch
import Derived.Test.YthblgheenamnhaaGreatDoorRSi
namespace Go.Proofs.YthblgheenamnhaaGreatDoorR
open Go Go.Mk
theorem sch_c_sWriteShareGroupStateRequestTopicPartitionStateBatch {w0:World} {Y:Nat → Prop}:Ret Tryz.prog 73 [] w0 fun v w'=>Agr Nob w0 w' ∧ ∃ p cap,v = .slice p sch_sWriteShareGroupStateRequestTopicPartitionStateBatch.length cap ∧ Rep w' (fun b=>b < w0.heap.size ∧ Y b) (.sl false 8 (sch_sWriteShareGroupStateRequestTopicPartitionStateBatch.map ddFd)) [.slice p sch_sWriteShareGroupStateRequestTopicPartitionStateBatch.length cap]:=by
  refine c_call Tryz.func73 rfl rfl fun a hk=>?_
  have hk:Kn 6 [] a:=hk
  have hm:Mem w0 Nob Y [] w0:=Mem.start rfl (by simp)
  refine cR0 ?_
  refine oA0 hk rfl rfl fun a hk=>?_
  refine cE0 ?_
  refine cR0 ?_
  refine o_build (r:=[.int .i64 4,.int .i64 0,.int .i64 (-1),.int .i64 (-1),.int .i64 (-1),.int .i64 0,.int .i64 0,.slice none 0 0]) hk tz_50 rfl fok_50 ⟨_,_,_,rfl,rfl,fa_50_0,rfl,_,_,_,rfl,rfl,fa_50_2,rfl,_,_,_,rfl,rfl,fa_50_3,rfl,_,_,_,rfl,rfl,fa_50_4,rfl,rfl⟩ rfl fun a hk=>?_
  refine o_build (r:=[.int .i64 4,.int .i64 0,.int .i64 (-1),.int .i64 (-1),.int .i64 (-1),.int .i64 0,.int .i64 0,.slice none 0 0]) hk tz_50 rfl fok_50 ⟨_,_,_,rfl,rfl,fa_50_0,rfl,_,_,_,rfl,rfl,fa_50_2,rfl,_,_,_,rfl,rfl,fa_50_3,rfl,_,_,_,rfl,rfl,fa_50_4,rfl,rfl⟩ rfl fun a hk=>?_
  refine o_build (r:=[.int .i64 1,.int .i64 0,.int .i64 (-1),.int .i64 (-1),.int .i64 (-1),.int .i64 0,.int .i64 0,.slice none 0 0]) hk tz_50 rfl fok_50 ⟨_,_,_,rfl,rfl,fa_50_0,rfl,_,_,_,rfl,rfl,fa_50_2,rfl,_,_,_,rfl,rfl,fa_50_3,rfl,_,_,_,rfl,rfl,fa_50_4,rfl,rfl⟩ rfl fun a hk=>?_
  refine o_build (r:=[.int .i64 2,.int .i64 0,.int .i64 (-1),.int .i64 (-1),.int .i64 (-1),.int .i64 0,.int .i64 0,.slice none 0 0]) hk tz_50 rfl fok_50 ⟨_,_,_,rfl,rfl,fa_50_0,rfl,_,_,_,rfl,rfl,fa_50_2,rfl,_,_,_,rfl,rfl,fa_50_3,rfl,_,_,_,rfl,rfl,fa_50_4,rfl,rfl⟩ rfl fun a hk=>?_
  refine o_buildSlice (r:=[.int .i64 4,.int .i64 0,.int .i64 (-1),.int .i64 (-1),.int .i64 (-1),.int .i64 0,.int .i64 0,.slice none 0 0,.int .i64 4,.int .i64 0,.int .i64 (-1),.int .i64 (-1),.int .i64 (-1),.int .i64 0,.int .i64 0,.slice none 0 0,.int .i64 1,.int .i64 0,.int .i64 (-1),.int .i64 (-1),.int .i64 (-1),.int .i64 0,.int .i64 0,.slice none 0 0,.int .i64 2,.int .i64 0,.int .i64 (-1),.int .i64 (-1),.int .i64 (-1),.int .i64 0,.int .i64 0,.slice none 0 0]) hk hm rt_32 tz_50 rfl rfl rfl ⟨_,_,_,rfl,rfl,rfl,rfl,_,_,_,rfl,rfl,rfl,rfl,_,_,_,rfl,rfl,rfl,rfl,_,_,_,rfl,rfl,rfl,rfl,bres_nil (by kernel_rfl)⟩ rfl fun a b1 w hk hm=>?_
  refine oA0 hk rfl rfl fun a hk=>?_
  refine cE0 ?_
  refine wp_ret ?_
  refine bT0 rfl hk rfl ?_
  have hm:=hm.freezeLit (i:=0) (n:=4) (sz:=8) (l:=sch_sWriteShareGroupStateRequestTopicPartitionStateBatch.map ddFd) rfl id rfl rfl (by decide) (show RepE _ _ 8 [ddFd (.mk 4 0 (-1) (-1) (-1) 0 0 []),ddFd (.mk 4 0 (-1) (-1) (-1) 0 0 []),ddFd (.mk 1 0 (-1) (-1) (-1) 0 0 []),ddFd (.mk 2 0 (-1) (-1) (-1) 0 0 [])] _ from RepE.consC (c1:=[.int .i64 4,.int .i64 0,.int .i64 (-1),.int .i64 (-1),.int .i64 (-1),.int .i64 0,.int .i64 0,.slice none 0 0]) rfl (rep_Fd_mk (rep_nosub)) (RepE.consC (c1:=[.int .i64 4,.int .i64 0,.int .i64 (-1),.int .i64 (-1),.int .i64 (-1),.int .i64 0,.int .i64 0,.slice none 0 0]) rfl (rep_Fd_mk (rep_nosub)) (RepE.consC (c1:=[.int .i64 1,.int .i64 0,.int .i64 (-1),.int .i64 (-1),.int .i64 (-1),.int .i64 0,.int .i64 0,.slice none 0 0]) rfl (rep_Fd_mk (rep_nosub)) (RepE.consC (c1:=[.int .i64 2,.int .i64 0,.int .i64 (-1),.int .i64 (-1),.int .i64 (-1),.int .i64 0,.int .i64 0,.slice none 0 0]) rfl (rep_Fd_mk (rep_nosub)) (RepE.nil _ _ _)))))
  exact ⟨hm.agr,_,_,rfl,hm.out (hm.rep (i:=0) rfl)⟩
theorem sch_c_sWriteShareGroupStateRequestTopicPartition {w0:World} {Y:Nat → Prop}:Ret Tryz.prog 52 [] w0 fun v w'=>Agr Nob w0 w' ∧ ∃ p cap,v = .slice p sch_sWriteShareGroupStateRequestTopicPartition.length cap ∧ Rep w' (fun b=>b < w0.heap.size ∧ Y b) (.sl false 8 (sch_sWriteShareGroupStateRequestTopicPartition.map ddFd)) [.slice p sch_sWriteShareGroupStateRequestTopicPartition.length cap]:=by
  refine c_call Tryz.func52 rfl rfl fun a hk=>?_
  have hk:Kn 9 [] a:=hk
  have hm:Mem w0 Nob Y [] w0:=Mem.start rfl (by simp)
  refine cR0 ?_
  refine oA0 hk rfl rfl fun a hk=>?_
  refine cE0 ?_
  refine cR0 ?_
  refine o_build (r:=[.int .i64 3,.int .i64 0,.int .i64 (-1),.int .i64 (-1),.int .i64 (-1),.int .i64 0,.int .i64 0,.slice none 0 0]) hk tz_50 rfl fok_50 ⟨_,_,_,rfl,rfl,fa_50_0,rfl,_,_,_,rfl,rfl,fa_50_2,rfl,_,_,_,rfl,rfl,fa_50_3,rfl,_,_,_,rfl,rfl,fa_50_4,rfl,rfl⟩ rfl fun a hk=>?_
  refine o_build (r:=[.int .i64 3,.int .i64 0,.int .i64 (-1),.int .i64 (-1),.int .i64 (-1),.int .i64 0,.int .i64 0,.slice none 0 0]) hk tz_50 rfl fok_50 ⟨_,_,_,rfl,rfl,fa_50_0,rfl,_,_,_,rfl,rfl,fa_50_2,rfl,_,_,_,rfl,rfl,fa_50_3,rfl,_,_,_,rfl,rfl,fa_50_4,rfl,rfl⟩ rfl fun a hk=>?_
  refine o_build (r:=[.int .i64 3,.int .i64 0,.int .i64 (-1),.int .i64 (-1),.int .i64 (-1),.int .i64 0,.int .i64 0,.slice none 0 0]) hk tz_50 rfl fok_50 ⟨_,_,_,rfl,rfl,fa_50_0,rfl,_,_,_,rfl,rfl,fa_50_2,rfl,_,_,_,rfl,rfl,fa_50_3,rfl,_,_,_,rfl,rfl,fa_50_4,rfl,rfl⟩ rfl fun a hk=>?_
  refine o_build (r:=[.int .i64 4,.int .i64 0,.int .i64 (-1),.int .i64 (-1),.int .i64 (-1),.int .i64 0,.int .i64 0,.slice none 0 0]) hk tz_50 rfl fok_50 ⟨_,_,_,rfl,rfl,fa_50_0,rfl,_,_,_,rfl,rfl,fa_50_2,rfl,_,_,_,rfl,rfl,fa_50_3,rfl,_,_,_,rfl,rfl,fa_50_4,rfl,rfl⟩ rfl fun a hk=>?_
  refine o_build (r:=[.int .i64 3,.int .i64 1,.int .i64 (-1),.int .i64 (-1),.int .i64 (-1),.int .i64 (-1),.int .i64 0,.slice none 0 0]) hk tz_50 rfl fok_50 ⟨_,_,_,rfl,rfl,fa_50_0,rfl,_,_,_,rfl,rfl,fa_50_1,rfl,_,_,_,rfl,rfl,fa_50_2,rfl,_,_,_,rfl,rfl,fa_50_3,rfl,_,_,_,rfl,rfl,fa_50_4,rfl,_,_,_,rfl,rfl,fa_50_5,rfl,rfl⟩ rfl fun a hk=>?_
  refine o_call hk cb_73 (sch_c_sWriteShareGroupStateRequestTopicPartitionStateBatch (Y:=Yof w0 Y [])) trivial rfl fun v w a hR hk=>?_
  obtain ⟨hp,ps1,caps1,rfl,hR⟩:=hR
  have hm:=hm.result hp hR
  refine o_build (r:=[.int .i64 11,.int .i64 0,.int .i64 (-1),.int .i64 (-1),.int .i64 (-1),.int .i64 0,.int .i64 10,.slice ps1 sch_sWriteShareGroupStateRequestTopicPartitionStateBatch.length caps1]) hk tz_50 rfl fok_50 ⟨_,_,_,rfl,rfl,fa_50_0,rfl,_,_,_,rfl,rfl,fa_50_2,rfl,_,_,_,rfl,rfl,fa_50_3,rfl,_,_,_,rfl,rfl,fa_50_4,rfl,_,_,_,rfl,rfl,fa_50_6,rfl,_,_,_,rfl,rfl,fa_50_7,rfl,rfl⟩ rfl fun a hk=>?_
  refine o_buildSlice (r:=[.int .i64 3,.int .i64 0,.int .i64 (-1),.int .i64 (-1),.int .i64 (-1),.int .i64 0,.int .i64 0,.slice none 0 0,.int .i64 3,.int .i64 0,.int .i64 (-1),.int .i64 (-1),.int .i64 (-1),.int .i64 0,.int .i64 0,.slice none 0 0,.int .i64 3,.int .i64 0,.int .i64 (-1),.int .i64 (-1),.int .i64 (-1),.int .i64 0,.int .i64 0,.slice none 0 0,.int .i64 4,.int .i64 0,.int .i64 (-1),.int .i64 (-1),.int .i64 (-1),.int .i64 0,.int .i64 0,.slice none 0 0,.int .i64 3,.int .i64 1,.int .i64 (-1),.int .i64 (-1),.int .i64 (-1),.int .i64 (-1),.int .i64 0,.slice none 0 0,.int .i64 11,.int .i64 0,.int .i64 (-1),.int .i64 (-1),.int .i64 (-1),.int .i64 0,.int .i64 10,.slice ps1 sch_sWriteShareGroupStateRequestTopicPartitionStateBatch.length caps1]) hk hm rt_32 tz_50 rfl rfl rfl ⟨_,_,_,rfl,rfl,rfl,rfl,_,_,_,rfl,rfl,rfl,rfl,_,_,_,rfl,rfl,rfl,rfl,_,_,_,rfl,rfl,rfl,rfl,_,_,_,rfl,rfl,rfl,rfl,_,_,_,rfl,rfl,rfl,rfl,bres_nil (by kernel_rfl)⟩ rfl fun a b1 w hk hm=>?_
  refine oA0 hk rfl rfl fun a hk=>?_
  refine cE0 ?_
  refine wp_ret ?_
  refine bT0 rfl hk rfl ?_
  have hm:=hm.freezeLit (i:=0) (n:=6) (sz:=8) (l:=sch_sWriteShareGroupStateRequestTopicPartition.map ddFd) rfl id rfl rfl (by decide) (show RepE _ _ 8 [ddFd (.mk 3 0 (-1) (-1) (-1) 0 0 []),ddFd (.mk 3 0 (-1) (-1) (-1) 0 0 []),ddFd (.mk 3 0 (-1) (-1) (-1) 0 0 []),ddFd (.mk 4 0 (-1) (-1) (-1) 0 0 []),ddFd (.mk 3 1 (-1) (-1) (-1) (-1) 0 []),ddFd (.mk 11 0 (-1) (-1) (-1) 0 10 sch_sWriteShareGroupStateRequestTopicPartitionStateBatch)] _ from RepE.consC (c1:=[.int .i64 3,.int .i64 0,.int .i64 (-1),.int .i64 (-1),.int .i64 (-1),.int .i64 0,.int .i64 0,.slice none 0 0]) rfl (rep_Fd_mk (rep_nosub)) (RepE.consC (c1:=[.int .i64 3,.int .i64 0,.int .i64 (-1),.int .i64 (-1),.int .i64 (-1),.int .i64 0,.int .i64 0,.slice none 0 0]) rfl (rep_Fd_mk (rep_nosub)) (RepE.consC (c1:=[.int .i64 3,.int .i64 0,.int .i64 (-1),.int .i64 (-1),.int .i64 (-1),.int .i64 0,.int .i64 0,.slice none 0 0]) rfl (rep_Fd_mk (rep_nosub)) (RepE.consC (c1:=[.int .i64 4,.int .i64 0,.int .i64 (-1),.int .i64 (-1),.int .i64 (-1),.int .i64 0,.int .i64 0,.slice none 0 0]) rfl (rep_Fd_mk (rep_nosub)) (RepE.consC (c1:=[.int .i64 3,.int .i64 1,.int .i64 (-1),.int .i64 (-1),.int .i64 (-1),.int .i64 (-1),.int .i64 0,.slice none 0 0]) rfl (rep_Fd_mk (rep_nosub)) (RepE.consC (c1:=[.int .i64 11,.int .i64 0,.int .i64 (-1),.int .i64 (-1),.int .i64 (-1),.int .i64 0,.int .i64 10,.slice ps1 sch_sWriteShareGroupStateRequestTopicPartitionStateBatch.length caps1]) rfl (rep_Fd_mk (hm.rep (i:=1) rfl)) (RepE.nil _ _ _)))))))
  exact ⟨hm.agr,_,_,rfl,hm.out (hm.rep (i:=0) rfl)⟩
theorem sch_c_sWriteShareGroupStateRequestTopic {w0:World} {Y:Nat → Prop}:Ret Tryz.prog 29 [] w0 fun v w'=>Agr Nob w0 w' ∧ ∃ p cap,v = .slice p sch_sWriteShareGroupStateRequestTopic.length cap ∧ Rep w' (fun b=>b < w0.heap.size ∧ Y b) (.sl false 8 (sch_sWriteShareGroupStateRequestTopic.map ddFd)) [.slice p sch_sWriteShareGroupStateRequestTopic.length cap]:=by
  refine c_call Tryz.func29 rfl rfl fun a hk=>?_
  have hk:Kn 5 [] a:=hk
  have hm:Mem w0 Nob Y [] w0:=Mem.start rfl (by simp)
  refine cR0 ?_
  refine oA0 hk rfl rfl fun a hk=>?_
  refine cE0 ?_
  refine cR0 ?_
  refine o_build (r:=[.int .i64 7,.int .i64 0,.int .i64 (-1),.int .i64 (-1),.int .i64 (-1),.int .i64 0,.int .i64 0,.slice none 0 0]) hk tz_50 rfl fok_50 ⟨_,_,_,rfl,rfl,fa_50_0,rfl,_,_,_,rfl,rfl,fa_50_2,rfl,_,_,_,rfl,rfl,fa_50_3,rfl,_,_,_,rfl,rfl,fa_50_4,rfl,rfl⟩ rfl fun a hk=>?_
  refine o_call hk cb_52 (sch_c_sWriteShareGroupStateRequestTopicPartition (Y:=Yof w0 Y [])) trivial rfl fun v w a hR hk=>?_
  obtain ⟨hp,ps1,caps1,rfl,hR⟩:=hR
  have hm:=hm.result hp hR
  refine o_build (r:=[.int .i64 11,.int .i64 0,.int .i64 (-1),.int .i64 (-1),.int .i64 (-1),.int .i64 0,.int .i64 10,.slice ps1 sch_sWriteShareGroupStateRequestTopicPartition.length caps1]) hk tz_50 rfl fok_50 ⟨_,_,_,rfl,rfl,fa_50_0,rfl,_,_,_,rfl,rfl,fa_50_2,rfl,_,_,_,rfl,rfl,fa_50_3,rfl,_,_,_,rfl,rfl,fa_50_4,rfl,_,_,_,rfl,rfl,fa_50_6,rfl,_,_,_,rfl,rfl,fa_50_7,rfl,rfl⟩ rfl fun a hk=>?_
  refine o_buildSlice (r:=[.int .i64 7,.int .i64 0,.int .i64 (-1),.int .i64 (-1),.int .i64 (-1),.int .i64 0,.int .i64 0,.slice none 0 0,.int .i64 11,.int .i64 0,.int .i64 (-1),.int .i64 (-1),.int .i64 (-1),.int .i64 0,.int .i64 10,.slice ps1 sch_sWriteShareGroupStateRequestTopicPartition.length caps1]) hk hm rt_32 tz_50 rfl rfl rfl ⟨_,_,_,rfl,rfl,rfl,rfl,_,_,_,rfl,rfl,rfl,rfl,rfl⟩ rfl fun a b1 w hk hm=>?_
  refine oA0 hk rfl rfl fun a hk=>?_
  refine cE0 ?_
  refine wp_ret ?_
  refine bT0 rfl hk rfl ?_
  have hm:=hm.freezeLit (i:=0) (n:=2) (sz:=8) (l:=sch_sWriteShareGroupStateRequestTopic.map ddFd) rfl id rfl rfl (by decide) (show RepE _ _ 8 [ddFd (.mk 7 0 (-1) (-1) (-1) 0 0 []),ddFd (.mk 11 0 (-1) (-1) (-1) 0 10 sch_sWriteShareGroupStateRequestTopicPartition)] _ from RepE.consC (c1:=[.int .i64 7,.int .i64 0,.int .i64 (-1),.int .i64 (-1),.int .i64 (-1),.int .i64 0,.int .i64 0,.slice none 0 0]) rfl (rep_Fd_mk (rep_nosub)) (RepE.consC (c1:=[.int .i64 11,.int .i64 0,.int .i64 (-1),.int .i64 (-1),.int .i64 (-1),.int .i64 0,.int .i64 10,.slice ps1 sch_sWriteShareGroupStateRequestTopicPartition.length caps1]) rfl (rep_Fd_mk (hm.rep (i:=1) rfl)) (RepE.nil _ _ _)))
  exact ⟨hm.agr,_,_,rfl,hm.out (hm.rep (i:=0) rfl)⟩
theorem msg_c_WriteShareGroupStateRequest {w0:World} {Y:Nat → Prop}:Ret Tryz.prog 10 [] w0 fun v w'=>Agr Nob w0 w' ∧ ∃ p cap,v = .agg #[.slice p sch_WriteShareGroupStateRequest.length cap,.int .i64 0] ∧ Rep w' (fun b=>b < w0.heap.size ∧ Y b) (.sl false 8 (sch_WriteShareGroupStateRequest.map ddFd)) [.slice p sch_WriteShareGroupStateRequest.length cap]:=by
  refine c_call Tryz.func10 rfl rfl fun a hk=>?_
  have hk:Kn 6 [] a:=hk
  have hm:Mem w0 Nob Y [] w0:=Mem.start rfl (by simp)
  refine cR0 ?_
  refine o_alloc hk hm tz_34 rfl rfl fun a b1 w hk hm=>?_
  refine cE0 ?_
  refine cR0 ?_
  refine o_build (r:=[.int .i64 8,.int .i64 0,.int .i64 (-1),.int .i64 (-1),.int .i64 (-1),.int .i64 0,.int .i64 0,.slice none 0 0]) hk tz_50 rfl fok_50 ⟨_,_,_,rfl,rfl,fa_50_0,rfl,_,_,_,rfl,rfl,fa_50_2,rfl,_,_,_,rfl,rfl,fa_50_3,rfl,_,_,_,rfl,rfl,fa_50_4,rfl,rfl⟩ rfl fun a hk=>?_
  refine o_call hk cb_29 (sch_c_sWriteShareGroupStateRequestTopic (Y:=Yof w0 Y [.blk b1 [.slice none 0 0,.int .i64 0] 34])) trivial rfl fun v w a hR hk=>?_
  obtain ⟨hp,ps1,caps1,rfl,hR⟩:=hR
  have hm:=hm.result hp hR
  refine o_build (r:=[.int .i64 11,.int .i64 0,.int .i64 (-1),.int .i64 (-1),.int .i64 (-1),.int .i64 0,.int .i64 10,.slice ps1 sch_sWriteShareGroupStateRequestTopic.length caps1]) hk tz_50 rfl fok_50 ⟨_,_,_,rfl,rfl,fa_50_0,rfl,_,_,_,rfl,rfl,fa_50_2,rfl,_,_,_,rfl,rfl,fa_50_3,rfl,_,_,_,rfl,rfl,fa_50_4,rfl,_,_,_,rfl,rfl,fa_50_6,rfl,_,_,_,rfl,rfl,fa_50_7,rfl,rfl⟩ rfl fun a hk=>?_
  refine o_buildSlice (r:=[.int .i64 8,.int .i64 0,.int .i64 (-1),.int .i64 (-1),.int .i64 (-1),.int .i64 0,.int .i64 0,.slice none 0 0,.int .i64 11,.int .i64 0,.int .i64 (-1),.int .i64 (-1),.int .i64 (-1),.int .i64 0,.int .i64 10,.slice ps1 sch_sWriteShareGroupStateRequestTopic.length caps1]) hk hm rt_32 tz_50 rfl rfl rfl ⟨_,_,_,rfl,rfl,rfl,rfl,_,_,_,rfl,rfl,rfl,rfl,rfl⟩ rfl fun a b2 w hk hm=>?_
  refine o_build (r:=[.slice (some ⟨b2,0,none⟩) 2 2,.int .i64 0]) hk tz_34 rfl fok_34 ⟨_,_,_,rfl,rfl,fa_34_1,rfl,_,_,_,rfl,rfl,fa_34_0,rfl,rfl⟩ rfl fun a hk=>?_
  refine o_store (i:=2) hk hm ts_34 rfl rfl rfl rfl rfl rfl (Nat.le_of_ble_eq_true rfl) fun a w hk hm=>?_
  refine cE0 ?_
  refine wp_ret ?_
  refine b_retCell (i:=2) (cs:=[.slice (some ⟨b2,0,none⟩) 2 2,.int .i64 0]) rfl ts_34 hk hm rfl rfl ?_
  have hm:=hm.freezeLit (i:=0) (n:=2) (sz:=8) (l:=sch_WriteShareGroupStateRequest.map ddFd) rfl id rfl rfl (by decide) (show RepE _ _ 8 [ddFd (.mk 8 0 (-1) (-1) (-1) 0 0 []),ddFd (.mk 11 0 (-1) (-1) (-1) 0 10 sch_sWriteShareGroupStateRequestTopic)] _ from RepE.consC (c1:=[.int .i64 8,.int .i64 0,.int .i64 (-1),.int .i64 (-1),.int .i64 (-1),.int .i64 0,.int .i64 0,.slice none 0 0]) rfl (rep_Fd_mk (rep_nosub)) (RepE.consC (c1:=[.int .i64 11,.int .i64 0,.int .i64 (-1),.int .i64 (-1),.int .i64 (-1),.int .i64 0,.int .i64 10,.slice ps1 sch_sWriteShareGroupStateRequestTopic.length caps1]) rfl (rep_Fd_mk (hm.rep (i:=1) rfl)) (RepE.nil _ _ _)))
  exact ⟨hm.agr,_,_,rfl,hm.out (hm.rep (i:=0) rfl)⟩
end Go.Proofs.YthblgheenamnhaaGreatDoorR
