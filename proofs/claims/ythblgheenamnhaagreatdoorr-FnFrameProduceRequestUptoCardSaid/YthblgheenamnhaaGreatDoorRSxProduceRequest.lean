/- Walks of functions that the laws of this seat reach. No statement of the seat stands here. -/
import Derived.Test.YthblgheenamnhaaGreatDoorRL2
import Derived.Test.YthblgheenamnhaaGreatDoorRRows
import Derived.Test.YthblgheenamnhaaGreatDoorRFa
import Derived.Test.YthblgheenamnhaaGreatDoorRSch
import Derived.Test.YthblgheenamnhaaGreatDoorRSi
namespace Go.Proofs.YthblgheenamnhaaGreatDoorR
open Go Go.Mk
theorem sch_c_sProduceRequestTopicPartition {w0:World} {Y:Nat → Prop}:Ret Tryz.prog 71 [] w0 fun v w'=>Agr Nob w0 w' ∧ ∃ p cap,v = .slice p sch_sProduceRequestTopicPartition.length cap ∧ Rep w' (fun b=>b < w0.heap.size ∧ Y b) (.sl false 8 (sch_sProduceRequestTopicPartition.map ddFd)) [.slice p sch_sProduceRequestTopicPartition.length cap]:=by
  refine c_call Tryz.func71 rfl rfl fun a hk=>?_
  have hk:Kn 4 [] a:=hk
  have hm:Mem w0 Nob Y [] w0:=Mem.start rfl (by simp)
  refine cR0 ?_
  refine oA0 hk rfl rfl fun a hk=>?_
  refine cE0 ?_
  refine cR0 ?_
  refine o_build (r:=[.int .i64 3,.int .i64 0,.int .i64 (-1),.int .i64 (-1),.int .i64 (-1),.int .i64 0,.int .i64 0,.slice none 0 0]) hk tz_50 rfl fok_50 ⟨_,_,_,rfl,rfl,fa_50_0,rfl,_,_,_,rfl,rfl,fa_50_2,rfl,_,_,_,rfl,rfl,fa_50_3,rfl,_,_,_,rfl,rfl,fa_50_4,rfl,rfl⟩ rfl fun a hk=>?_
  refine o_build (r:=[.int .i64 9,.int .i64 0,.int .i64 (-1),.int .i64 0,.int .i64 (-1),.int .i64 0,.int .i64 0,.slice none 0 0]) hk tz_50 rfl fok_50 ⟨_,_,_,rfl,rfl,fa_50_0,rfl,_,_,_,rfl,rfl,fa_50_2,rfl,_,_,_,rfl,rfl,fa_50_3,rfl,_,_,_,rfl,rfl,fa_50_4,rfl,rfl⟩ rfl fun a hk=>?_
  refine o_buildSlice (r:=[.int .i64 3,.int .i64 0,.int .i64 (-1),.int .i64 (-1),.int .i64 (-1),.int .i64 0,.int .i64 0,.slice none 0 0,.int .i64 9,.int .i64 0,.int .i64 (-1),.int .i64 0,.int .i64 (-1),.int .i64 0,.int .i64 0,.slice none 0 0]) hk hm rt_32 tz_50 rfl rfl rfl ⟨_,_,_,rfl,rfl,rfl,rfl,_,_,_,rfl,rfl,rfl,rfl,rfl⟩ rfl fun a b1 w hk hm=>?_
  refine oA0 hk rfl rfl fun a hk=>?_
  refine cE0 ?_
  refine wp_ret ?_
  refine bT0 rfl hk rfl ?_
  have hm:=hm.freezeLit (i:=0) (n:=2) (sz:=8) (l:=sch_sProduceRequestTopicPartition.map ddFd) rfl id rfl rfl (by decide) (show RepE _ _ 8 [ddFd (.mk 3 0 (-1) (-1) (-1) 0 0 []),ddFd (.mk 9 0 (-1) 0 (-1) 0 0 [])] _ from RepE.consC (c1:=[.int .i64 3,.int .i64 0,.int .i64 (-1),.int .i64 (-1),.int .i64 (-1),.int .i64 0,.int .i64 0,.slice none 0 0]) rfl (rep_Fd_mk (rep_nosub)) (RepE.consC (c1:=[.int .i64 9,.int .i64 0,.int .i64 (-1),.int .i64 0,.int .i64 (-1),.int .i64 0,.int .i64 0,.slice none 0 0]) rfl (rep_Fd_mk (rep_nosub)) (RepE.nil _ _ _)))
  exact ⟨hm.agr,_,_,rfl,hm.out (hm.rep (i:=0) rfl)⟩
theorem sch_c_sProduceRequestTopic {w0:World} {Y:Nat → Prop}:Ret Tryz.prog 47 [] w0 fun v w'=>Agr Nob w0 w' ∧ ∃ p cap,v = .slice p sch_sProduceRequestTopic.length cap ∧ Rep w' (fun b=>b < w0.heap.size ∧ Y b) (.sl false 8 (sch_sProduceRequestTopic.map ddFd)) [.slice p sch_sProduceRequestTopic.length cap]:=by
  refine c_call Tryz.func47 rfl rfl fun a hk=>?_
  have hk:Kn 6 [] a:=hk
  have hm:Mem w0 Nob Y [] w0:=Mem.start rfl (by simp)
  refine cR0 ?_
  refine oA0 hk rfl rfl fun a hk=>?_
  refine cE0 ?_
  refine cR0 ?_
  refine o_build (r:=[.int .i64 8,.int .i64 0,.int .i64 12,.int .i64 (-1),.int .i64 (-1),.int .i64 0,.int .i64 0,.slice none 0 0]) hk tz_50 rfl fok_50 ⟨_,_,_,rfl,rfl,fa_50_0,rfl,_,_,_,rfl,rfl,fa_50_2,rfl,_,_,_,rfl,rfl,fa_50_3,rfl,_,_,_,rfl,rfl,fa_50_4,rfl,rfl⟩ rfl fun a hk=>?_
  refine o_build (r:=[.int .i64 7,.int .i64 13,.int .i64 (-1),.int .i64 (-1),.int .i64 (-1),.int .i64 0,.int .i64 0,.slice none 0 0]) hk tz_50 rfl fok_50 ⟨_,_,_,rfl,rfl,fa_50_0,rfl,_,_,_,rfl,rfl,fa_50_1,rfl,_,_,_,rfl,rfl,fa_50_2,rfl,_,_,_,rfl,rfl,fa_50_3,rfl,_,_,_,rfl,rfl,fa_50_4,rfl,rfl⟩ rfl fun a hk=>?_
  refine o_call hk cb_71 (sch_c_sProduceRequestTopicPartition (Y:=Yof w0 Y [])) trivial rfl fun v w a hR hk=>?_
  obtain ⟨hp,ps1,caps1,rfl,hR⟩:=hR
  have hm:=hm.result hp hR
  refine o_build (r:=[.int .i64 11,.int .i64 0,.int .i64 (-1),.int .i64 (-1),.int .i64 (-1),.int .i64 0,.int .i64 10,.slice ps1 sch_sProduceRequestTopicPartition.length caps1]) hk tz_50 rfl fok_50 ⟨_,_,_,rfl,rfl,fa_50_0,rfl,_,_,_,rfl,rfl,fa_50_2,rfl,_,_,_,rfl,rfl,fa_50_3,rfl,_,_,_,rfl,rfl,fa_50_4,rfl,_,_,_,rfl,rfl,fa_50_6,rfl,_,_,_,rfl,rfl,fa_50_7,rfl,rfl⟩ rfl fun a hk=>?_
  refine o_buildSlice (r:=[.int .i64 8,.int .i64 0,.int .i64 12,.int .i64 (-1),.int .i64 (-1),.int .i64 0,.int .i64 0,.slice none 0 0,.int .i64 7,.int .i64 13,.int .i64 (-1),.int .i64 (-1),.int .i64 (-1),.int .i64 0,.int .i64 0,.slice none 0 0,.int .i64 11,.int .i64 0,.int .i64 (-1),.int .i64 (-1),.int .i64 (-1),.int .i64 0,.int .i64 10,.slice ps1 sch_sProduceRequestTopicPartition.length caps1]) hk hm rt_32 tz_50 rfl rfl rfl ⟨_,_,_,rfl,rfl,rfl,rfl,_,_,_,rfl,rfl,rfl,rfl,_,_,_,rfl,rfl,rfl,rfl,rfl⟩ rfl fun a b1 w hk hm=>?_
  refine oA0 hk rfl rfl fun a hk=>?_
  refine cE0 ?_
  refine wp_ret ?_
  refine bT0 rfl hk rfl ?_
  have hm:=hm.freezeLit (i:=0) (n:=3) (sz:=8) (l:=sch_sProduceRequestTopic.map ddFd) rfl id rfl rfl (by decide) (show RepE _ _ 8 [ddFd (.mk 8 0 12 (-1) (-1) 0 0 []),ddFd (.mk 7 13 (-1) (-1) (-1) 0 0 []),ddFd (.mk 11 0 (-1) (-1) (-1) 0 10 sch_sProduceRequestTopicPartition)] _ from RepE.consC (c1:=[.int .i64 8,.int .i64 0,.int .i64 12,.int .i64 (-1),.int .i64 (-1),.int .i64 0,.int .i64 0,.slice none 0 0]) rfl (rep_Fd_mk (rep_nosub)) (RepE.consC (c1:=[.int .i64 7,.int .i64 13,.int .i64 (-1),.int .i64 (-1),.int .i64 (-1),.int .i64 0,.int .i64 0,.slice none 0 0]) rfl (rep_Fd_mk (rep_nosub)) (RepE.consC (c1:=[.int .i64 11,.int .i64 0,.int .i64 (-1),.int .i64 (-1),.int .i64 (-1),.int .i64 0,.int .i64 10,.slice ps1 sch_sProduceRequestTopicPartition.length caps1]) rfl (rep_Fd_mk (hm.rep (i:=1) rfl)) (RepE.nil _ _ _))))
  exact ⟨hm.agr,_,_,rfl,hm.out (hm.rep (i:=0) rfl)⟩
theorem msg_c_ProduceRequest {w0:World} {Y:Nat → Prop}:Ret Tryz.prog 24 [] w0 fun v w'=>Agr Nob w0 w' ∧ ∃ p cap,v = .agg #[.slice p sch_ProduceRequest.length cap,.int .i64 9] ∧ Rep w' (fun b=>b < w0.heap.size ∧ Y b) (.sl false 8 (sch_ProduceRequest.map ddFd)) [.slice p sch_ProduceRequest.length cap]:=by
  refine c_call Tryz.func24 rfl rfl fun a hk=>?_
  have hk:Kn 8 [] a:=hk
  have hm:Mem w0 Nob Y [] w0:=Mem.start rfl (by simp)
  refine cR0 ?_
  refine o_alloc hk hm tz_34 rfl rfl fun a b1 w hk hm=>?_
  refine cE0 ?_
  refine cR0 ?_
  refine o_build (r:=[.int .i64 8,.int .i64 3,.int .i64 (-1),.int .i64 3,.int .i64 (-1),.int .i64 0,.int .i64 0,.slice none 0 0]) hk tz_50 rfl fok_50 ⟨_,_,_,rfl,rfl,fa_50_0,rfl,_,_,_,rfl,rfl,fa_50_1,rfl,_,_,_,rfl,rfl,fa_50_2,rfl,_,_,_,rfl,rfl,fa_50_3,rfl,_,_,_,rfl,rfl,fa_50_4,rfl,rfl⟩ rfl fun a hk=>?_
  refine o_build (r:=[.int .i64 2,.int .i64 0,.int .i64 (-1),.int .i64 (-1),.int .i64 (-1),.int .i64 0,.int .i64 0,.slice none 0 0]) hk tz_50 rfl fok_50 ⟨_,_,_,rfl,rfl,fa_50_0,rfl,_,_,_,rfl,rfl,fa_50_2,rfl,_,_,_,rfl,rfl,fa_50_3,rfl,_,_,_,rfl,rfl,fa_50_4,rfl,rfl⟩ rfl fun a hk=>?_
  refine o_build (r:=[.int .i64 3,.int .i64 0,.int .i64 (-1),.int .i64 (-1),.int .i64 (-1),.int .i64 15000,.int .i64 0,.slice none 0 0]) hk tz_50 rfl fok_50 ⟨_,_,_,rfl,rfl,fa_50_0,rfl,_,_,_,rfl,rfl,fa_50_2,rfl,_,_,_,rfl,rfl,fa_50_3,rfl,_,_,_,rfl,rfl,fa_50_4,rfl,_,_,_,rfl,rfl,fa_50_5,rfl,rfl⟩ rfl fun a hk=>?_
  refine o_call hk cb_47 (sch_c_sProduceRequestTopic (Y:=Yof w0 Y [.blk b1 [.slice none 0 0,.int .i64 0] 34])) trivial rfl fun v w a hR hk=>?_
  obtain ⟨hp,ps1,caps1,rfl,hR⟩:=hR
  have hm:=hm.result hp hR
  refine o_build (r:=[.int .i64 11,.int .i64 0,.int .i64 (-1),.int .i64 (-1),.int .i64 (-1),.int .i64 0,.int .i64 10,.slice ps1 sch_sProduceRequestTopic.length caps1]) hk tz_50 rfl fok_50 ⟨_,_,_,rfl,rfl,fa_50_0,rfl,_,_,_,rfl,rfl,fa_50_2,rfl,_,_,_,rfl,rfl,fa_50_3,rfl,_,_,_,rfl,rfl,fa_50_4,rfl,_,_,_,rfl,rfl,fa_50_6,rfl,_,_,_,rfl,rfl,fa_50_7,rfl,rfl⟩ rfl fun a hk=>?_
  refine o_buildSlice (r:=[.int .i64 8,.int .i64 3,.int .i64 (-1),.int .i64 3,.int .i64 (-1),.int .i64 0,.int .i64 0,.slice none 0 0,.int .i64 2,.int .i64 0,.int .i64 (-1),.int .i64 (-1),.int .i64 (-1),.int .i64 0,.int .i64 0,.slice none 0 0,.int .i64 3,.int .i64 0,.int .i64 (-1),.int .i64 (-1),.int .i64 (-1),.int .i64 15000,.int .i64 0,.slice none 0 0,.int .i64 11,.int .i64 0,.int .i64 (-1),.int .i64 (-1),.int .i64 (-1),.int .i64 0,.int .i64 10,.slice ps1 sch_sProduceRequestTopic.length caps1]) hk hm rt_32 tz_50 rfl rfl rfl ⟨_,_,_,rfl,rfl,rfl,rfl,_,_,_,rfl,rfl,rfl,rfl,_,_,_,rfl,rfl,rfl,rfl,_,_,_,rfl,rfl,rfl,rfl,bres_nil (by kernel_rfl)⟩ rfl fun a b2 w hk hm=>?_
  refine o_build (r:=[.slice (some ⟨b2,0,none⟩) 4 4,.int .i64 9]) hk tz_34 rfl fok_34 ⟨_,_,_,rfl,rfl,fa_34_1,rfl,_,_,_,rfl,rfl,fa_34_0,rfl,rfl⟩ rfl fun a hk=>?_
  refine o_store (i:=2) hk hm ts_34 rfl rfl rfl rfl rfl rfl (Nat.le_of_ble_eq_true rfl) fun a w hk hm=>?_
  refine cE0 ?_
  refine wp_ret ?_
  refine b_retCell (i:=2) (cs:=[.slice (some ⟨b2,0,none⟩) 4 4,.int .i64 9]) rfl ts_34 hk hm rfl rfl ?_
  have hm:=hm.freezeLit (i:=0) (n:=4) (sz:=8) (l:=sch_ProduceRequest.map ddFd) rfl id rfl rfl (by decide) (show RepE _ _ 8 [ddFd (.mk 8 3 (-1) 3 (-1) 0 0 []),ddFd (.mk 2 0 (-1) (-1) (-1) 0 0 []),ddFd (.mk 3 0 (-1) (-1) (-1) 15000 0 []),ddFd (.mk 11 0 (-1) (-1) (-1) 0 10 sch_sProduceRequestTopic)] _ from RepE.consC (c1:=[.int .i64 8,.int .i64 3,.int .i64 (-1),.int .i64 3,.int .i64 (-1),.int .i64 0,.int .i64 0,.slice none 0 0]) rfl (rep_Fd_mk (rep_nosub)) (RepE.consC (c1:=[.int .i64 2,.int .i64 0,.int .i64 (-1),.int .i64 (-1),.int .i64 (-1),.int .i64 0,.int .i64 0,.slice none 0 0]) rfl (rep_Fd_mk (rep_nosub)) (RepE.consC (c1:=[.int .i64 3,.int .i64 0,.int .i64 (-1),.int .i64 (-1),.int .i64 (-1),.int .i64 15000,.int .i64 0,.slice none 0 0]) rfl (rep_Fd_mk (rep_nosub)) (RepE.consC (c1:=[.int .i64 11,.int .i64 0,.int .i64 (-1),.int .i64 (-1),.int .i64 (-1),.int .i64 0,.int .i64 10,.slice ps1 sch_sProduceRequestTopic.length caps1]) rfl (rep_Fd_mk (hm.rep (i:=1) rfl)) (RepE.nil _ _ _)))))
  exact ⟨hm.agr,_,_,rfl,hm.out (hm.rep (i:=0) rfl)⟩
end Go.Proofs.YthblgheenamnhaaGreatDoorR
