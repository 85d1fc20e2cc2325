/- Walks of functions that the laws of this seat reach. No statement of the seat stands here. -/
import Derived.Test.YtoopklfabccmnaaGreatDoorL2
import Derived.Test.YtoopklfabccmnaaGreatDoorRows
import Derived.Test.YtoopklfabccmnaaGreatDoorFa
import Derived.Test.YtoopklfabccmnaaGreatDoorSch
import Derived.Test.YtoopklfabccmnaaGreatDoorSi
namespace Go.Proofs.YtoopklfabccmnaaGreatDoor
open Go Go.Mk
theorem sch_c_sShareFetchResponseTopicPartitionCurrentLeader {w0:World} {Y:Nat → Prop}:Ret Tryz.prog 215 [] w0 fun v w'=>Agr Nob w0 w' ∧ ∃ p cap,v = .slice p sch_sShareFetchResponseTopicPartitionCurrentLeader.length cap ∧ Rep w' (fun b=>b < w0.heap.size ∧ Y b) (.sl false 8 (sch_sShareFetchResponseTopicPartitionCurrentLeader.map ddFd)) [.slice p sch_sShareFetchResponseTopicPartitionCurrentLeader.length cap]:=by
  refine c_call Tryz.func215 rfl rfl fun a hk=>?_
  have hk:Kn 4 [] a:=hk
  have hm:Mem w0 Nob Y [] w0:=Mem.start rfl (by simp)
  refine cR0 ?_
  refine oA0 hk rfl rfl fun a hk=>?_
  refine cE0 ?_
  refine cR0 ?_
  refine o_build (r:=[.int .i64 3,.int .i64 0,.int .i64 (-1),.int .i64 (-1),.int .i64 (-1),.int .i64 0,.int .i64 0,.slice none 0 0]) hk tz_51 rfl fok_51 ⟨_,_,_,rfl,rfl,fa_51_0,rfl,_,_,_,rfl,rfl,fa_51_2,rfl,_,_,_,rfl,rfl,fa_51_3,rfl,_,_,_,rfl,rfl,fa_51_4,rfl,rfl⟩ rfl fun a hk=>?_
  refine o_build (r:=[.int .i64 3,.int .i64 0,.int .i64 (-1),.int .i64 (-1),.int .i64 (-1),.int .i64 0,.int .i64 0,.slice none 0 0]) hk tz_51 rfl fok_51 ⟨_,_,_,rfl,rfl,fa_51_0,rfl,_,_,_,rfl,rfl,fa_51_2,rfl,_,_,_,rfl,rfl,fa_51_3,rfl,_,_,_,rfl,rfl,fa_51_4,rfl,rfl⟩ rfl fun a hk=>?_
  refine o_buildSlice (r:=[.int .i64 3,.int .i64 0,.int .i64 (-1),.int .i64 (-1),.int .i64 (-1),.int .i64 0,.int .i64 0,.slice none 0 0,.int .i64 3,.int .i64 0,.int .i64 (-1),.int .i64 (-1),.int .i64 (-1),.int .i64 0,.int .i64 0,.slice none 0 0]) hk hm rt_29 tz_51 rfl rfl rfl ⟨_,_,_,rfl,rfl,rfl,rfl,_,_,_,rfl,rfl,rfl,rfl,rfl⟩ rfl fun a b1 w hk hm=>?_
  refine oA0 hk rfl rfl fun a hk=>?_
  refine cE0 ?_
  refine wp_ret ?_
  refine bT0 rfl hk rfl ?_
  have hm:=hm.freezeLit (i:=0) (n:=2) (sz:=8) (l:=sch_sShareFetchResponseTopicPartitionCurrentLeader.map ddFd) rfl id rfl rfl (by decide) (show RepE _ _ 8 [ddFd (.mk 3 0 (-1) (-1) (-1) 0 0 []),ddFd (.mk 3 0 (-1) (-1) (-1) 0 0 [])] _ from RepE.consC (c1:=[.int .i64 3,.int .i64 0,.int .i64 (-1),.int .i64 (-1),.int .i64 (-1),.int .i64 0,.int .i64 0,.slice none 0 0]) rfl (rep_Fd_mk (rep_nosub)) (RepE.consC (c1:=[.int .i64 3,.int .i64 0,.int .i64 (-1),.int .i64 (-1),.int .i64 (-1),.int .i64 0,.int .i64 0,.slice none 0 0]) rfl (rep_Fd_mk (rep_nosub)) (RepE.nil _ _ _)))
  exact ⟨hm.agr,_,_,rfl,hm.out (hm.rep (i:=0) rfl)⟩
theorem sch_c_sShareFetchResponseTopicPartitionAcquiredRecord {w0:World} {Y:Nat → Prop}:Ret Tryz.prog 216 [] w0 fun v w'=>Agr Nob w0 w' ∧ ∃ p cap,v = .slice p sch_sShareFetchResponseTopicPartitionAcquiredRecord.length cap ∧ Rep w' (fun b=>b < w0.heap.size ∧ Y b) (.sl false 8 (sch_sShareFetchResponseTopicPartitionAcquiredRecord.map ddFd)) [.slice p sch_sShareFetchResponseTopicPartitionAcquiredRecord.length cap]:=by
  refine c_call Tryz.func216 rfl rfl fun a hk=>?_
  have hk:Kn 5 [] a:=hk
  have hm:Mem w0 Nob Y [] w0:=Mem.start rfl (by simp)
  refine cR0 ?_
  refine oA0 hk rfl rfl fun a hk=>?_
  refine cE0 ?_
  refine cR0 ?_
  refine o_build (r:=[.int .i64 4,.int .i64 0,.int .i64 (-1),.int .i64 (-1),.int .i64 (-1),.int .i64 0,.int .i64 0,.slice none 0 0]) hk tz_51 rfl fok_51 ⟨_,_,_,rfl,rfl,fa_51_0,rfl,_,_,_,rfl,rfl,fa_51_2,rfl,_,_,_,rfl,rfl,fa_51_3,rfl,_,_,_,rfl,rfl,fa_51_4,rfl,rfl⟩ rfl fun a hk=>?_
  refine o_build (r:=[.int .i64 4,.int .i64 0,.int .i64 (-1),.int .i64 (-1),.int .i64 (-1),.int .i64 0,.int .i64 0,.slice none 0 0]) hk tz_51 rfl fok_51 ⟨_,_,_,rfl,rfl,fa_51_0,rfl,_,_,_,rfl,rfl,fa_51_2,rfl,_,_,_,rfl,rfl,fa_51_3,rfl,_,_,_,rfl,rfl,fa_51_4,rfl,rfl⟩ rfl fun a hk=>?_
  refine o_build (r:=[.int .i64 2,.int .i64 0,.int .i64 (-1),.int .i64 (-1),.int .i64 (-1),.int .i64 0,.int .i64 0,.slice none 0 0]) hk tz_51 rfl fok_51 ⟨_,_,_,rfl,rfl,fa_51_0,rfl,_,_,_,rfl,rfl,fa_51_2,rfl,_,_,_,rfl,rfl,fa_51_3,rfl,_,_,_,rfl,rfl,fa_51_4,rfl,rfl⟩ rfl fun a hk=>?_
  refine o_buildSlice (r:=[.int .i64 4,.int .i64 0,.int .i64 (-1),.int .i64 (-1),.int .i64 (-1),.int .i64 0,.int .i64 0,.slice none 0 0,.int .i64 4,.int .i64 0,.int .i64 (-1),.int .i64 (-1),.int .i64 (-1),.int .i64 0,.int .i64 0,.slice none 0 0,.int .i64 2,.int .i64 0,.int .i64 (-1),.int .i64 (-1),.int .i64 (-1),.int .i64 0,.int .i64 0,.slice none 0 0]) hk hm rt_29 tz_51 rfl rfl rfl ⟨_,_,_,rfl,rfl,rfl,rfl,_,_,_,rfl,rfl,rfl,rfl,_,_,_,rfl,rfl,rfl,rfl,rfl⟩ rfl fun a b1 w hk hm=>?_
  refine oA0 hk rfl rfl fun a hk=>?_
  refine cE0 ?_
  refine wp_ret ?_
  refine bT0 rfl hk rfl ?_
  have hm:=hm.freezeLit (i:=0) (n:=3) (sz:=8) (l:=sch_sShareFetchResponseTopicPartitionAcquiredRecord.map ddFd) rfl id rfl rfl (by decide) (show RepE _ _ 8 [ddFd (.mk 4 0 (-1) (-1) (-1) 0 0 []),ddFd (.mk 4 0 (-1) (-1) (-1) 0 0 []),ddFd (.mk 2 0 (-1) (-1) (-1) 0 0 [])] _ from RepE.consC (c1:=[.int .i64 4,.int .i64 0,.int .i64 (-1),.int .i64 (-1),.int .i64 (-1),.int .i64 0,.int .i64 0,.slice none 0 0]) rfl (rep_Fd_mk (rep_nosub)) (RepE.consC (c1:=[.int .i64 4,.int .i64 0,.int .i64 (-1),.int .i64 (-1),.int .i64 (-1),.int .i64 0,.int .i64 0,.slice none 0 0]) rfl (rep_Fd_mk (rep_nosub)) (RepE.consC (c1:=[.int .i64 2,.int .i64 0,.int .i64 (-1),.int .i64 (-1),.int .i64 (-1),.int .i64 0,.int .i64 0,.slice none 0 0]) rfl (rep_Fd_mk (rep_nosub)) (RepE.nil _ _ _))))
  exact ⟨hm.agr,_,_,rfl,hm.out (hm.rep (i:=0) rfl)⟩
theorem sch_c_sShareFetchResponseTopicPartition {w0:World} {Y:Nat → Prop}:Ret Tryz.prog 151 [] w0 fun v w'=>Agr Nob w0 w' ∧ ∃ p cap,v = .slice p sch_sShareFetchResponseTopicPartition.length cap ∧ Rep w' (fun b=>b < w0.heap.size ∧ Y b) (.sl false 8 (sch_sShareFetchResponseTopicPartition.map ddFd)) [.slice p sch_sShareFetchResponseTopicPartition.length cap]:=by
  refine c_call Tryz.func151 rfl rfl fun a hk=>?_
  have hk:Kn 12 [] a:=hk
  have hm:Mem w0 Nob Y [] w0:=Mem.start rfl (by simp)
  refine cR0 ?_
  refine oA0 hk rfl rfl fun a hk=>?_
  refine cE0 ?_
  refine cR0 ?_
  refine o_build (r:=[.int .i64 3,.int .i64 0,.int .i64 (-1),.int .i64 (-1),.int .i64 (-1),.int .i64 0,.int .i64 0,.slice none 0 0]) hk tz_51 rfl fok_51 ⟨_,_,_,rfl,rfl,fa_51_0,rfl,_,_,_,rfl,rfl,fa_51_2,rfl,_,_,_,rfl,rfl,fa_51_3,rfl,_,_,_,rfl,rfl,fa_51_4,rfl,rfl⟩ rfl fun a hk=>?_
  refine o_build (r:=[.int .i64 2,.int .i64 0,.int .i64 (-1),.int .i64 (-1),.int .i64 (-1),.int .i64 0,.int .i64 0,.slice none 0 0]) hk tz_51 rfl fok_51 ⟨_,_,_,rfl,rfl,fa_51_0,rfl,_,_,_,rfl,rfl,fa_51_2,rfl,_,_,_,rfl,rfl,fa_51_3,rfl,_,_,_,rfl,rfl,fa_51_4,rfl,rfl⟩ rfl fun a hk=>?_
  refine o_build (r:=[.int .i64 8,.int .i64 0,.int .i64 (-1),.int .i64 0,.int .i64 (-1),.int .i64 0,.int .i64 0,.slice none 0 0]) hk tz_51 rfl fok_51 ⟨_,_,_,rfl,rfl,fa_51_0,rfl,_,_,_,rfl,rfl,fa_51_2,rfl,_,_,_,rfl,rfl,fa_51_3,rfl,_,_,_,rfl,rfl,fa_51_4,rfl,rfl⟩ rfl fun a hk=>?_
  refine o_build (r:=[.int .i64 2,.int .i64 0,.int .i64 (-1),.int .i64 (-1),.int .i64 (-1),.int .i64 0,.int .i64 0,.slice none 0 0]) hk tz_51 rfl fok_51 ⟨_,_,_,rfl,rfl,fa_51_0,rfl,_,_,_,rfl,rfl,fa_51_2,rfl,_,_,_,rfl,rfl,fa_51_3,rfl,_,_,_,rfl,rfl,fa_51_4,rfl,rfl⟩ rfl fun a hk=>?_
  refine o_build (r:=[.int .i64 8,.int .i64 0,.int .i64 (-1),.int .i64 0,.int .i64 (-1),.int .i64 0,.int .i64 0,.slice none 0 0]) hk tz_51 rfl fok_51 ⟨_,_,_,rfl,rfl,fa_51_0,rfl,_,_,_,rfl,rfl,fa_51_2,rfl,_,_,_,rfl,rfl,fa_51_3,rfl,_,_,_,rfl,rfl,fa_51_4,rfl,rfl⟩ rfl fun a hk=>?_
  refine o_call hk cb_215 (sch_c_sShareFetchResponseTopicPartitionCurrentLeader (Y:=Yof w0 Y [])) trivial rfl fun v w a hR hk=>?_
  obtain ⟨hp,ps1,caps1,rfl,hR⟩:=hR
  have hm:=hm.result hp hR
  refine o_build (r:=[.int .i64 10,.int .i64 0,.int .i64 (-1),.int .i64 (-1),.int .i64 (-1),.int .i64 0,.int .i64 0,.slice ps1 sch_sShareFetchResponseTopicPartitionCurrentLeader.length caps1]) hk tz_51 rfl fok_51 ⟨_,_,_,rfl,rfl,fa_51_0,rfl,_,_,_,rfl,rfl,fa_51_2,rfl,_,_,_,rfl,rfl,fa_51_3,rfl,_,_,_,rfl,rfl,fa_51_4,rfl,_,_,_,rfl,rfl,fa_51_7,rfl,rfl⟩ rfl fun a hk=>?_
  refine o_build (r:=[.int .i64 9,.int .i64 0,.int .i64 (-1),.int .i64 (-1),.int .i64 (-1),.int .i64 0,.int .i64 0,.slice none 0 0]) hk tz_51 rfl fok_51 ⟨_,_,_,rfl,rfl,fa_51_0,rfl,_,_,_,rfl,rfl,fa_51_2,rfl,_,_,_,rfl,rfl,fa_51_3,rfl,_,_,_,rfl,rfl,fa_51_4,rfl,rfl⟩ rfl fun a hk=>?_
  refine o_call hk cb_216 (sch_c_sShareFetchResponseTopicPartitionAcquiredRecord (Y:=Yof w0 Y [.rep (.sl false 8 (sch_sShareFetchResponseTopicPartitionCurrentLeader.map ddFd)) [.slice ps1 sch_sShareFetchResponseTopicPartitionCurrentLeader.length caps1]])) trivial rfl fun v w a hR hk=>?_
  obtain ⟨hp,ps2,caps2,rfl,hR⟩:=hR
  have hm:=hm.result hp hR
  refine o_build (r:=[.int .i64 11,.int .i64 0,.int .i64 (-1),.int .i64 (-1),.int .i64 (-1),.int .i64 0,.int .i64 10,.slice ps2 sch_sShareFetchResponseTopicPartitionAcquiredRecord.length caps2]) hk tz_51 rfl fok_51 ⟨_,_,_,rfl,rfl,fa_51_0,rfl,_,_,_,rfl,rfl,fa_51_2,rfl,_,_,_,rfl,rfl,fa_51_3,rfl,_,_,_,rfl,rfl,fa_51_4,rfl,_,_,_,rfl,rfl,fa_51_6,rfl,_,_,_,rfl,rfl,fa_51_7,rfl,rfl⟩ rfl fun a hk=>?_
  refine o_buildSlice (r:=[.int .i64 3,.int .i64 0,.int .i64 (-1),.int .i64 (-1),.int .i64 (-1),.int .i64 0,.int .i64 0,.slice none 0 0,.int .i64 2,.int .i64 0,.int .i64 (-1),.int .i64 (-1),.int .i64 (-1),.int .i64 0,.int .i64 0,.slice none 0 0,.int .i64 8,.int .i64 0,.int .i64 (-1),.int .i64 0,.int .i64 (-1),.int .i64 0,.int .i64 0,.slice none 0 0,.int .i64 2,.int .i64 0,.int .i64 (-1),.int .i64 (-1),.int .i64 (-1),.int .i64 0,.int .i64 0,.slice none 0 0,.int .i64 8,.int .i64 0,.int .i64 (-1),.int .i64 0,.int .i64 (-1),.int .i64 0,.int .i64 0,.slice none 0 0,.int .i64 10,.int .i64 0,.int .i64 (-1),.int .i64 (-1),.int .i64 (-1),.int .i64 0,.int .i64 0,.slice ps1 sch_sShareFetchResponseTopicPartitionCurrentLeader.length caps1,.int .i64 9,.int .i64 0,.int .i64 (-1),.int .i64 (-1),.int .i64 (-1),.int .i64 0,.int .i64 0,.slice none 0 0,.int .i64 11,.int .i64 0,.int .i64 (-1),.int .i64 (-1),.int .i64 (-1),.int .i64 0,.int .i64 10,.slice ps2 sch_sShareFetchResponseTopicPartitionAcquiredRecord.length caps2]) hk hm rt_29 tz_51 rfl rfl rfl ⟨_,_,_,rfl,rfl,rfl,rfl,_,_,_,rfl,rfl,rfl,rfl,_,_,_,rfl,rfl,rfl,rfl,_,_,_,rfl,rfl,rfl,rfl,_,_,_,rfl,rfl,rfl,rfl,_,_,_,rfl,rfl,rfl,rfl,_,_,_,rfl,rfl,rfl,rfl,_,_,_,rfl,rfl,rfl,rfl,bres_nil (by kernel_rfl)⟩ rfl fun a b1 w hk hm=>?_
  refine oA0 hk rfl rfl fun a hk=>?_
  refine cE0 ?_
  refine wp_ret ?_
  refine bT0 rfl hk rfl ?_
  have hm:=hm.freezeLit (i:=0) (n:=8) (sz:=8) (l:=sch_sShareFetchResponseTopicPartition.map ddFd) rfl id rfl rfl (by decide) (show RepE _ _ 8 [ddFd (.mk 3 0 (-1) (-1) (-1) 0 0 []),ddFd (.mk 2 0 (-1) (-1) (-1) 0 0 []),ddFd (.mk 8 0 (-1) 0 (-1) 0 0 []),ddFd (.mk 2 0 (-1) (-1) (-1) 0 0 []),ddFd (.mk 8 0 (-1) 0 (-1) 0 0 []),ddFd (.mk 10 0 (-1) (-1) (-1) 0 0 sch_sShareFetchResponseTopicPartitionCurrentLeader),ddFd (.mk 9 0 (-1) (-1) (-1) 0 0 []),ddFd (.mk 11 0 (-1) (-1) (-1) 0 10 sch_sShareFetchResponseTopicPartitionAcquiredRecord)] _ from RepE.consC (c1:=[.int .i64 3,.int .i64 0,.int .i64 (-1),.int .i64 (-1),.int .i64 (-1),.int .i64 0,.int .i64 0,.slice none 0 0]) rfl (rep_Fd_mk (rep_nosub)) (RepE.consC (c1:=[.int .i64 2,.int .i64 0,.int .i64 (-1),.int .i64 (-1),.int .i64 (-1),.int .i64 0,.int .i64 0,.slice none 0 0]) rfl (rep_Fd_mk (rep_nosub)) (RepE.consC (c1:=[.int .i64 8,.int .i64 0,.int .i64 (-1),.int .i64 0,.int .i64 (-1),.int .i64 0,.int .i64 0,.slice none 0 0]) rfl (rep_Fd_mk (rep_nosub)) (RepE.consC (c1:=[.int .i64 2,.int .i64 0,.int .i64 (-1),.int .i64 (-1),.int .i64 (-1),.int .i64 0,.int .i64 0,.slice none 0 0]) rfl (rep_Fd_mk (rep_nosub)) (RepE.consC (c1:=[.int .i64 8,.int .i64 0,.int .i64 (-1),.int .i64 0,.int .i64 (-1),.int .i64 0,.int .i64 0,.slice none 0 0]) rfl (rep_Fd_mk (rep_nosub)) (RepE.consC (c1:=[.int .i64 10,.int .i64 0,.int .i64 (-1),.int .i64 (-1),.int .i64 (-1),.int .i64 0,.int .i64 0,.slice ps1 sch_sShareFetchResponseTopicPartitionCurrentLeader.length caps1]) rfl (rep_Fd_mk (hm.rep (i:=2) rfl)) (RepE.consC (c1:=[.int .i64 9,.int .i64 0,.int .i64 (-1),.int .i64 (-1),.int .i64 (-1),.int .i64 0,.int .i64 0,.slice none 0 0]) rfl (rep_Fd_mk (rep_nosub)) (RepE.consC (c1:=[.int .i64 11,.int .i64 0,.int .i64 (-1),.int .i64 (-1),.int .i64 (-1),.int .i64 0,.int .i64 10,.slice ps2 sch_sShareFetchResponseTopicPartitionAcquiredRecord.length caps2]) rfl (rep_Fd_mk (hm.rep (i:=1) rfl)) (RepE.nil _ _ _)))))))))
  exact ⟨hm.agr,_,_,rfl,hm.out (hm.rep (i:=0) rfl)⟩
theorem sch_c_sShareFetchResponseTopic {w0:World} {Y:Nat → Prop}:Ret Tryz.prog 97 [] w0 fun v w'=>Agr Nob w0 w' ∧ ∃ p cap,v = .slice p sch_sShareFetchResponseTopic.length cap ∧ Rep w' (fun b=>b < w0.heap.size ∧ Y b) (.sl false 8 (sch_sShareFetchResponseTopic.map ddFd)) [.slice p sch_sShareFetchResponseTopic.length cap]:=by
  refine c_call Tryz.func97 rfl rfl fun a hk=>?_
  have hk:Kn 5 [] a:=hk
  have hm:Mem w0 Nob Y [] w0:=Mem.start rfl (by simp)
  refine cR0 ?_
  refine oA0 hk rfl rfl fun a hk=>?_
  refine cE0 ?_
  refine cR0 ?_
  refine o_build (r:=[.int .i64 7,.int .i64 0,.int .i64 (-1),.int .i64 (-1),.int .i64 (-1),.int .i64 0,.int .i64 0,.slice none 0 0]) hk tz_51 rfl fok_51 ⟨_,_,_,rfl,rfl,fa_51_0,rfl,_,_,_,rfl,rfl,fa_51_2,rfl,_,_,_,rfl,rfl,fa_51_3,rfl,_,_,_,rfl,rfl,fa_51_4,rfl,rfl⟩ rfl fun a hk=>?_
  refine o_call hk cb_151 (sch_c_sShareFetchResponseTopicPartition (Y:=Yof w0 Y [])) trivial rfl fun v w a hR hk=>?_
  obtain ⟨hp,ps1,caps1,rfl,hR⟩:=hR
  have hm:=hm.result hp hR
  refine o_build (r:=[.int .i64 11,.int .i64 0,.int .i64 (-1),.int .i64 (-1),.int .i64 (-1),.int .i64 0,.int .i64 10,.slice ps1 sch_sShareFetchResponseTopicPartition.length caps1]) hk tz_51 rfl fok_51 ⟨_,_,_,rfl,rfl,fa_51_0,rfl,_,_,_,rfl,rfl,fa_51_2,rfl,_,_,_,rfl,rfl,fa_51_3,rfl,_,_,_,rfl,rfl,fa_51_4,rfl,_,_,_,rfl,rfl,fa_51_6,rfl,_,_,_,rfl,rfl,fa_51_7,rfl,rfl⟩ rfl fun a hk=>?_
  refine o_buildSlice (r:=[.int .i64 7,.int .i64 0,.int .i64 (-1),.int .i64 (-1),.int .i64 (-1),.int .i64 0,.int .i64 0,.slice none 0 0,.int .i64 11,.int .i64 0,.int .i64 (-1),.int .i64 (-1),.int .i64 (-1),.int .i64 0,.int .i64 10,.slice ps1 sch_sShareFetchResponseTopicPartition.length caps1]) hk hm rt_29 tz_51 rfl rfl rfl ⟨_,_,_,rfl,rfl,rfl,rfl,_,_,_,rfl,rfl,rfl,rfl,rfl⟩ rfl fun a b1 w hk hm=>?_
  refine oA0 hk rfl rfl fun a hk=>?_
  refine cE0 ?_
  refine wp_ret ?_
  refine bT0 rfl hk rfl ?_
  have hm:=hm.freezeLit (i:=0) (n:=2) (sz:=8) (l:=sch_sShareFetchResponseTopic.map ddFd) rfl id rfl rfl (by decide) (show RepE _ _ 8 [ddFd (.mk 7 0 (-1) (-1) (-1) 0 0 []),ddFd (.mk 11 0 (-1) (-1) (-1) 0 10 sch_sShareFetchResponseTopicPartition)] _ from RepE.consC (c1:=[.int .i64 7,.int .i64 0,.int .i64 (-1),.int .i64 (-1),.int .i64 (-1),.int .i64 0,.int .i64 0,.slice none 0 0]) rfl (rep_Fd_mk (rep_nosub)) (RepE.consC (c1:=[.int .i64 11,.int .i64 0,.int .i64 (-1),.int .i64 (-1),.int .i64 (-1),.int .i64 0,.int .i64 10,.slice ps1 sch_sShareFetchResponseTopicPartition.length caps1]) rfl (rep_Fd_mk (hm.rep (i:=1) rfl)) (RepE.nil _ _ _)))
  exact ⟨hm.agr,_,_,rfl,hm.out (hm.rep (i:=0) rfl)⟩
theorem sch_c_sShareFetchResponseNodeEndpoint {w0:World} {Y:Nat → Prop}:Ret Tryz.prog 98 [] w0 fun v w'=>Agr Nob w0 w' ∧ ∃ p cap,v = .slice p sch_sShareFetchResponseNodeEndpoint.length cap ∧ Rep w' (fun b=>b < w0.heap.size ∧ Y b) (.sl false 8 (sch_sShareFetchResponseNodeEndpoint.map ddFd)) [.slice p sch_sShareFetchResponseNodeEndpoint.length cap]:=by
  refine c_call Tryz.func98 rfl rfl fun a hk=>?_
  have hk:Kn 6 [] a:=hk
  have hm:Mem w0 Nob Y [] w0:=Mem.start rfl (by simp)
  refine cR0 ?_
  refine oA0 hk rfl rfl fun a hk=>?_
  refine cE0 ?_
  refine cR0 ?_
  refine o_build (r:=[.int .i64 3,.int .i64 0,.int .i64 (-1),.int .i64 (-1),.int .i64 (-1),.int .i64 0,.int .i64 0,.slice none 0 0]) hk tz_51 rfl fok_51 ⟨_,_,_,rfl,rfl,fa_51_0,rfl,_,_,_,rfl,rfl,fa_51_2,rfl,_,_,_,rfl,rfl,fa_51_3,rfl,_,_,_,rfl,rfl,fa_51_4,rfl,rfl⟩ rfl fun a hk=>?_
  refine o_build (r:=[.int .i64 8,.int .i64 0,.int .i64 (-1),.int .i64 (-1),.int .i64 (-1),.int .i64 0,.int .i64 0,.slice none 0 0]) hk tz_51 rfl fok_51 ⟨_,_,_,rfl,rfl,fa_51_0,rfl,_,_,_,rfl,rfl,fa_51_2,rfl,_,_,_,rfl,rfl,fa_51_3,rfl,_,_,_,rfl,rfl,fa_51_4,rfl,rfl⟩ rfl fun a hk=>?_
  refine o_build (r:=[.int .i64 3,.int .i64 0,.int .i64 (-1),.int .i64 (-1),.int .i64 (-1),.int .i64 0,.int .i64 0,.slice none 0 0]) hk tz_51 rfl fok_51 ⟨_,_,_,rfl,rfl,fa_51_0,rfl,_,_,_,rfl,rfl,fa_51_2,rfl,_,_,_,rfl,rfl,fa_51_3,rfl,_,_,_,rfl,rfl,fa_51_4,rfl,rfl⟩ rfl fun a hk=>?_
  refine o_build (r:=[.int .i64 8,.int .i64 0,.int .i64 (-1),.int .i64 0,.int .i64 (-1),.int .i64 0,.int .i64 0,.slice none 0 0]) hk tz_51 rfl fok_51 ⟨_,_,_,rfl,rfl,fa_51_0,rfl,_,_,_,rfl,rfl,fa_51_2,rfl,_,_,_,rfl,rfl,fa_51_3,rfl,_,_,_,rfl,rfl,fa_51_4,rfl,rfl⟩ rfl fun a hk=>?_
  refine o_buildSlice (r:=[.int .i64 3,.int .i64 0,.int .i64 (-1),.int .i64 (-1),.int .i64 (-1),.int .i64 0,.int .i64 0,.slice none 0 0,.int .i64 8,.int .i64 0,.int .i64 (-1),.int .i64 (-1),.int .i64 (-1),.int .i64 0,.int .i64 0,.slice none 0 0,.int .i64 3,.int .i64 0,.int .i64 (-1),.int .i64 (-1),.int .i64 (-1),.int .i64 0,.int .i64 0,.slice none 0 0,.int .i64 8,.int .i64 0,.int .i64 (-1),.int .i64 0,.int .i64 (-1),.int .i64 0,.int .i64 0,.slice none 0 0]) hk hm rt_29 tz_51 rfl rfl rfl ⟨_,_,_,rfl,rfl,rfl,rfl,_,_,_,rfl,rfl,rfl,rfl,_,_,_,rfl,rfl,rfl,rfl,_,_,_,rfl,rfl,rfl,rfl,bres_nil (by kernel_rfl)⟩ rfl fun a b1 w hk hm=>?_
  refine oA0 hk rfl rfl fun a hk=>?_
  refine cE0 ?_
  refine wp_ret ?_
  refine bT0 rfl hk rfl ?_
  have hm:=hm.freezeLit (i:=0) (n:=4) (sz:=8) (l:=sch_sShareFetchResponseNodeEndpoint.map ddFd) rfl id rfl rfl (by decide) (show RepE _ _ 8 [ddFd (.mk 3 0 (-1) (-1) (-1) 0 0 []),ddFd (.mk 8 0 (-1) (-1) (-1) 0 0 []),ddFd (.mk 3 0 (-1) (-1) (-1) 0 0 []),ddFd (.mk 8 0 (-1) 0 (-1) 0 0 [])] _ from RepE.consC (c1:=[.int .i64 3,.int .i64 0,.int .i64 (-1),.int .i64 (-1),.int .i64 (-1),.int .i64 0,.int .i64 0,.slice none 0 0]) rfl (rep_Fd_mk (rep_nosub)) (RepE.consC (c1:=[.int .i64 8,.int .i64 0,.int .i64 (-1),.int .i64 (-1),.int .i64 (-1),.int .i64 0,.int .i64 0,.slice none 0 0]) rfl (rep_Fd_mk (rep_nosub)) (RepE.consC (c1:=[.int .i64 3,.int .i64 0,.int .i64 (-1),.int .i64 (-1),.int .i64 (-1),.int .i64 0,.int .i64 0,.slice none 0 0]) rfl (rep_Fd_mk (rep_nosub)) (RepE.consC (c1:=[.int .i64 8,.int .i64 0,.int .i64 (-1),.int .i64 0,.int .i64 (-1),.int .i64 0,.int .i64 0,.slice none 0 0]) rfl (rep_Fd_mk (rep_nosub)) (RepE.nil _ _ _)))))
  exact ⟨hm.agr,_,_,rfl,hm.out (hm.rep (i:=0) rfl)⟩
theorem msg_c_ShareFetchResponse {w0:World} {Y:Nat → Prop}:Ret Tryz.prog 39 [] w0 fun v w'=>Agr Nob w0 w' ∧ ∃ p cap,v = .agg #[.slice p sch_ShareFetchResponse.length cap,.int .i64 0] ∧ Rep w' (fun b=>b < w0.heap.size ∧ Y b) (.sl false 8 (sch_ShareFetchResponse.map ddFd)) [.slice p sch_ShareFetchResponse.length cap]:=by
  refine c_call Tryz.func39 rfl rfl fun a hk=>?_
  have hk:Kn 11 [] a:=hk
  have hm:Mem w0 Nob Y [] w0:=Mem.start rfl (by simp)
  refine cR0 ?_
  refine o_alloc hk hm tz_31 rfl rfl fun a b1 w hk hm=>?_
  refine cE0 ?_
  refine cR0 ?_
  refine o_build (r:=[.int .i64 3,.int .i64 0,.int .i64 (-1),.int .i64 (-1),.int .i64 (-1),.int .i64 0,.int .i64 0,.slice none 0 0]) hk tz_51 rfl fok_51 ⟨_,_,_,rfl,rfl,fa_51_0,rfl,_,_,_,rfl,rfl,fa_51_2,rfl,_,_,_,rfl,rfl,fa_51_3,rfl,_,_,_,rfl,rfl,fa_51_4,rfl,rfl⟩ rfl fun a hk=>?_
  refine o_build (r:=[.int .i64 2,.int .i64 0,.int .i64 (-1),.int .i64 (-1),.int .i64 (-1),.int .i64 0,.int .i64 0,.slice none 0 0]) hk tz_51 rfl fok_51 ⟨_,_,_,rfl,rfl,fa_51_0,rfl,_,_,_,rfl,rfl,fa_51_2,rfl,_,_,_,rfl,rfl,fa_51_3,rfl,_,_,_,rfl,rfl,fa_51_4,rfl,rfl⟩ rfl fun a hk=>?_
  refine o_build (r:=[.int .i64 8,.int .i64 0,.int .i64 (-1),.int .i64 0,.int .i64 (-1),.int .i64 0,.int .i64 0,.slice none 0 0]) hk tz_51 rfl fok_51 ⟨_,_,_,rfl,rfl,fa_51_0,rfl,_,_,_,rfl,rfl,fa_51_2,rfl,_,_,_,rfl,rfl,fa_51_3,rfl,_,_,_,rfl,rfl,fa_51_4,rfl,rfl⟩ rfl fun a hk=>?_
  refine o_build (r:=[.int .i64 3,.int .i64 1,.int .i64 (-1),.int .i64 (-1),.int .i64 (-1),.int .i64 0,.int .i64 0,.slice none 0 0]) hk tz_51 rfl fok_51 ⟨_,_,_,rfl,rfl,fa_51_0,rfl,_,_,_,rfl,rfl,fa_51_1,rfl,_,_,_,rfl,rfl,fa_51_2,rfl,_,_,_,rfl,rfl,fa_51_3,rfl,_,_,_,rfl,rfl,fa_51_4,rfl,rfl⟩ rfl fun a hk=>?_
  refine o_call hk cb_97 (sch_c_sShareFetchResponseTopic (Y:=Yof w0 Y [.blk b1 [.slice none 0 0,.int .i64 0] 31])) trivial rfl fun v w a hR hk=>?_
  obtain ⟨hp,ps1,caps1,rfl,hR⟩:=hR
  have hm:=hm.result hp hR
  refine o_build (r:=[.int .i64 11,.int .i64 0,.int .i64 (-1),.int .i64 (-1),.int .i64 (-1),.int .i64 0,.int .i64 10,.slice ps1 sch_sShareFetchResponseTopic.length caps1]) hk tz_51 rfl fok_51 ⟨_,_,_,rfl,rfl,fa_51_0,rfl,_,_,_,rfl,rfl,fa_51_2,rfl,_,_,_,rfl,rfl,fa_51_3,rfl,_,_,_,rfl,rfl,fa_51_4,rfl,_,_,_,rfl,rfl,fa_51_6,rfl,_,_,_,rfl,rfl,fa_51_7,rfl,rfl⟩ rfl fun a hk=>?_
  refine o_call hk cb_98 (sch_c_sShareFetchResponseNodeEndpoint (Y:=Yof w0 Y [.rep (.sl false 8 (sch_sShareFetchResponseTopic.map ddFd)) [.slice ps1 sch_sShareFetchResponseTopic.length caps1],.blk b1 [.slice none 0 0,.int .i64 0] 31])) trivial rfl fun v w a hR hk=>?_
  obtain ⟨hp,ps2,caps2,rfl,hR⟩:=hR
  have hm:=hm.result hp hR
  refine o_build (r:=[.int .i64 11,.int .i64 0,.int .i64 (-1),.int .i64 (-1),.int .i64 (-1),.int .i64 0,.int .i64 10,.slice ps2 sch_sShareFetchResponseNodeEndpoint.length caps2]) hk tz_51 rfl fok_51 ⟨_,_,_,rfl,rfl,fa_51_0,rfl,_,_,_,rfl,rfl,fa_51_2,rfl,_,_,_,rfl,rfl,fa_51_3,rfl,_,_,_,rfl,rfl,fa_51_4,rfl,_,_,_,rfl,rfl,fa_51_6,rfl,_,_,_,rfl,rfl,fa_51_7,rfl,rfl⟩ rfl fun a hk=>?_
  refine o_buildSlice (r:=[.int .i64 3,.int .i64 0,.int .i64 (-1),.int .i64 (-1),.int .i64 (-1),.int .i64 0,.int .i64 0,.slice none 0 0,.int .i64 2,.int .i64 0,.int .i64 (-1),.int .i64 (-1),.int .i64 (-1),.int .i64 0,.int .i64 0,.slice none 0 0,.int .i64 8,.int .i64 0,.int .i64 (-1),.int .i64 0,.int .i64 (-1),.int .i64 0,.int .i64 0,.slice none 0 0,.int .i64 3,.int .i64 1,.int .i64 (-1),.int .i64 (-1),.int .i64 (-1),.int .i64 0,.int .i64 0,.slice none 0 0,.int .i64 11,.int .i64 0,.int .i64 (-1),.int .i64 (-1),.int .i64 (-1),.int .i64 0,.int .i64 10,.slice ps1 sch_sShareFetchResponseTopic.length caps1,.int .i64 11,.int .i64 0,.int .i64 (-1),.int .i64 (-1),.int .i64 (-1),.int .i64 0,.int .i64 10,.slice ps2 sch_sShareFetchResponseNodeEndpoint.length caps2]) hk hm rt_29 tz_51 rfl rfl rfl ⟨_,_,_,rfl,rfl,rfl,rfl,_,_,_,rfl,rfl,rfl,rfl,_,_,_,rfl,rfl,rfl,rfl,_,_,_,rfl,rfl,rfl,rfl,_,_,_,rfl,rfl,rfl,rfl,_,_,_,rfl,rfl,rfl,rfl,bres_nil (by kernel_rfl)⟩ rfl fun a b2 w hk hm=>?_
  refine o_build (r:=[.slice (some ⟨b2,0,none⟩) 6 6,.int .i64 0]) hk tz_31 rfl fok_31 ⟨_,_,_,rfl,rfl,fa_31_1,rfl,_,_,_,rfl,rfl,fa_31_0,rfl,rfl⟩ rfl fun a hk=>?_
  refine o_store (i:=3) hk hm ts_31 rfl rfl rfl rfl rfl rfl (Nat.le_of_ble_eq_true rfl) fun a w hk hm=>?_
  refine cE0 ?_
  refine wp_ret ?_
  refine b_retCell (i:=3) (cs:=[.slice (some ⟨b2,0,none⟩) 6 6,.int .i64 0]) rfl ts_31 hk hm rfl rfl ?_
  have hm:=hm.freezeLit (i:=0) (n:=6) (sz:=8) (l:=sch_ShareFetchResponse.map ddFd) rfl id rfl rfl (by decide) (show RepE _ _ 8 [ddFd (.mk 3 0 (-1) (-1) (-1) 0 0 []),ddFd (.mk 2 0 (-1) (-1) (-1) 0 0 []),ddFd (.mk 8 0 (-1) 0 (-1) 0 0 []),ddFd (.mk 3 1 (-1) (-1) (-1) 0 0 []),ddFd (.mk 11 0 (-1) (-1) (-1) 0 10 sch_sShareFetchResponseTopic),ddFd (.mk 11 0 (-1) (-1) (-1) 0 10 sch_sShareFetchResponseNodeEndpoint)] _ from RepE.consC (c1:=[.int .i64 3,.int .i64 0,.int .i64 (-1),.int .i64 (-1),.int .i64 (-1),.int .i64 0,.int .i64 0,.slice none 0 0]) rfl (rep_Fd_mk (rep_nosub)) (RepE.consC (c1:=[.int .i64 2,.int .i64 0,.int .i64 (-1),.int .i64 (-1),.int .i64 (-1),.int .i64 0,.int .i64 0,.slice none 0 0]) rfl (rep_Fd_mk (rep_nosub)) (RepE.consC (c1:=[.int .i64 8,.int .i64 0,.int .i64 (-1),.int .i64 0,.int .i64 (-1),.int .i64 0,.int .i64 0,.slice none 0 0]) rfl (rep_Fd_mk (rep_nosub)) (RepE.consC (c1:=[.int .i64 3,.int .i64 1,.int .i64 (-1),.int .i64 (-1),.int .i64 (-1),.int .i64 0,.int .i64 0,.slice none 0 0]) rfl (rep_Fd_mk (rep_nosub)) (RepE.consC (c1:=[.int .i64 11,.int .i64 0,.int .i64 (-1),.int .i64 (-1),.int .i64 (-1),.int .i64 0,.int .i64 10,.slice ps1 sch_sShareFetchResponseTopic.length caps1]) rfl (rep_Fd_mk (hm.rep (i:=2) rfl)) (RepE.consC (c1:=[.int .i64 11,.int .i64 0,.int .i64 (-1),.int .i64 (-1),.int .i64 (-1),.int .i64 0,.int .i64 10,.slice ps2 sch_sShareFetchResponseNodeEndpoint.length caps2]) rfl (rep_Fd_mk (hm.rep (i:=1) rfl)) (RepE.nil _ _ _)))))))
  exact ⟨hm.agr,_,_,rfl,hm.out (hm.rep (i:=0) rfl)⟩
end Go.Proofs.YtoopklfabccmnaaGreatDoor
