/- Walks of functions that the laws of this seat reach. No statement of the seat stands here. -/
import Derived.Test.YtnoklacheaplkabGreatDoorL2
import Derived.Test.YtnoklacheaplkabGreatDoorRows
import Derived.Test.YtnoklacheaplkabGreatDoorFa
import Derived.Test.YtnoklacheaplkabGreatDoorSch
import Derived.Test.YtnoklacheaplkabGreatDoorSi
namespace Go.Proofs.YtnoklacheaplkabGreatDoor
open Go Go.Mk
theorem sch_c_sDescribeQuorumResponseTopicPartitionReplicaState {w0 : World} {Y : Nat → Prop} : Ret Tryz.prog 99 [] w0 fun v w' => Agr Nob w0 w' ∧ ∃ p cap, v = .slice p sch_sDescribeQuorumResponseTopicPartitionReplicaState.length cap ∧ Rep w' (fun b => b < w0.heap.size ∧ Y b) (.sl false 8 (sch_sDescribeQuorumResponseTopicPartitionReplicaState.map ddFd)) [.slice p sch_sDescribeQuorumResponseTopicPartitionReplicaState.length cap] := by
  refine c_call Tryz.func99 rfl rfl fun a hk => ?_
  have hk : Kn 7 [] a := hk
  have hm : Mem w0 Nob Y [] w0 := Mem.start rfl (by simp)
  refine cR0 ?_
  refine oA0 hk rfl rfl fun a hk => ?_
  refine cE0 ?_
  refine cR0 ?_
  refine o_build (r := [.int .i64 3, .int .i64 0, .int .i64 (-1), .int .i64 (-1), .int .i64 (-1), .int .i64 0, .int .i64 0, .slice none 0 0]) hk tz_51 rfl fok_51 ⟨_, _, _, rfl, rfl, fa_51_0, rfl, _, _, _, rfl, rfl, fa_51_2, rfl, _, _, _, rfl, rfl, fa_51_3, rfl, _, _, _, rfl, rfl, fa_51_4, rfl, rfl⟩ rfl fun a hk => ?_
  refine o_build (r := [.int .i64 7, .int .i64 2, .int .i64 (-1), .int .i64 (-1), .int .i64 (-1), .int .i64 0, .int .i64 0, .slice none 0 0]) hk tz_51 rfl fok_51 ⟨_, _, _, rfl, rfl, fa_51_0, rfl, _, _, _, rfl, rfl, fa_51_1, rfl, _, _, _, rfl, rfl, fa_51_2, rfl, _, _, _, rfl, rfl, fa_51_3, rfl, _, _, _, rfl, rfl, fa_51_4, rfl, rfl⟩ rfl fun a hk => ?_
  refine o_build (r := [.int .i64 4, .int .i64 0, .int .i64 (-1), .int .i64 (-1), .int .i64 (-1), .int .i64 0, .int .i64 0, .slice none 0 0]) hk tz_51 rfl fok_51 ⟨_, _, _, rfl, rfl, fa_51_0, rfl, _, _, _, rfl, rfl, fa_51_2, rfl, _, _, _, rfl, rfl, fa_51_3, rfl, _, _, _, rfl, rfl, fa_51_4, rfl, rfl⟩ rfl fun a hk => ?_
  refine o_build (r := [.int .i64 4, .int .i64 1, .int .i64 (-1), .int .i64 (-1), .int .i64 (-1), .int .i64 (-1), .int .i64 0, .slice none 0 0]) hk tz_51 rfl fok_51 ⟨_, _, _, rfl, rfl, fa_51_0, rfl, _, _, _, rfl, rfl, fa_51_1, rfl, _, _, _, rfl, rfl, fa_51_2, rfl, _, _, _, rfl, rfl, fa_51_3, rfl, _, _, _, rfl, rfl, fa_51_4, rfl, _, _, _, rfl, rfl, fa_51_5, rfl, rfl⟩ rfl fun a hk => ?_
  refine o_build (r := [.int .i64 4, .int .i64 1, .int .i64 (-1), .int .i64 (-1), .int .i64 (-1), .int .i64 (-1), .int .i64 0, .slice none 0 0]) hk tz_51 rfl fok_51 ⟨_, _, _, rfl, rfl, fa_51_0, rfl, _, _, _, rfl, rfl, fa_51_1, rfl, _, _, _, rfl, rfl, fa_51_2, rfl, _, _, _, rfl, rfl, fa_51_3, rfl, _, _, _, rfl, rfl, fa_51_4, rfl, _, _, _, rfl, rfl, fa_51_5, rfl, rfl⟩ rfl fun a hk => ?_
  refine o_buildSlice (r := [.int .i64 3, .int .i64 0, .int .i64 (-1), .int .i64 (-1), .int .i64 (-1), .int .i64 0, .int .i64 0, .slice none 0 0, .int .i64 7, .int .i64 2, .int .i64 (-1), .int .i64 (-1), .int .i64 (-1), .int .i64 0, .int .i64 0, .slice none 0 0, .int .i64 4, .int .i64 0, .int .i64 (-1), .int .i64 (-1), .int .i64 (-1), .int .i64 0, .int .i64 0, .slice none 0 0, .int .i64 4, .int .i64 1, .int .i64 (-1), .int .i64 (-1), .int .i64 (-1), .int .i64 (-1), .int .i64 0, .slice none 0 0, .int .i64 4, .int .i64 1, .int .i64 (-1), .int .i64 (-1), .int .i64 (-1), .int .i64 (-1), .int .i64 0, .slice none 0 0]) hk hm rt_29 tz_51 rfl rfl rfl ⟨_, _, _, rfl, rfl, rfl, rfl, _, _, _, rfl, rfl, rfl, rfl, _, _, _, rfl, rfl, rfl, rfl, _, _, _, rfl, rfl, rfl, rfl, _, _, _, rfl, rfl, rfl, rfl, bres_nil (by kernel_rfl)⟩ rfl fun a b1 w hk hm => ?_
  refine oA0 hk rfl rfl fun a hk => ?_
  refine cE0 ?_
  refine wp_ret ?_
  refine bT0 rfl hk rfl ?_
  have hm := hm.freezeLit (i := 0) (n := 5) (sz := 8) (l := sch_sDescribeQuorumResponseTopicPartitionReplicaState.map ddFd) rfl id rfl rfl (by decide) (show RepE _ _ 8 [ddFd (.mk 3 0 (-1) (-1) (-1) 0 0 []), ddFd (.mk 7 2 (-1) (-1) (-1) 0 0 []), ddFd (.mk 4 0 (-1) (-1) (-1) 0 0 []), ddFd (.mk 4 1 (-1) (-1) (-1) (-1) 0 []), ddFd (.mk 4 1 (-1) (-1) (-1) (-1) 0 [])] _ from RepE.consC (c1 := [.int .i64 3, .int .i64 0, .int .i64 (-1), .int .i64 (-1), .int .i64 (-1), .int .i64 0, .int .i64 0, .slice none 0 0]) rfl (rep_Fd_mk (rep_nosub)) (RepE.consC (c1 := [.int .i64 7, .int .i64 2, .int .i64 (-1), .int .i64 (-1), .int .i64 (-1), .int .i64 0, .int .i64 0, .slice none 0 0]) rfl (rep_Fd_mk (rep_nosub)) (RepE.consC (c1 := [.int .i64 4, .int .i64 0, .int .i64 (-1), .int .i64 (-1), .int .i64 (-1), .int .i64 0, .int .i64 0, .slice none 0 0]) rfl (rep_Fd_mk (rep_nosub)) (RepE.consC (c1 := [.int .i64 4, .int .i64 1, .int .i64 (-1), .int .i64 (-1), .int .i64 (-1), .int .i64 (-1), .int .i64 0, .slice none 0 0]) rfl (rep_Fd_mk (rep_nosub)) (RepE.consC (c1 := [.int .i64 4, .int .i64 1, .int .i64 (-1), .int .i64 (-1), .int .i64 (-1), .int .i64 (-1), .int .i64 0, .slice none 0 0]) rfl (rep_Fd_mk (rep_nosub)) (RepE.nil _ _ _))))))
  exact ⟨hm.agr, _, _, rfl, hm.out (hm.rep (i := 0) rfl)⟩
theorem sch_c_sDescribeQuorumResponseTopicPartition {w0 : World} {Y : Nat → Prop} : Ret Tryz.prog 60 [] w0 fun v w' => Agr Nob w0 w' ∧ ∃ p cap, v = .slice p sch_sDescribeQuorumResponseTopicPartition.length cap ∧ Rep w' (fun b => b < w0.heap.size ∧ Y b) (.sl false 8 (sch_sDescribeQuorumResponseTopicPartition.map ddFd)) [.slice p sch_sDescribeQuorumResponseTopicPartition.length cap] := by
  refine c_call Tryz.func60 rfl rfl fun a hk => ?_
  have hk : Kn 12 [] a := hk
  have hm : Mem w0 Nob Y [] w0 := Mem.start rfl (by simp)
  refine cR0 ?_
  refine oA0 hk rfl rfl fun a hk => ?_
  refine cE0 ?_
  refine cR0 ?_
  refine o_build (r := [.int .i64 3, .int .i64 0, .int .i64 (-1), .int .i64 (-1), .int .i64 (-1), .int .i64 0, .int .i64 0, .slice none 0 0]) hk tz_51 rfl fok_51 ⟨_, _, _, rfl, rfl, fa_51_0, rfl, _, _, _, rfl, rfl, fa_51_2, rfl, _, _, _, rfl, rfl, fa_51_3, rfl, _, _, _, rfl, rfl, fa_51_4, rfl, rfl⟩ rfl fun a hk => ?_
  refine o_build (r := [.int .i64 2, .int .i64 0, .int .i64 (-1), .int .i64 (-1), .int .i64 (-1), .int .i64 0, .int .i64 0, .slice none 0 0]) hk tz_51 rfl fok_51 ⟨_, _, _, rfl, rfl, fa_51_0, rfl, _, _, _, rfl, rfl, fa_51_2, rfl, _, _, _, rfl, rfl, fa_51_3, rfl, _, _, _, rfl, rfl, fa_51_4, rfl, rfl⟩ rfl fun a hk => ?_
  refine o_build (r := [.int .i64 8, .int .i64 2, .int .i64 (-1), .int .i64 2, .int .i64 (-1), .int .i64 0, .int .i64 0, .slice none 0 0]) hk tz_51 rfl fok_51 ⟨_, _, _, rfl, rfl, fa_51_0, rfl, _, _, _, rfl, rfl, fa_51_1, rfl, _, _, _, rfl, rfl, fa_51_2, rfl, _, _, _, rfl, rfl, fa_51_3, rfl, _, _, _, rfl, rfl, fa_51_4, rfl, rfl⟩ rfl fun a hk => ?_
  refine o_build (r := [.int .i64 3, .int .i64 0, .int .i64 (-1), .int .i64 (-1), .int .i64 (-1), .int .i64 0, .int .i64 0, .slice none 0 0]) hk tz_51 rfl fok_51 ⟨_, _, _, rfl, rfl, fa_51_0, rfl, _, _, _, rfl, rfl, fa_51_2, rfl, _, _, _, rfl, rfl, fa_51_3, rfl, _, _, _, rfl, rfl, fa_51_4, rfl, rfl⟩ rfl fun a hk => ?_
  refine o_build (r := [.int .i64 3, .int .i64 0, .int .i64 (-1), .int .i64 (-1), .int .i64 (-1), .int .i64 0, .int .i64 0, .slice none 0 0]) hk tz_51 rfl fok_51 ⟨_, _, _, rfl, rfl, fa_51_0, rfl, _, _, _, rfl, rfl, fa_51_2, rfl, _, _, _, rfl, rfl, fa_51_3, rfl, _, _, _, rfl, rfl, fa_51_4, rfl, rfl⟩ rfl fun a hk => ?_
  refine o_build (r := [.int .i64 4, .int .i64 0, .int .i64 (-1), .int .i64 (-1), .int .i64 (-1), .int .i64 0, .int .i64 0, .slice none 0 0]) hk tz_51 rfl fok_51 ⟨_, _, _, rfl, rfl, fa_51_0, rfl, _, _, _, rfl, rfl, fa_51_2, rfl, _, _, _, rfl, rfl, fa_51_3, rfl, _, _, _, rfl, rfl, fa_51_4, rfl, rfl⟩ rfl fun a hk => ?_
  refine o_call hk cb_99 (sch_c_sDescribeQuorumResponseTopicPartitionReplicaState (Y := Yof w0 Y [])) trivial rfl fun v w a hR hk => ?_
  obtain ⟨hp, ps1, caps1, rfl, hR⟩ := hR
  have hm := hm.result hp hR
  refine o_build (r := [.int .i64 11, .int .i64 0, .int .i64 (-1), .int .i64 (-1), .int .i64 (-1), .int .i64 0, .int .i64 10, .slice ps1 sch_sDescribeQuorumResponseTopicPartitionReplicaState.length caps1]) hk tz_51 rfl fok_51 ⟨_, _, _, rfl, rfl, fa_51_0, rfl, _, _, _, rfl, rfl, fa_51_2, rfl, _, _, _, rfl, rfl, fa_51_3, rfl, _, _, _, rfl, rfl, fa_51_4, rfl, _, _, _, rfl, rfl, fa_51_6, rfl, _, _, _, rfl, rfl, fa_51_7, rfl, rfl⟩ rfl fun a hk => ?_
  refine o_call hk cb_99 (sch_c_sDescribeQuorumResponseTopicPartitionReplicaState (Y := Yof w0 Y [.rep (.sl false 8 (sch_sDescribeQuorumResponseTopicPartitionReplicaState.map ddFd)) [.slice ps1 sch_sDescribeQuorumResponseTopicPartitionReplicaState.length caps1]])) trivial rfl fun v w a hR hk => ?_
  obtain ⟨hp, ps2, caps2, rfl, hR⟩ := hR
  have hm := hm.result hp hR
  refine o_build (r := [.int .i64 11, .int .i64 0, .int .i64 (-1), .int .i64 (-1), .int .i64 (-1), .int .i64 0, .int .i64 10, .slice ps2 sch_sDescribeQuorumResponseTopicPartitionReplicaState.length caps2]) hk tz_51 rfl fok_51 ⟨_, _, _, rfl, rfl, fa_51_0, rfl, _, _, _, rfl, rfl, fa_51_2, rfl, _, _, _, rfl, rfl, fa_51_3, rfl, _, _, _, rfl, rfl, fa_51_4, rfl, _, _, _, rfl, rfl, fa_51_6, rfl, _, _, _, rfl, rfl, fa_51_7, rfl, rfl⟩ rfl fun a hk => ?_
  refine o_buildSlice (r := [.int .i64 3, .int .i64 0, .int .i64 (-1), .int .i64 (-1), .int .i64 (-1), .int .i64 0, .int .i64 0, .slice none 0 0, .int .i64 2, .int .i64 0, .int .i64 (-1), .int .i64 (-1), .int .i64 (-1), .int .i64 0, .int .i64 0, .slice none 0 0, .int .i64 8, .int .i64 2, .int .i64 (-1), .int .i64 2, .int .i64 (-1), .int .i64 0, .int .i64 0, .slice none 0 0, .int .i64 3, .int .i64 0, .int .i64 (-1), .int .i64 (-1), .int .i64 (-1), .int .i64 0, .int .i64 0, .slice none 0 0, .int .i64 3, .int .i64 0, .int .i64 (-1), .int .i64 (-1), .int .i64 (-1), .int .i64 0, .int .i64 0, .slice none 0 0, .int .i64 4, .int .i64 0, .int .i64 (-1), .int .i64 (-1), .int .i64 (-1), .int .i64 0, .int .i64 0, .slice none 0 0, .int .i64 11, .int .i64 0, .int .i64 (-1), .int .i64 (-1), .int .i64 (-1), .int .i64 0, .int .i64 10, .slice ps1 sch_sDescribeQuorumResponseTopicPartitionReplicaState.length caps1, .int .i64 11, .int .i64 0, .int .i64 (-1), .int .i64 (-1), .int .i64 (-1), .int .i64 0, .int .i64 10, .slice ps2 sch_sDescribeQuorumResponseTopicPartitionReplicaState.length caps2]) hk hm rt_29 tz_51 rfl rfl rfl ⟨_, _, _, rfl, rfl, rfl, rfl, _, _, _, rfl, rfl, rfl, rfl, _, _, _, rfl, rfl, rfl, rfl, _, _, _, rfl, rfl, rfl, rfl, _, _, _, rfl, rfl, rfl, rfl, _, _, _, rfl, rfl, rfl, rfl, _, _, _, rfl, rfl, rfl, rfl, _, _, _, rfl, rfl, rfl, rfl, bres_nil (by kernel_rfl)⟩ rfl fun a b1 w hk hm => ?_
  refine oA0 hk rfl rfl fun a hk => ?_
  refine cE0 ?_
  refine wp_ret ?_
  refine bT0 rfl hk rfl ?_
  have hm := hm.freezeLit (i := 0) (n := 8) (sz := 8) (l := sch_sDescribeQuorumResponseTopicPartition.map ddFd) rfl id rfl rfl (by decide) (show RepE _ _ 8 [ddFd (.mk 3 0 (-1) (-1) (-1) 0 0 []), ddFd (.mk 2 0 (-1) (-1) (-1) 0 0 []), ddFd (.mk 8 2 (-1) 2 (-1) 0 0 []), ddFd (.mk 3 0 (-1) (-1) (-1) 0 0 []), ddFd (.mk 3 0 (-1) (-1) (-1) 0 0 []), ddFd (.mk 4 0 (-1) (-1) (-1) 0 0 []), ddFd (.mk 11 0 (-1) (-1) (-1) 0 10 sch_sDescribeQuorumResponseTopicPartitionReplicaState), ddFd (.mk 11 0 (-1) (-1) (-1) 0 10 sch_sDescribeQuorumResponseTopicPartitionReplicaState)] _ from RepE.consC (c1 := [.int .i64 3, .int .i64 0, .int .i64 (-1), .int .i64 (-1), .int .i64 (-1), .int .i64 0, .int .i64 0, .slice none 0 0]) rfl (rep_Fd_mk (rep_nosub)) (RepE.consC (c1 := [.int .i64 2, .int .i64 0, .int .i64 (-1), .int .i64 (-1), .int .i64 (-1), .int .i64 0, .int .i64 0, .slice none 0 0]) rfl (rep_Fd_mk (rep_nosub)) (RepE.consC (c1 := [.int .i64 8, .int .i64 2, .int .i64 (-1), .int .i64 2, .int .i64 (-1), .int .i64 0, .int .i64 0, .slice none 0 0]) rfl (rep_Fd_mk (rep_nosub)) (RepE.consC (c1 := [.int .i64 3, .int .i64 0, .int .i64 (-1), .int .i64 (-1), .int .i64 (-1), .int .i64 0, .int .i64 0, .slice none 0 0]) rfl (rep_Fd_mk (rep_nosub)) (RepE.consC (c1 := [.int .i64 3, .int .i64 0, .int .i64 (-1), .int .i64 (-1), .int .i64 (-1), .int .i64 0, .int .i64 0, .slice none 0 0]) rfl (rep_Fd_mk (rep_nosub)) (RepE.consC (c1 := [.int .i64 4, .int .i64 0, .int .i64 (-1), .int .i64 (-1), .int .i64 (-1), .int .i64 0, .int .i64 0, .slice none 0 0]) rfl (rep_Fd_mk (rep_nosub)) (RepE.consC (c1 := [.int .i64 11, .int .i64 0, .int .i64 (-1), .int .i64 (-1), .int .i64 (-1), .int .i64 0, .int .i64 10, .slice ps1 sch_sDescribeQuorumResponseTopicPartitionReplicaState.length caps1]) rfl (rep_Fd_mk (hm.rep (i := 2) rfl)) (RepE.consC (c1 := [.int .i64 11, .int .i64 0, .int .i64 (-1), .int .i64 (-1), .int .i64 (-1), .int .i64 0, .int .i64 10, .slice ps2 sch_sDescribeQuorumResponseTopicPartitionReplicaState.length caps2]) rfl (rep_Fd_mk (hm.rep (i := 1) rfl)) (RepE.nil _ _ _)))))))))
  exact ⟨hm.agr, _, _, rfl, hm.out (hm.rep (i := 0) rfl)⟩
theorem sch_c_sDescribeQuorumResponseTopic {w0 : World} {Y : Nat → Prop} : Ret Tryz.prog 36 [] w0 fun v w' => Agr Nob w0 w' ∧ ∃ p cap, v = .slice p sch_sDescribeQuorumResponseTopic.length cap ∧ Rep w' (fun b => b < w0.heap.size ∧ Y b) (.sl false 8 (sch_sDescribeQuorumResponseTopic.map ddFd)) [.slice p sch_sDescribeQuorumResponseTopic.length cap] := by
  refine c_call Tryz.func36 rfl rfl fun a hk => ?_
  have hk : Kn 5 [] a := hk
  have hm : Mem w0 Nob Y [] w0 := Mem.start rfl (by simp)
  refine cR0 ?_
  refine oA0 hk rfl rfl fun a hk => ?_
  refine cE0 ?_
  refine cR0 ?_
  refine o_build (r := [.int .i64 8, .int .i64 0, .int .i64 (-1), .int .i64 (-1), .int .i64 (-1), .int .i64 0, .int .i64 0, .slice none 0 0]) hk tz_51 rfl fok_51 ⟨_, _, _, rfl, rfl, fa_51_0, rfl, _, _, _, rfl, rfl, fa_51_2, rfl, _, _, _, rfl, rfl, fa_51_3, rfl, _, _, _, rfl, rfl, fa_51_4, rfl, rfl⟩ rfl fun a hk => ?_
  refine o_call hk cb_60 (sch_c_sDescribeQuorumResponseTopicPartition (Y := Yof w0 Y [])) trivial rfl fun v w a hR hk => ?_
  obtain ⟨hp, ps1, caps1, rfl, hR⟩ := hR
  have hm := hm.result hp hR
  refine o_build (r := [.int .i64 11, .int .i64 0, .int .i64 (-1), .int .i64 (-1), .int .i64 (-1), .int .i64 0, .int .i64 10, .slice ps1 sch_sDescribeQuorumResponseTopicPartition.length caps1]) hk tz_51 rfl fok_51 ⟨_, _, _, rfl, rfl, fa_51_0, rfl, _, _, _, rfl, rfl, fa_51_2, rfl, _, _, _, rfl, rfl, fa_51_3, rfl, _, _, _, rfl, rfl, fa_51_4, rfl, _, _, _, rfl, rfl, fa_51_6, rfl, _, _, _, rfl, rfl, fa_51_7, rfl, rfl⟩ rfl fun a hk => ?_
  refine o_buildSlice (r := [.int .i64 8, .int .i64 0, .int .i64 (-1), .int .i64 (-1), .int .i64 (-1), .int .i64 0, .int .i64 0, .slice none 0 0, .int .i64 11, .int .i64 0, .int .i64 (-1), .int .i64 (-1), .int .i64 (-1), .int .i64 0, .int .i64 10, .slice ps1 sch_sDescribeQuorumResponseTopicPartition.length caps1]) hk hm rt_29 tz_51 rfl rfl rfl ⟨_, _, _, rfl, rfl, rfl, rfl, _, _, _, rfl, rfl, rfl, rfl, rfl⟩ rfl fun a b1 w hk hm => ?_
  refine oA0 hk rfl rfl fun a hk => ?_
  refine cE0 ?_
  refine wp_ret ?_
  refine bT0 rfl hk rfl ?_
  have hm := hm.freezeLit (i := 0) (n := 2) (sz := 8) (l := sch_sDescribeQuorumResponseTopic.map ddFd) rfl id rfl rfl (by decide) (show RepE _ _ 8 [ddFd (.mk 8 0 (-1) (-1) (-1) 0 0 []), ddFd (.mk 11 0 (-1) (-1) (-1) 0 10 sch_sDescribeQuorumResponseTopicPartition)] _ from RepE.consC (c1 := [.int .i64 8, .int .i64 0, .int .i64 (-1), .int .i64 (-1), .int .i64 (-1), .int .i64 0, .int .i64 0, .slice none 0 0]) rfl (rep_Fd_mk (rep_nosub)) (RepE.consC (c1 := [.int .i64 11, .int .i64 0, .int .i64 (-1), .int .i64 (-1), .int .i64 (-1), .int .i64 0, .int .i64 10, .slice ps1 sch_sDescribeQuorumResponseTopicPartition.length caps1]) rfl (rep_Fd_mk (hm.rep (i := 1) rfl)) (RepE.nil _ _ _)))
  exact ⟨hm.agr, _, _, rfl, hm.out (hm.rep (i := 0) rfl)⟩
theorem sch_c_sDescribeQuorumResponseNodeListener {w0 : World} {Y : Nat → Prop} : Ret Tryz.prog 61 [] w0 fun v w' => Agr Nob w0 w' ∧ ∃ p cap, v = .slice p sch_sDescribeQuorumResponseNodeListener.length cap ∧ Rep w' (fun b => b < w0.heap.size ∧ Y b) (.sl false 8 (sch_sDescribeQuorumResponseNodeListener.map ddFd)) [.slice p sch_sDescribeQuorumResponseNodeListener.length cap] := by
  refine c_call Tryz.func61 rfl rfl fun a hk => ?_
  have hk : Kn 5 [] a := hk
  have hm : Mem w0 Nob Y [] w0 := Mem.start rfl (by simp)
  refine cR0 ?_
  refine oA0 hk rfl rfl fun a hk => ?_
  refine cE0 ?_
  refine cR0 ?_
  refine o_build (r := [.int .i64 8, .int .i64 0, .int .i64 (-1), .int .i64 (-1), .int .i64 (-1), .int .i64 0, .int .i64 0, .slice none 0 0]) hk tz_51 rfl fok_51 ⟨_, _, _, rfl, rfl, fa_51_0, rfl, _, _, _, rfl, rfl, fa_51_2, rfl, _, _, _, rfl, rfl, fa_51_3, rfl, _, _, _, rfl, rfl, fa_51_4, rfl, rfl⟩ rfl fun a hk => ?_
  refine o_build (r := [.int .i64 8, .int .i64 0, .int .i64 (-1), .int .i64 (-1), .int .i64 (-1), .int .i64 0, .int .i64 0, .slice none 0 0]) hk tz_51 rfl fok_51 ⟨_, _, _, rfl, rfl, fa_51_0, rfl, _, _, _, rfl, rfl, fa_51_2, rfl, _, _, _, rfl, rfl, fa_51_3, rfl, _, _, _, rfl, rfl, fa_51_4, rfl, rfl⟩ rfl fun a hk => ?_
  refine o_build (r := [.int .i64 5, .int .i64 0, .int .i64 (-1), .int .i64 (-1), .int .i64 (-1), .int .i64 0, .int .i64 0, .slice none 0 0]) hk tz_51 rfl fok_51 ⟨_, _, _, rfl, rfl, fa_51_0, rfl, _, _, _, rfl, rfl, fa_51_2, rfl, _, _, _, rfl, rfl, fa_51_3, rfl, _, _, _, rfl, rfl, fa_51_4, rfl, rfl⟩ rfl fun a hk => ?_
  refine o_buildSlice (r := [.int .i64 8, .int .i64 0, .int .i64 (-1), .int .i64 (-1), .int .i64 (-1), .int .i64 0, .int .i64 0, .slice none 0 0, .int .i64 8, .int .i64 0, .int .i64 (-1), .int .i64 (-1), .int .i64 (-1), .int .i64 0, .int .i64 0, .slice none 0 0, .int .i64 5, .int .i64 0, .int .i64 (-1), .int .i64 (-1), .int .i64 (-1), .int .i64 0, .int .i64 0, .slice none 0 0]) hk hm rt_29 tz_51 rfl rfl rfl ⟨_, _, _, rfl, rfl, rfl, rfl, _, _, _, rfl, rfl, rfl, rfl, _, _, _, rfl, rfl, rfl, rfl, rfl⟩ rfl fun a b1 w hk hm => ?_
  refine oA0 hk rfl rfl fun a hk => ?_
  refine cE0 ?_
  refine wp_ret ?_
  refine bT0 rfl hk rfl ?_
  have hm := hm.freezeLit (i := 0) (n := 3) (sz := 8) (l := sch_sDescribeQuorumResponseNodeListener.map ddFd) rfl id rfl rfl (by decide) (show RepE _ _ 8 [ddFd (.mk 8 0 (-1) (-1) (-1) 0 0 []), ddFd (.mk 8 0 (-1) (-1) (-1) 0 0 []), ddFd (.mk 5 0 (-1) (-1) (-1) 0 0 [])] _ from RepE.consC (c1 := [.int .i64 8, .int .i64 0, .int .i64 (-1), .int .i64 (-1), .int .i64 (-1), .int .i64 0, .int .i64 0, .slice none 0 0]) rfl (rep_Fd_mk (rep_nosub)) (RepE.consC (c1 := [.int .i64 8, .int .i64 0, .int .i64 (-1), .int .i64 (-1), .int .i64 (-1), .int .i64 0, .int .i64 0, .slice none 0 0]) rfl (rep_Fd_mk (rep_nosub)) (RepE.consC (c1 := [.int .i64 5, .int .i64 0, .int .i64 (-1), .int .i64 (-1), .int .i64 (-1), .int .i64 0, .int .i64 0, .slice none 0 0]) rfl (rep_Fd_mk (rep_nosub)) (RepE.nil _ _ _))))
  exact ⟨hm.agr, _, _, rfl, hm.out (hm.rep (i := 0) rfl)⟩
theorem sch_c_sDescribeQuorumResponseNode {w0 : World} {Y : Nat → Prop} : Ret Tryz.prog 37 [] w0 fun v w' => Agr Nob w0 w' ∧ ∃ p cap, v = .slice p sch_sDescribeQuorumResponseNode.length cap ∧ Rep w' (fun b => b < w0.heap.size ∧ Y b) (.sl false 8 (sch_sDescribeQuorumResponseNode.map ddFd)) [.slice p sch_sDescribeQuorumResponseNode.length cap] := by
  refine c_call Tryz.func37 rfl rfl fun a hk => ?_
  have hk : Kn 5 [] a := hk
  have hm : Mem w0 Nob Y [] w0 := Mem.start rfl (by simp)
  refine cR0 ?_
  refine oA0 hk rfl rfl fun a hk => ?_
  refine cE0 ?_
  refine cR0 ?_
  refine o_build (r := [.int .i64 3, .int .i64 0, .int .i64 (-1), .int .i64 (-1), .int .i64 (-1), .int .i64 0, .int .i64 0, .slice none 0 0]) hk tz_51 rfl fok_51 ⟨_, _, _, rfl, rfl, fa_51_0, rfl, _, _, _, rfl, rfl, fa_51_2, rfl, _, _, _, rfl, rfl, fa_51_3, rfl, _, _, _, rfl, rfl, fa_51_4, rfl, rfl⟩ rfl fun a hk => ?_
  refine o_call hk cb_61 (sch_c_sDescribeQuorumResponseNodeListener (Y := Yof w0 Y [])) trivial rfl fun v w a hR hk => ?_
  obtain ⟨hp, ps1, caps1, rfl, hR⟩ := hR
  have hm := hm.result hp hR
  refine o_build (r := [.int .i64 11, .int .i64 0, .int .i64 (-1), .int .i64 (-1), .int .i64 (-1), .int .i64 0, .int .i64 10, .slice ps1 sch_sDescribeQuorumResponseNodeListener.length caps1]) hk tz_51 rfl fok_51 ⟨_, _, _, rfl, rfl, fa_51_0, rfl, _, _, _, rfl, rfl, fa_51_2, rfl, _, _, _, rfl, rfl, fa_51_3, rfl, _, _, _, rfl, rfl, fa_51_4, rfl, _, _, _, rfl, rfl, fa_51_6, rfl, _, _, _, rfl, rfl, fa_51_7, rfl, rfl⟩ rfl fun a hk => ?_
  refine o_buildSlice (r := [.int .i64 3, .int .i64 0, .int .i64 (-1), .int .i64 (-1), .int .i64 (-1), .int .i64 0, .int .i64 0, .slice none 0 0, .int .i64 11, .int .i64 0, .int .i64 (-1), .int .i64 (-1), .int .i64 (-1), .int .i64 0, .int .i64 10, .slice ps1 sch_sDescribeQuorumResponseNodeListener.length caps1]) hk hm rt_29 tz_51 rfl rfl rfl ⟨_, _, _, rfl, rfl, rfl, rfl, _, _, _, rfl, rfl, rfl, rfl, rfl⟩ rfl fun a b1 w hk hm => ?_
  refine oA0 hk rfl rfl fun a hk => ?_
  refine cE0 ?_
  refine wp_ret ?_
  refine bT0 rfl hk rfl ?_
  have hm := hm.freezeLit (i := 0) (n := 2) (sz := 8) (l := sch_sDescribeQuorumResponseNode.map ddFd) rfl id rfl rfl (by decide) (show RepE _ _ 8 [ddFd (.mk 3 0 (-1) (-1) (-1) 0 0 []), ddFd (.mk 11 0 (-1) (-1) (-1) 0 10 sch_sDescribeQuorumResponseNodeListener)] _ from RepE.consC (c1 := [.int .i64 3, .int .i64 0, .int .i64 (-1), .int .i64 (-1), .int .i64 (-1), .int .i64 0, .int .i64 0, .slice none 0 0]) rfl (rep_Fd_mk (rep_nosub)) (RepE.consC (c1 := [.int .i64 11, .int .i64 0, .int .i64 (-1), .int .i64 (-1), .int .i64 (-1), .int .i64 0, .int .i64 10, .slice ps1 sch_sDescribeQuorumResponseNodeListener.length caps1]) rfl (rep_Fd_mk (hm.rep (i := 1) rfl)) (RepE.nil _ _ _)))
  exact ⟨hm.agr, _, _, rfl, hm.out (hm.rep (i := 0) rfl)⟩
theorem msg_c_DescribeQuorumResponse {w0 : World} {Y : Nat → Prop} : Ret Tryz.prog 15 [] w0 fun v w' => Agr Nob w0 w' ∧ ∃ p cap, v = .agg #[.slice p sch_DescribeQuorumResponse.length cap, .int .i64 0] ∧ Rep w' (fun b => b < w0.heap.size ∧ Y b) (.sl false 8 (sch_DescribeQuorumResponse.map ddFd)) [.slice p sch_DescribeQuorumResponse.length cap] := by
  refine c_call Tryz.func15 rfl rfl fun a hk => ?_
  have hk : Kn 9 [] a := hk
  have hm : Mem w0 Nob Y [] w0 := Mem.start rfl (by simp)
  refine cR0 ?_
  refine o_alloc hk hm tz_31 rfl rfl fun a b1 w hk hm => ?_
  refine cE0 ?_
  refine cR0 ?_
  refine o_build (r := [.int .i64 2, .int .i64 0, .int .i64 (-1), .int .i64 (-1), .int .i64 (-1), .int .i64 0, .int .i64 0, .slice none 0 0]) hk tz_51 rfl fok_51 ⟨_, _, _, rfl, rfl, fa_51_0, rfl, _, _, _, rfl, rfl, fa_51_2, rfl, _, _, _, rfl, rfl, fa_51_3, rfl, _, _, _, rfl, rfl, fa_51_4, rfl, rfl⟩ rfl fun a hk => ?_
  refine o_build (r := [.int .i64 8, .int .i64 2, .int .i64 (-1), .int .i64 2, .int .i64 (-1), .int .i64 0, .int .i64 0, .slice none 0 0]) hk tz_51 rfl fok_51 ⟨_, _, _, rfl, rfl, fa_51_0, rfl, _, _, _, rfl, rfl, fa_51_1, rfl, _, _, _, rfl, rfl, fa_51_2, rfl, _, _, _, rfl, rfl, fa_51_3, rfl, _, _, _, rfl, rfl, fa_51_4, rfl, rfl⟩ rfl fun a hk => ?_
  refine o_call hk cb_36 (sch_c_sDescribeQuorumResponseTopic (Y := Yof w0 Y [.blk b1 [.slice none 0 0, .int .i64 0] 31])) trivial rfl fun v w a hR hk => ?_
  obtain ⟨hp, ps1, caps1, rfl, hR⟩ := hR
  have hm := hm.result hp hR
  refine o_build (r := [.int .i64 11, .int .i64 0, .int .i64 (-1), .int .i64 (-1), .int .i64 (-1), .int .i64 0, .int .i64 10, .slice ps1 sch_sDescribeQuorumResponseTopic.length caps1]) hk tz_51 rfl fok_51 ⟨_, _, _, rfl, rfl, fa_51_0, rfl, _, _, _, rfl, rfl, fa_51_2, rfl, _, _, _, rfl, rfl, fa_51_3, rfl, _, _, _, rfl, rfl, fa_51_4, rfl, _, _, _, rfl, rfl, fa_51_6, rfl, _, _, _, rfl, rfl, fa_51_7, rfl, rfl⟩ rfl fun a hk => ?_
  refine o_call hk cb_37 (sch_c_sDescribeQuorumResponseNode (Y := Yof w0 Y [.rep (.sl false 8 (sch_sDescribeQuorumResponseTopic.map ddFd)) [.slice ps1 sch_sDescribeQuorumResponseTopic.length caps1], .blk b1 [.slice none 0 0, .int .i64 0] 31])) trivial rfl fun v w a hR hk => ?_
  obtain ⟨hp, ps2, caps2, rfl, hR⟩ := hR
  have hm := hm.result hp hR
  refine o_build (r := [.int .i64 11, .int .i64 2, .int .i64 (-1), .int .i64 (-1), .int .i64 (-1), .int .i64 0, .int .i64 10, .slice ps2 sch_sDescribeQuorumResponseNode.length caps2]) hk tz_51 rfl fok_51 ⟨_, _, _, rfl, rfl, fa_51_0, rfl, _, _, _, rfl, rfl, fa_51_1, rfl, _, _, _, rfl, rfl, fa_51_2, rfl, _, _, _, rfl, rfl, fa_51_3, rfl, _, _, _, rfl, rfl, fa_51_4, rfl, _, _, _, rfl, rfl, fa_51_6, rfl, _, _, _, rfl, rfl, fa_51_7, rfl, rfl⟩ rfl fun a hk => ?_
  refine o_buildSlice (r := [.int .i64 2, .int .i64 0, .int .i64 (-1), .int .i64 (-1), .int .i64 (-1), .int .i64 0, .int .i64 0, .slice none 0 0, .int .i64 8, .int .i64 2, .int .i64 (-1), .int .i64 2, .int .i64 (-1), .int .i64 0, .int .i64 0, .slice none 0 0, .int .i64 11, .int .i64 0, .int .i64 (-1), .int .i64 (-1), .int .i64 (-1), .int .i64 0, .int .i64 10, .slice ps1 sch_sDescribeQuorumResponseTopic.length caps1, .int .i64 11, .int .i64 2, .int .i64 (-1), .int .i64 (-1), .int .i64 (-1), .int .i64 0, .int .i64 10, .slice ps2 sch_sDescribeQuorumResponseNode.length caps2]) hk hm rt_29 tz_51 rfl rfl rfl ⟨_, _, _, rfl, rfl, rfl, rfl, _, _, _, rfl, rfl, rfl, rfl, _, _, _, rfl, rfl, rfl, rfl, _, _, _, rfl, rfl, rfl, rfl, bres_nil (by kernel_rfl)⟩ rfl fun a b2 w hk hm => ?_
  refine o_build (r := [.slice (some ⟨b2, 0, none⟩) 4 4, .int .i64 0]) hk tz_31 rfl fok_31 ⟨_, _, _, rfl, rfl, fa_31_1, rfl, _, _, _, rfl, rfl, fa_31_0, rfl, rfl⟩ rfl fun a hk => ?_
  refine o_store (i := 3) hk hm ts_31 rfl rfl rfl rfl rfl rfl (Nat.le_of_ble_eq_true rfl) fun a w hk hm => ?_
  refine cE0 ?_
  refine wp_ret ?_
  refine b_retCell (i := 3) (cs := [.slice (some ⟨b2, 0, none⟩) 4 4, .int .i64 0]) rfl ts_31 hk hm rfl rfl ?_
  have hm := hm.freezeLit (i := 0) (n := 4) (sz := 8) (l := sch_DescribeQuorumResponse.map ddFd) rfl id rfl rfl (by decide) (show RepE _ _ 8 [ddFd (.mk 2 0 (-1) (-1) (-1) 0 0 []), ddFd (.mk 8 2 (-1) 2 (-1) 0 0 []), ddFd (.mk 11 0 (-1) (-1) (-1) 0 10 sch_sDescribeQuorumResponseTopic), ddFd (.mk 11 2 (-1) (-1) (-1) 0 10 sch_sDescribeQuorumResponseNode)] _ from RepE.consC (c1 := [.int .i64 2, .int .i64 0, .int .i64 (-1), .int .i64 (-1), .int .i64 (-1), .int .i64 0, .int .i64 0, .slice none 0 0]) rfl (rep_Fd_mk (rep_nosub)) (RepE.consC (c1 := [.int .i64 8, .int .i64 2, .int .i64 (-1), .int .i64 2, .int .i64 (-1), .int .i64 0, .int .i64 0, .slice none 0 0]) rfl (rep_Fd_mk (rep_nosub)) (RepE.consC (c1 := [.int .i64 11, .int .i64 0, .int .i64 (-1), .int .i64 (-1), .int .i64 (-1), .int .i64 0, .int .i64 10, .slice ps1 sch_sDescribeQuorumResponseTopic.length caps1]) rfl (rep_Fd_mk (hm.rep (i := 2) rfl)) (RepE.consC (c1 := [.int .i64 11, .int .i64 2, .int .i64 (-1), .int .i64 (-1), .int .i64 (-1), .int .i64 0, .int .i64 10, .slice ps2 sch_sDescribeQuorumResponseNode.length caps2]) rfl (rep_Fd_mk (hm.rep (i := 1) rfl)) (RepE.nil _ _ _)))))
  exact ⟨hm.agr, _, _, rfl, hm.out (hm.rep (i := 0) rfl)⟩
end Go.Proofs.YtnoklacheaplkabGreatDoor
