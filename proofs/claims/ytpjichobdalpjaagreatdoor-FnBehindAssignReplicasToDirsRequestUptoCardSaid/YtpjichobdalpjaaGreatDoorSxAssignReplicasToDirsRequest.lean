/- Walks of functions that the laws of this seat reach. No statement of the seat stands here. -/
import Derived.Test.YtpjichobdalpjaaGreatDoorL2
import Derived.Test.YtpjichobdalpjaaGreatDoorRows
import Derived.Test.YtpjichobdalpjaaGreatDoorFa
import Derived.Test.YtpjichobdalpjaaGreatDoorSch
import Derived.Test.YtpjichobdalpjaaGreatDoorSi
namespace Go.Proofs.YtpjichobdalpjaaGreatDoor
open Go Go.Mk
theorem sch_c_sAssignReplicasToDirsRequestDirectoryTopicPartition {w0 : World} {Y : Nat → Prop} : Ret Tryz.prog 204 [] w0 fun v w' => Agr Nob w0 w' ∧ ∃ p cap, v = .slice p sch_sAssignReplicasToDirsRequestDirectoryTopicPartition.length cap ∧ Rep w' (fun b => b < w0.heap.size ∧ Y b) (.sl false 8 (sch_sAssignReplicasToDirsRequestDirectoryTopicPartition.map ddFd)) [.slice p sch_sAssignReplicasToDirsRequestDirectoryTopicPartition.length cap] := by
  refine c_call Tryz.func204 rfl rfl fun a hk => ?_
  have hk : Kn 3 [] a := hk
  have hm : Mem w0 Nob Y [] w0 := Mem.start rfl (by simp)
  refine c_region ?_
  refine o_assign hk rfl rfl fun a hk => ?_
  refine c_end ?_
  refine c_region ?_
  refine o_build (r := [.int .i64 3, .int .i64 0, .int .i64 (-1), .int .i64 (-1), .int .i64 (-1), .int .i64 0, .int .i64 0, .slice none 0 0]) hk tz_55 rfl fok_55 ⟨_, _, _, rfl, rfl, fa_55_0, rfl, _, _, _, rfl, rfl, fa_55_2, rfl, _, _, _, rfl, rfl, fa_55_3, rfl, _, _, _, rfl, rfl, fa_55_4, rfl, rfl⟩ rfl fun a hk => ?_
  refine o_buildSlice (r := [.int .i64 3, .int .i64 0, .int .i64 (-1), .int .i64 (-1), .int .i64 (-1), .int .i64 0, .int .i64 0, .slice none 0 0]) hk hm rt_29 tz_55 rfl rfl rfl ⟨_, _, _, rfl, rfl, rfl, rfl, rfl⟩ rfl fun a b1 w hk hm => ?_
  refine o_assign hk rfl rfl fun a hk => ?_
  refine c_end ?_
  refine wp_ret ?_
  refine b_retTmp rfl hk rfl ?_
  have hm := hm.freezeLit (i := 0) (n := 1) (sz := 8) (l := sch_sAssignReplicasToDirsRequestDirectoryTopicPartition.map ddFd) rfl id rfl rfl (by decide) (show RepE _ _ 8 [ddFd (.mk 3 0 (-1) (-1) (-1) 0 0 [])] _ from RepE.consC (c1 := [.int .i64 3, .int .i64 0, .int .i64 (-1), .int .i64 (-1), .int .i64 (-1), .int .i64 0, .int .i64 0, .slice none 0 0]) rfl (rep_Fd_mk (rep_nosub)) (RepE.nil _ _ _))
  exact ⟨hm.agr, _, _, rfl, hm.out (hm.rep (i := 0) rfl)⟩
theorem sch_c_sAssignReplicasToDirsRequestDirectoryTopic {w0 : World} {Y : Nat → Prop} : Ret Tryz.prog 141 [] w0 fun v w' => Agr Nob w0 w' ∧ ∃ p cap, v = .slice p sch_sAssignReplicasToDirsRequestDirectoryTopic.length cap ∧ Rep w' (fun b => b < w0.heap.size ∧ Y b) (.sl false 8 (sch_sAssignReplicasToDirsRequestDirectoryTopic.map ddFd)) [.slice p sch_sAssignReplicasToDirsRequestDirectoryTopic.length cap] := by
  refine c_call Tryz.func141 rfl rfl fun a hk => ?_
  have hk : Kn 5 [] a := hk
  have hm : Mem w0 Nob Y [] w0 := Mem.start rfl (by simp)
  refine c_region ?_
  refine o_assign hk rfl rfl fun a hk => ?_
  refine c_end ?_
  refine c_region ?_
  refine o_build (r := [.int .i64 7, .int .i64 0, .int .i64 (-1), .int .i64 (-1), .int .i64 (-1), .int .i64 0, .int .i64 0, .slice none 0 0]) hk tz_55 rfl fok_55 ⟨_, _, _, rfl, rfl, fa_55_0, rfl, _, _, _, rfl, rfl, fa_55_2, rfl, _, _, _, rfl, rfl, fa_55_3, rfl, _, _, _, rfl, rfl, fa_55_4, rfl, rfl⟩ rfl fun a hk => ?_
  refine o_call hk cb_204 (sch_c_sAssignReplicasToDirsRequestDirectoryTopicPartition (Y := Yof w0 Y [])) trivial rfl fun v w a hR hk => ?_
  obtain ⟨hp, ps1, caps1, rfl, hR⟩ := hR
  have hm := hm.result hp hR
  refine o_build (r := [.int .i64 11, .int .i64 0, .int .i64 (-1), .int .i64 (-1), .int .i64 (-1), .int .i64 0, .int .i64 10, .slice ps1 sch_sAssignReplicasToDirsRequestDirectoryTopicPartition.length caps1]) hk tz_55 rfl fok_55 ⟨_, _, _, rfl, rfl, fa_55_0, rfl, _, _, _, rfl, rfl, fa_55_2, rfl, _, _, _, rfl, rfl, fa_55_3, rfl, _, _, _, rfl, rfl, fa_55_4, rfl, _, _, _, rfl, rfl, fa_55_6, rfl, _, _, _, rfl, rfl, fa_55_7, rfl, rfl⟩ rfl fun a hk => ?_
  refine o_buildSlice (r := [.int .i64 7, .int .i64 0, .int .i64 (-1), .int .i64 (-1), .int .i64 (-1), .int .i64 0, .int .i64 0, .slice none 0 0, .int .i64 11, .int .i64 0, .int .i64 (-1), .int .i64 (-1), .int .i64 (-1), .int .i64 0, .int .i64 10, .slice ps1 sch_sAssignReplicasToDirsRequestDirectoryTopicPartition.length caps1]) hk hm rt_29 tz_55 rfl rfl rfl ⟨_, _, _, rfl, rfl, rfl, rfl, _, _, _, rfl, rfl, rfl, rfl, rfl⟩ rfl fun a b1 w hk hm => ?_
  refine o_assign hk rfl rfl fun a hk => ?_
  refine c_end ?_
  refine wp_ret ?_
  refine b_retTmp rfl hk rfl ?_
  have hm := hm.freezeLit (i := 0) (n := 2) (sz := 8) (l := sch_sAssignReplicasToDirsRequestDirectoryTopic.map ddFd) rfl id rfl rfl (by decide) (show RepE _ _ 8 [ddFd (.mk 7 0 (-1) (-1) (-1) 0 0 []), ddFd (.mk 11 0 (-1) (-1) (-1) 0 10 sch_sAssignReplicasToDirsRequestDirectoryTopicPartition)] _ from RepE.consC (c1 := [.int .i64 7, .int .i64 0, .int .i64 (-1), .int .i64 (-1), .int .i64 (-1), .int .i64 0, .int .i64 0, .slice none 0 0]) rfl (rep_Fd_mk (rep_nosub)) (RepE.consC (c1 := [.int .i64 11, .int .i64 0, .int .i64 (-1), .int .i64 (-1), .int .i64 (-1), .int .i64 0, .int .i64 10, .slice ps1 sch_sAssignReplicasToDirsRequestDirectoryTopicPartition.length caps1]) rfl (rep_Fd_mk (hm.rep (i := 1) rfl)) (RepE.nil _ _ _)))
  exact ⟨hm.agr, _, _, rfl, hm.out (hm.rep (i := 0) rfl)⟩
theorem sch_c_sAssignReplicasToDirsRequestDirectory {w0 : World} {Y : Nat → Prop} : Ret Tryz.prog 78 [] w0 fun v w' => Agr Nob w0 w' ∧ ∃ p cap, v = .slice p sch_sAssignReplicasToDirsRequestDirectory.length cap ∧ Rep w' (fun b => b < w0.heap.size ∧ Y b) (.sl false 8 (sch_sAssignReplicasToDirsRequestDirectory.map ddFd)) [.slice p sch_sAssignReplicasToDirsRequestDirectory.length cap] := by
  refine c_call Tryz.func78 rfl rfl fun a hk => ?_
  have hk : Kn 5 [] a := hk
  have hm : Mem w0 Nob Y [] w0 := Mem.start rfl (by simp)
  refine c_region ?_
  refine o_assign hk rfl rfl fun a hk => ?_
  refine c_end ?_
  refine c_region ?_
  refine o_build (r := [.int .i64 7, .int .i64 0, .int .i64 (-1), .int .i64 (-1), .int .i64 (-1), .int .i64 0, .int .i64 0, .slice none 0 0]) hk tz_55 rfl fok_55 ⟨_, _, _, rfl, rfl, fa_55_0, rfl, _, _, _, rfl, rfl, fa_55_2, rfl, _, _, _, rfl, rfl, fa_55_3, rfl, _, _, _, rfl, rfl, fa_55_4, rfl, rfl⟩ rfl fun a hk => ?_
  refine o_call hk cb_141 (sch_c_sAssignReplicasToDirsRequestDirectoryTopic (Y := Yof w0 Y [])) trivial rfl fun v w a hR hk => ?_
  obtain ⟨hp, ps1, caps1, rfl, hR⟩ := hR
  have hm := hm.result hp hR
  refine o_build (r := [.int .i64 11, .int .i64 0, .int .i64 (-1), .int .i64 (-1), .int .i64 (-1), .int .i64 0, .int .i64 10, .slice ps1 sch_sAssignReplicasToDirsRequestDirectoryTopic.length caps1]) hk tz_55 rfl fok_55 ⟨_, _, _, rfl, rfl, fa_55_0, rfl, _, _, _, rfl, rfl, fa_55_2, rfl, _, _, _, rfl, rfl, fa_55_3, rfl, _, _, _, rfl, rfl, fa_55_4, rfl, _, _, _, rfl, rfl, fa_55_6, rfl, _, _, _, rfl, rfl, fa_55_7, rfl, rfl⟩ rfl fun a hk => ?_
  refine o_buildSlice (r := [.int .i64 7, .int .i64 0, .int .i64 (-1), .int .i64 (-1), .int .i64 (-1), .int .i64 0, .int .i64 0, .slice none 0 0, .int .i64 11, .int .i64 0, .int .i64 (-1), .int .i64 (-1), .int .i64 (-1), .int .i64 0, .int .i64 10, .slice ps1 sch_sAssignReplicasToDirsRequestDirectoryTopic.length caps1]) hk hm rt_29 tz_55 rfl rfl rfl ⟨_, _, _, rfl, rfl, rfl, rfl, _, _, _, rfl, rfl, rfl, rfl, rfl⟩ rfl fun a b1 w hk hm => ?_
  refine o_assign hk rfl rfl fun a hk => ?_
  refine c_end ?_
  refine wp_ret ?_
  refine b_retTmp rfl hk rfl ?_
  have hm := hm.freezeLit (i := 0) (n := 2) (sz := 8) (l := sch_sAssignReplicasToDirsRequestDirectory.map ddFd) rfl id rfl rfl (by decide) (show RepE _ _ 8 [ddFd (.mk 7 0 (-1) (-1) (-1) 0 0 []), ddFd (.mk 11 0 (-1) (-1) (-1) 0 10 sch_sAssignReplicasToDirsRequestDirectoryTopic)] _ from RepE.consC (c1 := [.int .i64 7, .int .i64 0, .int .i64 (-1), .int .i64 (-1), .int .i64 (-1), .int .i64 0, .int .i64 0, .slice none 0 0]) rfl (rep_Fd_mk (rep_nosub)) (RepE.consC (c1 := [.int .i64 11, .int .i64 0, .int .i64 (-1), .int .i64 (-1), .int .i64 (-1), .int .i64 0, .int .i64 10, .slice ps1 sch_sAssignReplicasToDirsRequestDirectoryTopic.length caps1]) rfl (rep_Fd_mk (hm.rep (i := 1) rfl)) (RepE.nil _ _ _)))
  exact ⟨hm.agr, _, _, rfl, hm.out (hm.rep (i := 0) rfl)⟩
theorem msg_c_AssignReplicasToDirsRequest {w0 : World} {Y : Nat → Prop} : Ret Tryz.prog 31 [] w0 fun v w' => Agr Nob w0 w' ∧ ∃ p cap, v = .agg #[.slice p sch_AssignReplicasToDirsRequest.length cap, .int .i64 0] ∧ Rep w' (fun b => b < w0.heap.size ∧ Y b) (.sl false 8 (sch_AssignReplicasToDirsRequest.map ddFd)) [.slice p sch_AssignReplicasToDirsRequest.length cap] := by
  refine c_call Tryz.func31 rfl rfl fun a hk => ?_
  have hk : Kn 7 [] a := hk
  have hm : Mem w0 Nob Y [] w0 := Mem.start rfl (by simp)
  refine c_region ?_
  refine o_alloc hk hm tz_31 rfl rfl fun a b1 w hk hm => ?_
  refine c_end ?_
  refine c_region ?_
  refine o_build (r := [.int .i64 3, .int .i64 0, .int .i64 (-1), .int .i64 (-1), .int .i64 (-1), .int .i64 0, .int .i64 0, .slice none 0 0]) hk tz_55 rfl fok_55 ⟨_, _, _, rfl, rfl, fa_55_0, rfl, _, _, _, rfl, rfl, fa_55_2, rfl, _, _, _, rfl, rfl, fa_55_3, rfl, _, _, _, rfl, rfl, fa_55_4, rfl, rfl⟩ rfl fun a hk => ?_
  refine o_build (r := [.int .i64 4, .int .i64 0, .int .i64 (-1), .int .i64 (-1), .int .i64 (-1), .int .i64 (-1), .int .i64 0, .slice none 0 0]) hk tz_55 rfl fok_55 ⟨_, _, _, rfl, rfl, fa_55_0, rfl, _, _, _, rfl, rfl, fa_55_2, rfl, _, _, _, rfl, rfl, fa_55_3, rfl, _, _, _, rfl, rfl, fa_55_4, rfl, _, _, _, rfl, rfl, fa_55_5, rfl, rfl⟩ rfl fun a hk => ?_
  refine o_call hk cb_78 (sch_c_sAssignReplicasToDirsRequestDirectory (Y := Yof w0 Y [.blk b1 [.slice none 0 0, .int .i64 0] 31])) trivial rfl fun v w a hR hk => ?_
  obtain ⟨hp, ps1, caps1, rfl, hR⟩ := hR
  have hm := hm.result hp hR
  refine o_build (r := [.int .i64 11, .int .i64 0, .int .i64 (-1), .int .i64 (-1), .int .i64 (-1), .int .i64 0, .int .i64 10, .slice ps1 sch_sAssignReplicasToDirsRequestDirectory.length caps1]) hk tz_55 rfl fok_55 ⟨_, _, _, rfl, rfl, fa_55_0, rfl, _, _, _, rfl, rfl, fa_55_2, rfl, _, _, _, rfl, rfl, fa_55_3, rfl, _, _, _, rfl, rfl, fa_55_4, rfl, _, _, _, rfl, rfl, fa_55_6, rfl, _, _, _, rfl, rfl, fa_55_7, rfl, rfl⟩ rfl fun a hk => ?_
  refine o_buildSlice (r := [.int .i64 3, .int .i64 0, .int .i64 (-1), .int .i64 (-1), .int .i64 (-1), .int .i64 0, .int .i64 0, .slice none 0 0, .int .i64 4, .int .i64 0, .int .i64 (-1), .int .i64 (-1), .int .i64 (-1), .int .i64 (-1), .int .i64 0, .slice none 0 0, .int .i64 11, .int .i64 0, .int .i64 (-1), .int .i64 (-1), .int .i64 (-1), .int .i64 0, .int .i64 10, .slice ps1 sch_sAssignReplicasToDirsRequestDirectory.length caps1]) hk hm rt_29 tz_55 rfl rfl rfl ⟨_, _, _, rfl, rfl, rfl, rfl, _, _, _, rfl, rfl, rfl, rfl, _, _, _, rfl, rfl, rfl, rfl, rfl⟩ rfl fun a b2 w hk hm => ?_
  refine o_build (r := [.slice (some ⟨b2, 0, none⟩) 3 3, .int .i64 0]) hk tz_31 rfl fok_31 ⟨_, _, _, rfl, rfl, fa_31_1, rfl, _, _, _, rfl, rfl, fa_31_0, rfl, rfl⟩ rfl fun a hk => ?_
  refine o_store (i := 2) hk hm ts_31 rfl rfl rfl rfl rfl rfl (Nat.le_of_ble_eq_true rfl) fun a w hk hm => ?_
  refine c_end ?_
  refine wp_ret ?_
  refine b_retCell (i := 2) (cs := [.slice (some ⟨b2, 0, none⟩) 3 3, .int .i64 0]) rfl ts_31 hk hm rfl rfl ?_
  have hm := hm.freezeLit (i := 0) (n := 3) (sz := 8) (l := sch_AssignReplicasToDirsRequest.map ddFd) rfl id rfl rfl (by decide) (show RepE _ _ 8 [ddFd (.mk 3 0 (-1) (-1) (-1) 0 0 []), ddFd (.mk 4 0 (-1) (-1) (-1) (-1) 0 []), ddFd (.mk 11 0 (-1) (-1) (-1) 0 10 sch_sAssignReplicasToDirsRequestDirectory)] _ from RepE.consC (c1 := [.int .i64 3, .int .i64 0, .int .i64 (-1), .int .i64 (-1), .int .i64 (-1), .int .i64 0, .int .i64 0, .slice none 0 0]) rfl (rep_Fd_mk (rep_nosub)) (RepE.consC (c1 := [.int .i64 4, .int .i64 0, .int .i64 (-1), .int .i64 (-1), .int .i64 (-1), .int .i64 (-1), .int .i64 0, .slice none 0 0]) rfl (rep_Fd_mk (rep_nosub)) (RepE.consC (c1 := [.int .i64 11, .int .i64 0, .int .i64 (-1), .int .i64 (-1), .int .i64 (-1), .int .i64 0, .int .i64 10, .slice ps1 sch_sAssignReplicasToDirsRequestDirectory.length caps1]) rfl (rep_Fd_mk (hm.rep (i := 1) rfl)) (RepE.nil _ _ _))))
  exact ⟨hm.agr, _, _, rfl, hm.out (hm.rep (i := 0) rfl)⟩
end Go.Proofs.YtpjichobdalpjaaGreatDoor
