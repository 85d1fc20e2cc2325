/- Walks of functions that the laws of this seat reach. No statement of the seat stands here. -/
import Derived.Test.YtoopklfabccmnaaGreatDoorL2
import Derived.Test.YtoopklfabccmnaaGreatDoorRows
import Derived.Test.YtoopklfabccmnaaGreatDoorFa
import Derived.Test.YtoopklfabccmnaaGreatDoorSch
import Derived.Test.YtoopklfabccmnaaGreatDoorSi
namespace Go.Proofs.YtoopklfabccmnaaGreatDoor
open Go Go.Mk
theorem sch_c_sDeleteTopicsResponseTopic {w0 : World} {Y : Nat → Prop} : Ret Tryz.prog 65 [] w0 fun v w' => Agr Nob w0 w' ∧ ∃ p cap, v = .slice p sch_sDeleteTopicsResponseTopic.length cap ∧ Rep w' (fun b => b < w0.heap.size ∧ Y b) (.sl false 8 (sch_sDeleteTopicsResponseTopic.map ddFd)) [.slice p sch_sDeleteTopicsResponseTopic.length cap] := by
  refine c_call Tryz.func65 rfl rfl fun a hk => ?_
  have hk : Kn 6 [] a := hk
  have hm : Mem w0 Nob Y [] w0 := Mem.start rfl (by simp)
  refine cR0 ?_
  refine oA0 hk rfl rfl fun a hk => ?_
  refine cE0 ?_
  refine cR0 ?_
  refine o_build (r := [.int .i64 8, .int .i64 0, .int .i64 (-1), .int .i64 6, .int .i64 (-1), .int .i64 0, .int .i64 0, .slice none 0 0]) hk tz_51 rfl fok_51 ⟨_, _, _, rfl, rfl, fa_51_0, rfl, _, _, _, rfl, rfl, fa_51_2, rfl, _, _, _, rfl, rfl, fa_51_3, rfl, _, _, _, rfl, rfl, fa_51_4, rfl, rfl⟩ rfl fun a hk => ?_
  refine o_build (r := [.int .i64 7, .int .i64 6, .int .i64 (-1), .int .i64 (-1), .int .i64 (-1), .int .i64 0, .int .i64 0, .slice none 0 0]) hk tz_51 rfl fok_51 ⟨_, _, _, rfl, rfl, fa_51_0, rfl, _, _, _, rfl, rfl, fa_51_1, rfl, _, _, _, rfl, rfl, fa_51_2, rfl, _, _, _, rfl, rfl, fa_51_3, rfl, _, _, _, rfl, rfl, fa_51_4, rfl, rfl⟩ rfl fun a hk => ?_
  refine o_build (r := [.int .i64 2, .int .i64 0, .int .i64 (-1), .int .i64 (-1), .int .i64 (-1), .int .i64 0, .int .i64 0, .slice none 0 0]) hk tz_51 rfl fok_51 ⟨_, _, _, rfl, rfl, fa_51_0, rfl, _, _, _, rfl, rfl, fa_51_2, rfl, _, _, _, rfl, rfl, fa_51_3, rfl, _, _, _, rfl, rfl, fa_51_4, rfl, rfl⟩ rfl fun a hk => ?_
  refine o_build (r := [.int .i64 8, .int .i64 5, .int .i64 (-1), .int .i64 5, .int .i64 (-1), .int .i64 0, .int .i64 0, .slice none 0 0]) hk tz_51 rfl fok_51 ⟨_, _, _, rfl, rfl, fa_51_0, rfl, _, _, _, rfl, rfl, fa_51_1, rfl, _, _, _, rfl, rfl, fa_51_2, rfl, _, _, _, rfl, rfl, fa_51_3, rfl, _, _, _, rfl, rfl, fa_51_4, rfl, rfl⟩ rfl fun a hk => ?_
  refine o_buildSlice (r := [.int .i64 8, .int .i64 0, .int .i64 (-1), .int .i64 6, .int .i64 (-1), .int .i64 0, .int .i64 0, .slice none 0 0, .int .i64 7, .int .i64 6, .int .i64 (-1), .int .i64 (-1), .int .i64 (-1), .int .i64 0, .int .i64 0, .slice none 0 0, .int .i64 2, .int .i64 0, .int .i64 (-1), .int .i64 (-1), .int .i64 (-1), .int .i64 0, .int .i64 0, .slice none 0 0, .int .i64 8, .int .i64 5, .int .i64 (-1), .int .i64 5, .int .i64 (-1), .int .i64 0, .int .i64 0, .slice none 0 0]) hk hm rt_29 tz_51 rfl rfl rfl ⟨_, _, _, rfl, rfl, rfl, rfl, _, _, _, rfl, rfl, rfl, rfl, _, _, _, rfl, rfl, rfl, rfl, _, _, _, rfl, rfl, rfl, rfl, bres_nil (by kernel_rfl)⟩ rfl fun a b1 w hk hm => ?_
  refine oA0 hk rfl rfl fun a hk => ?_
  refine cE0 ?_
  refine wp_ret ?_
  refine bT0 rfl hk rfl ?_
  have hm := hm.freezeLit (i := 0) (n := 4) (sz := 8) (l := sch_sDeleteTopicsResponseTopic.map ddFd) rfl id rfl rfl (by decide) (show RepE _ _ 8 [ddFd (.mk 8 0 (-1) 6 (-1) 0 0 []), ddFd (.mk 7 6 (-1) (-1) (-1) 0 0 []), ddFd (.mk 2 0 (-1) (-1) (-1) 0 0 []), ddFd (.mk 8 5 (-1) 5 (-1) 0 0 [])] _ from RepE.consC (c1 := [.int .i64 8, .int .i64 0, .int .i64 (-1), .int .i64 6, .int .i64 (-1), .int .i64 0, .int .i64 0, .slice none 0 0]) rfl (rep_Fd_mk (rep_nosub)) (RepE.consC (c1 := [.int .i64 7, .int .i64 6, .int .i64 (-1), .int .i64 (-1), .int .i64 (-1), .int .i64 0, .int .i64 0, .slice none 0 0]) rfl (rep_Fd_mk (rep_nosub)) (RepE.consC (c1 := [.int .i64 2, .int .i64 0, .int .i64 (-1), .int .i64 (-1), .int .i64 (-1), .int .i64 0, .int .i64 0, .slice none 0 0]) rfl (rep_Fd_mk (rep_nosub)) (RepE.consC (c1 := [.int .i64 8, .int .i64 5, .int .i64 (-1), .int .i64 5, .int .i64 (-1), .int .i64 0, .int .i64 0, .slice none 0 0]) rfl (rep_Fd_mk (rep_nosub)) (RepE.nil _ _ _)))))
  exact ⟨hm.agr, _, _, rfl, hm.out (hm.rep (i := 0) rfl)⟩
theorem msg_c_DeleteTopicsResponse {w0 : World} {Y : Nat → Prop} : Ret Tryz.prog 24 [] w0 fun v w' => Agr Nob w0 w' ∧ ∃ p cap, v = .agg #[.slice p sch_DeleteTopicsResponse.length cap, .int .i64 4] ∧ Rep w' (fun b => b < w0.heap.size ∧ Y b) (.sl false 8 (sch_DeleteTopicsResponse.map ddFd)) [.slice p sch_DeleteTopicsResponse.length cap] := by
  refine c_call Tryz.func24 rfl rfl fun a hk => ?_
  have hk : Kn 6 [] a := hk
  have hm : Mem w0 Nob Y [] w0 := Mem.start rfl (by simp)
  refine cR0 ?_
  refine o_alloc hk hm tz_31 rfl rfl fun a b1 w hk hm => ?_
  refine cE0 ?_
  refine cR0 ?_
  refine o_build (r := [.int .i64 3, .int .i64 1, .int .i64 (-1), .int .i64 (-1), .int .i64 (-1), .int .i64 0, .int .i64 0, .slice none 0 0]) hk tz_51 rfl fok_51 ⟨_, _, _, rfl, rfl, fa_51_0, rfl, _, _, _, rfl, rfl, fa_51_1, rfl, _, _, _, rfl, rfl, fa_51_2, rfl, _, _, _, rfl, rfl, fa_51_3, rfl, _, _, _, rfl, rfl, fa_51_4, rfl, rfl⟩ rfl fun a hk => ?_
  refine o_call hk cb_65 (sch_c_sDeleteTopicsResponseTopic (Y := Yof w0 Y [.blk b1 [.slice none 0 0, .int .i64 0] 31])) trivial rfl fun v w a hR hk => ?_
  obtain ⟨hp, ps1, caps1, rfl, hR⟩ := hR
  have hm := hm.result hp hR
  refine o_build (r := [.int .i64 11, .int .i64 0, .int .i64 (-1), .int .i64 (-1), .int .i64 (-1), .int .i64 0, .int .i64 10, .slice ps1 sch_sDeleteTopicsResponseTopic.length caps1]) hk tz_51 rfl fok_51 ⟨_, _, _, rfl, rfl, fa_51_0, rfl, _, _, _, rfl, rfl, fa_51_2, rfl, _, _, _, rfl, rfl, fa_51_3, rfl, _, _, _, rfl, rfl, fa_51_4, rfl, _, _, _, rfl, rfl, fa_51_6, rfl, _, _, _, rfl, rfl, fa_51_7, rfl, rfl⟩ rfl fun a hk => ?_
  refine o_buildSlice (r := [.int .i64 3, .int .i64 1, .int .i64 (-1), .int .i64 (-1), .int .i64 (-1), .int .i64 0, .int .i64 0, .slice none 0 0, .int .i64 11, .int .i64 0, .int .i64 (-1), .int .i64 (-1), .int .i64 (-1), .int .i64 0, .int .i64 10, .slice ps1 sch_sDeleteTopicsResponseTopic.length caps1]) hk hm rt_29 tz_51 rfl rfl rfl ⟨_, _, _, rfl, rfl, rfl, rfl, _, _, _, rfl, rfl, rfl, rfl, rfl⟩ rfl fun a b2 w hk hm => ?_
  refine o_build (r := [.slice (some ⟨b2, 0, none⟩) 2 2, .int .i64 4]) hk tz_31 rfl fok_31 ⟨_, _, _, rfl, rfl, fa_31_1, rfl, _, _, _, rfl, rfl, fa_31_0, rfl, rfl⟩ rfl fun a hk => ?_
  refine o_store (i := 2) hk hm ts_31 rfl rfl rfl rfl rfl rfl (Nat.le_of_ble_eq_true rfl) fun a w hk hm => ?_
  refine cE0 ?_
  refine wp_ret ?_
  refine b_retCell (i := 2) (cs := [.slice (some ⟨b2, 0, none⟩) 2 2, .int .i64 4]) rfl ts_31 hk hm rfl rfl ?_
  have hm := hm.freezeLit (i := 0) (n := 2) (sz := 8) (l := sch_DeleteTopicsResponse.map ddFd) rfl id rfl rfl (by decide) (show RepE _ _ 8 [ddFd (.mk 3 1 (-1) (-1) (-1) 0 0 []), ddFd (.mk 11 0 (-1) (-1) (-1) 0 10 sch_sDeleteTopicsResponseTopic)] _ from RepE.consC (c1 := [.int .i64 3, .int .i64 1, .int .i64 (-1), .int .i64 (-1), .int .i64 (-1), .int .i64 0, .int .i64 0, .slice none 0 0]) rfl (rep_Fd_mk (rep_nosub)) (RepE.consC (c1 := [.int .i64 11, .int .i64 0, .int .i64 (-1), .int .i64 (-1), .int .i64 (-1), .int .i64 0, .int .i64 10, .slice ps1 sch_sDeleteTopicsResponseTopic.length caps1]) rfl (rep_Fd_mk (hm.rep (i := 1) rfl)) (RepE.nil _ _ _)))
  exact ⟨hm.agr, _, _, rfl, hm.out (hm.rep (i := 0) rfl)⟩
end Go.Proofs.YtoopklfabccmnaaGreatDoor
