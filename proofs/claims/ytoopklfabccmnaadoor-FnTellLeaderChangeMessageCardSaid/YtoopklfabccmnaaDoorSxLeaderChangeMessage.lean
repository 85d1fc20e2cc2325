/- Walks of functions that the laws of this seat reach. No statement of the seat stands here. -/
import Derived.Test.YtoopklfabccmnaaDoorL2
import Derived.Test.YtoopklfabccmnaaDoorRows
import Derived.Test.YtoopklfabccmnaaDoorFa
import Derived.Test.YtoopklfabccmnaaDoorSch
import Derived.Test.YtoopklfabccmnaaDoorSi
namespace Go.Proofs.YtoopklfabccmnaaDoor
open Go Go.Mk
theorem sch_c_sLeaderChangeMessageVoter {w0 : World} {Y : Nat → Prop} : Ret Tryd.prog 12 [] w0 fun v w' => Agr Nob w0 w' ∧ ∃ p cap, v = .slice p sch_sLeaderChangeMessageVoter.length cap ∧ Rep w' (fun b => b < w0.heap.size ∧ Y b) (.sl false 8 (sch_sLeaderChangeMessageVoter.map ddFd)) [.slice p sch_sLeaderChangeMessageVoter.length cap] := by
  refine c_call Tryd.func12 rfl rfl fun a hk => ?_
  have hk : Kn 4 [] a := hk
  have hm : Mem w0 Nob Y [] w0 := Mem.start rfl (by simp)
  refine cR0 ?_
  refine oA0 hk rfl rfl fun a hk => ?_
  refine cE0 ?_
  refine cR0 ?_
  refine o_build (r := [.int .i64 3, .int .i64 0, .int .i64 (-1), .int .i64 (-1), .int .i64 (-1), .int .i64 0, .int .i64 0, .slice none 0 0]) hk tz_45 rfl fok_45 ⟨_, _, _, rfl, rfl, fa_45_0, rfl, _, _, _, rfl, rfl, fa_45_2, rfl, _, _, _, rfl, rfl, fa_45_3, rfl, _, _, _, rfl, rfl, fa_45_4, rfl, rfl⟩ rfl fun a hk => ?_
  refine o_build (r := [.int .i64 7, .int .i64 1, .int .i64 (-1), .int .i64 (-1), .int .i64 (-1), .int .i64 0, .int .i64 0, .slice none 0 0]) hk tz_45 rfl fok_45 ⟨_, _, _, rfl, rfl, fa_45_0, rfl, _, _, _, rfl, rfl, fa_45_1, rfl, _, _, _, rfl, rfl, fa_45_2, rfl, _, _, _, rfl, rfl, fa_45_3, rfl, _, _, _, rfl, rfl, fa_45_4, rfl, rfl⟩ rfl fun a hk => ?_
  refine o_buildSlice (r := [.int .i64 3, .int .i64 0, .int .i64 (-1), .int .i64 (-1), .int .i64 (-1), .int .i64 0, .int .i64 0, .slice none 0 0, .int .i64 7, .int .i64 1, .int .i64 (-1), .int .i64 (-1), .int .i64 (-1), .int .i64 0, .int .i64 0, .slice none 0 0]) hk hm rt_28 tz_45 rfl rfl rfl ⟨_, _, _, rfl, rfl, rfl, rfl, _, _, _, rfl, rfl, rfl, rfl, rfl⟩ rfl fun a b1 w hk hm => ?_
  refine oA0 hk rfl rfl fun a hk => ?_
  refine cE0 ?_
  refine wp_ret ?_
  refine bT0 rfl hk rfl ?_
  have hm := hm.freezeLit (i := 0) (n := 2) (sz := 8) (l := sch_sLeaderChangeMessageVoter.map ddFd) rfl id rfl rfl (by decide) (show RepE _ _ 8 [ddFd (.mk 3 0 (-1) (-1) (-1) 0 0 []), ddFd (.mk 7 1 (-1) (-1) (-1) 0 0 [])] _ from RepE.consC (c1 := [.int .i64 3, .int .i64 0, .int .i64 (-1), .int .i64 (-1), .int .i64 (-1), .int .i64 0, .int .i64 0, .slice none 0 0]) rfl (rep_Fd_mk (rep_nosub)) (RepE.consC (c1 := [.int .i64 7, .int .i64 1, .int .i64 (-1), .int .i64 (-1), .int .i64 (-1), .int .i64 0, .int .i64 0, .slice none 0 0]) rfl (rep_Fd_mk (rep_nosub)) (RepE.nil _ _ _)))
  exact ⟨hm.agr, _, _, rfl, hm.out (hm.rep (i := 0) rfl)⟩
theorem msg_c_LeaderChangeMessage {w0 : World} {Y : Nat → Prop} : Ret Tryd.prog 5 [] w0 fun v w' => Agr Nob w0 w' ∧ ∃ p cap, v = .agg #[.slice p sch_LeaderChangeMessage.length cap, .int .i64 0] ∧ Rep w' (fun b => b < w0.heap.size ∧ Y b) (.sl false 8 (sch_LeaderChangeMessage.map ddFd)) [.slice p sch_LeaderChangeMessage.length cap] := by
  refine c_call Tryd.func5 rfl rfl fun a hk => ?_
  have hk : Kn 8 [] a := hk
  have hm : Mem w0 Nob Y [] w0 := Mem.start rfl (by simp)
  refine cR0 ?_
  refine o_alloc hk hm tz_30 rfl rfl fun a b1 w hk hm => ?_
  refine cE0 ?_
  refine cR0 ?_
  refine o_build (r := [.int .i64 3, .int .i64 0, .int .i64 (-1), .int .i64 (-1), .int .i64 (-1), .int .i64 0, .int .i64 0, .slice none 0 0]) hk tz_45 rfl fok_45 ⟨_, _, _, rfl, rfl, fa_45_0, rfl, _, _, _, rfl, rfl, fa_45_2, rfl, _, _, _, rfl, rfl, fa_45_3, rfl, _, _, _, rfl, rfl, fa_45_4, rfl, rfl⟩ rfl fun a hk => ?_
  refine o_call hk cb_12 (sch_c_sLeaderChangeMessageVoter (Y := Yof w0 Y [.blk b1 [.slice none 0 0, .int .i64 0] 30])) trivial rfl fun v w a hR hk => ?_
  obtain ⟨hp, ps1, caps1, rfl, hR⟩ := hR
  have hm := hm.result hp hR
  refine o_build (r := [.int .i64 11, .int .i64 0, .int .i64 (-1), .int .i64 (-1), .int .i64 (-1), .int .i64 0, .int .i64 10, .slice ps1 sch_sLeaderChangeMessageVoter.length caps1]) hk tz_45 rfl fok_45 ⟨_, _, _, rfl, rfl, fa_45_0, rfl, _, _, _, rfl, rfl, fa_45_2, rfl, _, _, _, rfl, rfl, fa_45_3, rfl, _, _, _, rfl, rfl, fa_45_4, rfl, _, _, _, rfl, rfl, fa_45_6, rfl, _, _, _, rfl, rfl, fa_45_7, rfl, rfl⟩ rfl fun a hk => ?_
  refine o_call hk cb_12 (sch_c_sLeaderChangeMessageVoter (Y := Yof w0 Y [.rep (.sl false 8 (sch_sLeaderChangeMessageVoter.map ddFd)) [.slice ps1 sch_sLeaderChangeMessageVoter.length caps1], .blk b1 [.slice none 0 0, .int .i64 0] 30])) trivial rfl fun v w a hR hk => ?_
  obtain ⟨hp, ps2, caps2, rfl, hR⟩ := hR
  have hm := hm.result hp hR
  refine o_build (r := [.int .i64 11, .int .i64 0, .int .i64 (-1), .int .i64 (-1), .int .i64 (-1), .int .i64 0, .int .i64 10, .slice ps2 sch_sLeaderChangeMessageVoter.length caps2]) hk tz_45 rfl fok_45 ⟨_, _, _, rfl, rfl, fa_45_0, rfl, _, _, _, rfl, rfl, fa_45_2, rfl, _, _, _, rfl, rfl, fa_45_3, rfl, _, _, _, rfl, rfl, fa_45_4, rfl, _, _, _, rfl, rfl, fa_45_6, rfl, _, _, _, rfl, rfl, fa_45_7, rfl, rfl⟩ rfl fun a hk => ?_
  refine o_buildSlice (r := [.int .i64 3, .int .i64 0, .int .i64 (-1), .int .i64 (-1), .int .i64 (-1), .int .i64 0, .int .i64 0, .slice none 0 0, .int .i64 11, .int .i64 0, .int .i64 (-1), .int .i64 (-1), .int .i64 (-1), .int .i64 0, .int .i64 10, .slice ps1 sch_sLeaderChangeMessageVoter.length caps1, .int .i64 11, .int .i64 0, .int .i64 (-1), .int .i64 (-1), .int .i64 (-1), .int .i64 0, .int .i64 10, .slice ps2 sch_sLeaderChangeMessageVoter.length caps2]) hk hm rt_28 tz_45 rfl rfl rfl ⟨_, _, _, rfl, rfl, rfl, rfl, _, _, _, rfl, rfl, rfl, rfl, _, _, _, rfl, rfl, rfl, rfl, rfl⟩ rfl fun a b2 w hk hm => ?_
  refine o_build (r := [.slice (some ⟨b2, 0, none⟩) 3 3, .int .i64 0]) hk tz_30 rfl fok_30 ⟨_, _, _, rfl, rfl, fa_30_1, rfl, _, _, _, rfl, rfl, fa_30_0, rfl, rfl⟩ rfl fun a hk => ?_
  refine o_store (i := 3) hk hm ts_30 rfl rfl rfl rfl rfl rfl (Nat.le_of_ble_eq_true rfl) fun a w hk hm => ?_
  refine cE0 ?_
  refine wp_ret ?_
  refine b_retCell (i := 3) (cs := [.slice (some ⟨b2, 0, none⟩) 3 3, .int .i64 0]) rfl ts_30 hk hm rfl rfl ?_
  have hm := hm.freezeLit (i := 0) (n := 3) (sz := 8) (l := sch_LeaderChangeMessage.map ddFd) rfl id rfl rfl (by decide) (show RepE _ _ 8 [ddFd (.mk 3 0 (-1) (-1) (-1) 0 0 []), ddFd (.mk 11 0 (-1) (-1) (-1) 0 10 sch_sLeaderChangeMessageVoter), ddFd (.mk 11 0 (-1) (-1) (-1) 0 10 sch_sLeaderChangeMessageVoter)] _ from RepE.consC (c1 := [.int .i64 3, .int .i64 0, .int .i64 (-1), .int .i64 (-1), .int .i64 (-1), .int .i64 0, .int .i64 0, .slice none 0 0]) rfl (rep_Fd_mk (rep_nosub)) (RepE.consC (c1 := [.int .i64 11, .int .i64 0, .int .i64 (-1), .int .i64 (-1), .int .i64 (-1), .int .i64 0, .int .i64 10, .slice ps1 sch_sLeaderChangeMessageVoter.length caps1]) rfl (rep_Fd_mk (hm.rep (i := 2) rfl)) (RepE.consC (c1 := [.int .i64 11, .int .i64 0, .int .i64 (-1), .int .i64 (-1), .int .i64 (-1), .int .i64 0, .int .i64 10, .slice ps2 sch_sLeaderChangeMessageVoter.length caps2]) rfl (rep_Fd_mk (hm.rep (i := 1) rfl)) (RepE.nil _ _ _))))
  exact ⟨hm.agr, _, _, rfl, hm.out (hm.rep (i := 0) rfl)⟩
end Go.Proofs.YtoopklfabccmnaaDoor
