/- Walks of functions that the laws of this seat reach. No statement of the seat stands here. -/
import Derived.Test.YthholdjpcdpceaaDoorL2
import Derived.Test.YthholdjpcdpceaaDoorRows
import Derived.Test.YthholdjpcdpceaaDoorFa
import Derived.Test.YthholdjpcdpceaaDoorSch
import Derived.Test.YthholdjpcdpceaaDoorSi
namespace Go.Proofs.YthholdjpcdpceaaDoor
open Go Go.Mk
theorem msg_c_ControlRecordKey {w0 : World} {Y : Nat → Prop} : Ret Tryd.prog 12 [] w0 fun v w' => Agr Nob w0 w' ∧ ∃ p cap, v = .agg #[.slice p sch_ControlRecordKey.length cap, .int .i64 (-1)] ∧ Rep w' (fun b => b < w0.heap.size ∧ Y b) (.sl false 8 (sch_ControlRecordKey.map ddFd)) [.slice p sch_ControlRecordKey.length cap] := by
  refine c_call Tryd.func12 rfl rfl fun a hk => ?_
  have hk : Kn 4 [] a := hk
  have hm : Mem w0 Nob Y [] w0 := Mem.start rfl (by simp)
  refine cR0 ?_
  refine o_alloc hk hm tz_32 rfl rfl fun a b1 w hk hm => ?_
  refine cE0 ?_
  refine cR0 ?_
  refine o_build (r := [.int .i64 2, .int .i64 0, .int .i64 (-1), .int .i64 (-1), .int .i64 (-1), .int .i64 0, .int .i64 0, .slice none 0 0]) hk tz_57 rfl fok_57 ⟨_, _, _, rfl, rfl, fa_57_0, rfl, _, _, _, rfl, rfl, fa_57_2, rfl, _, _, _, rfl, rfl, fa_57_3, rfl, _, _, _, rfl, rfl, fa_57_4, rfl, rfl⟩ rfl fun a hk => ?_
  refine o_buildSlice (r := [.int .i64 2, .int .i64 0, .int .i64 (-1), .int .i64 (-1), .int .i64 (-1), .int .i64 0, .int .i64 0, .slice none 0 0]) hk hm rt_30 tz_57 rfl rfl rfl ⟨_, _, _, rfl, rfl, rfl, rfl, rfl⟩ rfl fun a b2 w hk hm => ?_
  refine o_build (r := [.slice (some ⟨b2, 0, none⟩) 1 1, .int .i64 (-1)]) hk tz_32 rfl fok_32 ⟨_, _, _, rfl, rfl, fa_32_1, rfl, _, _, _, rfl, rfl, fa_32_0, rfl, rfl⟩ rfl fun a hk => ?_
  refine o_store (i := 1) hk hm ts_32 rfl rfl rfl rfl rfl rfl (Nat.le_of_ble_eq_true rfl) fun a w hk hm => ?_
  refine cE0 ?_
  refine wp_ret ?_
  refine b_retCell (i := 1) (cs := [.slice (some ⟨b2, 0, none⟩) 1 1, .int .i64 (-1)]) rfl ts_32 hk hm rfl rfl ?_
  have hm := hm.freezeLit (i := 0) (n := 1) (sz := 8) (l := sch_ControlRecordKey.map ddFd) rfl id rfl rfl (by decide) (show RepE _ _ 8 [ddFd (.mk 2 0 (-1) (-1) (-1) 0 0 [])] _ from RepE.consC (c1 := [.int .i64 2, .int .i64 0, .int .i64 (-1), .int .i64 (-1), .int .i64 (-1), .int .i64 0, .int .i64 0, .slice none 0 0]) rfl (rep_Fd_mk (rep_nosub)) (RepE.nil _ _ _))
  exact ⟨hm.agr, _, _, rfl, hm.out (hm.rep (i := 0) rfl)⟩
end Go.Proofs.YthholdjpcdpceaaDoor
