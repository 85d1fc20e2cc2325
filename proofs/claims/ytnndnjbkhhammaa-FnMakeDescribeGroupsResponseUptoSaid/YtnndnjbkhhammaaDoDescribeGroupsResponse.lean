/- Walks of functions that the laws of this seat reach. No statement of the seat stands here. -/
import Derived.Test.YtnndnjbkhhammaaL2
import Derived.Test.YtnndnjbkhhammaaRows
import Derived.Test.YtnndnjbkhhammaaFa
import Derived.Test.YtnndnjbkhhammaaImDescribeGroupsResponse
import Derived.Test.YtnndnjbkhhammaaApDescribeGroupsResponse
namespace Go.Proofs.Ytnndnjbkhhammaa
open Go Go.Mk
theorem setVersion_DescribeGroupsResponse {w0 : World} {Y : Nat → Prop} {g : Nat} {V : Int} {x0 : Value} {cs : List Value} (hb : w0.heap[g]? = some (.cells (x0 :: cs).toArray 77 (0, 0))) (hg : Y g) : Ret Try.prog 33 [.pointer (some ⟨g, 0, none⟩), .int .i16 V] w0 fun _ w' => Agr (fun k => k = g) w0 w' ∧ w'.heap[g]? = some (.cells (.int .i16 V :: cs).toArray 77 (0, 0)) := by
  refine c_call Try.func33 rfl rfl fun a hk => ?_
  have hk : Kn 8 [(0, .pointer (some ⟨g, 0, none⟩)), (1, .int .i16 V)] a := hk
  have hm : Mem w0 (fun k => k = g) Y [.blk g (x0 :: cs) 77] w0 := Mem.startBlk hb hg rfl (by simp)
  refine c_reg ?_
  refine o_move hk rfl rfl fun a hk => ?_
  refine o_move hk rfl rfl fun a hk => ?_
  refine o_nilCheck hk rfl rfl fun a hk => ?_
  refine o_fieldAddr hk fo_77_0 rfl rfl fun a hk => ?_
  refine o_store (i := 0) hk hm ts_45 rfl rfl rfl rfl rfl rfl (Nat.succ_le_succ (Nat.zero_le _)) fun a w hk hm => ?_
  refine c_endQ ?_
  refine b_endNone rfl hk ?_
  have hz := hm.all _ (entAt_mem (i := 0) rfl)
  simp only [Ent.holds] at hz
  exact ⟨hm.agr, hz⟩
theorem list_cells4 {cs : List Value} (h : cs.length = 4) : ∃ x0 x1 x2 x3, cs = [x0, x1, x2, x3] := by
  match cs, h with
  | [x0, x1, x2, x3], _ => exact ⟨x0, x1, x2, x3, rfl⟩
theorem default_DescribeGroupsResponse {w0 : World} {Y : Nat → Prop} {g : Nat} {cs : List Value} (hb : w0.heap[g]? = some (.cells cs.toArray 77 (0, 0))) (hl : cs.length = 4) (hg : Y g) : Ret Try.prog 66 [.pointer (some ⟨g, 0, none⟩)] w0 fun _ w' => Agr (fun k => k = g) w0 w' ∧ ∃ cs' : List Value, cs'.length = 4 ∧ w'.heap[g]? = some (.cells cs'.toArray 77 (0, 0)) := by
  obtain ⟨x0, x1, x2, x3, rfl⟩ := list_cells4 hl
  refine c_call Try.func66 rfl rfl fun a hk => ?_
  have hk : Kn 2 [(0, .pointer (some ⟨g, 0, none⟩))] a := hk
  have hm : Mem w0 (fun k => k = g) Y [.blk g [x0, x1, x2, x3] 77] w0 := Mem.startBlk hb hg rfl (by simp)
  refine wp_skip ?_
  refine b_endNone rfl hk ?_
  have hz := hm.all _ (entAt_mem (i := 0) rfl)
  simp only [Ent.holds] at hz
  exact ⟨hm.agr, _, rfl, hz⟩
theorem newPtr_DescribeGroupsResponse {w0 : World} {Y : Nat → Prop} : Ret Try.prog 30 [] w0 fun v w' => Agr Nob w0 w' ∧ ∃ b, v = .pointer (some ⟨b, 0, none⟩) := by
  refine c_call Try.func30 rfl rfl fun a hk => ?_
  have hk : Kn 3 [] a := hk
  have hm : Mem w0 Nob Y [] w0 := Mem.start rfl (by simp)
  refine c_region ?_
  refine o_assign hk rfl rfl fun a hk => ?_
  refine c_end ?_
  refine c_region ?_
  refine o_alloc hk hm tz_77 rfl rfl fun a b1 w hk hm => ?_
  refine c_end ?_
  refine c_region ?_
  refine o_call hk cb_66 (default_DescribeGroupsResponse (hm.all _ (entAt_mem (i := 0) rfl)) rfl (Y := Yof w0 Y [.blk b1 [.int .i16 0, .int .i32 0, .slice none 0 0, .map none] 77]) (yof_blk (i := 0) rfl)) ⟨rfl, trivial⟩ rfl fun v w a hR hk => ?_
  obtain ⟨hp, cs1, hl1, hb1⟩ := hR
  have hm := hm.write (i := 0) rfl hp hb1
  refine c_end ?_
  refine c_region ?_
  refine o_assign hk rfl rfl fun a hk => ?_
  refine c_end ?_
  refine wp_ret ?_
  refine b_retTmp rfl hk rfl ?_
  exact ⟨hm.agr, _, rfl⟩
theorem maxVersion_DescribeGroupsResponse {w0 : World} {Y : Nat → Prop} {b : Nat} : Ret Try.prog 31 [.pointer (some ⟨b, 0, none⟩)] w0 fun v w' => Agr Nob w0 w' ∧ v = .int .i16 6 := by
  refine c_call Try.func31 rfl rfl fun a hk => ?_
  have hk : Kn 3 [(0, .pointer (some ⟨b, 0, none⟩))] a := hk
  have hm : Mem w0 Nob Y [] w0 := Mem.start rfl (by simp)
  refine c_region ?_
  refine o_assign hk rfl rfl fun a hk => ?_
  refine c_end ?_
  refine c_region ?_
  refine o_assign hk rfl rfl fun a hk => ?_
  refine c_end ?_
  refine wp_ret ?_
  refine b_retTmp rfl hk rfl ?_
  exact ⟨hm.agr, rfl⟩
theorem max_DescribeGroupsResponse {w0 : World} {Y : Nat → Prop} : Ret Try.prog 14 [] w0 fun v w' => Agr Nob w0 w' ∧ v = .int .i64 6 := by
  refine c_call Try.func14 rfl rfl fun a hk => ?_
  have hk : Kn 4 [] a := hk
  have hm : Mem w0 Nob Y [] w0 := Mem.start rfl (by simp)
  refine c_region ?_
  refine o_assign hk rfl rfl fun a hk => ?_
  refine c_end ?_
  refine c_region ?_
  refine o_call hk cb_30 (newPtr_DescribeGroupsResponse (Y := Y)) trivial rfl fun v w a hR hk => ?_
  obtain ⟨hp, b0, rfl⟩ := hR
  have hm := hm.pure hp
  refine o_call hk cb_31 (maxVersion_DescribeGroupsResponse (Y := Y)) ⟨rfl, trivial⟩ rfl fun v w a hR hk => ?_
  obtain ⟨hp, rfl⟩ := hR
  have hm := hm.pure hp
  refine o_convInt (c := 6) hk un_45 ti_3 rfl rfl rfl fun a hk => ?_
  refine o_assign hk rfl rfl fun a hk => ?_
  refine c_end ?_
  refine wp_ret ?_
  refine b_retTmp rfl hk rfl ?_
  exact ⟨hm.agr, rfl⟩
theorem make_c_DescribeGroupsResponse {w0 : World} {Y : Nat → Prop} {t : T} {ct : List Value} (V : Int) (h0 : 0 ≤ V) (h1 : V ≤ 6) (hsn : t.sane = true) (hT : Rep w0 Y (ddT (fitP sch_DescribeGroupsResponse V t)) ct) (hroom : (partP sch_DescribeGroupsResponse V (decide (V ≥ 5)) t).length ≤ room) : Ret Try.prog 16 [.int .i64 V, .agg ct.toArray] w0 fun v w' => RowTo w0 5 1 (.slice none 0 0) (partP sch_DescribeGroupsResponse V (decide (V ≥ 5)) t).length (bv (partP sch_DescribeGroupsResponse V (decide (V ≥ 5)) t)) v w' := by
  obtain ⟨pst, capst, pt, capt, put, caput, rfl⟩ := rep_T7 hT
  refine c_call Try.func16 rfl rfl fun a hk => ?_
  have hk : Kn 17 [(0, .int .i64 V), (1, .agg #[.int .i64 ((fitP sch_DescribeGroupsResponse V t).n), .slice pst ((fitP sch_DescribeGroupsResponse V t).s.length) capst, .bool ((fitP sch_DescribeGroupsResponse V t).z), .slice pt ((fitP sch_DescribeGroupsResponse V t).l.length) capt, .slice put ((fitP sch_DescribeGroupsResponse V t).u.length) caput])] a := hk
  have hm : Mem w0 Nob Y [.rep (ddT (fitP sch_DescribeGroupsResponse V t)) [.int .i64 ((fitP sch_DescribeGroupsResponse V t).n), .slice pst ((fitP sch_DescribeGroupsResponse V t).s.length) capst, .bool ((fitP sch_DescribeGroupsResponse V t).z), .slice pt ((fitP sch_DescribeGroupsResponse V t).l.length) capt, .slice put ((fitP sch_DescribeGroupsResponse V t).u.length) caput]] w0 := Mem.start rfl (by simp only [List.forall_mem_cons, List.not_mem_nil, false_imp_iff, implies_true, and_true]; exact hT)
  have hsm : (fitP sch_DescribeGroupsResponse V t).small = true := small_fitP rfl (by decide) V t
  refine c_region ?_
  refine o_box hk hm rfl rfl rfl fun a b1 w hk hm => ?_
  refine o_assign hk rfl rfl fun a hk => ?_
  refine c_end ?_
  refine c_region ?_
  refine o_build (r := [.int .i16 0, .int .i32 0, .slice none 0 0, .map none]) hk tz_77 rfl fok_77 rfl rfl fun a hk => ?_
  refine o_box hk hm rfl rfl rfl fun a b2 w hk hm => ?_
  refine o_assign hk rfl rfl fun a hk => ?_
  refine c_end ?_
  refine c_region ?_
  refine o_move hk rfl rfl fun a hk => ?_
  refine o_move hk rfl rfl fun a hk => ?_
  refine o_convInt (c := V) hk un_3 ti_45 rfl (by simp only [IntKind.wrap, IntKind.bits, IntKind.signed]; simp; omega) rfl fun a hk => ?_
  refine o_call hk cb_33 (setVersion_DescribeGroupsResponse (Y := Yof w0 Y [.blk b2 [.int .i16 0, .int .i32 0, .slice none 0 0, .map none] 77, .blk b1 [.int .i64 ((fitP sch_DescribeGroupsResponse V t).n), .slice pst ((fitP sch_DescribeGroupsResponse V t).s.length) capst, .bool ((fitP sch_DescribeGroupsResponse V t).z), .slice pt ((fitP sch_DescribeGroupsResponse V t).l.length) capt, .slice put ((fitP sch_DescribeGroupsResponse V t).u.length) caput] 39, .rep (ddT (fitP sch_DescribeGroupsResponse V t)) [.int .i64 ((fitP sch_DescribeGroupsResponse V t).n), .slice pst ((fitP sch_DescribeGroupsResponse V t).s.length) capst, .bool ((fitP sch_DescribeGroupsResponse V t).z), .slice pt ((fitP sch_DescribeGroupsResponse V t).l.length) capt, .slice put ((fitP sch_DescribeGroupsResponse V t).u.length) caput]]) (hm.all _ (entAt_mem (i := 0) rfl)) (yof_blk (i := 0) rfl)) ⟨rfl, rfl, trivial⟩ rfl fun v w a hR hk => ?_
  obtain ⟨hp, hb1⟩ := hR
  have hm := hm.write (i := 0) rfl hp hb1
  refine c_end ?_
  refine c_region ?_
  refine o_move hk rfl rfl fun a hk => ?_
  refine o_loadN (cs := [.int .i64 ((fitP sch_DescribeGroupsResponse V t).n), .slice pst ((fitP sch_DescribeGroupsResponse V t).s.length) capst, .bool ((fitP sch_DescribeGroupsResponse V t).z), .slice pt ((fitP sch_DescribeGroupsResponse V t).l.length) capt, .slice put ((fitP sch_DescribeGroupsResponse V t).u.length) caput]) hk ts_39 rfl (hm.cells_blk (i := 1) rfl rfl) rfl fun a hk => ?_
  refine o_call hk cb_34 (fill_DescribeGroupsResponse (V := V) (Y := Yof w0 Y [.blk b2 [.int .i16 V, .int .i32 0, .slice none 0 0, .map none] 77, .blk b1 [.int .i64 ((fitP sch_DescribeGroupsResponse V t).n), .slice pst ((fitP sch_DescribeGroupsResponse V t).s.length) capst, .bool ((fitP sch_DescribeGroupsResponse V t).z), .slice pt ((fitP sch_DescribeGroupsResponse V t).l.length) capt, .slice put ((fitP sch_DescribeGroupsResponse V t).u.length) caput] 39, .rep (ddT (fitP sch_DescribeGroupsResponse V t)) [.int .i64 ((fitP sch_DescribeGroupsResponse V t).n), .slice pst ((fitP sch_DescribeGroupsResponse V t).s.length) capst, .bool ((fitP sch_DescribeGroupsResponse V t).z), .slice pt ((fitP sch_DescribeGroupsResponse V t).l.length) capt, .slice put ((fitP sch_DescribeGroupsResponse V t).u.length) caput]]) (hm.all _ (entAt_mem (i := 0) rfl)) (yof_blk (i := 0) rfl) (hm.rep (i := 2) rfl) hsm (oct_fitP rfl V t)) ⟨rfl, rfl, trivial⟩ rfl fun v w a hR hk => ?_
  obtain ⟨hp, cf, hb2, hR⟩ := hR
  have hm := hm.blkCall (i := 0) rfl hp hb2 hR
  have hm := hm.freezeBlk (i := 1) rfl id
  refine c_end ?_
  refine c_region ?_
  refine o_move hk rfl rfl fun a hk => ?_
  refine o_call hk cb_35 (appendTo_DescribeGroupsResponse (w0 := w) (Y := Yof w0 Y [.rep (ddS sch_DescribeGroupsResponse true (fitP sch_DescribeGroupsResponse V t)) cf, .cel b2 0 (.int .i16 V :: cf), .blk b1 [.int .i64 ((fitP sch_DescribeGroupsResponse V t).n), .slice pst ((fitP sch_DescribeGroupsResponse V t).s.length) capst, .bool ((fitP sch_DescribeGroupsResponse V t).z), .slice pt ((fitP sch_DescribeGroupsResponse V t).l.length) capt, .slice put ((fitP sch_DescribeGroupsResponse V t).u.length) caput] 39, .rep (ddT (fitP sch_DescribeGroupsResponse V t)) [.int .i64 ((fitP sch_DescribeGroupsResponse V t).n), .slice pst ((fitP sch_DescribeGroupsResponse V t).s.length) capst, .bool ((fitP sch_DescribeGroupsResponse V t).z), .slice pt ((fitP sch_DescribeGroupsResponse V t).l.length) capt, .slice put ((fitP sch_DescribeGroupsResponse V t).u.length) caput]]) (n := 0) (xs := []) V h0 h1 (row_nil w _ _) (fun k hk => by cases hk) hsn (hm.all _ (entAt_mem (i := 1) rfl)) (imp_fit sch_DescribeGroupsResponse rfl true V (decide (V ≥ 5)) t _ _ _ (hm.rep (i := 0) rfl)) (by simpa using hroom)) ⟨rfl, rfl, trivial⟩ rfl fun v3 w a hR hk => ?_
  simp only [Nat.zero_add, List.nil_append] at hR
  have hm := hm.rowNew hR
  refine o_assign hk rfl rfl fun a hk => ?_
  refine c_end ?_
  refine wp_ret ?_
  refine b_retTmp rfl hk rfl ?_
  have hr := hm.rowOut (i := 0) rfl
  exact hr
end Go.Proofs.Ytnndnjbkhhammaa
