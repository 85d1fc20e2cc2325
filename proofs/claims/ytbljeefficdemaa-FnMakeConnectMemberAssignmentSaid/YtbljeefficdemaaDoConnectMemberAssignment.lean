/- Walks of functions that the laws of this seat reach. No statement of the seat stands here. -/
import Derived.Test.YtbljeefficdemaaMkOpen
import Derived.Test.YtbljeefficdemaaRows
import Derived.Test.YtbljeefficdemaaFa
import Derived.Test.YtbljeefficdemaaImConnectMemberAssignment
import Derived.Test.YtbljeefficdemaaApConnectMemberAssignment
namespace Go.Proofs.Ytbljeefficdemaa
open Go Go.Mk
theorem make_c_ConnectMemberAssignment {w0 : World} {Y : Nat → Prop} {t : T} {ct : List Value} (V : Int) (h0 : 0 ≤ V) (h1 : V ≤ 1000) (hT : Rep w0 Y (ddT (fitP sch_ConnectMemberAssignment V t)) ct) (hroom : (fixed V 2 ++ partP sch_ConnectMemberAssignment V false t).length ≤ room) : Ret Try.prog 15 [.int .i64 V, .agg ct.toArray] w0 fun v w' => RowTo w0 5 1 (.slice none 0 0) (fixed V 2 ++ partP sch_ConnectMemberAssignment V false t).length (bv (fixed V 2 ++ partP sch_ConnectMemberAssignment V false t)) v w' := by
  obtain ⟨pst, capst, pt, capt, put, caput, rfl⟩ := rep_T7 hT
  refine c_call Try.func15 rfl rfl fun a hk => ?_
  have hk : Kn 15 [(0, .int .i64 V), (1, .agg #[.int .i64 ((fitP sch_ConnectMemberAssignment V t).n), .slice pst ((fitP sch_ConnectMemberAssignment V t).s.length) capst, .bool ((fitP sch_ConnectMemberAssignment V t).z), .slice pt ((fitP sch_ConnectMemberAssignment V t).l.length) capt, .slice put ((fitP sch_ConnectMemberAssignment V t).u.length) caput])] a := hk
  have hm : Mem w0 Nob Y [.rep (ddT (fitP sch_ConnectMemberAssignment V t)) [.int .i64 ((fitP sch_ConnectMemberAssignment V t).n), .slice pst ((fitP sch_ConnectMemberAssignment V t).s.length) capst, .bool ((fitP sch_ConnectMemberAssignment V t).z), .slice pt ((fitP sch_ConnectMemberAssignment V t).l.length) capt, .slice put ((fitP sch_ConnectMemberAssignment V t).u.length) caput]] w0 := Mem.start rfl (by simp only [List.forall_mem_cons, List.not_mem_nil, false_imp_iff, implies_true, and_true]; exact hT)
  have hsm : (fitP sch_ConnectMemberAssignment V t).small = true := small_fitP rfl (by decide) V t
  refine c_region ?_
  refine o_box hk hm rfl rfl rfl fun a b1 w hk hm => ?_
  refine o_assign hk rfl rfl fun a hk => ?_
  refine c_end ?_
  refine c_region ?_
  refine o_move hk rfl rfl fun a hk => ?_
  refine o_convInt (c := V) hk un_3 ti_45 rfl (by simp only [IntKind.wrap, IntKind.bits, IntKind.signed]; simp; omega) rfl fun a hk => ?_
  refine o_build (r := [.int .i16 V, .int .i16 0, .string .empty, .string .empty, .int .i64 0, .slice none 0 0, .slice none 0 0, .int .i32 0]) hk tz_70 rfl fok_70 ⟨_, _, _, rfl, rfl, fa_70_0, rfl, rfl⟩ rfl fun a hk => ?_
  refine o_box hk hm rfl rfl rfl fun a b2 w hk hm => ?_
  refine o_assign hk rfl rfl fun a hk => ?_
  refine c_end ?_
  refine c_region ?_
  refine o_move hk rfl rfl fun a hk => ?_
  refine o_loadN (cs := [.int .i64 ((fitP sch_ConnectMemberAssignment V t).n), .slice pst ((fitP sch_ConnectMemberAssignment V t).s.length) capst, .bool ((fitP sch_ConnectMemberAssignment V t).z), .slice pt ((fitP sch_ConnectMemberAssignment V t).l.length) capt, .slice put ((fitP sch_ConnectMemberAssignment V t).u.length) caput]) hk ts_39 rfl (hm.cells_blk (i := 1) rfl rfl) rfl fun a hk => ?_
  refine o_call hk cb_31 (fill_ConnectMemberAssignment (V := V) (Y := Yof w0 Y [.blk b2 [.int .i16 V, .int .i16 0, .string .empty, .string .empty, .int .i64 0, .slice none 0 0, .slice none 0 0, .int .i32 0] 70, .blk b1 [.int .i64 ((fitP sch_ConnectMemberAssignment V t).n), .slice pst ((fitP sch_ConnectMemberAssignment V t).s.length) capst, .bool ((fitP sch_ConnectMemberAssignment V t).z), .slice pt ((fitP sch_ConnectMemberAssignment V t).l.length) capt, .slice put ((fitP sch_ConnectMemberAssignment V t).u.length) caput] 39, .rep (ddT (fitP sch_ConnectMemberAssignment V t)) [.int .i64 ((fitP sch_ConnectMemberAssignment V t).n), .slice pst ((fitP sch_ConnectMemberAssignment V t).s.length) capst, .bool ((fitP sch_ConnectMemberAssignment V t).z), .slice pt ((fitP sch_ConnectMemberAssignment V t).l.length) capt, .slice put ((fitP sch_ConnectMemberAssignment V t).u.length) caput]]) (hm.all _ (entAt_mem (i := 0) rfl)) (yof_blk (i := 0) rfl) (hm.rep (i := 2) rfl) hsm) ⟨rfl, rfl, trivial⟩ rfl fun v w a hR hk => ?_
  obtain ⟨hp, cf, hb2, hR⟩ := hR
  have hm := hm.blkCall (i := 0) rfl hp hb2 hR
  have hm := hm.freezeBlk (i := 1) rfl id
  refine c_end ?_
  refine c_region ?_
  refine o_move hk rfl rfl fun a hk => ?_
  refine o_call hk cb_32 (appendTo_ConnectMemberAssignment (w0 := w) (Y := Yof w0 Y [.rep (ddS sch_ConnectMemberAssignment false (fitP sch_ConnectMemberAssignment V t)) cf, .cel b2 0 (.int .i16 V :: cf), .blk b1 [.int .i64 ((fitP sch_ConnectMemberAssignment V t).n), .slice pst ((fitP sch_ConnectMemberAssignment V t).s.length) capst, .bool ((fitP sch_ConnectMemberAssignment V t).z), .slice pt ((fitP sch_ConnectMemberAssignment V t).l.length) capt, .slice put ((fitP sch_ConnectMemberAssignment V t).u.length) caput] 39, .rep (ddT (fitP sch_ConnectMemberAssignment V t)) [.int .i64 ((fitP sch_ConnectMemberAssignment V t).n), .slice pst ((fitP sch_ConnectMemberAssignment V t).s.length) capst, .bool ((fitP sch_ConnectMemberAssignment V t).z), .slice pt ((fitP sch_ConnectMemberAssignment V t).l.length) capt, .slice put ((fitP sch_ConnectMemberAssignment V t).u.length) caput]]) (n := 0) (xs := []) (row_nil w _ _) (fun k hk => by cases hk) h0 (hm.all _ (entAt_mem (i := 1) rfl)) (imp_fit sch_ConnectMemberAssignment rfl false V false t _ _ _ (hm.rep (i := 0) rfl)) (by simpa using hroom)) ⟨rfl, rfl, trivial⟩ rfl fun v3 w a hR hk => ?_
  simp only [Nat.zero_add, List.nil_append] at hR
  have hm := hm.rowNew hR
  refine o_assign hk rfl rfl fun a hk => ?_
  refine c_end ?_
  refine wp_ret ?_
  refine b_retTmp rfl hk rfl ?_
  have hr := hm.rowOut (i := 0) rfl
  exact hr
end Go.Proofs.Ytbljeefficdemaa
