/- Walks of functions that the laws of this seat reach. No statement of the seat stands here. -/
import Derived.Test.YtnndnjbkhhammaaL2
import Derived.Test.YtnndnjbkhhammaaRows
import Derived.Test.YtnndnjbkhhammaaFa
import Derived.Test.YtnndnjbkhhammaaImBrokerRegistrationRequest
import Derived.Test.YtnndnjbkhhammaaApBrokerRegistrationRequest
namespace Go.Proofs.Ytnndnjbkhhammaa
open Go Go.Mk
theorem setVersion_BrokerRegistrationRequest {w0 : World} {Y : Nat → Prop} {g : Nat} {V : Int} {x0 : Value} {cs : List Value} (hb : w0.heap[g]? = some (.cells (x0 :: cs).toArray 61 (0, 0))) (hg : Y g) : Ret Try.prog 22 [.pointer (some ⟨g, 0, none⟩), .int .i16 V] w0 fun _ w' => Agr (fun k => k = g) w0 w' ∧ w'.heap[g]? = some (.cells (.int .i16 V :: cs).toArray 61 (0, 0)) := by
  refine c_call Try.func22 rfl rfl fun a hk => ?_
  have hk : Kn 8 [(0, .pointer (some ⟨g, 0, none⟩)), (1, .int .i16 V)] a := hk
  have hm : Mem w0 (fun k => k = g) Y [.blk g (x0 :: cs) 61] w0 := Mem.startBlk hb hg rfl (by simp)
  refine c_reg ?_
  refine o_move hk rfl rfl fun a hk => ?_
  refine o_move hk rfl rfl fun a hk => ?_
  refine o_nilCheck hk rfl rfl fun a hk => ?_
  refine o_fieldAddr hk fo_61_0 rfl rfl fun a hk => ?_
  refine o_store (i := 0) hk hm ts_45 rfl rfl rfl rfl rfl rfl (Nat.succ_le_succ (Nat.zero_le _)) fun a w hk hm => ?_
  refine c_endQ ?_
  refine b_endNone rfl hk ?_
  have hz := hm.all _ (entAt_mem (i := 0) rfl)
  simp only [Ent.holds] at hz
  exact ⟨hm.agr, hz⟩
theorem list_cells26 {cs : List Value} (h : cs.length = 26) : ∃ x0 x1 x2 x3 x4 x5 x6 x7 x8 x9 x10 x11 x12 x13 x14 x15 x16 x17 x18 x19 x20 x21 x22 x23 x24 x25, cs = [x0, x1, x2, x3, x4, x5, x6, x7, x8, x9, x10, x11, x12, x13, x14, x15, x16, x17, x18, x19, x20, x21, x22, x23, x24, x25] := by
  match cs, h with
  | [x0, x1, x2, x3, x4, x5, x6, x7, x8, x9, x10, x11, x12, x13, x14, x15, x16, x17, x18, x19, x20, x21, x22, x23, x24, x25], _ => exact ⟨x0, x1, x2, x3, x4, x5, x6, x7, x8, x9, x10, x11, x12, x13, x14, x15, x16, x17, x18, x19, x20, x21, x22, x23, x24, x25, rfl⟩
theorem default_BrokerRegistrationRequest {w0 : World} {Y : Nat → Prop} {g : Nat} {cs : List Value} (hb : w0.heap[g]? = some (.cells cs.toArray 61 (0, 0))) (hl : cs.length = 26) (hg : Y g) : Ret Try.prog 37 [.pointer (some ⟨g, 0, none⟩)] w0 fun _ w' => Agr (fun k => k = g) w0 w' ∧ ∃ cs' : List Value, cs'.length = 26 ∧ w'.heap[g]? = some (.cells cs'.toArray 61 (0, 0)) := by
  obtain ⟨x0, x1, x2, x3, x4, x5, x6, x7, x8, x9, x10, x11, x12, x13, x14, x15, x16, x17, x18, x19, x20, x21, x22, x23, x24, x25, rfl⟩ := list_cells26 hl
  refine c_call Try.func37 rfl rfl fun a hk => ?_
  have hk : Kn 5 [(0, .pointer (some ⟨g, 0, none⟩))] a := hk
  have hm : Mem w0 (fun k => k = g) Y [.blk g [x0, x1, x2, x3, x4, x5, x6, x7, x8, x9, x10, x11, x12, x13, x14, x15, x16, x17, x18, x19, x20, x21, x22, x23, x24, x25] 61] w0 := Mem.startBlk hb hg rfl (by simp)
  refine c_reg ?_
  refine o_move hk rfl rfl fun a hk => ?_
  refine o_nilCheck hk rfl rfl fun a hk => ?_
  refine o_fieldAddr hk fo_61_9 rfl rfl fun a hk => ?_
  refine o_store (i := 0) hk hm ts_2 rfl rfl rfl rfl rfl rfl (Nat.le_of_ble_eq_true rfl) fun a w hk hm => ?_
  refine c_endQ ?_
  refine b_endNone rfl hk ?_
  have hz := hm.all _ (entAt_mem (i := 0) rfl)
  simp only [Ent.holds] at hz
  exact ⟨hm.agr, _, rfl, hz⟩
theorem newPtr_BrokerRegistrationRequest {w0 : World} {Y : Nat → Prop} : Ret Try.prog 18 [] w0 fun v w' => Agr Nob w0 w' ∧ ∃ b, v = .pointer (some ⟨b, 0, none⟩) := by
  refine c_call Try.func18 rfl rfl fun a hk => ?_
  have hk : Kn 3 [] a := hk
  have hm : Mem w0 Nob Y [] w0 := Mem.start rfl (by simp)
  refine c_region ?_
  refine o_assign hk rfl rfl fun a hk => ?_
  refine c_end ?_
  refine c_region ?_
  refine o_alloc hk hm tz_61 rfl rfl fun a b1 w hk hm => ?_
  refine c_end ?_
  refine c_region ?_
  refine o_call hk cb_37 (default_BrokerRegistrationRequest (hm.all _ (entAt_mem (i := 0) rfl)) rfl (Y := Yof w0 Y [.blk b1 [.int .i16 0, .int .i32 0, .string .empty, .int .u8 0, .int .u8 0, .int .u8 0, .int .u8 0, .int .u8 0, .int .u8 0, .int .u8 0, .int .u8 0, .int .u8 0, .int .u8 0, .int .u8 0, .int .u8 0, .int .u8 0, .int .u8 0, .int .u8 0, .int .u8 0, .slice none 0 0, .slice none 0 0, .pointer none, .bool false, .slice none 0 0, .int .i64 0, .map none] 61]) (yof_blk (i := 0) rfl)) ⟨rfl, trivial⟩ rfl fun v w a hR hk => ?_
  obtain ⟨hp, cs1, hl1, hb1⟩ := hR
  have hm := hm.write (i := 0) rfl hp hb1
  refine c_end ?_
  refine c_region ?_
  refine o_assign hk rfl rfl fun a hk => ?_
  refine c_end ?_
  refine wp_ret ?_
  refine b_retTmp rfl hk rfl ?_
  exact ⟨hm.agr, _, rfl⟩
theorem maxVersion_BrokerRegistrationRequest {w0 : World} {Y : Nat → Prop} {b : Nat} : Ret Try.prog 19 [.pointer (some ⟨b, 0, none⟩)] w0 fun v w' => Agr Nob w0 w' ∧ v = .int .i16 4 := by
  refine c_call Try.func19 rfl rfl fun a hk => ?_
  have hk : Kn 3 [(0, .pointer (some ⟨b, 0, none⟩))] a := hk
  have hm : Mem w0 Nob Y [] w0 := Mem.start rfl (by simp)
  refine c_region ?_
  refine o_assign hk rfl rfl fun a hk => ?_
  refine c_end ?_
  refine c_region ?_
  refine o_assign hk rfl rfl fun a hk => ?_
  refine c_end ?_
  refine wp_ret ?_
  refine b_retTmp rfl hk rfl ?_
  exact ⟨hm.agr, rfl⟩
theorem max_BrokerRegistrationRequest {w0 : World} {Y : Nat → Prop} : Ret Try.prog 6 [] w0 fun v w' => Agr Nob w0 w' ∧ v = .int .i64 4 := by
  refine c_call Try.func6 rfl rfl fun a hk => ?_
  have hk : Kn 4 [] a := hk
  have hm : Mem w0 Nob Y [] w0 := Mem.start rfl (by simp)
  refine c_region ?_
  refine o_assign hk rfl rfl fun a hk => ?_
  refine c_end ?_
  refine c_region ?_
  refine o_call hk cb_18 (newPtr_BrokerRegistrationRequest (Y := Y)) trivial rfl fun v w a hR hk => ?_
  obtain ⟨hp, b0, rfl⟩ := hR
  have hm := hm.pure hp
  refine o_call hk cb_19 (maxVersion_BrokerRegistrationRequest (Y := Y)) ⟨rfl, trivial⟩ rfl fun v w a hR hk => ?_
  obtain ⟨hp, rfl⟩ := hR
  have hm := hm.pure hp
  refine o_convInt (c := 4) hk un_45 ti_3 rfl rfl rfl fun a hk => ?_
  refine o_assign hk rfl rfl fun a hk => ?_
  refine c_end ?_
  refine wp_ret ?_
  refine b_retTmp rfl hk rfl ?_
  exact ⟨hm.agr, rfl⟩
theorem make_c_BrokerRegistrationRequest {w0 : World} {Y : Nat → Prop} {t : T} {ct : List Value} (V : Int) (h0 : 0 ≤ V) (h1 : V ≤ 4) (hsn : t.sane = true) (hT : Rep w0 Y (ddT (fitP sch_BrokerRegistrationRequest V t)) ct) (hroom : (partP sch_BrokerRegistrationRequest V (decide (V ≥ 0)) t).length ≤ room) : Ret Try.prog 10 [.int .i64 V, .agg ct.toArray] w0 fun v w' => RowTo w0 5 1 (.slice none 0 0) (partP sch_BrokerRegistrationRequest V (decide (V ≥ 0)) t).length (bv (partP sch_BrokerRegistrationRequest V (decide (V ≥ 0)) t)) v w' := by
  obtain ⟨pst, capst, pt, capt, put, caput, rfl⟩ := rep_T7 hT
  refine c_call Try.func10 rfl rfl fun a hk => ?_
  have hk : Kn 17 [(0, .int .i64 V), (1, .agg #[.int .i64 ((fitP sch_BrokerRegistrationRequest V t).n), .slice pst ((fitP sch_BrokerRegistrationRequest V t).s.length) capst, .bool ((fitP sch_BrokerRegistrationRequest V t).z), .slice pt ((fitP sch_BrokerRegistrationRequest V t).l.length) capt, .slice put ((fitP sch_BrokerRegistrationRequest V t).u.length) caput])] a := hk
  have hm : Mem w0 Nob Y [.rep (ddT (fitP sch_BrokerRegistrationRequest V t)) [.int .i64 ((fitP sch_BrokerRegistrationRequest V t).n), .slice pst ((fitP sch_BrokerRegistrationRequest V t).s.length) capst, .bool ((fitP sch_BrokerRegistrationRequest V t).z), .slice pt ((fitP sch_BrokerRegistrationRequest V t).l.length) capt, .slice put ((fitP sch_BrokerRegistrationRequest V t).u.length) caput]] w0 := Mem.start rfl (by simp only [List.forall_mem_cons, List.not_mem_nil, false_imp_iff, implies_true, and_true]; exact hT)
  have hsm : (fitP sch_BrokerRegistrationRequest V t).small = true := small_fitP rfl (by decide) V t
  refine c_region ?_
  refine o_box hk hm rfl rfl rfl fun a b1 w hk hm => ?_
  refine o_assign hk rfl rfl fun a hk => ?_
  refine c_end ?_
  refine c_region ?_
  refine o_build (r := [.int .i16 0, .int .i32 0, .string .empty, .int .u8 0, .int .u8 0, .int .u8 0, .int .u8 0, .int .u8 0, .int .u8 0, .int .u8 0, .int .u8 0, .int .u8 0, .int .u8 0, .int .u8 0, .int .u8 0, .int .u8 0, .int .u8 0, .int .u8 0, .int .u8 0, .slice none 0 0, .slice none 0 0, .pointer none, .bool false, .slice none 0 0, .int .i64 0, .map none]) hk tz_61 rfl fok_61 rfl rfl fun a hk => ?_
  refine o_box hk hm rfl rfl rfl fun a b2 w hk hm => ?_
  refine o_assign hk rfl rfl fun a hk => ?_
  refine c_end ?_
  refine c_region ?_
  refine o_move hk rfl rfl fun a hk => ?_
  refine o_move hk rfl rfl fun a hk => ?_
  refine o_convInt (c := V) hk un_3 ti_45 rfl (by simp only [IntKind.wrap, IntKind.bits, IntKind.signed]; simp; omega) rfl fun a hk => ?_
  refine o_call hk cb_22 (setVersion_BrokerRegistrationRequest (Y := Yof w0 Y [.blk b2 [.int .i16 0, .int .i32 0, .string .empty, .int .u8 0, .int .u8 0, .int .u8 0, .int .u8 0, .int .u8 0, .int .u8 0, .int .u8 0, .int .u8 0, .int .u8 0, .int .u8 0, .int .u8 0, .int .u8 0, .int .u8 0, .int .u8 0, .int .u8 0, .int .u8 0, .slice none 0 0, .slice none 0 0, .pointer none, .bool false, .slice none 0 0, .int .i64 0, .map none] 61, .blk b1 [.int .i64 ((fitP sch_BrokerRegistrationRequest V t).n), .slice pst ((fitP sch_BrokerRegistrationRequest V t).s.length) capst, .bool ((fitP sch_BrokerRegistrationRequest V t).z), .slice pt ((fitP sch_BrokerRegistrationRequest V t).l.length) capt, .slice put ((fitP sch_BrokerRegistrationRequest V t).u.length) caput] 39, .rep (ddT (fitP sch_BrokerRegistrationRequest V t)) [.int .i64 ((fitP sch_BrokerRegistrationRequest V t).n), .slice pst ((fitP sch_BrokerRegistrationRequest V t).s.length) capst, .bool ((fitP sch_BrokerRegistrationRequest V t).z), .slice pt ((fitP sch_BrokerRegistrationRequest V t).l.length) capt, .slice put ((fitP sch_BrokerRegistrationRequest V t).u.length) caput]]) (hm.all _ (entAt_mem (i := 0) rfl)) (yof_blk (i := 0) rfl)) ⟨rfl, rfl, trivial⟩ rfl fun v w a hR hk => ?_
  obtain ⟨hp, hb1⟩ := hR
  have hm := hm.write (i := 0) rfl hp hb1
  refine c_end ?_
  refine c_region ?_
  refine o_move hk rfl rfl fun a hk => ?_
  refine o_loadN (cs := [.int .i64 ((fitP sch_BrokerRegistrationRequest V t).n), .slice pst ((fitP sch_BrokerRegistrationRequest V t).s.length) capst, .bool ((fitP sch_BrokerRegistrationRequest V t).z), .slice pt ((fitP sch_BrokerRegistrationRequest V t).l.length) capt, .slice put ((fitP sch_BrokerRegistrationRequest V t).u.length) caput]) hk ts_39 rfl (hm.cells_blk (i := 1) rfl rfl) rfl fun a hk => ?_
  refine o_call hk cb_23 (fill_BrokerRegistrationRequest (V := V) (Y := Yof w0 Y [.blk b2 [.int .i16 V, .int .i32 0, .string .empty, .int .u8 0, .int .u8 0, .int .u8 0, .int .u8 0, .int .u8 0, .int .u8 0, .int .u8 0, .int .u8 0, .int .u8 0, .int .u8 0, .int .u8 0, .int .u8 0, .int .u8 0, .int .u8 0, .int .u8 0, .int .u8 0, .slice none 0 0, .slice none 0 0, .pointer none, .bool false, .slice none 0 0, .int .i64 0, .map none] 61, .blk b1 [.int .i64 ((fitP sch_BrokerRegistrationRequest V t).n), .slice pst ((fitP sch_BrokerRegistrationRequest V t).s.length) capst, .bool ((fitP sch_BrokerRegistrationRequest V t).z), .slice pt ((fitP sch_BrokerRegistrationRequest V t).l.length) capt, .slice put ((fitP sch_BrokerRegistrationRequest V t).u.length) caput] 39, .rep (ddT (fitP sch_BrokerRegistrationRequest V t)) [.int .i64 ((fitP sch_BrokerRegistrationRequest V t).n), .slice pst ((fitP sch_BrokerRegistrationRequest V t).s.length) capst, .bool ((fitP sch_BrokerRegistrationRequest V t).z), .slice pt ((fitP sch_BrokerRegistrationRequest V t).l.length) capt, .slice put ((fitP sch_BrokerRegistrationRequest V t).u.length) caput]]) (hm.all _ (entAt_mem (i := 0) rfl)) (yof_blk (i := 0) rfl) (hm.rep (i := 2) rfl) hsm) ⟨rfl, rfl, trivial⟩ rfl fun v w a hR hk => ?_
  obtain ⟨hp, cf, hb2, hR⟩ := hR
  have hm := hm.blkCall (i := 0) rfl hp hb2 hR
  have hm := hm.freezeBlk (i := 1) rfl id
  refine c_end ?_
  refine c_region ?_
  refine o_move hk rfl rfl fun a hk => ?_
  refine o_call hk cb_24 (appendTo_BrokerRegistrationRequest (w0 := w) (Y := Yof w0 Y [.rep (ddS sch_BrokerRegistrationRequest true (fitP sch_BrokerRegistrationRequest V t)) cf, .cel b2 0 (.int .i16 V :: cf), .blk b1 [.int .i64 ((fitP sch_BrokerRegistrationRequest V t).n), .slice pst ((fitP sch_BrokerRegistrationRequest V t).s.length) capst, .bool ((fitP sch_BrokerRegistrationRequest V t).z), .slice pt ((fitP sch_BrokerRegistrationRequest V t).l.length) capt, .slice put ((fitP sch_BrokerRegistrationRequest V t).u.length) caput] 39, .rep (ddT (fitP sch_BrokerRegistrationRequest V t)) [.int .i64 ((fitP sch_BrokerRegistrationRequest V t).n), .slice pst ((fitP sch_BrokerRegistrationRequest V t).s.length) capst, .bool ((fitP sch_BrokerRegistrationRequest V t).z), .slice pt ((fitP sch_BrokerRegistrationRequest V t).l.length) capt, .slice put ((fitP sch_BrokerRegistrationRequest V t).u.length) caput]]) (n := 0) (xs := []) V h0 h1 (row_nil w _ _) (fun k hk => by cases hk) hsn (hm.all _ (entAt_mem (i := 1) rfl)) (imp_fit sch_BrokerRegistrationRequest rfl true V (decide (V ≥ 0)) t _ _ _ (hm.rep (i := 0) rfl)) (by simpa using hroom)) ⟨rfl, rfl, trivial⟩ rfl fun v3 w a hR hk => ?_
  simp only [Nat.zero_add, List.nil_append] at hR
  have hm := hm.rowNew hR
  refine o_assign hk rfl rfl fun a hk => ?_
  refine c_end ?_
  refine wp_ret ?_
  refine b_retTmp rfl hk rfl ?_
  have hr := hm.rowOut (i := 0) rfl
  exact hr
end Go.Proofs.Ytnndnjbkhhammaa
