/- Walks of functions that the laws of this seat reach. No statement of the seat stands here. -/
import Derived.Test.YtojbmnelohjhmaaL2
import Derived.Test.YtojbmnelohjhmaaRows
import Derived.Test.YtojbmnelohjhmaaFa
import Derived.Test.YtojbmnelohjhmaaSch
import Derived.Test.YtojbmnelohjhmaaOb
namespace Go.Proofs.Ytojbmnelohjhmaa
open Go Go.Mk
theorem dd_sAlterPartitionAssignmentsResponseTopicPartition (t : T) : ddS sch_sAlterPartitionAssignmentsResponseTopicPartition true t = .agg [.v (.int .i32 (IntKind.i32.wrap (t.at_ 0).n)), .v (.int .i16 (IntKind.i16.wrap (t.at_ 1).n)), ddVal 8 0 (fun _ => .agg []) (t.at_ 2), ddTagMap t.u] := rfl
theorem make_AlterPartitionAssignmentsResponseTopicPartition {w0 : World} {Y : Nat → Prop} {t : T} {c : List Value} (hT : Rep w0 Y (ddT t) c) (hsm : t.small = true) :
    Ret Try.prog 198 [.agg c.toArray] w0 fun v w' => Agr Nob w0 w' ∧ ∃ c', v = .agg c'.toArray ∧ c'.length = 4 ∧ oneCells c' = true ∧ Rep w' (fun b => b < w0.heap.size ∧ Y b) (ddS sch_sAlterPartitionAssignmentsResponseTopicPartition true t) c' := by
  have _hsm := hsm
  obtain ⟨cs, p, cap, pu, capu, rfl⟩ := rep_T6 hT
  refine c_call Try.func198 rfl rfl fun a hk => ?_
  have hk : Kn 35 [(0, .agg #[.int .i64 t.n, cs, .bool t.z, .slice p t.l.length cap, .slice pu t.u.length capu])] a := hk
  have hm : Mem w0 Nob Y [.rep (ddT t) [.int .i64 t.n, cs, .bool t.z, .slice p t.l.length cap, .slice pu t.u.length capu]] w0 := Mem.start rfl (by simp only [List.forall_mem_cons, List.not_mem_nil, false_imp_iff, implies_true, and_true]; exact hT)
  refine c_region ?_
  refine o_box hk hm rfl rfl rfl fun a b1 w hk hm => ?_
  refine o_alloc hk hm tz_194 rfl rfl fun a b2 w hk hm => ?_
  refine c_end ?_
  refine c_region ?_
  refine o_alloc hk hm tz_194 rfl rfl fun a b3 w hk hm => ?_
  refine c_end ?_
  refine c_region ?_
  refine o_loadN (cs := [.int .i64 t.n, cs, .bool t.z, .slice p t.l.length cap, .slice pu t.u.length capu]) hk ts_39 rfl (hm.cells_blk (i := 2) rfl rfl) rfl fun a hk => ?_
  refine o_call hk cb_133 (at_impl (t := t) 0 (hm.rep (i := 3) rfl)) ⟨rfl, rfl, trivial⟩ rfl fun v w a hR hk => ?_
  obtain ⟨hp, c1, rfl, hR⟩ := hR
  obtain ⟨cs1, p1, cap1, cu1, rfl⟩ := rep_T5 hR
  have hm := hm.result hp hR
  refine o_field hk ff_39_0 rfl rfl rfl fun a hk => ?_
  refine o_convInt (c := IntKind.i32.wrap (((t.at_ 0)).n)) hk un_2 ti_21 rfl rfl rfl fun a hk => ?_
  refine o_fieldAddr hk fo_194_0 rfl rfl fun a hk => ?_
  refine o_store (i := 1) hk hm ts_21 rfl rfl rfl rfl rfl rfl (Nat.le_of_ble_eq_true rfl) fun a w hk hm => ?_
  refine c_end ?_
  refine c_region ?_
  refine o_loadN (cs := [.int .i64 t.n, cs, .bool t.z, .slice p t.l.length cap, .slice pu t.u.length capu]) hk ts_39 rfl (hm.cells_blk (i := 3) rfl rfl) rfl fun a hk => ?_
  refine o_call hk cb_133 (at_impl (t := t) 1 (hm.rep (i := 4) rfl)) ⟨rfl, rfl, trivial⟩ rfl fun v w a hR hk => ?_
  obtain ⟨hp, c2, rfl, hR⟩ := hR
  obtain ⟨cs2, p2, cap2, cu2, rfl⟩ := rep_T5 hR
  have hm := hm.result hp hR
  refine o_field hk ff_39_0 rfl rfl rfl fun a hk => ?_
  refine o_convInt (c := IntKind.i16.wrap (((t.at_ 1)).n)) hk un_2 ti_45 rfl rfl rfl fun a hk => ?_
  refine o_fieldAddr hk fo_194_1 rfl rfl fun a hk => ?_
  refine o_store (i := 2) hk hm ts_45 rfl rfl rfl rfl rfl rfl (Nat.le_of_ble_eq_true rfl) fun a w hk hm => ?_
  refine c_end ?_
  refine c_region ?_
  refine o_loadN (cs := [.int .i64 t.n, cs, .bool t.z, .slice p t.l.length cap, .slice pu t.u.length capu]) hk ts_39 rfl (hm.cells_blk (i := 4) rfl rfl) rfl fun a hk => ?_
  refine o_call hk cb_133 (at_impl (t := t) 2 (hm.rep (i := 5) rfl)) ⟨rfl, rfl, trivial⟩ rfl fun v w a hR hk => ?_
  obtain ⟨hp, c3, rfl, hR⟩ := hR
  obtain ⟨cs3, p3, cap3, cu3, rfl⟩ := rep_T5 hR
  have hm := hm.result hp hR
  refine o_call hk cb_149 (textOf_c (t := (t.at_ 2)) (hm.rep (i := 0) rfl)) ⟨rfl, trivial⟩ rfl fun v4 w a hR hk => ?_
  obtain ⟨hp, hR, ho4⟩ := hR
  have hm := hm.result hp hR
  refine o_fieldAddr hk fo_194_2 rfl rfl fun a hk => ?_
  refine o_store (i := 4) hk hm ts_69 rfl rfl (cells1 (ho4)) rfl (one1 (ho4)) rfl (Nat.le_of_ble_eq_true rfl) fun a w hk hm => ?_
  refine c_end ?_
  refine wp_seq ?_
  refine c_region ?_
  refine o_fieldAddr hk fo_39_4 rfl rfl fun a hk => ?_
  refine o_load hk ts_37 rfl (hm.cell_blk (i := 6) rfl rfl) rfl fun a hk => ?_
  refine o_lenSlice hk te_37 rfl rfl fun a hk => ?_
  refine o_move hk rfl rfl fun a hk => ?_
  refine c_end ?_
  have hm := hm.addMap0
  have hm := hm.addEls 1
  have hrs := small_rising hsm
  have hN := (small_spec (hsm)).2.2.1
  refine c_range (L0 := [(2, .pointer (some ⟨b2, 0, none⟩)), (3, .pointer (some ⟨b3, 0, none⟩)), (21, .slice pu t.u.length capu)]) (N := t.u.length) (by omega) (fun k L w => ∃ pm vs, L = [(2, .pointer (some ⟨b2, 0, none⟩)), (3, .pointer (some ⟨b3, 0, none⟩)), (21, .slice pu t.u.length capu)] ∧ Mem w0 Nob Y [.els 1 ((t.u.take k).map ddTagV) vs, .mapb pm ((t.u.take k).map Prod.fst) vs, .rep (ddVal 8 0 (fun _ => .agg []) (t.at_ 2)) [v4], .rep (ddT (t.at_ 2)) [.int .i64 (((t.at_ 2)).n), cs3, .bool (((t.at_ 2)).z), .slice p3 (((t.at_ 2)).l.length) cap3, cu3], .rep (ddT (t.at_ 1)) [.int .i64 (((t.at_ 1)).n), cs2, .bool (((t.at_ 1)).z), .slice p2 (((t.at_ 1)).l.length) cap2, cu2], .rep (ddT (t.at_ 0)) [.int .i64 (((t.at_ 0)).n), cs1, .bool (((t.at_ 0)).z), .slice p1 (((t.at_ 0)).l.length) cap1, cu1], .blk b3 [.int .i32 (IntKind.i32.wrap (((t.at_ 0)).n)), .int .i16 (IntKind.i16.wrap (((t.at_ 1)).n)), v4, .map pm] 194, .blk b2 [.int .i32 0, .int .i16 0, .pointer none, .map none] 194, .blk b1 [.int .i64 t.n, cs, .bool t.z, .slice p t.l.length cap, .slice pu t.u.length capu] 39, .rep (ddT t) [.int .i64 t.n, cs, .bool t.z, .slice p t.l.length cap, .slice pu t.u.length capu]] w) (hk.sub ⟨rfl, rfl, rfl, rfl, rfl, trivial⟩) ⟨none, [], rfl, hm⟩ rfl rfl rfl rfl rfl rfl rfl (fun k L a w hlt hR hk => ?_) rfl (fun L a w hR hk => ?_)
  · obtain ⟨pm, vs, rfl, hm⟩ := hR
    obtain ⟨hlt2, blt, offt, et, hpt, hlet, hRt, hCt⟩ := rep_sl_get (rep_T_u (hm.rep (i := 9) rfl)) (getD_map ddTag t.u k (0, []) hlt)
    obtain ⟨ptt, captt, rfl, hRt2⟩ := rep_Tag hRt
    have hm := hm.add (e := .rep (ddTag (t.u.getD k (0, []))) [.int .u32 (((t.u.getD k (0, [])).1 : Nat) : Int), .slice ptt ((t.u.getD k (0, [])).2.length) captt]) rfl hRt
    refine c_region ?_
    refine o_indexAddr (j := k) (b := blt) (off := offt) hk te_37 ts_62 (by rw [← hpt]; rfl) rfl hlt2 rfl fun a hk => ?_
    refine o_loadN (cs := [.int .u32 (((t.u.getD k (0, [])).1 : Nat) : Int), .slice ptt ((t.u.getD k (0, [])).2.length) captt]) hk ts_62 rfl (hCt.at_) rfl fun a hk => ?_
    refine o_alloc hk hm tz_62 rfl rfl fun a b4 w hk hm => ?_
    refine o_store (i := 0) hk hm ts_62 rfl rfl rfl rfl rfl rfl (Nat.le_of_ble_eq_true rfl) fun a w hk hm => ?_
    refine c_end ?_
    refine c_reg ?_
    refine o_fieldAddr hk fo_194_3 rfl rfl fun a hk => ?_
    refine o_fieldAddr hk fo_62_0 rfl rfl fun a hk => ?_
    refine o_load hk ts_59 rfl (hm.cell_blk (i := 0) rfl rfl) rfl fun a hk => ?_
    refine o_fieldAddr hk fo_62_1 rfl rfl fun a hk => ?_
    refine o_load hk ts_22 rfl (hm.cell_blk (i := 0) rfl rfl) rfl fun a hk => ?_
    refine o_call hk cb_134 (tagsSet_c (key := (t.u.getD k (0, [])).1) (hm.blkAt (i := 8) rfl) rfl (hm.mapOr (i := 3) rfl)) ⟨rfl, rfl, rfl, trivial⟩ rfl fun v w a hR hk => ?_
    obtain ⟨hp, rr, hb1, hM1, hr1⟩ := hR
    have hm := hm.setTags (i := 8) (j := 3) rfl rfl hp hb1 hM1 hr1
    rw [setV_rising hrs hlt] at hm
    have hm := hm.elsPush (i := 2) (d := ddTagV (t.u.getD k (0, []))) rfl (rep_Tag2 (hm.rep (i := 1) rfl)) rfl
    rw [← take_succ_map ddTagV t.u k (0, []) hlt] at hm
    refine c_endQ ?_
    refine c_inNormal ?_
    exact c_round (L' := [(2, .pointer (some ⟨b2, 0, none⟩)), (3, .pointer (some ⟨b3, 0, none⟩)), (21, .slice pu t.u.length capu)]) hk ⟨rfl, rfl, rfl, rfl, rfl, trivial⟩ rfl ⟨_, _, rfl, hm.tail.tail⟩
  · obtain ⟨pm, vs, rfl, hm⟩ := hR
    rw [List.take_length] at hm
    have hm := hm.freezeMap (i := 1) rfl (fun _ _ h => h) (hm.els (i := 0) rfl)
    refine c_then ?_
    refine c_region ?_
    refine o_loadN (cs := [.int .i32 (IntKind.i32.wrap (((t.at_ 0)).n)), .int .i16 (IntKind.i16.wrap (((t.at_ 1)).n)), v4, .map pm]) hk ts_194 rfl (hm.cells_blk (i := 6) rfl rfl) rfl fun a hk => ?_
    refine o_store (i := 7) hk hm ts_194 rfl rfl rfl rfl (one_cons rfl (one_cons rfl (one_cons ho4 (one_cons rfl rfl)))) rfl (Nat.le_of_ble_eq_true rfl) fun a w hk hm => ?_
    refine c_end ?_
    refine wp_ret ?_
    refine b_retCell (i := 7) (cs := [.int .i32 (IntKind.i32.wrap (((t.at_ 0)).n)), .int .i16 (IntKind.i16.wrap (((t.at_ 1)).n)), v4, .map pm]) rfl ts_194 hk hm rfl rfl ?_
    refine ⟨hm.agr, _, rfl, rfl, (one_cons rfl (one_cons rfl (one_cons ho4 (one_cons rfl rfl)))), ?_⟩
    refine hm.out ?_
    rw [dd_sAlterPartitionAssignmentsResponseTopicPartition]
    refine rep_agg ?_
    exact RepL.cons1 (rep_v _) (RepL.cons1 (rep_v _) (RepL.cons1 (hm.rep (i := 2) rfl) (RepL.cons1 (hm.rep (i := 1) rfl) (RepL.nil))))
theorem dd_sAlterPartitionAssignmentsResponseTopic (t : T) : ddS sch_sAlterPartitionAssignmentsResponseTopic true t = .agg [.v (.string (bs (t.at_ 0).s)), if (t.at_ 1).z then .v (.slice none 0 0) else .sl true 4 ((t.at_ 1).l.map (ddS sch_sAlterPartitionAssignmentsResponseTopicPartition true)), ddTagMap t.u] := rfl
theorem make_AlterPartitionAssignmentsResponseTopic {w0 : World} {Y : Nat → Prop} {t : T} {c : List Value} (hT : Rep w0 Y (ddT t) c) (hsm : t.small = true) :
    Ret Try.prog 176 [.agg c.toArray] w0 fun v w' => Agr Nob w0 w' ∧ ∃ c', v = .agg c'.toArray ∧ c'.length = 3 ∧ oneCells c' = true ∧ Rep w' (fun b => b < w0.heap.size ∧ Y b) (ddS sch_sAlterPartitionAssignmentsResponseTopic true t) c' := by
  have _hsm := hsm
  obtain ⟨cs, p, cap, pu, capu, rfl⟩ := rep_T6 hT
  refine c_call Try.func176 rfl rfl fun a hk => ?_
  have hk : Kn 54 [(0, .agg #[.int .i64 t.n, cs, .bool t.z, .slice p t.l.length cap, .slice pu t.u.length capu])] a := hk
  have hm : Mem w0 Nob Y [.rep (ddT t) [.int .i64 t.n, cs, .bool t.z, .slice p t.l.length cap, .slice pu t.u.length capu]] w0 := Mem.start rfl (by simp only [List.forall_mem_cons, List.not_mem_nil, false_imp_iff, implies_true, and_true]; exact hT)
  refine c_region ?_
  refine o_box hk hm rfl rfl rfl fun a b1 w hk hm => ?_
  refine o_alloc hk hm tz_188 rfl rfl fun a b2 w hk hm => ?_
  refine c_end ?_
  refine c_region ?_
  refine o_alloc hk hm tz_188 rfl rfl fun a b3 w hk hm => ?_
  refine c_end ?_
  refine c_region ?_
  refine o_loadN (cs := [.int .i64 t.n, cs, .bool t.z, .slice p t.l.length cap, .slice pu t.u.length capu]) hk ts_39 rfl (hm.cells_blk (i := 2) rfl rfl) rfl fun a hk => ?_
  refine o_call hk cb_133 (at_impl (t := t) 0 (hm.rep (i := 3) rfl)) ⟨rfl, rfl, trivial⟩ rfl fun v w a hR hk => ?_
  obtain ⟨hp, c1, rfl, hR⟩ := hR
  obtain ⟨cs1, p1, cap1, cu1, rfl⟩ := rep_T5 hR
  have hm := hm.result hp hR
  refine o_field hk ff_39_1 rfl rfl rfl fun a hk => ?_
  refine o_bytesToStr hk iy_22 is_9 rfl (rep_T_s (hm.rep (i := 0) rfl)) rfl fun a hk => ?_
  refine o_fieldAddr hk fo_188_0 rfl rfl fun a hk => ?_
  refine o_store (i := 1) hk hm ts_9 rfl rfl rfl rfl rfl rfl (Nat.le_of_ble_eq_true rfl) fun a w hk hm => ?_
  refine c_end ?_
  refine c_cut (fun a w => ∃ v, v.oneCell' = true ∧ Kn 54 [(1, .pointer (some ⟨b1, 0, none⟩)), (2, .pointer (some ⟨b2, 0, none⟩)), (3, .pointer (some ⟨b3, 0, none⟩))] a ∧ Mem w0 Nob Y [.rep (if (t.at_ 1).z then .v (.slice none 0 0) else .sl true 4 ((t.at_ 1).l.map (ddS sch_sAlterPartitionAssignmentsResponseTopicPartition true))) [v], .rep (ddT (t.at_ 0)) [.int .i64 (((t.at_ 0)).n), cs1, .bool (((t.at_ 0)).z), .slice p1 (((t.at_ 0)).l.length) cap1, cu1], .blk b3 [.string (bs ((t.at_ 0)).s), v, .map none] 188, .blk b2 [.string .empty, .slice none 0 0, .map none] 188, .blk b1 [.int .i64 t.n, cs, .bool t.z, .slice p t.l.length cap, .slice pu t.u.length capu] 39, .rep (ddT t) [.int .i64 t.n, cs, .bool t.z, .slice p t.l.length cap, .slice pu t.u.length capu]] w) ?_ (fun a w hJ => ?_)
  · refine c_region ?_
    refine o_loadN (cs := [.int .i64 t.n, cs, .bool t.z, .slice p t.l.length cap, .slice pu t.u.length capu]) hk ts_39 rfl (hm.cells_blk (i := 3) rfl rfl) rfl fun a hk => ?_
    refine o_call hk cb_133 (at_impl (t := t) 1 (hm.rep (i := 4) rfl)) ⟨rfl, rfl, trivial⟩ rfl fun v w a hR hk => ?_
    obtain ⟨hp, c2, rfl, hR⟩ := hR
    obtain ⟨cs2, p2, cap2, cu2, rfl⟩ := rep_T5 hR
    have hm := hm.result hp hR
    refine o_field hk ff_39_2 rfl rfl rfl fun a hk => ?_
    refine o_not hk rfl rfl fun a hk => ?_
    refine c_end ?_
    refine c_cond hk rfl (fun hc => ?_) (fun hc => ?_)
    · have hz : (t.at_ 1).z = false := by simpa using hc
      refine c_region ?_
      refine o_loadN (cs := [.int .i64 t.n, cs, .bool t.z, .slice p t.l.length cap, .slice pu t.u.length capu]) hk ts_39 rfl (hm.cells_blk (i := 4) rfl rfl) rfl fun a hk => ?_
      refine o_call hk cb_133 (at_impl (t := t) 1 (hm.rep (i := 5) rfl)) ⟨rfl, rfl, trivial⟩ rfl fun v w a hR hk => ?_
      obtain ⟨hp, c3, rfl, hR⟩ := hR
      obtain ⟨cs3, p3, cap3, cu3, rfl⟩ := rep_T5 hR
      have hm := hm.result hp hR
      refine o_field hk ff_39_3 rfl rfl rfl fun a hk => ?_
      refine o_lenSlice hk te_36 rfl rfl fun a hk => ?_
      have hsb4 := (small_spec (small_at hsm 1)).2.1
      refine o_make0 (cap := ((t.at_ 1)).l.length) hk hm rt_186 tz_194 rfl (by unfold maxLen; omega) (by omega) rfl fun a b4 w hbb4 hk hm => ?_
      refine o_fieldAddr hk fo_188_1 rfl rfl fun a hk => ?_
      refine o_store (i := 4) hk hm ts_186 rfl rfl rfl rfl rfl rfl (Nat.le_of_ble_eq_true rfl) fun a w hk hm => ?_
      refine c_end ?_
      refine c_region ?_
      refine o_loadN (cs := [.int .i64 t.n, cs, .bool t.z, .slice p t.l.length cap, .slice pu t.u.length capu]) hk ts_39 rfl (hm.cells_blk (i := 6) rfl rfl) rfl fun a hk => ?_
      refine o_call hk cb_133 (at_impl (t := t) 1 (hm.rep (i := 7) rfl)) ⟨rfl, rfl, trivial⟩ rfl fun v w a hR hk => ?_
      obtain ⟨hp, c4, rfl, hR⟩ := hR
      obtain ⟨cs4, p4, cap4, cu4, rfl⟩ := rep_T5 hR
      have hm := hm.result hp hR
      refine o_field hk ff_39_3 rfl rfl rfl fun a hk => ?_
      refine o_lenSlice hk te_36 rfl rfl fun a hk => ?_
      refine o_move hk rfl rfl fun a hk => ?_
      refine c_end ?_
      have hm := hm.addEls 4
      have hN := (small_spec (small_at hsm 1)).2.1
      refine c_range (L0 := [(1, .pointer (some ⟨b1, 0, none⟩)), (2, .pointer (some ⟨b2, 0, none⟩)), (3, .pointer (some ⟨b3, 0, none⟩)), (25, .slice p4 (((t.at_ 1)).l.length) cap4)]) (N := ((t.at_ 1)).l.length) (by omega) (fun k L w => ∃ vr xs, L = [(1, .pointer (some ⟨b1, 0, none⟩)), (2, .pointer (some ⟨b2, 0, none⟩)), (3, .pointer (some ⟨b3, 0, none⟩)), (25, .slice p4 (((t.at_ 1)).l.length) cap4)] ∧ vr ≠ .slice none 0 0 ∧ Mem w0 Nob Y [.els 4 ((((t.at_ 1)).l.take k).map (ddS sch_sAlterPartitionAssignmentsResponseTopicPartition true)) xs, .rep (ddT (t.at_ 1)) [.int .i64 (((t.at_ 1)).n), cs4, .bool (((t.at_ 1)).z), .slice p4 (((t.at_ 1)).l.length) cap4, cu4], .row 194 4 vr k xs, .rep (ddT (t.at_ 1)) [.int .i64 (((t.at_ 1)).n), cs3, .bool (((t.at_ 1)).z), .slice p3 (((t.at_ 1)).l.length) cap3, cu3], .rep (ddT (t.at_ 1)) [.int .i64 (((t.at_ 1)).n), cs2, .bool (((t.at_ 1)).z), .slice p2 (((t.at_ 1)).l.length) cap2, cu2], .rep (ddT (t.at_ 0)) [.int .i64 (((t.at_ 0)).n), cs1, .bool (((t.at_ 0)).z), .slice p1 (((t.at_ 0)).l.length) cap1, cu1], .blk b3 [.string (bs ((t.at_ 0)).s), vr, .map none] 188, .blk b2 [.string .empty, .slice none 0 0, .map none] 188, .blk b1 [.int .i64 t.n, cs, .bool t.z, .slice p t.l.length cap, .slice pu t.u.length capu] 39, .rep (ddT t) [.int .i64 t.n, cs, .bool t.z, .slice p t.l.length cap, .slice pu t.u.length capu]] w) (hk.sub ⟨rfl, rfl, rfl, rfl, rfl, rfl, trivial⟩) ⟨_, _, rfl, by simp, hm⟩ rfl rfl rfl rfl rfl rfl rfl (fun k L a w hlt hR hk => ?_) rfl (fun L a w hR hk => ?_)
      · obtain ⟨vr, xs, rfl, hnn, hm⟩ := hR
        obtain ⟨_, bl, off, c5, hpl, hl5, hR5, hC5⟩ := rep_sl_get (rep_T_l (hm.rep (i := 1) rfl)) (getD_map ddT ((t.at_ 1)).l k T.nil hlt)
        obtain ⟨cs5, p5, cap5, cu5, rfl⟩ := rep_T5 hR5
        have hm := hm.add (e := .rep (ddT ((t.at_ 1).l.getD k T.nil)) [.int .i64 ((((t.at_ 1).l.getD k T.nil)).n), cs5, .bool ((((t.at_ 1).l.getD k T.nil)).z), .slice p5 ((((t.at_ 1).l.getD k T.nil)).l.length) cap5, cu5]) rfl hR5
        refine c_region ?_
        refine o_indexAddr (j := k) (b := bl) (off := off) hk te_36 ts_39 (by rw [← hpl]; rfl) rfl hlt rfl fun a hk => ?_
        refine o_loadN (cs := [.int .i64 ((((t.at_ 1).l.getD k T.nil)).n), cs5, .bool ((((t.at_ 1).l.getD k T.nil)).z), .slice p5 ((((t.at_ 1).l.getD k T.nil)).l.length) cap5, cu5]) hk ts_39 rfl (hC5.at_) rfl fun a hk => ?_
        refine o_alloc hk hm tz_39 rfl rfl fun a b5 w hk hm => ?_
        refine o_store (i := 0) hk hm ts_39 rfl rfl rfl rfl (rep_T_one hR5) rfl (Nat.le_of_ble_eq_true rfl) fun a w hk hm => ?_
        refine c_end ?_
        refine d_startM (K := 5) mixed hm fun w hm => ?_
        refine d_take (i := 0) rfl rfl rfl (by kernel_rfl) (fun _ _ _ h => h) hk rfl (fun w hm => r_fieldAddr hk fo_188_1 rfl) hm fun a hk => ?_
        refine d_take (i := 1) rfl rfl rfl (by kernel_rfl) (fun _ _ _ h => h) hk rfl (fun w hm => r_load1 hk ts_186 rfl (hm.cell_blk (i := 8) rfl rfl)) hm fun a hk => ?_
        refine d_one (k := 2) (by kernel_rfl) rfl rfl ?_
        refine o_loadN (cs := [.int .i64 ((((t.at_ 1).l.getD k T.nil)).n), cs5, .bool ((((t.at_ 1).l.getD k T.nil)).z), .slice p5 ((((t.at_ 1).l.getD k T.nil)).l.length) cap5, cu5]) hk ts_39 rfl (hm.cells_blk (i := 0) rfl rfl) rfl fun a hk => ?_
        refine c_endQ (c_then ⟨fun _ => hm, ?_⟩)
        refine d_one (k := 3) (by kernel_rfl) rfl rfl ?_
        refine o_call hk cb_198 (make_AlterPartitionAssignmentsResponseTopicPartition (t := ((t.at_ 1).l.getD k T.nil)) (hm.rep (i := 1) rfl) (small_getD (small_at hsm 1) k)) ⟨rfl, trivial⟩ rfl fun v w a hR hk => ?_
        obtain ⟨hp, c6, rfl, hl6, ho6, hR⟩ := hR
        have hm := hm.result hp hR
        refine c_endQ (c_then ⟨fun _ => hm.tail, ?_⟩)
        refine d_one (k := 4) (by kernel_rfl) rfl rfl ?_
        refine o_build1 (c := c6) hk hm rt_186 rfl rfl hl6 rfl rfl rfl fun a b6 w hk hm => ?_
        refine c_endQ (c_then ⟨fun _ => hm.tail.tail, ?_⟩)
        refine d_one (k := 5) (by kernel_rfl) rfl rfl ?_
        refine o_append (i := 6) hk hm rt_186 rfl rfl rfl (src_cells (k := 1) (news := c6) te_186 (by rw [hl6]) (hm.cells_blk (i := 0) rfl (by simp)) ho6) (by unfold maxLen; omega) (by omega) rfl fun a v7 w hk hm hnilv7 => ?_
        refine c_endQ (c_then ⟨fun h => Bool.noConfusion (show true = false from h), ?_⟩)
        refine d_one (k := 6) (by kernel_rfl) rfl rfl ?_
        refine o_fieldAddr hk fo_188_1 rfl rfl fun a hk => ?_
        refine c_endQ (c_then ⟨fun h => Bool.noConfusion (show true = false from h), ?_⟩)
        refine d_one (k := 7) (by kernel_rfl) rfl rfl ?_
        refine o_store (i := 10) hk hm ts_186 rfl rfl (cells1 (row_one (hm.row (i := 6) rfl))) rfl (one1 (row_one (hm.row (i := 6) rfl))) rfl (Nat.le_of_ble_eq_true rfl) fun a w hk hm => ?_
        refine c_endQ (c_then ⟨fun h => Bool.noConfusion (show true = false from h), ?_⟩)
        refine d_done (by kernel_rfl) ?_ _
        refine c_inNormal ?_
        have hm := hm.elsPush (i := 4) (d := (ddS sch_sAlterPartitionAssignmentsResponseTopicPartition true ((t.at_ 1).l.getD k T.nil))) rfl (hm.rep (i := 1) rfl) (by rw [hl6])
        rw [← take_succ_map (ddS sch_sAlterPartitionAssignmentsResponseTopicPartition true) ((t.at_ 1)).l k T.nil hlt] at hm
        have hm := hm.tail
        have hm := hm.tail
        have hm := hm.tail
        have hm := hm.tail
        refine c_round (L' := [(1, .pointer (some ⟨b1, 0, none⟩)), (2, .pointer (some ⟨b2, 0, none⟩)), (3, .pointer (some ⟨b3, 0, none⟩)), (25, .slice p4 (((t.at_ 1)).l.length) cap4)]) hk ⟨rfl, rfl, rfl, rfl, rfl, rfl, trivial⟩ rfl ⟨_, _, rfl, fun e => hnn (hnilv7.1 e).1, hm⟩
      · obtain ⟨vl8, xsvl8, rfl, hnnvl8, hm⟩ := hR
        have hovl8 := row_one (hm.row (i := 2) rfl)
        have hm := hm.freezeRow (i := 2) (st := true) rfl (noX _) (hm.els (i := 0) rfl) (by rw [List.length_map, List.length_take]; omega) (fun h => absurd h hnnvl8)
        rw [List.take_length] at hm
        refine c_then ⟨vl8, hovl8, hk.sub ⟨rfl, rfl, rfl, trivial⟩, ?_⟩
        rw [hz]; exact hm.pick [2, 5, 6, 7, 8, 9] rfl rfl
    · have hz : (t.at_ 1).z = true := by simpa using hc
      refine wp_skip ?_
      have hm := hm.addV (.slice none 0 0)
      refine c_then ⟨.slice none 0 0, rfl, hk.sub ⟨rfl, rfl, rfl, trivial⟩, ?_⟩
      rw [hz]; exact hm.pick [0, 2, 3, 4, 5, 6] rfl rfl
  obtain ⟨vj1, ho1, hk, hm⟩ := hJ
  refine wp_seq ?_
  refine c_region ?_
  refine o_fieldAddr hk fo_39_4 rfl rfl fun a hk => ?_
  refine o_load hk ts_37 rfl (hm.cell_blk (i := 4) rfl rfl) rfl fun a hk => ?_
  refine o_lenSlice hk te_37 rfl rfl fun a hk => ?_
  refine o_move hk rfl rfl fun a hk => ?_
  refine c_end ?_
  have hm := hm.addMap0
  have hm := hm.addEls 1
  have hrs := small_rising hsm
  have hN := (small_spec (hsm)).2.2.1
  refine c_range (L0 := [(2, .pointer (some ⟨b2, 0, none⟩)), (3, .pointer (some ⟨b3, 0, none⟩)), (40, .slice pu t.u.length capu)]) (N := t.u.length) (by omega) (fun k L w => ∃ pm vs, L = [(2, .pointer (some ⟨b2, 0, none⟩)), (3, .pointer (some ⟨b3, 0, none⟩)), (40, .slice pu t.u.length capu)] ∧ Mem w0 Nob Y [.els 1 ((t.u.take k).map ddTagV) vs, .mapb pm ((t.u.take k).map Prod.fst) vs, .rep (if (t.at_ 1).z then .v (.slice none 0 0) else .sl true 4 ((t.at_ 1).l.map (ddS sch_sAlterPartitionAssignmentsResponseTopicPartition true))) [vj1], .rep (ddT (t.at_ 0)) [.int .i64 (((t.at_ 0)).n), cs1, .bool (((t.at_ 0)).z), .slice p1 (((t.at_ 0)).l.length) cap1, cu1], .blk b3 [.string (bs ((t.at_ 0)).s), vj1, .map pm] 188, .blk b2 [.string .empty, .slice none 0 0, .map none] 188, .blk b1 [.int .i64 t.n, cs, .bool t.z, .slice p t.l.length cap, .slice pu t.u.length capu] 39, .rep (ddT t) [.int .i64 t.n, cs, .bool t.z, .slice p t.l.length cap, .slice pu t.u.length capu]] w) (hk.sub ⟨rfl, rfl, rfl, rfl, rfl, trivial⟩) ⟨none, [], rfl, hm⟩ rfl rfl rfl rfl rfl rfl rfl (fun k L a w hlt hR hk => ?_) rfl (fun L a w hR hk => ?_)
  · obtain ⟨pm, vs, rfl, hm⟩ := hR
    obtain ⟨hlt2, blt, offt, et, hpt, hlet, hRt, hCt⟩ := rep_sl_get (rep_T_u (hm.rep (i := 7) rfl)) (getD_map ddTag t.u k (0, []) hlt)
    obtain ⟨ptt, captt, rfl, hRt2⟩ := rep_Tag hRt
    have hm := hm.add (e := .rep (ddTag (t.u.getD k (0, []))) [.int .u32 (((t.u.getD k (0, [])).1 : Nat) : Int), .slice ptt ((t.u.getD k (0, [])).2.length) captt]) rfl hRt
    refine c_region ?_
    refine o_indexAddr (j := k) (b := blt) (off := offt) hk te_37 ts_62 (by rw [← hpt]; rfl) rfl hlt2 rfl fun a hk => ?_
    refine o_loadN (cs := [.int .u32 (((t.u.getD k (0, [])).1 : Nat) : Int), .slice ptt ((t.u.getD k (0, [])).2.length) captt]) hk ts_62 rfl (hCt.at_) rfl fun a hk => ?_
    refine o_alloc hk hm tz_62 rfl rfl fun a b9 w hk hm => ?_
    refine o_store (i := 0) hk hm ts_62 rfl rfl rfl rfl rfl rfl (Nat.le_of_ble_eq_true rfl) fun a w hk hm => ?_
    refine c_end ?_
    refine c_reg ?_
    refine o_fieldAddr hk fo_188_2 rfl rfl fun a hk => ?_
    refine o_fieldAddr hk fo_62_0 rfl rfl fun a hk => ?_
    refine o_load hk ts_59 rfl (hm.cell_blk (i := 0) rfl rfl) rfl fun a hk => ?_
    refine o_fieldAddr hk fo_62_1 rfl rfl fun a hk => ?_
    refine o_load hk ts_22 rfl (hm.cell_blk (i := 0) rfl rfl) rfl fun a hk => ?_
    refine o_call hk cb_134 (tagsSet_c (key := (t.u.getD k (0, [])).1) (hm.blkAt (i := 6) rfl) rfl (hm.mapOr (i := 3) rfl)) ⟨rfl, rfl, rfl, trivial⟩ rfl fun v w a hR hk => ?_
    obtain ⟨hp, rr, hb1, hM1, hr1⟩ := hR
    have hm := hm.setTags (i := 6) (j := 3) rfl rfl hp hb1 hM1 hr1
    rw [setV_rising hrs hlt] at hm
    have hm := hm.elsPush (i := 2) (d := ddTagV (t.u.getD k (0, []))) rfl (rep_Tag2 (hm.rep (i := 1) rfl)) rfl
    rw [← take_succ_map ddTagV t.u k (0, []) hlt] at hm
    refine c_endQ ?_
    refine c_inNormal ?_
    exact c_round (L' := [(2, .pointer (some ⟨b2, 0, none⟩)), (3, .pointer (some ⟨b3, 0, none⟩)), (40, .slice pu t.u.length capu)]) hk ⟨rfl, rfl, rfl, rfl, rfl, trivial⟩ rfl ⟨_, _, rfl, hm.tail.tail⟩
  · obtain ⟨pm, vs, rfl, hm⟩ := hR
    rw [List.take_length] at hm
    have hm := hm.freezeMap (i := 1) rfl (fun _ _ h => h) (hm.els (i := 0) rfl)
    refine c_then ?_
    refine c_region ?_
    refine o_loadN (cs := [.string (bs ((t.at_ 0)).s), vj1, .map pm]) hk ts_188 rfl (hm.cells_blk (i := 4) rfl rfl) rfl fun a hk => ?_
    refine o_store (i := 5) hk hm ts_188 rfl rfl rfl rfl (one_cons rfl (one_cons ho1 (one_cons rfl rfl))) rfl (Nat.le_of_ble_eq_true rfl) fun a w hk hm => ?_
    refine c_end ?_
    refine wp_ret ?_
    refine b_retCell (i := 5) (cs := [.string (bs ((t.at_ 0)).s), vj1, .map pm]) rfl ts_188 hk hm rfl rfl ?_
    refine ⟨hm.agr, _, rfl, rfl, (one_cons rfl (one_cons ho1 (one_cons rfl rfl))), ?_⟩
    refine hm.out ?_
    rw [dd_sAlterPartitionAssignmentsResponseTopic]
    refine rep_agg ?_
    exact RepL.cons1 (rep_v _) (RepL.cons1 (hm.rep (i := 2) rfl) (RepL.cons1 (hm.rep (i := 1) rfl) (RepL.nil)))
theorem dd_AlterPartitionAssignmentsResponse (t : T) : ddS sch_AlterPartitionAssignmentsResponse true t = .agg [.v (.int .i32 (IntKind.i32.wrap (t.at_ 0).n)), .v (.bool ((t.at_ 1).n % 2 == 1)), .v (.int .i16 (IntKind.i16.wrap (t.at_ 2).n)), ddVal 8 0 (fun _ => .agg []) (t.at_ 3), if (t.at_ 4).z then .v (.slice none 0 0) else .sl true 3 ((t.at_ 4).l.map (ddS sch_sAlterPartitionAssignmentsResponseTopic true)), ddTagMap t.u] := rfl
theorem fill_AlterPartitionAssignmentsResponse {w0 : World} {Y : Nat → Prop} {t : T} {ct : List Value} {g : Nat} {V : Int} (hb : w0.heap[g]? = some (.cells [.int .i16 V, .int .i32 0, .bool false, .int .i16 0, .pointer none, .slice none 0 0, .map none].toArray 117 (0, 0))) (hg : Y g) (hT : Rep w0 Y (ddT t) ct) (hsm : t.small = true) : Ret Try.prog 117 [.pointer (some ⟨g, 0, none⟩), .agg ct.toArray] w0 fun _ w' => Agr (fun k => k = g) w0 w' ∧ ∃ c', w'.heap[g]? = some (.cells (.int .i16 V :: c').toArray 117 (0, 0)) ∧ Rep w' (fun b => b < w0.heap.size ∧ Y b) (ddS sch_AlterPartitionAssignmentsResponse true t) c' := by
  have _hsm := hsm
  obtain ⟨cs, p, cap, pu, capu, rfl⟩ := rep_T6 hT
  refine c_call Try.func117 rfl rfl fun a hk => ?_
  have hk : Kn 84 [(0, .pointer (some ⟨g, 0, none⟩)), (1, .agg #[.int .i64 t.n, cs, .bool t.z, .slice p t.l.length cap, .slice pu t.u.length capu])] a := hk
  have hm : Mem w0 (fun k => k = g) Y [.blk g [.int .i16 V, .int .i32 0, .bool false, .int .i16 0, .pointer none, .slice none 0 0, .map none] 117, .rep (ddT t) [.int .i64 t.n, cs, .bool t.z, .slice p t.l.length cap, .slice pu t.u.length capu]] w0 := Mem.startBlk hb hg rfl (by simp only [List.forall_mem_cons, List.not_mem_nil, false_imp_iff, implies_true, and_true]; exact hT)
  refine c_region ?_
  refine o_box hk hm rfl rfl rfl fun a b1 w hk hm => ?_
  refine c_end ?_
  refine c_region ?_
  refine o_move hk rfl rfl fun a hk => ?_
  refine o_loadN (cs := [.int .i64 t.n, cs, .bool t.z, .slice p t.l.length cap, .slice pu t.u.length capu]) hk ts_39 rfl (hm.cells_blk (i := 0) rfl rfl) rfl fun a hk => ?_
  refine o_call hk cb_133 (at_impl (t := t) 0 (hm.rep (i := 2) rfl)) ⟨rfl, rfl, trivial⟩ rfl fun v w a hR hk => ?_
  obtain ⟨hp, c1, rfl, hR⟩ := hR
  obtain ⟨cs1, p1, cap1, cu1, rfl⟩ := rep_T5 hR
  have hm := hm.result hp hR
  refine o_field hk ff_39_0 rfl rfl rfl fun a hk => ?_
  refine o_convInt (c := IntKind.i32.wrap (((t.at_ 0)).n)) hk un_2 ti_21 rfl rfl rfl fun a hk => ?_
  refine o_nilCheck hk rfl rfl fun a hk => ?_
  refine o_fieldAddr hk fo_117_1 rfl rfl fun a hk => ?_
  refine o_store (i := 2) hk hm ts_21 rfl rfl rfl rfl rfl rfl (Nat.le_of_ble_eq_true rfl) fun a w hk hm => ?_
  refine c_end ?_
  refine c_region ?_
  refine o_move hk rfl rfl fun a hk => ?_
  refine o_loadN (cs := [.int .i64 t.n, cs, .bool t.z, .slice p t.l.length cap, .slice pu t.u.length capu]) hk ts_39 rfl (hm.cells_blk (i := 1) rfl rfl) rfl fun a hk => ?_
  refine o_call hk cb_133 (at_impl (t := t) 1 (hm.rep (i := 3) rfl)) ⟨rfl, rfl, trivial⟩ rfl fun v w a hR hk => ?_
  obtain ⟨hp, c2, rfl, hR⟩ := hR
  obtain ⟨cs2, p2, cap2, cu2, rfl⟩ := rep_T5 hR
  have hm := hm.result hp hR
  refine o_field hk ff_39_0 rfl rfl rfl fun a hk => ?_
  refine o_ibits (c := (((t.at_ 1)).n) % 2) hk rfl rfl (and1_i64 _) rfl fun a hk => ?_
  refine o_icmp hk rfl rfl rfl rfl fun a hk => ?_
  refine o_nilCheck hk rfl rfl fun a hk => ?_
  refine o_fieldAddr hk fo_117_2 rfl rfl fun a hk => ?_
  refine o_store (i := 3) hk hm ts_4 rfl rfl rfl rfl rfl rfl (Nat.le_of_ble_eq_true rfl) fun a w hk hm => ?_
  refine c_end ?_
  refine c_region ?_
  refine o_move hk rfl rfl fun a hk => ?_
  refine o_loadN (cs := [.int .i64 t.n, cs, .bool t.z, .slice p t.l.length cap, .slice pu t.u.length capu]) hk ts_39 rfl (hm.cells_blk (i := 2) rfl rfl) rfl fun a hk => ?_
  refine o_call hk cb_133 (at_impl (t := t) 2 (hm.rep (i := 4) rfl)) ⟨rfl, rfl, trivial⟩ rfl fun v w a hR hk => ?_
  obtain ⟨hp, c3, rfl, hR⟩ := hR
  obtain ⟨cs3, p3, cap3, cu3, rfl⟩ := rep_T5 hR
  have hm := hm.result hp hR
  refine o_field hk ff_39_0 rfl rfl rfl fun a hk => ?_
  refine o_convInt (c := IntKind.i16.wrap (((t.at_ 2)).n)) hk un_2 ti_45 rfl rfl rfl fun a hk => ?_
  refine o_nilCheck hk rfl rfl fun a hk => ?_
  refine o_fieldAddr hk fo_117_3 rfl rfl fun a hk => ?_
  refine o_store (i := 4) hk hm ts_45 rfl rfl rfl rfl rfl rfl (Nat.le_of_ble_eq_true rfl) fun a w hk hm => ?_
  refine c_end ?_
  refine c_region ?_
  refine o_move hk rfl rfl fun a hk => ?_
  refine o_loadN (cs := [.int .i64 t.n, cs, .bool t.z, .slice p t.l.length cap, .slice pu t.u.length capu]) hk ts_39 rfl (hm.cells_blk (i := 3) rfl rfl) rfl fun a hk => ?_
  refine o_call hk cb_133 (at_impl (t := t) 3 (hm.rep (i := 5) rfl)) ⟨rfl, rfl, trivial⟩ rfl fun v w a hR hk => ?_
  obtain ⟨hp, c4, rfl, hR⟩ := hR
  obtain ⟨cs4, p4, cap4, cu4, rfl⟩ := rep_T5 hR
  have hm := hm.result hp hR
  refine o_call hk cb_149 (textOf_c (t := (t.at_ 3)) (hm.rep (i := 0) rfl)) ⟨rfl, trivial⟩ rfl fun v5 w a hR hk => ?_
  obtain ⟨hp, hR, ho5⟩ := hR
  have hm := hm.result hp hR
  refine o_nilCheck hk rfl rfl fun a hk => ?_
  refine o_fieldAddr hk fo_117_4 rfl rfl fun a hk => ?_
  refine o_store (i := 6) hk hm ts_69 rfl rfl (cells1 (ho5)) rfl (one1 (ho5)) rfl (Nat.le_of_ble_eq_true rfl) fun a w hk hm => ?_
  refine c_end ?_
  refine c_cut (fun a w => ∃ v, v.oneCell' = true ∧ Kn 84 [(0, .pointer (some ⟨g, 0, none⟩)), (3, .pointer (some ⟨b1, 0, none⟩))] a ∧ Mem w0 (fun k => k = g) Y [.rep (if (t.at_ 4).z then .v (.slice none 0 0) else .sl true 3 ((t.at_ 4).l.map (ddS sch_sAlterPartitionAssignmentsResponseTopic true))) [v], .rep (ddVal 8 0 (fun _ => .agg []) (t.at_ 3)) [v5], .rep (ddT (t.at_ 3)) [.int .i64 (((t.at_ 3)).n), cs4, .bool (((t.at_ 3)).z), .slice p4 (((t.at_ 3)).l.length) cap4, cu4], .rep (ddT (t.at_ 2)) [.int .i64 (((t.at_ 2)).n), cs3, .bool (((t.at_ 2)).z), .slice p3 (((t.at_ 2)).l.length) cap3, cu3], .rep (ddT (t.at_ 1)) [.int .i64 (((t.at_ 1)).n), cs2, .bool (((t.at_ 1)).z), .slice p2 (((t.at_ 1)).l.length) cap2, cu2], .rep (ddT (t.at_ 0)) [.int .i64 (((t.at_ 0)).n), cs1, .bool (((t.at_ 0)).z), .slice p1 (((t.at_ 0)).l.length) cap1, cu1], .blk b1 [.int .i64 t.n, cs, .bool t.z, .slice p t.l.length cap, .slice pu t.u.length capu] 39, .blk g [.int .i16 V, .int .i32 (IntKind.i32.wrap (((t.at_ 0)).n)), .bool (((((t.at_ 1)).n) % 2 : Int) == 1), .int .i16 (IntKind.i16.wrap (((t.at_ 2)).n)), v5, v, .map none] 117, .rep (ddT t) [.int .i64 t.n, cs, .bool t.z, .slice p t.l.length cap, .slice pu t.u.length capu]] w) ?_ (fun a w hJ => ?_)
  · refine c_region ?_
    refine o_loadN (cs := [.int .i64 t.n, cs, .bool t.z, .slice p t.l.length cap, .slice pu t.u.length capu]) hk ts_39 rfl (hm.cells_blk (i := 5) rfl rfl) rfl fun a hk => ?_
    refine o_call hk cb_133 (at_impl (t := t) 4 (hm.rep (i := 7) rfl)) ⟨rfl, rfl, trivial⟩ rfl fun v w a hR hk => ?_
    obtain ⟨hp, c6, rfl, hR⟩ := hR
    obtain ⟨cs6, p6, cap6, cu6, rfl⟩ := rep_T5 hR
    have hm := hm.result hp hR
    refine o_field hk ff_39_2 rfl rfl rfl fun a hk => ?_
    refine o_not hk rfl rfl fun a hk => ?_
    refine c_end ?_
    refine c_cond hk rfl (fun hc => ?_) (fun hc => ?_)
    · have hz : (t.at_ 4).z = false := by simpa using hc
      refine c_region ?_
      refine o_move hk rfl rfl fun a hk => ?_
      refine o_loadN (cs := [.int .i64 t.n, cs, .bool t.z, .slice p t.l.length cap, .slice pu t.u.length capu]) hk ts_39 rfl (hm.cells_blk (i := 6) rfl rfl) rfl fun a hk => ?_
      refine o_call hk cb_133 (at_impl (t := t) 4 (hm.rep (i := 8) rfl)) ⟨rfl, rfl, trivial⟩ rfl fun v w a hR hk => ?_
      obtain ⟨hp, c7, rfl, hR⟩ := hR
      obtain ⟨cs7, p7, cap7, cu7, rfl⟩ := rep_T5 hR
      have hm := hm.result hp hR
      refine o_field hk ff_39_3 rfl rfl rfl fun a hk => ?_
      refine o_lenSlice hk te_36 rfl rfl fun a hk => ?_
      have hsb2 := (small_spec (small_at hsm 4)).2.1
      refine o_make0 (cap := ((t.at_ 4)).l.length) hk hm rt_115 tz_188 rfl (by unfold maxLen; omega) (by omega) rfl fun a b2 w hbb2 hk hm => ?_
      refine o_nilCheck hk rfl rfl fun a hk => ?_
      refine o_fieldAddr hk fo_117_5 rfl rfl fun a hk => ?_
      refine o_store (i := 9) hk hm ts_115 rfl rfl rfl rfl rfl rfl (Nat.le_of_ble_eq_true rfl) fun a w hk hm => ?_
      refine c_end ?_
      refine c_region ?_
      refine o_loadN (cs := [.int .i64 t.n, cs, .bool t.z, .slice p t.l.length cap, .slice pu t.u.length capu]) hk ts_39 rfl (hm.cells_blk (i := 8) rfl rfl) rfl fun a hk => ?_
      refine o_call hk cb_133 (at_impl (t := t) 4 (hm.rep (i := 10) rfl)) ⟨rfl, rfl, trivial⟩ rfl fun v w a hR hk => ?_
      obtain ⟨hp, c8, rfl, hR⟩ := hR
      obtain ⟨cs8, p8, cap8, cu8, rfl⟩ := rep_T5 hR
      have hm := hm.result hp hR
      refine o_field hk ff_39_3 rfl rfl rfl fun a hk => ?_
      refine o_lenSlice hk te_36 rfl rfl fun a hk => ?_
      refine o_move hk rfl rfl fun a hk => ?_
      refine c_end ?_
      have hm := hm.addEls 3
      have hN := (small_spec (small_at hsm 4)).2.1
      refine c_range (L0 := [(0, .pointer (some ⟨g, 0, none⟩)), (3, .pointer (some ⟨b1, 0, none⟩)), (50, .slice p8 (((t.at_ 4)).l.length) cap8)]) (N := ((t.at_ 4)).l.length) (by omega) (fun k L w => ∃ vr xs, L = [(0, .pointer (some ⟨g, 0, none⟩)), (3, .pointer (some ⟨b1, 0, none⟩)), (50, .slice p8 (((t.at_ 4)).l.length) cap8)] ∧ vr ≠ .slice none 0 0 ∧ Mem w0 (fun k => k = g) Y [.els 3 ((((t.at_ 4)).l.take k).map (ddS sch_sAlterPartitionAssignmentsResponseTopic true)) xs, .rep (ddT (t.at_ 4)) [.int .i64 (((t.at_ 4)).n), cs8, .bool (((t.at_ 4)).z), .slice p8 (((t.at_ 4)).l.length) cap8, cu8], .row 188 3 vr k xs, .rep (ddT (t.at_ 4)) [.int .i64 (((t.at_ 4)).n), cs7, .bool (((t.at_ 4)).z), .slice p7 (((t.at_ 4)).l.length) cap7, cu7], .rep (ddT (t.at_ 4)) [.int .i64 (((t.at_ 4)).n), cs6, .bool (((t.at_ 4)).z), .slice p6 (((t.at_ 4)).l.length) cap6, cu6], .rep (ddVal 8 0 (fun _ => .agg []) (t.at_ 3)) [v5], .rep (ddT (t.at_ 3)) [.int .i64 (((t.at_ 3)).n), cs4, .bool (((t.at_ 3)).z), .slice p4 (((t.at_ 3)).l.length) cap4, cu4], .rep (ddT (t.at_ 2)) [.int .i64 (((t.at_ 2)).n), cs3, .bool (((t.at_ 2)).z), .slice p3 (((t.at_ 2)).l.length) cap3, cu3], .rep (ddT (t.at_ 1)) [.int .i64 (((t.at_ 1)).n), cs2, .bool (((t.at_ 1)).z), .slice p2 (((t.at_ 1)).l.length) cap2, cu2], .rep (ddT (t.at_ 0)) [.int .i64 (((t.at_ 0)).n), cs1, .bool (((t.at_ 0)).z), .slice p1 (((t.at_ 0)).l.length) cap1, cu1], .blk b1 [.int .i64 t.n, cs, .bool t.z, .slice p t.l.length cap, .slice pu t.u.length capu] 39, .blk g [.int .i16 V, .int .i32 (IntKind.i32.wrap (((t.at_ 0)).n)), .bool (((((t.at_ 1)).n) % 2 : Int) == 1), .int .i16 (IntKind.i16.wrap (((t.at_ 2)).n)), v5, vr, .map none] 117, .rep (ddT t) [.int .i64 t.n, cs, .bool t.z, .slice p t.l.length cap, .slice pu t.u.length capu]] w) (hk.sub ⟨rfl, rfl, rfl, rfl, rfl, trivial⟩) ⟨_, _, rfl, by simp, hm⟩ rfl rfl rfl rfl rfl rfl rfl (fun k L a w hlt hR hk => ?_) rfl (fun L a w hR hk => ?_)
      · obtain ⟨vr, xs, rfl, hnn, hm⟩ := hR
        obtain ⟨_, bl, off, c9, hpl, hl9, hR9, hC9⟩ := rep_sl_get (rep_T_l (hm.rep (i := 1) rfl)) (getD_map ddT ((t.at_ 4)).l k T.nil hlt)
        obtain ⟨cs9, p9, cap9, cu9, rfl⟩ := rep_T5 hR9
        have hm := hm.add (e := .rep (ddT ((t.at_ 4).l.getD k T.nil)) [.int .i64 ((((t.at_ 4).l.getD k T.nil)).n), cs9, .bool ((((t.at_ 4).l.getD k T.nil)).z), .slice p9 ((((t.at_ 4).l.getD k T.nil)).l.length) cap9, cu9]) rfl hR9
        refine c_region ?_
        refine o_indexAddr (j := k) (b := bl) (off := off) hk te_36 ts_39 (by rw [← hpl]; rfl) rfl hlt rfl fun a hk => ?_
        refine o_loadN (cs := [.int .i64 ((((t.at_ 4).l.getD k T.nil)).n), cs9, .bool ((((t.at_ 4).l.getD k T.nil)).z), .slice p9 ((((t.at_ 4).l.getD k T.nil)).l.length) cap9, cu9]) hk ts_39 rfl (hC9.at_) rfl fun a hk => ?_
        refine o_alloc hk hm tz_39 rfl rfl fun a b3 w hk hm => ?_
        refine o_store (i := 0) hk hm ts_39 rfl rfl rfl rfl (rep_T_one hR9) rfl (Nat.le_of_ble_eq_true rfl) fun a w hk hm => ?_
        refine c_end ?_
        refine d_startM (K := 8) mixed hm fun w hm => ?_
        refine d_take (i := 1) rfl rfl rfl (by kernel_rfl) (fun _ _ _ h => h) hk rfl (fun w hm => r_move hk rfl) hm fun a hk => ?_
        refine d_take (i := 2) rfl rfl rfl (by kernel_rfl) (fun _ _ _ h => h) hk rfl (fun w hm => r_nilCheck hk rfl) hm fun a hk => ?_
        refine d_take (i := 3) rfl rfl rfl (by kernel_rfl) (fun _ _ _ h => h) hk rfl (fun w hm => r_fieldAddr hk fo_117_5 rfl) hm fun a hk => ?_
        refine d_take (i := 4) rfl rfl rfl (by kernel_rfl) (fun _ _ _ h => h) hk rfl (fun w hm => r_load1 hk ts_115 rfl (hm.cell_blk (i := 13) rfl rfl)) hm fun a hk => ?_
        refine d_take (i := 5) rfl rfl rfl (by kernel_rfl) (fun _ _ _ h => h) hk rfl (fun w hm => r_loadN (cs := [.int .i64 ((((t.at_ 4).l.getD k T.nil)).n), cs9, .bool ((((t.at_ 4).l.getD k T.nil)).z), .slice p9 ((((t.at_ 4).l.getD k T.nil)).l.length) cap9, cu9]) hk ts_39 rfl (hm.cells_blk (i := 0) rfl rfl)) hm fun a hk => ?_
        refine d_takeF (i := 0) rfl rfl rfl (by kernel_rfl) (fun _ _ _ h => h) hk rfl (fun w => r_move hk rfl) (fun _ => hm) fun a hk => ?_
        refine d_one (k := 6) (by kernel_rfl) rfl rfl ?_
        refine o_call hk cb_176 (make_AlterPartitionAssignmentsResponseTopic (t := ((t.at_ 4).l.getD k T.nil)) (hm.rep (i := 1) rfl) (small_getD (small_at hsm 4) k)) ⟨rfl, trivial⟩ rfl fun v w a hR hk => ?_
        obtain ⟨hp, c10, rfl, hl10, ho10, hR⟩ := hR
        have hm := hm.result hp hR
        refine c_endQ (c_then ⟨fun _ => hm.tail, ?_⟩)
        refine d_one (k := 7) (by kernel_rfl) rfl rfl ?_
        refine o_build1 (c := c10) hk hm rt_115 rfl rfl hl10 rfl rfl rfl fun a b4 w hk hm => ?_
        refine c_endQ (c_then ⟨fun _ => hm.tail.tail, ?_⟩)
        refine d_one (k := 8) (by kernel_rfl) rfl rfl ?_
        refine o_append (i := 6) hk hm rt_115 rfl rfl rfl (src_cells (k := 1) (news := c10) te_115 (by rw [hl10]) (hm.cells_blk (i := 0) rfl (by simp)) ho10) (by unfold maxLen; omega) (by omega) rfl fun a v5 w hk hm hnilv5 => ?_
        refine c_endQ (c_then ⟨fun h => Bool.noConfusion (show true = false from h), ?_⟩)
        refine d_one (k := 9) (by kernel_rfl) rfl rfl ?_
        refine o_nilCheck hk rfl rfl fun a hk => ?_
        refine c_endQ (c_then ⟨fun h => Bool.noConfusion (show true = false from h), ?_⟩)
        refine d_one (k := 10) (by kernel_rfl) rfl rfl ?_
        refine o_fieldAddr hk fo_117_5 rfl rfl fun a hk => ?_
        refine c_endQ (c_then ⟨fun h => Bool.noConfusion (show true = false from h), ?_⟩)
        refine d_one (k := 11) (by kernel_rfl) rfl rfl ?_
        refine o_store (i := 15) hk hm ts_115 rfl rfl (cells1 (row_one (hm.row (i := 6) rfl))) rfl (one1 (row_one (hm.row (i := 6) rfl))) rfl (Nat.le_of_ble_eq_true rfl) fun a w hk hm => ?_
        refine c_endQ (c_then ⟨fun h => Bool.noConfusion (show true = false from h), ?_⟩)
        refine d_done (by kernel_rfl) ?_ _
        refine c_inNormal ?_
        have hm := hm.elsPush (i := 4) (d := (ddS sch_sAlterPartitionAssignmentsResponseTopic true ((t.at_ 4).l.getD k T.nil))) rfl (hm.rep (i := 1) rfl) (by rw [hl10])
        rw [← take_succ_map (ddS sch_sAlterPartitionAssignmentsResponseTopic true) ((t.at_ 4)).l k T.nil hlt] at hm
        have hm := hm.tail
        have hm := hm.tail
        have hm := hm.tail
        have hm := hm.tail
        refine c_round (L' := [(0, .pointer (some ⟨g, 0, none⟩)), (3, .pointer (some ⟨b1, 0, none⟩)), (50, .slice p8 (((t.at_ 4)).l.length) cap8)]) hk ⟨rfl, rfl, rfl, rfl, rfl, trivial⟩ rfl ⟨_, _, rfl, fun e => hnn (hnilv5.1 e).1, hm⟩
      · obtain ⟨vl6, xsvl6, rfl, hnnvl6, hm⟩ := hR
        have hovl6 := row_one (hm.row (i := 2) rfl)
        have hm := hm.freezeRow (i := 2) (st := true) rfl (fun k hk => hm.rowNe (i := 2) (j := 11) rfl rfl (by decide) hk) (hm.els (i := 0) rfl) (by rw [List.length_map, List.length_take]; omega) (fun h => absurd h hnnvl6)
        rw [List.take_length] at hm
        refine c_then ⟨vl6, hovl6, hk.sub ⟨rfl, rfl, trivial⟩, ?_⟩
        rw [hz]; exact hm.pick [2, 5, 6, 7, 8, 9, 10, 11, 12] rfl rfl
    · have hz : (t.at_ 4).z = true := by simpa using hc
      refine wp_skip ?_
      have hm := hm.addV (.slice none 0 0)
      refine c_then ⟨.slice none 0 0, rfl, hk.sub ⟨rfl, rfl, trivial⟩, ?_⟩
      rw [hz]; exact hm.pick [0, 2, 3, 4, 5, 6, 7, 8, 9] rfl rfl
  obtain ⟨vj4, ho4, hk, hm⟩ := hJ
  refine c_region ?_
  refine o_fieldAddr hk fo_39_4 rfl rfl fun a hk => ?_
  refine o_load hk ts_37 rfl (hm.cell_blk (i := 6) rfl rfl) rfl fun a hk => ?_
  refine o_lenSlice hk te_37 rfl rfl fun a hk => ?_
  refine o_move hk rfl rfl fun a hk => ?_
  refine c_end ?_
  have hm := hm.addMap0
  have hm := hm.addEls 1
  have hrs := small_rising hsm
  have hN := (small_spec (hsm)).2.2.1
  refine c_range (L0 := [(0, .pointer (some ⟨g, 0, none⟩)), (69, .slice pu t.u.length capu)]) (N := t.u.length) (by omega) (fun k L w => ∃ pm vs, L = [(0, .pointer (some ⟨g, 0, none⟩)), (69, .slice pu t.u.length capu)] ∧ Mem w0 (fun k => k = g) Y [.els 1 ((t.u.take k).map ddTagV) vs, .mapb pm ((t.u.take k).map Prod.fst) vs, .rep (if (t.at_ 4).z then .v (.slice none 0 0) else .sl true 3 ((t.at_ 4).l.map (ddS sch_sAlterPartitionAssignmentsResponseTopic true))) [vj4], .rep (ddVal 8 0 (fun _ => .agg []) (t.at_ 3)) [v5], .rep (ddT (t.at_ 3)) [.int .i64 (((t.at_ 3)).n), cs4, .bool (((t.at_ 3)).z), .slice p4 (((t.at_ 3)).l.length) cap4, cu4], .rep (ddT (t.at_ 2)) [.int .i64 (((t.at_ 2)).n), cs3, .bool (((t.at_ 2)).z), .slice p3 (((t.at_ 2)).l.length) cap3, cu3], .rep (ddT (t.at_ 1)) [.int .i64 (((t.at_ 1)).n), cs2, .bool (((t.at_ 1)).z), .slice p2 (((t.at_ 1)).l.length) cap2, cu2], .rep (ddT (t.at_ 0)) [.int .i64 (((t.at_ 0)).n), cs1, .bool (((t.at_ 0)).z), .slice p1 (((t.at_ 0)).l.length) cap1, cu1], .blk b1 [.int .i64 t.n, cs, .bool t.z, .slice p t.l.length cap, .slice pu t.u.length capu] 39, .blk g [.int .i16 V, .int .i32 (IntKind.i32.wrap (((t.at_ 0)).n)), .bool (((((t.at_ 1)).n) % 2 : Int) == 1), .int .i16 (IntKind.i16.wrap (((t.at_ 2)).n)), v5, vj4, .map pm] 117, .rep (ddT t) [.int .i64 t.n, cs, .bool t.z, .slice p t.l.length cap, .slice pu t.u.length capu]] w) (hk.sub ⟨rfl, rfl, rfl, rfl, trivial⟩) ⟨none, [], rfl, hm⟩ rfl rfl rfl rfl rfl rfl rfl (fun k L a w hlt hR hk => ?_) rfl (fun L a w hR hk => ?_)
  · obtain ⟨pm, vs, rfl, hm⟩ := hR
    obtain ⟨hlt2, blt, offt, et, hpt, hlet, hRt, hCt⟩ := rep_sl_get (rep_T_u (hm.rep (i := 10) rfl)) (getD_map ddTag t.u k (0, []) hlt)
    obtain ⟨ptt, captt, rfl, hRt2⟩ := rep_Tag hRt
    have hm := hm.add (e := .rep (ddTag (t.u.getD k (0, []))) [.int .u32 (((t.u.getD k (0, [])).1 : Nat) : Int), .slice ptt ((t.u.getD k (0, [])).2.length) captt]) rfl hRt
    refine c_region ?_
    refine o_indexAddr (j := k) (b := blt) (off := offt) hk te_37 ts_62 (by rw [← hpt]; rfl) rfl hlt2 rfl fun a hk => ?_
    refine o_loadN (cs := [.int .u32 (((t.u.getD k (0, [])).1 : Nat) : Int), .slice ptt ((t.u.getD k (0, [])).2.length) captt]) hk ts_62 rfl (hCt.at_) rfl fun a hk => ?_
    refine o_alloc hk hm tz_62 rfl rfl fun a b7 w hk hm => ?_
    refine o_store (i := 0) hk hm ts_62 rfl rfl rfl rfl rfl rfl (Nat.le_of_ble_eq_true rfl) fun a w hk hm => ?_
    refine c_end ?_
    refine d_startM (K := 7) mixed hm fun w hm => ?_
    refine d_take (i := 0) rfl rfl rfl (by kernel_rfl) (fun _ _ _ h => h) hk rfl (fun w hm => r_move hk rfl) hm fun a hk => ?_
    refine d_take (i := 1) rfl rfl rfl (by kernel_rfl) (fun _ _ _ h => h) hk rfl (fun w hm => r_nilCheck hk rfl) hm fun a hk => ?_
    refine d_take (i := 2) rfl rfl rfl (by kernel_rfl) (fun _ _ _ h => h) hk rfl (fun w hm => r_fieldAddr hk fo_117_6 rfl) hm fun a hk => ?_
    refine d_take (i := 3) rfl rfl rfl (by kernel_rfl) (fun _ _ _ h => h) hk rfl (fun w hm => r_fieldAddr hk fo_62_0 rfl) hm fun a hk => ?_
    refine d_take (i := 4) rfl rfl rfl (by kernel_rfl) (fun _ _ _ h => h) hk rfl (fun w hm => r_load1 hk ts_59 rfl (hm.cell_blk (i := 0) rfl rfl)) hm fun a hk => ?_
    refine d_one (k := 5) (by kernel_rfl) rfl rfl ?_
    refine o_fieldAddr hk fo_62_1 rfl rfl fun a hk => ?_
    refine c_endQ (c_then ⟨fun _ => hm, ?_⟩)
    refine d_one (k := 6) (by kernel_rfl) rfl rfl ?_
    refine o_load hk ts_22 rfl (hm.cell_blk (i := 0) rfl rfl) rfl fun a hk => ?_
    refine c_endQ (c_then ⟨fun _ => hm, ?_⟩)
    refine d_one (k := 7) (by kernel_rfl) rfl rfl ?_
    refine o_call hk cb_134 (tagsSet_c (key := (t.u.getD k (0, [])).1) (hm.blkAt (i := 11) rfl) rfl (hm.mapOr (i := 3) rfl)) ⟨rfl, rfl, rfl, trivial⟩ rfl fun v w a hR hk => ?_
    obtain ⟨hp, rr, hb1, hM1, hr1⟩ := hR
    have hm := hm.setTags (i := 11) (j := 3) rfl rfl hp hb1 hM1 hr1
    rw [setV_rising hrs hlt] at hm
    have hm := hm.elsPush (i := 2) (d := ddTagV (t.u.getD k (0, []))) rfl (rep_Tag2 (hm.rep (i := 1) rfl)) rfl
    rw [← take_succ_map ddTagV t.u k (0, []) hlt] at hm
    refine c_endQ (c_then ⟨fun h => Bool.noConfusion (show true = false from h), ?_⟩)
    refine d_done (by kernel_rfl) ?_ _
    refine c_inNormal ?_
    exact c_round (L' := [(0, .pointer (some ⟨g, 0, none⟩)), (69, .slice pu t.u.length capu)]) hk ⟨rfl, rfl, rfl, rfl, trivial⟩ rfl ⟨_, _, rfl, hm.tail.tail⟩
  · obtain ⟨pm, vs, rfl, hm⟩ := hR
    rw [List.take_length] at hm
    have hm := hm.freezeMap (i := 1) rfl (hm.mapNe (i := 1) (j := 9) rfl rfl) (hm.els (i := 0) rfl)
    refine b_endNone rfl hk ?_
    have hz := hm.all _ (entAt_mem (i := 9) rfl)
    simp only [Ent.holds] at hz
    refine ⟨hm.agr, _, hz, ?_⟩
    refine hm.out ?_
    rw [dd_AlterPartitionAssignmentsResponse]
    refine rep_agg ?_
    exact RepL.cons1 (rep_v _) (RepL.cons1 (rep_v _) (RepL.cons1 (rep_v _) (RepL.cons1 (hm.rep (i := 3) rfl) (RepL.cons1 (hm.rep (i := 2) rfl) (RepL.cons1 (hm.rep (i := 1) rfl) (RepL.nil))))))
end Go.Proofs.Ytojbmnelohjhmaa
