/- Walks of functions that the laws of this seat reach. No statement of the seat stands here. -/
import Derived.Test.YtojbmnelohjhmaaL2
import Derived.Test.YtojbmnelohjhmaaRows
import Derived.Test.YtojbmnelohjhmaaFa
import Derived.Test.YtojbmnelohjhmaaSch
import Derived.Test.YtojbmnelohjhmaaOb
namespace Go.Proofs.Ytojbmnelohjhmaa
open Go Go.Mk
theorem dd_sReadShareGroupStateSummaryResponseTopicPartition (t : T) : ddS sch_sReadShareGroupStateSummaryResponseTopicPartition true t = .agg [.v (.int .i32 (IntKind.i32.wrap (t.at_ 0).n)), .v (.int .i16 (IntKind.i16.wrap (t.at_ 1).n)), ddVal 8 0 (fun _ => .agg []) (t.at_ 2), .v (.int .i32 (IntKind.i32.wrap (t.at_ 3).n)), .v (.int .i32 (IntKind.i32.wrap (t.at_ 4).n)), .v (.int .i64 (t.at_ 5).n), .v (.int .i32 (IntKind.i32.wrap (t.at_ 6).n)), ddTagMap t.u] := rfl
theorem make_ReadShareGroupStateSummaryResponseTopicPartition {w0 : World} {Y : Nat → Prop} {t : T} {c : List Value} (hT : Rep w0 Y (ddT t) c) (hsm : t.small = true) :
    Ret Try.prog 197 [.agg c.toArray] w0 fun v w' => Agr Nob w0 w' ∧ ∃ c', v = .agg c'.toArray ∧ c'.length = 8 ∧ oneCells c' = true ∧ Rep w' (fun b => b < w0.heap.size ∧ Y b) (ddS sch_sReadShareGroupStateSummaryResponseTopicPartition true t) c' := by
  have _hsm := hsm
  obtain ⟨cs, p, cap, pu, capu, rfl⟩ := rep_T6 hT
  refine c_call Try.func197 rfl rfl fun a hk => ?_
  have hk : Kn 54 [(0, .agg #[.int .i64 t.n, cs, .bool t.z, .slice p t.l.length cap, .slice pu t.u.length capu])] a := hk
  have hm : Mem w0 Nob Y [.rep (ddT t) [.int .i64 t.n, cs, .bool t.z, .slice p t.l.length cap, .slice pu t.u.length capu]] w0 := Mem.start rfl (by simp only [List.forall_mem_cons, List.not_mem_nil, false_imp_iff, implies_true, and_true]; exact hT)
  refine c_region ?_
  refine o_box hk hm rfl rfl rfl fun a b1 w hk hm => ?_
  refine o_alloc hk hm tz_185 rfl rfl fun a b2 w hk hm => ?_
  refine c_end ?_
  refine c_region ?_
  refine o_alloc hk hm tz_185 rfl rfl fun a b3 w hk hm => ?_
  refine c_end ?_
  refine c_region ?_
  refine o_loadN (cs := [.int .i64 t.n, cs, .bool t.z, .slice p t.l.length cap, .slice pu t.u.length capu]) hk ts_39 rfl (hm.cells_blk (i := 2) rfl rfl) rfl fun a hk => ?_
  refine o_call hk cb_133 (at_impl (t := t) 0 (hm.rep (i := 3) rfl)) ⟨rfl, rfl, trivial⟩ rfl fun v w a hR hk => ?_
  obtain ⟨hp, c1, rfl, hR⟩ := hR
  obtain ⟨cs1, p1, cap1, cu1, rfl⟩ := rep_T5 hR
  have hm := hm.result hp hR
  refine o_field hk ff_39_0 rfl rfl rfl fun a hk => ?_
  refine o_convInt (c := IntKind.i32.wrap (((t.at_ 0)).n)) hk un_2 ti_21 rfl rfl rfl fun a hk => ?_
  refine o_fieldAddr hk fo_185_0 rfl rfl fun a hk => ?_
  refine o_store (i := 1) hk hm ts_21 rfl rfl rfl rfl rfl rfl (Nat.le_of_ble_eq_true rfl) fun a w hk hm => ?_
  refine c_end ?_
  refine c_region ?_
  refine o_loadN (cs := [.int .i64 t.n, cs, .bool t.z, .slice p t.l.length cap, .slice pu t.u.length capu]) hk ts_39 rfl (hm.cells_blk (i := 3) rfl rfl) rfl fun a hk => ?_
  refine o_call hk cb_133 (at_impl (t := t) 1 (hm.rep (i := 4) rfl)) ⟨rfl, rfl, trivial⟩ rfl fun v w a hR hk => ?_
  obtain ⟨hp, c2, rfl, hR⟩ := hR
  obtain ⟨cs2, p2, cap2, cu2, rfl⟩ := rep_T5 hR
  have hm := hm.result hp hR
  refine o_field hk ff_39_0 rfl rfl rfl fun a hk => ?_
  refine o_convInt (c := IntKind.i16.wrap (((t.at_ 1)).n)) hk un_2 ti_45 rfl rfl rfl fun a hk => ?_
  refine o_fieldAddr hk fo_185_1 rfl rfl fun a hk => ?_
  refine o_store (i := 2) hk hm ts_45 rfl rfl rfl rfl rfl rfl (Nat.le_of_ble_eq_true rfl) fun a w hk hm => ?_
  refine c_end ?_
  refine c_region ?_
  refine o_loadN (cs := [.int .i64 t.n, cs, .bool t.z, .slice p t.l.length cap, .slice pu t.u.length capu]) hk ts_39 rfl (hm.cells_blk (i := 4) rfl rfl) rfl fun a hk => ?_
  refine o_call hk cb_133 (at_impl (t := t) 2 (hm.rep (i := 5) rfl)) ⟨rfl, rfl, trivial⟩ rfl fun v w a hR hk => ?_
  obtain ⟨hp, c3, rfl, hR⟩ := hR
  obtain ⟨cs3, p3, cap3, cu3, rfl⟩ := rep_T5 hR
  have hm := hm.result hp hR
  refine o_call hk cb_149 (textOf_c (t := (t.at_ 2)) (hm.rep (i := 0) rfl)) ⟨rfl, trivial⟩ rfl fun v4 w a hR hk => ?_
  obtain ⟨hp, hR, ho4⟩ := hR
  have hm := hm.result hp hR
  refine o_fieldAddr hk fo_185_2 rfl rfl fun a hk => ?_
  refine o_store (i := 4) hk hm ts_69 rfl rfl (cells1 (ho4)) rfl (one1 (ho4)) rfl (Nat.le_of_ble_eq_true rfl) fun a w hk hm => ?_
  refine c_end ?_
  refine c_region ?_
  refine o_loadN (cs := [.int .i64 t.n, cs, .bool t.z, .slice p t.l.length cap, .slice pu t.u.length capu]) hk ts_39 rfl (hm.cells_blk (i := 6) rfl rfl) rfl fun a hk => ?_
  refine o_call hk cb_133 (at_impl (t := t) 3 (hm.rep (i := 7) rfl)) ⟨rfl, rfl, trivial⟩ rfl fun v w a hR hk => ?_
  obtain ⟨hp, c5, rfl, hR⟩ := hR
  obtain ⟨cs5, p5, cap5, cu5, rfl⟩ := rep_T5 hR
  have hm := hm.result hp hR
  refine o_field hk ff_39_0 rfl rfl rfl fun a hk => ?_
  refine o_convInt (c := IntKind.i32.wrap (((t.at_ 3)).n)) hk un_2 ti_21 rfl rfl rfl fun a hk => ?_
  refine o_fieldAddr hk fo_185_3 rfl rfl fun a hk => ?_
  refine o_store (i := 5) hk hm ts_21 rfl rfl rfl rfl rfl rfl (Nat.le_of_ble_eq_true rfl) fun a w hk hm => ?_
  refine c_end ?_
  refine c_region ?_
  refine o_loadN (cs := [.int .i64 t.n, cs, .bool t.z, .slice p t.l.length cap, .slice pu t.u.length capu]) hk ts_39 rfl (hm.cells_blk (i := 7) rfl rfl) rfl fun a hk => ?_
  refine o_call hk cb_133 (at_impl (t := t) 4 (hm.rep (i := 8) rfl)) ⟨rfl, rfl, trivial⟩ rfl fun v w a hR hk => ?_
  obtain ⟨hp, c6, rfl, hR⟩ := hR
  obtain ⟨cs6, p6, cap6, cu6, rfl⟩ := rep_T5 hR
  have hm := hm.result hp hR
  refine o_field hk ff_39_0 rfl rfl rfl fun a hk => ?_
  refine o_convInt (c := IntKind.i32.wrap (((t.at_ 4)).n)) hk un_2 ti_21 rfl rfl rfl fun a hk => ?_
  refine o_fieldAddr hk fo_185_4 rfl rfl fun a hk => ?_
  refine o_store (i := 6) hk hm ts_21 rfl rfl rfl rfl rfl rfl (Nat.le_of_ble_eq_true rfl) fun a w hk hm => ?_
  refine c_end ?_
  refine c_region ?_
  refine o_loadN (cs := [.int .i64 t.n, cs, .bool t.z, .slice p t.l.length cap, .slice pu t.u.length capu]) hk ts_39 rfl (hm.cells_blk (i := 8) rfl rfl) rfl fun a hk => ?_
  refine o_call hk cb_133 (at_impl (t := t) 5 (hm.rep (i := 9) rfl)) ⟨rfl, rfl, trivial⟩ rfl fun v w a hR hk => ?_
  obtain ⟨hp, c7, rfl, hR⟩ := hR
  obtain ⟨cs7, p7, cap7, cu7, rfl⟩ := rep_T5 hR
  have hm := hm.result hp hR
  refine o_field hk ff_39_0 rfl rfl rfl fun a hk => ?_
  refine o_fieldAddr hk fo_185_5 rfl rfl fun a hk => ?_
  refine o_store (i := 7) hk hm ts_2 rfl rfl rfl rfl rfl rfl (Nat.le_of_ble_eq_true rfl) fun a w hk hm => ?_
  refine c_end ?_
  refine c_region ?_
  refine o_loadN (cs := [.int .i64 t.n, cs, .bool t.z, .slice p t.l.length cap, .slice pu t.u.length capu]) hk ts_39 rfl (hm.cells_blk (i := 9) rfl rfl) rfl fun a hk => ?_
  refine o_call hk cb_133 (at_impl (t := t) 6 (hm.rep (i := 10) rfl)) ⟨rfl, rfl, trivial⟩ rfl fun v w a hR hk => ?_
  obtain ⟨hp, c8, rfl, hR⟩ := hR
  obtain ⟨cs8, p8, cap8, cu8, rfl⟩ := rep_T5 hR
  have hm := hm.result hp hR
  refine o_field hk ff_39_0 rfl rfl rfl fun a hk => ?_
  refine o_convInt (c := IntKind.i32.wrap (((t.at_ 6)).n)) hk un_2 ti_21 rfl rfl rfl fun a hk => ?_
  refine o_fieldAddr hk fo_185_6 rfl rfl fun a hk => ?_
  refine o_store (i := 8) hk hm ts_21 rfl rfl rfl rfl rfl rfl (Nat.le_of_ble_eq_true rfl) fun a w hk hm => ?_
  refine c_end ?_
  refine wp_seq ?_
  refine c_region ?_
  refine o_fieldAddr hk fo_39_4 rfl rfl fun a hk => ?_
  refine o_load hk ts_37 rfl (hm.cell_blk (i := 10) rfl rfl) rfl fun a hk => ?_
  refine o_lenSlice hk te_37 rfl rfl fun a hk => ?_
  refine o_move hk rfl rfl fun a hk => ?_
  refine c_end ?_
  have hm := hm.addMap0
  have hm := hm.addEls 1
  have hrs := small_rising hsm
  have hN := (small_spec (hsm)).2.2.1
  refine c_range (L0 := [(2, .pointer (some ⟨b2, 0, none⟩)), (3, .pointer (some ⟨b3, 0, none⟩)), (40, .slice pu t.u.length capu)]) (N := t.u.length) (by omega) (fun k L w => ∃ pm vs, L = [(2, .pointer (some ⟨b2, 0, none⟩)), (3, .pointer (some ⟨b3, 0, none⟩)), (40, .slice pu t.u.length capu)] ∧ Mem w0 Nob Y [.els 1 ((t.u.take k).map ddTagV) vs, .mapb pm ((t.u.take k).map Prod.fst) vs, .rep (ddT (t.at_ 6)) [.int .i64 (((t.at_ 6)).n), cs8, .bool (((t.at_ 6)).z), .slice p8 (((t.at_ 6)).l.length) cap8, cu8], .rep (ddT (t.at_ 5)) [.int .i64 (((t.at_ 5)).n), cs7, .bool (((t.at_ 5)).z), .slice p7 (((t.at_ 5)).l.length) cap7, cu7], .rep (ddT (t.at_ 4)) [.int .i64 (((t.at_ 4)).n), cs6, .bool (((t.at_ 4)).z), .slice p6 (((t.at_ 4)).l.length) cap6, cu6], .rep (ddT (t.at_ 3)) [.int .i64 (((t.at_ 3)).n), cs5, .bool (((t.at_ 3)).z), .slice p5 (((t.at_ 3)).l.length) cap5, cu5], .rep (ddVal 8 0 (fun _ => .agg []) (t.at_ 2)) [v4], .rep (ddT (t.at_ 2)) [.int .i64 (((t.at_ 2)).n), cs3, .bool (((t.at_ 2)).z), .slice p3 (((t.at_ 2)).l.length) cap3, cu3], .rep (ddT (t.at_ 1)) [.int .i64 (((t.at_ 1)).n), cs2, .bool (((t.at_ 1)).z), .slice p2 (((t.at_ 1)).l.length) cap2, cu2], .rep (ddT (t.at_ 0)) [.int .i64 (((t.at_ 0)).n), cs1, .bool (((t.at_ 0)).z), .slice p1 (((t.at_ 0)).l.length) cap1, cu1], .blk b3 [.int .i32 (IntKind.i32.wrap (((t.at_ 0)).n)), .int .i16 (IntKind.i16.wrap (((t.at_ 1)).n)), v4, .int .i32 (IntKind.i32.wrap (((t.at_ 3)).n)), .int .i32 (IntKind.i32.wrap (((t.at_ 4)).n)), .int .i64 (((t.at_ 5)).n), .int .i32 (IntKind.i32.wrap (((t.at_ 6)).n)), .map pm] 185, .blk b2 [.int .i32 0, .int .i16 0, .pointer none, .int .i32 0, .int .i32 0, .int .i64 0, .int .i32 0, .map none] 185, .blk b1 [.int .i64 t.n, cs, .bool t.z, .slice p t.l.length cap, .slice pu t.u.length capu] 39, .rep (ddT t) [.int .i64 t.n, cs, .bool t.z, .slice p t.l.length cap, .slice pu t.u.length capu]] w) (hk.sub ⟨rfl, rfl, rfl, rfl, rfl, trivial⟩) ⟨none, [], rfl, hm⟩ rfl rfl rfl rfl rfl rfl rfl (fun k L a w hlt hR hk => ?_) rfl (fun L a w hR hk => ?_)
  · obtain ⟨pm, vs, rfl, hm⟩ := hR
    obtain ⟨hlt2, blt, offt, et, hpt, hlet, hRt, hCt⟩ := rep_sl_get (rep_T_u (hm.rep (i := 13) rfl)) (getD_map ddTag t.u k (0, []) hlt)
    obtain ⟨ptt, captt, rfl, hRt2⟩ := rep_Tag hRt
    have hm := hm.add (e := .rep (ddTag (t.u.getD k (0, []))) [.int .u32 (((t.u.getD k (0, [])).1 : Nat) : Int), .slice ptt ((t.u.getD k (0, [])).2.length) captt]) rfl hRt
    refine c_region ?_
    refine o_indexAddr (j := k) (b := blt) (off := offt) hk te_37 ts_62 (by rw [← hpt]; rfl) rfl hlt2 rfl fun a hk => ?_
    refine o_loadN (cs := [.int .u32 (((t.u.getD k (0, [])).1 : Nat) : Int), .slice ptt ((t.u.getD k (0, [])).2.length) captt]) hk ts_62 rfl (hCt.at_) rfl fun a hk => ?_
    refine o_alloc hk hm tz_62 rfl rfl fun a b4 w hk hm => ?_
    refine o_store (i := 0) hk hm ts_62 rfl rfl rfl rfl rfl rfl (Nat.le_of_ble_eq_true rfl) fun a w hk hm => ?_
    refine c_end ?_
    refine c_reg ?_
    refine o_fieldAddr hk fo_185_7 rfl rfl fun a hk => ?_
    refine o_fieldAddr hk fo_62_0 rfl rfl fun a hk => ?_
    refine o_load hk ts_59 rfl (hm.cell_blk (i := 0) rfl rfl) rfl fun a hk => ?_
    refine o_fieldAddr hk fo_62_1 rfl rfl fun a hk => ?_
    refine o_load hk ts_22 rfl (hm.cell_blk (i := 0) rfl rfl) rfl fun a hk => ?_
    refine o_call hk cb_134 (tagsSet_c (key := (t.u.getD k (0, [])).1) (hm.blkAt (i := 12) rfl) rfl (hm.mapOr (i := 3) rfl)) ⟨rfl, rfl, rfl, trivial⟩ rfl fun v w a hR hk => ?_
    obtain ⟨hp, rr, hb1, hM1, hr1⟩ := hR
    have hm := hm.setTags (i := 12) (j := 3) rfl rfl hp hb1 hM1 hr1
    rw [setV_rising hrs hlt] at hm
    have hm := hm.elsPush (i := 2) (d := ddTagV (t.u.getD k (0, []))) rfl (rep_Tag2 (hm.rep (i := 1) rfl)) rfl
    rw [← take_succ_map ddTagV t.u k (0, []) hlt] at hm
    refine c_endQ ?_
    refine c_inNormal ?_
    exact c_round (L' := [(2, .pointer (some ⟨b2, 0, none⟩)), (3, .pointer (some ⟨b3, 0, none⟩)), (40, .slice pu t.u.length capu)]) hk ⟨rfl, rfl, rfl, rfl, rfl, trivial⟩ rfl ⟨_, _, rfl, hm.tail.tail⟩
  · obtain ⟨pm, vs, rfl, hm⟩ := hR
    rw [List.take_length] at hm
    have hm := hm.freezeMap (i := 1) rfl (fun _ _ h => h) (hm.els (i := 0) rfl)
    refine c_then ?_
    refine c_region ?_
    refine o_loadN (cs := [.int .i32 (IntKind.i32.wrap (((t.at_ 0)).n)), .int .i16 (IntKind.i16.wrap (((t.at_ 1)).n)), v4, .int .i32 (IntKind.i32.wrap (((t.at_ 3)).n)), .int .i32 (IntKind.i32.wrap (((t.at_ 4)).n)), .int .i64 (((t.at_ 5)).n), .int .i32 (IntKind.i32.wrap (((t.at_ 6)).n)), .map pm]) hk ts_185 rfl (hm.cells_blk (i := 10) rfl rfl) rfl fun a hk => ?_
    refine o_store (i := 11) hk hm ts_185 rfl rfl rfl rfl (one_cons rfl (one_cons rfl (one_cons ho4 (one_cons rfl (one_cons rfl (one_cons rfl (one_cons rfl (one_cons rfl rfl)))))))) rfl (Nat.le_of_ble_eq_true rfl) fun a w hk hm => ?_
    refine c_end ?_
    refine wp_ret ?_
    refine b_retCell (i := 11) (cs := [.int .i32 (IntKind.i32.wrap (((t.at_ 0)).n)), .int .i16 (IntKind.i16.wrap (((t.at_ 1)).n)), v4, .int .i32 (IntKind.i32.wrap (((t.at_ 3)).n)), .int .i32 (IntKind.i32.wrap (((t.at_ 4)).n)), .int .i64 (((t.at_ 5)).n), .int .i32 (IntKind.i32.wrap (((t.at_ 6)).n)), .map pm]) rfl ts_185 hk hm rfl rfl ?_
    refine ⟨hm.agr, _, rfl, rfl, (one_cons rfl (one_cons rfl (one_cons ho4 (one_cons rfl (one_cons rfl (one_cons rfl (one_cons rfl (one_cons rfl rfl)))))))), ?_⟩
    refine hm.out ?_
    rw [dd_sReadShareGroupStateSummaryResponseTopicPartition]
    refine rep_agg ?_
    exact RepL.cons1 (rep_v _) (RepL.cons1 (rep_v _) (RepL.cons1 (hm.rep (i := 6) rfl) (RepL.cons1 (rep_v _) (RepL.cons1 (rep_v _) (RepL.cons1 (rep_v _) (RepL.cons1 (rep_v _) (RepL.cons1 (hm.rep (i := 1) rfl) (RepL.nil))))))))
theorem dd_sReadShareGroupStateSummaryResponseTopic (t : T) : ddS sch_sReadShareGroupStateSummaryResponseTopic true t = .agg [.agg ((sixteen (t.at_ 0).s).map ddB), if (t.at_ 1).z then .v (.slice none 0 0) else .sl true 8 ((t.at_ 1).l.map (ddS sch_sReadShareGroupStateSummaryResponseTopicPartition true)), ddTagMap t.u] := rfl
theorem make_ReadShareGroupStateSummaryResponseTopic {w0 : World} {Y : Nat → Prop} {t : T} {c : List Value} (hT : Rep w0 Y (ddT t) c) (hsm : t.small = true) :
    Ret Try.prog 173 [.agg c.toArray] w0 fun v w' => Agr Nob w0 w' ∧ ∃ c', v = .agg c'.toArray ∧ c'.length = 18 ∧ oneCells c' = true ∧ Rep w' (fun b => b < w0.heap.size ∧ Y b) (ddS sch_sReadShareGroupStateSummaryResponseTopic true t) c' := by
  have _hsm := hsm
  obtain ⟨cs, p, cap, pu, capu, rfl⟩ := rep_T6 hT
  refine c_call Try.func173 rfl rfl fun a hk => ?_
  have hk : Kn 54 [(0, .agg #[.int .i64 t.n, cs, .bool t.z, .slice p t.l.length cap, .slice pu t.u.length capu])] a := hk
  have hm : Mem w0 Nob Y [.rep (ddT t) [.int .i64 t.n, cs, .bool t.z, .slice p t.l.length cap, .slice pu t.u.length capu]] w0 := Mem.start rfl (by simp only [List.forall_mem_cons, List.not_mem_nil, false_imp_iff, implies_true, and_true]; exact hT)
  refine c_region ?_
  refine o_box hk hm rfl rfl rfl fun a b1 w hk hm => ?_
  refine o_alloc hk hm tz_180 rfl rfl fun a b2 w hk hm => ?_
  refine c_end ?_
  refine c_region ?_
  refine o_alloc hk hm tz_180 rfl rfl fun a b3 w hk hm => ?_
  refine c_end ?_
  refine c_region ?_
  refine o_loadN (cs := [.int .i64 t.n, cs, .bool t.z, .slice p t.l.length cap, .slice pu t.u.length capu]) hk ts_39 rfl (hm.cells_blk (i := 2) rfl rfl) rfl fun a hk => ?_
  refine o_call hk cb_133 (at_impl (t := t) 0 (hm.rep (i := 3) rfl)) ⟨rfl, rfl, trivial⟩ rfl fun v w a hR hk => ?_
  obtain ⟨hp, c1, rfl, hR⟩ := hR
  obtain ⟨cs1, p1, cap1, cu1, rfl⟩ := rep_T5 hR
  have hm := hm.result hp hR
  refine o_field hk ff_39_1 rfl rfl rfl fun a hk => ?_
  refine o_call hk cb_194 (sixteen_c (rep_T_s (hm.rep (i := 0) rfl))) ⟨rfl, trivial⟩ rfl fun v w a hR hk => ?_
  obtain ⟨hp, rfl⟩ := hR
  have hm := hm.pure hp
  refine o_fieldAddr hk fo_180_0 rfl rfl fun a hk => ?_
  refine o_store (i := 1) hk hm ts_155 rfl rfl rfl rfl rfl rfl (Nat.le_of_ble_eq_true rfl) fun a w hk hm => ?_
  refine c_end ?_
  refine c_cut (fun a w => ∃ v, v.oneCell' = true ∧ Kn 54 [(1, .pointer (some ⟨b1, 0, none⟩)), (2, .pointer (some ⟨b2, 0, none⟩)), (3, .pointer (some ⟨b3, 0, none⟩))] a ∧ Mem w0 Nob Y [.rep (if (t.at_ 1).z then .v (.slice none 0 0) else .sl true 8 ((t.at_ 1).l.map (ddS sch_sReadShareGroupStateSummaryResponseTopicPartition true))) [v], .rep (ddT (t.at_ 0)) [.int .i64 (((t.at_ 0)).n), cs1, .bool (((t.at_ 0)).z), .slice p1 (((t.at_ 0)).l.length) cap1, cu1], .blk b3 [.int .u8 (((sixteen ((t.at_ 0)).s).getD 0 0).toNat : Int), .int .u8 (((sixteen ((t.at_ 0)).s).getD 1 0).toNat : Int), .int .u8 (((sixteen ((t.at_ 0)).s).getD 2 0).toNat : Int), .int .u8 (((sixteen ((t.at_ 0)).s).getD 3 0).toNat : Int), .int .u8 (((sixteen ((t.at_ 0)).s).getD 4 0).toNat : Int), .int .u8 (((sixteen ((t.at_ 0)).s).getD 5 0).toNat : Int), .int .u8 (((sixteen ((t.at_ 0)).s).getD 6 0).toNat : Int), .int .u8 (((sixteen ((t.at_ 0)).s).getD 7 0).toNat : Int), .int .u8 (((sixteen ((t.at_ 0)).s).getD 8 0).toNat : Int), .int .u8 (((sixteen ((t.at_ 0)).s).getD 9 0).toNat : Int), .int .u8 (((sixteen ((t.at_ 0)).s).getD 10 0).toNat : Int), .int .u8 (((sixteen ((t.at_ 0)).s).getD 11 0).toNat : Int), .int .u8 (((sixteen ((t.at_ 0)).s).getD 12 0).toNat : Int), .int .u8 (((sixteen ((t.at_ 0)).s).getD 13 0).toNat : Int), .int .u8 (((sixteen ((t.at_ 0)).s).getD 14 0).toNat : Int), .int .u8 (((sixteen ((t.at_ 0)).s).getD 15 0).toNat : Int), v, .map none] 180, .blk b2 [.int .u8 0, .int .u8 0, .int .u8 0, .int .u8 0, .int .u8 0, .int .u8 0, .int .u8 0, .int .u8 0, .int .u8 0, .int .u8 0, .int .u8 0, .int .u8 0, .int .u8 0, .int .u8 0, .int .u8 0, .int .u8 0, .slice none 0 0, .map none] 180, .blk b1 [.int .i64 t.n, cs, .bool t.z, .slice p t.l.length cap, .slice pu t.u.length capu] 39, .rep (ddT t) [.int .i64 t.n, cs, .bool t.z, .slice p t.l.length cap, .slice pu t.u.length capu]] w) ?_ (fun a w hJ => ?_)
  · refine c_region ?_
    refine o_loadN (cs := [.int .i64 t.n, cs, .bool t.z, .slice p t.l.length cap, .slice pu t.u.length capu]) hk ts_39 rfl (hm.cells_blk (i := 3) rfl rfl) rfl fun a hk => ?_
    refine o_call hk cb_133 (at_impl (t := t) 1 (hm.rep (i := 4) rfl)) ⟨rfl, rfl, trivial⟩ rfl fun v w a hR hk => ?_
    obtain ⟨hp, c3, rfl, hR⟩ := hR
    obtain ⟨cs3, p3, cap3, cu3, rfl⟩ := rep_T5 hR
    have hm := hm.result hp hR
    refine o_field hk ff_39_2 rfl rfl rfl fun a hk => ?_
    refine o_not hk rfl rfl fun a hk => ?_
    refine c_end ?_
    refine c_cond hk rfl (fun hc => ?_) (fun hc => ?_)
    · have hz : (t.at_ 1).z = false := by simpa using hc
      refine c_region ?_
      refine o_loadN (cs := [.int .i64 t.n, cs, .bool t.z, .slice p t.l.length cap, .slice pu t.u.length capu]) hk ts_39 rfl (hm.cells_blk (i := 4) rfl rfl) rfl fun a hk => ?_
      refine o_call hk cb_133 (at_impl (t := t) 1 (hm.rep (i := 5) rfl)) ⟨rfl, rfl, trivial⟩ rfl fun v w a hR hk => ?_
      obtain ⟨hp, c4, rfl, hR⟩ := hR
      obtain ⟨cs4, p4, cap4, cu4, rfl⟩ := rep_T5 hR
      have hm := hm.result hp hR
      refine o_field hk ff_39_3 rfl rfl rfl fun a hk => ?_
      refine o_lenSlice hk te_36 rfl rfl fun a hk => ?_
      have hsb4 := (small_spec (small_at hsm 1)).2.1
      refine o_make0 (cap := ((t.at_ 1)).l.length) hk hm rt_178 tz_185 rfl (by unfold maxLen; omega) (by omega) rfl fun a b4 w hbb4 hk hm => ?_
      refine o_fieldAddr hk fo_180_1 rfl rfl fun a hk => ?_
      refine o_store (i := 4) hk hm ts_178 rfl rfl rfl rfl rfl rfl (Nat.le_of_ble_eq_true rfl) fun a w hk hm => ?_
      refine c_end ?_
      refine c_region ?_
      refine o_loadN (cs := [.int .i64 t.n, cs, .bool t.z, .slice p t.l.length cap, .slice pu t.u.length capu]) hk ts_39 rfl (hm.cells_blk (i := 6) rfl rfl) rfl fun a hk => ?_
      refine o_call hk cb_133 (at_impl (t := t) 1 (hm.rep (i := 7) rfl)) ⟨rfl, rfl, trivial⟩ rfl fun v w a hR hk => ?_
      obtain ⟨hp, c5, rfl, hR⟩ := hR
      obtain ⟨cs5, p5, cap5, cu5, rfl⟩ := rep_T5 hR
      have hm := hm.result hp hR
      refine o_field hk ff_39_3 rfl rfl rfl fun a hk => ?_
      refine o_lenSlice hk te_36 rfl rfl fun a hk => ?_
      refine o_move hk rfl rfl fun a hk => ?_
      refine c_end ?_
      have hm := hm.addEls 8
      have hN := (small_spec (small_at hsm 1)).2.1
      refine c_range (L0 := [(1, .pointer (some ⟨b1, 0, none⟩)), (2, .pointer (some ⟨b2, 0, none⟩)), (3, .pointer (some ⟨b3, 0, none⟩)), (25, .slice p5 (((t.at_ 1)).l.length) cap5)]) (N := ((t.at_ 1)).l.length) (by omega) (fun k L w => ∃ vr xs, L = [(1, .pointer (some ⟨b1, 0, none⟩)), (2, .pointer (some ⟨b2, 0, none⟩)), (3, .pointer (some ⟨b3, 0, none⟩)), (25, .slice p5 (((t.at_ 1)).l.length) cap5)] ∧ vr ≠ .slice none 0 0 ∧ Mem w0 Nob Y [.els 8 ((((t.at_ 1)).l.take k).map (ddS sch_sReadShareGroupStateSummaryResponseTopicPartition true)) xs, .rep (ddT (t.at_ 1)) [.int .i64 (((t.at_ 1)).n), cs5, .bool (((t.at_ 1)).z), .slice p5 (((t.at_ 1)).l.length) cap5, cu5], .row 185 8 vr k xs, .rep (ddT (t.at_ 1)) [.int .i64 (((t.at_ 1)).n), cs4, .bool (((t.at_ 1)).z), .slice p4 (((t.at_ 1)).l.length) cap4, cu4], .rep (ddT (t.at_ 1)) [.int .i64 (((t.at_ 1)).n), cs3, .bool (((t.at_ 1)).z), .slice p3 (((t.at_ 1)).l.length) cap3, cu3], .rep (ddT (t.at_ 0)) [.int .i64 (((t.at_ 0)).n), cs1, .bool (((t.at_ 0)).z), .slice p1 (((t.at_ 0)).l.length) cap1, cu1], .blk b3 [.int .u8 (((sixteen ((t.at_ 0)).s).getD 0 0).toNat : Int), .int .u8 (((sixteen ((t.at_ 0)).s).getD 1 0).toNat : Int), .int .u8 (((sixteen ((t.at_ 0)).s).getD 2 0).toNat : Int), .int .u8 (((sixteen ((t.at_ 0)).s).getD 3 0).toNat : Int), .int .u8 (((sixteen ((t.at_ 0)).s).getD 4 0).toNat : Int), .int .u8 (((sixteen ((t.at_ 0)).s).getD 5 0).toNat : Int), .int .u8 (((sixteen ((t.at_ 0)).s).getD 6 0).toNat : Int), .int .u8 (((sixteen ((t.at_ 0)).s).getD 7 0).toNat : Int), .int .u8 (((sixteen ((t.at_ 0)).s).getD 8 0).toNat : Int), .int .u8 (((sixteen ((t.at_ 0)).s).getD 9 0).toNat : Int), .int .u8 (((sixteen ((t.at_ 0)).s).getD 10 0).toNat : Int), .int .u8 (((sixteen ((t.at_ 0)).s).getD 11 0).toNat : Int), .int .u8 (((sixteen ((t.at_ 0)).s).getD 12 0).toNat : Int), .int .u8 (((sixteen ((t.at_ 0)).s).getD 13 0).toNat : Int), .int .u8 (((sixteen ((t.at_ 0)).s).getD 14 0).toNat : Int), .int .u8 (((sixteen ((t.at_ 0)).s).getD 15 0).toNat : Int), vr, .map none] 180, .blk b2 [.int .u8 0, .int .u8 0, .int .u8 0, .int .u8 0, .int .u8 0, .int .u8 0, .int .u8 0, .int .u8 0, .int .u8 0, .int .u8 0, .int .u8 0, .int .u8 0, .int .u8 0, .int .u8 0, .int .u8 0, .int .u8 0, .slice none 0 0, .map none] 180, .blk b1 [.int .i64 t.n, cs, .bool t.z, .slice p t.l.length cap, .slice pu t.u.length capu] 39, .rep (ddT t) [.int .i64 t.n, cs, .bool t.z, .slice p t.l.length cap, .slice pu t.u.length capu]] w) (hk.sub ⟨rfl, rfl, rfl, rfl, rfl, rfl, trivial⟩) ⟨_, _, rfl, by simp, hm⟩ rfl rfl rfl rfl rfl rfl rfl (fun k L a w hlt hR hk => ?_) rfl (fun L a w hR hk => ?_)
      · obtain ⟨vr, xs, rfl, hnn, hm⟩ := hR
        obtain ⟨_, bl, off, c6, hpl, hl6, hR6, hC6⟩ := rep_sl_get (rep_T_l (hm.rep (i := 1) rfl)) (getD_map ddT ((t.at_ 1)).l k T.nil hlt)
        obtain ⟨cs6, p6, cap6, cu6, rfl⟩ := rep_T5 hR6
        have hm := hm.add (e := .rep (ddT ((t.at_ 1).l.getD k T.nil)) [.int .i64 ((((t.at_ 1).l.getD k T.nil)).n), cs6, .bool ((((t.at_ 1).l.getD k T.nil)).z), .slice p6 ((((t.at_ 1).l.getD k T.nil)).l.length) cap6, cu6]) rfl hR6
        refine c_region ?_
        refine o_indexAddr (j := k) (b := bl) (off := off) hk te_36 ts_39 (by rw [← hpl]; rfl) rfl hlt rfl fun a hk => ?_
        refine o_loadN (cs := [.int .i64 ((((t.at_ 1).l.getD k T.nil)).n), cs6, .bool ((((t.at_ 1).l.getD k T.nil)).z), .slice p6 ((((t.at_ 1).l.getD k T.nil)).l.length) cap6, cu6]) hk ts_39 rfl (hC6.at_) rfl fun a hk => ?_
        refine o_alloc hk hm tz_39 rfl rfl fun a b5 w hk hm => ?_
        refine o_store (i := 0) hk hm ts_39 rfl rfl rfl rfl (rep_T_one hR6) rfl (Nat.le_of_ble_eq_true rfl) fun a w hk hm => ?_
        refine c_end ?_
        refine d_startM (K := 5) mixed hm fun w hm => ?_
        refine d_take (i := 0) rfl rfl rfl (by kernel_rfl) (fun _ _ _ h => h) hk rfl (fun w hm => r_fieldAddr hk fo_180_1 rfl) hm fun a hk => ?_
        refine d_take (i := 1) rfl rfl rfl (by kernel_rfl) (fun _ _ _ h => h) hk rfl (fun w hm => r_load1 hk ts_178 rfl (hm.cell_blk (i := 8) rfl rfl)) hm fun a hk => ?_
        refine d_one (k := 2) (by kernel_rfl) rfl rfl ?_
        refine o_loadN (cs := [.int .i64 ((((t.at_ 1).l.getD k T.nil)).n), cs6, .bool ((((t.at_ 1).l.getD k T.nil)).z), .slice p6 ((((t.at_ 1).l.getD k T.nil)).l.length) cap6, cu6]) hk ts_39 rfl (hm.cells_blk (i := 0) rfl rfl) rfl fun a hk => ?_
        refine c_endQ (c_then ⟨fun _ => hm, ?_⟩)
        refine d_one (k := 3) (by kernel_rfl) rfl rfl ?_
        refine o_call hk cb_197 (make_ReadShareGroupStateSummaryResponseTopicPartition (t := ((t.at_ 1).l.getD k T.nil)) (hm.rep (i := 1) rfl) (small_getD (small_at hsm 1) k)) ⟨rfl, trivial⟩ rfl fun v w a hR hk => ?_
        obtain ⟨hp, c7, rfl, hl7, ho7, hR⟩ := hR
        have hm := hm.result hp hR
        refine c_endQ (c_then ⟨fun _ => hm.tail, ?_⟩)
        refine d_one (k := 4) (by kernel_rfl) rfl rfl ?_
        refine o_build1 (c := c7) hk hm rt_178 rfl rfl hl7 rfl rfl rfl fun a b6 w hk hm => ?_
        refine c_endQ (c_then ⟨fun _ => hm.tail.tail, ?_⟩)
        refine d_one (k := 5) (by kernel_rfl) rfl rfl ?_
        refine o_append (i := 6) hk hm rt_178 rfl rfl rfl (src_cells (k := 1) (news := c7) te_178 (by rw [hl7]) (hm.cells_blk (i := 0) rfl (by simp)) ho7) (by unfold maxLen; omega) (by omega) rfl fun a v7 w hk hm hnilv7 => ?_
        refine c_endQ (c_then ⟨fun h => Bool.noConfusion (show true = false from h), ?_⟩)
        refine d_one (k := 6) (by kernel_rfl) rfl rfl ?_
        refine o_fieldAddr hk fo_180_1 rfl rfl fun a hk => ?_
        refine c_endQ (c_then ⟨fun h => Bool.noConfusion (show true = false from h), ?_⟩)
        refine d_one (k := 7) (by kernel_rfl) rfl rfl ?_
        refine o_store (i := 10) hk hm ts_178 rfl rfl (cells1 (row_one (hm.row (i := 6) rfl))) rfl (one1 (row_one (hm.row (i := 6) rfl))) rfl (Nat.le_of_ble_eq_true rfl) fun a w hk hm => ?_
        refine c_endQ (c_then ⟨fun h => Bool.noConfusion (show true = false from h), ?_⟩)
        refine d_done (by kernel_rfl) ?_ _
        refine c_inNormal ?_
        have hm := hm.elsPush (i := 4) (d := (ddS sch_sReadShareGroupStateSummaryResponseTopicPartition true ((t.at_ 1).l.getD k T.nil))) rfl (hm.rep (i := 1) rfl) (by rw [hl7])
        rw [← take_succ_map (ddS sch_sReadShareGroupStateSummaryResponseTopicPartition true) ((t.at_ 1)).l k T.nil hlt] at hm
        have hm := hm.tail
        have hm := hm.tail
        have hm := hm.tail
        have hm := hm.tail
        refine c_round (L' := [(1, .pointer (some ⟨b1, 0, none⟩)), (2, .pointer (some ⟨b2, 0, none⟩)), (3, .pointer (some ⟨b3, 0, none⟩)), (25, .slice p5 (((t.at_ 1)).l.length) cap5)]) hk ⟨rfl, rfl, rfl, rfl, rfl, rfl, trivial⟩ rfl ⟨_, _, rfl, fun e => hnn (hnilv7.1 e).1, hm⟩
      · obtain ⟨vl8, xsvl8, rfl, hnnvl8, hm⟩ := hR
        have hovl8 := row_one (hm.row (i := 2) rfl)
        have hm := hm.freezeRow (i := 2) (st := true) rfl (noX _) (hm.els (i := 0) rfl) (by rw [List.length_map, List.length_take]; omega) (fun h => absurd h hnnvl8)
        rw [List.take_length] at hm
        refine c_then ⟨vl8, hovl8, hk.sub ⟨rfl, rfl, rfl, trivial⟩, ?_⟩
        rw [hz]; exact hm.pick [2, 5, 6, 7, 8, 9] rfl rfl
    · have hz : (t.at_ 1).z = true := by simpa using hc
      refine wp_skip ?_
      have hm := hm.addV (.slice none 0 0)
      refine c_then ⟨.slice none 0 0, rfl, hk.sub ⟨rfl, rfl, rfl, trivial⟩, ?_⟩
      rw [hz]; exact hm.pick [0, 2, 3, 4, 5, 6] rfl rfl
  obtain ⟨vj1, ho1, hk, hm⟩ := hJ
  refine wp_seq ?_
  refine c_region ?_
  refine o_fieldAddr hk fo_39_4 rfl rfl fun a hk => ?_
  refine o_load hk ts_37 rfl (hm.cell_blk (i := 4) rfl rfl) rfl fun a hk => ?_
  refine o_lenSlice hk te_37 rfl rfl fun a hk => ?_
  refine o_move hk rfl rfl fun a hk => ?_
  refine c_end ?_
  have hm := hm.addMap0
  have hm := hm.addEls 1
  have hrs := small_rising hsm
  have hN := (small_spec (hsm)).2.2.1
  refine c_range (L0 := [(2, .pointer (some ⟨b2, 0, none⟩)), (3, .pointer (some ⟨b3, 0, none⟩)), (40, .slice pu t.u.length capu)]) (N := t.u.length) (by omega) (fun k L w => ∃ pm vs, L = [(2, .pointer (some ⟨b2, 0, none⟩)), (3, .pointer (some ⟨b3, 0, none⟩)), (40, .slice pu t.u.length capu)] ∧ Mem w0 Nob Y [.els 1 ((t.u.take k).map ddTagV) vs, .mapb pm ((t.u.take k).map Prod.fst) vs, .rep (if (t.at_ 1).z then .v (.slice none 0 0) else .sl true 8 ((t.at_ 1).l.map (ddS sch_sReadShareGroupStateSummaryResponseTopicPartition true))) [vj1], .rep (ddT (t.at_ 0)) [.int .i64 (((t.at_ 0)).n), cs1, .bool (((t.at_ 0)).z), .slice p1 (((t.at_ 0)).l.length) cap1, cu1], .blk b3 [.int .u8 (((sixteen ((t.at_ 0)).s).getD 0 0).toNat : Int), .int .u8 (((sixteen ((t.at_ 0)).s).getD 1 0).toNat : Int), .int .u8 (((sixteen ((t.at_ 0)).s).getD 2 0).toNat : Int), .int .u8 (((sixteen ((t.at_ 0)).s).getD 3 0).toNat : Int), .int .u8 (((sixteen ((t.at_ 0)).s).getD 4 0).toNat : Int), .int .u8 (((sixteen ((t.at_ 0)).s).getD 5 0).toNat : Int), .int .u8 (((sixteen ((t.at_ 0)).s).getD 6 0).toNat : Int), .int .u8 (((sixteen ((t.at_ 0)).s).getD 7 0).toNat : Int), .int .u8 (((sixteen ((t.at_ 0)).s).getD 8 0).toNat : Int), .int .u8 (((sixteen ((t.at_ 0)).s).getD 9 0).toNat : Int), .int .u8 (((sixteen ((t.at_ 0)).s).getD 10 0).toNat : Int), .int .u8 (((sixteen ((t.at_ 0)).s).getD 11 0).toNat : Int), .int .u8 (((sixteen ((t.at_ 0)).s).getD 12 0).toNat : Int), .int .u8 (((sixteen ((t.at_ 0)).s).getD 13 0).toNat : Int), .int .u8 (((sixteen ((t.at_ 0)).s).getD 14 0).toNat : Int), .int .u8 (((sixteen ((t.at_ 0)).s).getD 15 0).toNat : Int), vj1, .map pm] 180, .blk b2 [.int .u8 0, .int .u8 0, .int .u8 0, .int .u8 0, .int .u8 0, .int .u8 0, .int .u8 0, .int .u8 0, .int .u8 0, .int .u8 0, .int .u8 0, .int .u8 0, .int .u8 0, .int .u8 0, .int .u8 0, .int .u8 0, .slice none 0 0, .map none] 180, .blk b1 [.int .i64 t.n, cs, .bool t.z, .slice p t.l.length cap, .slice pu t.u.length capu] 39, .rep (ddT t) [.int .i64 t.n, cs, .bool t.z, .slice p t.l.length cap, .slice pu t.u.length capu]] w) (hk.sub ⟨rfl, rfl, rfl, rfl, rfl, trivial⟩) ⟨none, [], rfl, hm⟩ rfl rfl rfl rfl rfl rfl rfl (fun k L a w hlt hR hk => ?_) rfl (fun L a w hR hk => ?_)
  · obtain ⟨pm, vs, rfl, hm⟩ := hR
    obtain ⟨hlt2, blt, offt, et, hpt, hlet, hRt, hCt⟩ := rep_sl_get (rep_T_u (hm.rep (i := 7) rfl)) (getD_map ddTag t.u k (0, []) hlt)
    obtain ⟨ptt, captt, rfl, hRt2⟩ := rep_Tag hRt
    have hm := hm.add (e := .rep (ddTag (t.u.getD k (0, []))) [.int .u32 (((t.u.getD k (0, [])).1 : Nat) : Int), .slice ptt ((t.u.getD k (0, [])).2.length) captt]) rfl hRt
    refine c_region ?_
    refine o_indexAddr (j := k) (b := blt) (off := offt) hk te_37 ts_62 (by rw [← hpt]; rfl) rfl hlt2 rfl fun a hk => ?_
    refine o_loadN (cs := [.int .u32 (((t.u.getD k (0, [])).1 : Nat) : Int), .slice ptt ((t.u.getD k (0, [])).2.length) captt]) hk ts_62 rfl (hCt.at_) rfl fun a hk => ?_
    refine o_alloc hk hm tz_62 rfl rfl fun a b9 w hk hm => ?_
    refine o_store (i := 0) hk hm ts_62 rfl rfl rfl rfl rfl rfl (Nat.le_of_ble_eq_true rfl) fun a w hk hm => ?_
    refine c_end ?_
    refine c_reg ?_
    refine o_fieldAddr hk fo_180_2 rfl rfl fun a hk => ?_
    refine o_fieldAddr hk fo_62_0 rfl rfl fun a hk => ?_
    refine o_load hk ts_59 rfl (hm.cell_blk (i := 0) rfl rfl) rfl fun a hk => ?_
    refine o_fieldAddr hk fo_62_1 rfl rfl fun a hk => ?_
    refine o_load hk ts_22 rfl (hm.cell_blk (i := 0) rfl rfl) rfl fun a hk => ?_
    refine o_call hk cb_134 (tagsSet_c (key := (t.u.getD k (0, [])).1) (hm.blkAt (i := 6) rfl) rfl (hm.mapOr (i := 3) rfl)) ⟨rfl, rfl, rfl, trivial⟩ rfl fun v w a hR hk => ?_
    obtain ⟨hp, rr, hb1, hM1, hr1⟩ := hR
    have hm := hm.setTags (i := 6) (j := 3) rfl rfl hp hb1 hM1 hr1
    rw [setV_rising hrs hlt] at hm
    have hm := hm.elsPush (i := 2) (d := ddTagV (t.u.getD k (0, []))) rfl (rep_Tag2 (hm.rep (i := 1) rfl)) rfl
    rw [← take_succ_map ddTagV t.u k (0, []) hlt] at hm
    refine c_endQ ?_
    refine c_inNormal ?_
    exact c_round (L' := [(2, .pointer (some ⟨b2, 0, none⟩)), (3, .pointer (some ⟨b3, 0, none⟩)), (40, .slice pu t.u.length capu)]) hk ⟨rfl, rfl, rfl, rfl, rfl, trivial⟩ rfl ⟨_, _, rfl, hm.tail.tail⟩
  · obtain ⟨pm, vs, rfl, hm⟩ := hR
    rw [List.take_length] at hm
    have hm := hm.freezeMap (i := 1) rfl (fun _ _ h => h) (hm.els (i := 0) rfl)
    refine c_then ?_
    refine c_region ?_
    refine o_loadN (cs := [.int .u8 (((sixteen ((t.at_ 0)).s).getD 0 0).toNat : Int), .int .u8 (((sixteen ((t.at_ 0)).s).getD 1 0).toNat : Int), .int .u8 (((sixteen ((t.at_ 0)).s).getD 2 0).toNat : Int), .int .u8 (((sixteen ((t.at_ 0)).s).getD 3 0).toNat : Int), .int .u8 (((sixteen ((t.at_ 0)).s).getD 4 0).toNat : Int), .int .u8 (((sixteen ((t.at_ 0)).s).getD 5 0).toNat : Int), .int .u8 (((sixteen ((t.at_ 0)).s).getD 6 0).toNat : Int), .int .u8 (((sixteen ((t.at_ 0)).s).getD 7 0).toNat : Int), .int .u8 (((sixteen ((t.at_ 0)).s).getD 8 0).toNat : Int), .int .u8 (((sixteen ((t.at_ 0)).s).getD 9 0).toNat : Int), .int .u8 (((sixteen ((t.at_ 0)).s).getD 10 0).toNat : Int), .int .u8 (((sixteen ((t.at_ 0)).s).getD 11 0).toNat : Int), .int .u8 (((sixteen ((t.at_ 0)).s).getD 12 0).toNat : Int), .int .u8 (((sixteen ((t.at_ 0)).s).getD 13 0).toNat : Int), .int .u8 (((sixteen ((t.at_ 0)).s).getD 14 0).toNat : Int), .int .u8 (((sixteen ((t.at_ 0)).s).getD 15 0).toNat : Int), vj1, .map pm]) hk ts_180 rfl (hm.cells_blk (i := 4) rfl rfl) rfl fun a hk => ?_
    refine o_store (i := 5) hk hm ts_180 rfl rfl rfl rfl (one_cons rfl (one_cons rfl (one_cons rfl (one_cons rfl (one_cons rfl (one_cons rfl (one_cons rfl (one_cons rfl (one_cons rfl (one_cons rfl (one_cons rfl (one_cons rfl (one_cons rfl (one_cons rfl (one_cons rfl (one_cons rfl (one_cons ho1 (one_cons rfl rfl)))))))))))))))))) rfl (Nat.le_of_ble_eq_true rfl) fun a w hk hm => ?_
    refine c_end ?_
    refine wp_ret ?_
    refine b_retCell (i := 5) (cs := [.int .u8 (((sixteen ((t.at_ 0)).s).getD 0 0).toNat : Int), .int .u8 (((sixteen ((t.at_ 0)).s).getD 1 0).toNat : Int), .int .u8 (((sixteen ((t.at_ 0)).s).getD 2 0).toNat : Int), .int .u8 (((sixteen ((t.at_ 0)).s).getD 3 0).toNat : Int), .int .u8 (((sixteen ((t.at_ 0)).s).getD 4 0).toNat : Int), .int .u8 (((sixteen ((t.at_ 0)).s).getD 5 0).toNat : Int), .int .u8 (((sixteen ((t.at_ 0)).s).getD 6 0).toNat : Int), .int .u8 (((sixteen ((t.at_ 0)).s).getD 7 0).toNat : Int), .int .u8 (((sixteen ((t.at_ 0)).s).getD 8 0).toNat : Int), .int .u8 (((sixteen ((t.at_ 0)).s).getD 9 0).toNat : Int), .int .u8 (((sixteen ((t.at_ 0)).s).getD 10 0).toNat : Int), .int .u8 (((sixteen ((t.at_ 0)).s).getD 11 0).toNat : Int), .int .u8 (((sixteen ((t.at_ 0)).s).getD 12 0).toNat : Int), .int .u8 (((sixteen ((t.at_ 0)).s).getD 13 0).toNat : Int), .int .u8 (((sixteen ((t.at_ 0)).s).getD 14 0).toNat : Int), .int .u8 (((sixteen ((t.at_ 0)).s).getD 15 0).toNat : Int), vj1, .map pm]) rfl ts_180 hk hm rfl rfl ?_
    refine ⟨hm.agr, _, rfl, rfl, (one_cons rfl (one_cons rfl (one_cons rfl (one_cons rfl (one_cons rfl (one_cons rfl (one_cons rfl (one_cons rfl (one_cons rfl (one_cons rfl (one_cons rfl (one_cons rfl (one_cons rfl (one_cons rfl (one_cons rfl (one_cons rfl (one_cons ho1 (one_cons rfl rfl)))))))))))))))))), ?_⟩
    refine hm.out ?_
    rw [dd_sReadShareGroupStateSummaryResponseTopic]
    refine rep_agg ?_
    exact RepL.consN (b := [.int .u8 (((sixteen ((t.at_ 0)).s).getD 0 0).toNat : Int), .int .u8 (((sixteen ((t.at_ 0)).s).getD 1 0).toNat : Int), .int .u8 (((sixteen ((t.at_ 0)).s).getD 2 0).toNat : Int), .int .u8 (((sixteen ((t.at_ 0)).s).getD 3 0).toNat : Int), .int .u8 (((sixteen ((t.at_ 0)).s).getD 4 0).toNat : Int), .int .u8 (((sixteen ((t.at_ 0)).s).getD 5 0).toNat : Int), .int .u8 (((sixteen ((t.at_ 0)).s).getD 6 0).toNat : Int), .int .u8 (((sixteen ((t.at_ 0)).s).getD 7 0).toNat : Int), .int .u8 (((sixteen ((t.at_ 0)).s).getD 8 0).toNat : Int), .int .u8 (((sixteen ((t.at_ 0)).s).getD 9 0).toNat : Int), .int .u8 (((sixteen ((t.at_ 0)).s).getD 10 0).toNat : Int), .int .u8 (((sixteen ((t.at_ 0)).s).getD 11 0).toNat : Int), .int .u8 (((sixteen ((t.at_ 0)).s).getD 12 0).toNat : Int), .int .u8 (((sixteen ((t.at_ 0)).s).getD 13 0).toNat : Int), .int .u8 (((sixteen ((t.at_ 0)).s).getD 14 0).toNat : Int), .int .u8 (((sixteen ((t.at_ 0)).s).getD 15 0).toNat : Int)]) (rep_six _) (RepL.cons1 (hm.rep (i := 2) rfl) (RepL.cons1 (hm.rep (i := 1) rfl) (RepL.nil)))
theorem dd_ReadShareGroupStateSummaryResponse (t : T) : ddS sch_ReadShareGroupStateSummaryResponse true t = .agg [if (t.at_ 0).z then .v (.slice none 0 0) else .sl true 18 ((t.at_ 0).l.map (ddS sch_sReadShareGroupStateSummaryResponseTopic true)), ddTagMap t.u] := rfl
theorem fill_ReadShareGroupStateSummaryResponse {w0 : World} {Y : Nat → Prop} {t : T} {ct : List Value} {g : Nat} {V : Int} (hb : w0.heap[g]? = some (.cells [.int .i16 V, .slice none 0 0, .map none].toArray 111 (0, 0))) (hg : Y g) (hT : Rep w0 Y (ddT t) ct) (hsm : t.small = true) : Ret Try.prog 111 [.pointer (some ⟨g, 0, none⟩), .agg ct.toArray] w0 fun _ w' => Agr (fun k => k = g) w0 w' ∧ ∃ c', w'.heap[g]? = some (.cells (.int .i16 V :: c').toArray 111 (0, 0)) ∧ Rep w' (fun b => b < w0.heap.size ∧ Y b) (ddS sch_ReadShareGroupStateSummaryResponse true t) c' := by
  have _hsm := hsm
  obtain ⟨cs, p, cap, pu, capu, rfl⟩ := rep_T6 hT
  refine c_call Try.func111 rfl rfl fun a hk => ?_
  have hk : Kn 56 [(0, .pointer (some ⟨g, 0, none⟩)), (1, .agg #[.int .i64 t.n, cs, .bool t.z, .slice p t.l.length cap, .slice pu t.u.length capu])] a := hk
  have hm : Mem w0 (fun k => k = g) Y [.blk g [.int .i16 V, .slice none 0 0, .map none] 111, .rep (ddT t) [.int .i64 t.n, cs, .bool t.z, .slice p t.l.length cap, .slice pu t.u.length capu]] w0 := Mem.startBlk hb hg rfl (by simp only [List.forall_mem_cons, List.not_mem_nil, false_imp_iff, implies_true, and_true]; exact hT)
  refine c_region ?_
  refine o_box hk hm rfl rfl rfl fun a b1 w hk hm => ?_
  refine c_end ?_
  refine c_cut (fun a w => ∃ v, v.oneCell' = true ∧ Kn 56 [(0, .pointer (some ⟨g, 0, none⟩)), (3, .pointer (some ⟨b1, 0, none⟩))] a ∧ Mem w0 (fun k => k = g) Y [.rep (if (t.at_ 0).z then .v (.slice none 0 0) else .sl true 18 ((t.at_ 0).l.map (ddS sch_sReadShareGroupStateSummaryResponseTopic true))) [v], .blk b1 [.int .i64 t.n, cs, .bool t.z, .slice p t.l.length cap, .slice pu t.u.length capu] 39, .blk g [.int .i16 V, v, .map none] 111, .rep (ddT t) [.int .i64 t.n, cs, .bool t.z, .slice p t.l.length cap, .slice pu t.u.length capu]] w) ?_ (fun a w hJ => ?_)
  · refine c_region ?_
    refine o_loadN (cs := [.int .i64 t.n, cs, .bool t.z, .slice p t.l.length cap, .slice pu t.u.length capu]) hk ts_39 rfl (hm.cells_blk (i := 0) rfl rfl) rfl fun a hk => ?_
    refine o_call hk cb_133 (at_impl (t := t) 0 (hm.rep (i := 2) rfl)) ⟨rfl, rfl, trivial⟩ rfl fun v w a hR hk => ?_
    obtain ⟨hp, c1, rfl, hR⟩ := hR
    obtain ⟨cs1, p1, cap1, cu1, rfl⟩ := rep_T5 hR
    have hm := hm.result hp hR
    refine o_field hk ff_39_2 rfl rfl rfl fun a hk => ?_
    refine o_not hk rfl rfl fun a hk => ?_
    refine c_end ?_
    refine c_cond hk rfl (fun hc => ?_) (fun hc => ?_)
    · have hz : (t.at_ 0).z = false := by simpa using hc
      refine c_region ?_
      refine o_move hk rfl rfl fun a hk => ?_
      refine o_loadN (cs := [.int .i64 t.n, cs, .bool t.z, .slice p t.l.length cap, .slice pu t.u.length capu]) hk ts_39 rfl (hm.cells_blk (i := 1) rfl rfl) rfl fun a hk => ?_
      refine o_call hk cb_133 (at_impl (t := t) 0 (hm.rep (i := 3) rfl)) ⟨rfl, rfl, trivial⟩ rfl fun v w a hR hk => ?_
      obtain ⟨hp, c2, rfl, hR⟩ := hR
      obtain ⟨cs2, p2, cap2, cu2, rfl⟩ := rep_T5 hR
      have hm := hm.result hp hR
      refine o_field hk ff_39_3 rfl rfl rfl fun a hk => ?_
      refine o_lenSlice hk te_36 rfl rfl fun a hk => ?_
      have hsb2 := (small_spec (small_at hsm 0)).2.1
      refine o_make0 (cap := ((t.at_ 0)).l.length) hk hm rt_109 tz_180 rfl (by unfold maxLen; omega) (by omega) rfl fun a b2 w hbb2 hk hm => ?_
      refine o_nilCheck hk rfl rfl fun a hk => ?_
      refine o_fieldAddr hk fo_111_1 rfl rfl fun a hk => ?_
      refine o_store (i := 4) hk hm ts_109 rfl rfl rfl rfl rfl rfl (Nat.le_of_ble_eq_true rfl) fun a w hk hm => ?_
      refine c_end ?_
      refine c_region ?_
      refine o_loadN (cs := [.int .i64 t.n, cs, .bool t.z, .slice p t.l.length cap, .slice pu t.u.length capu]) hk ts_39 rfl (hm.cells_blk (i := 3) rfl rfl) rfl fun a hk => ?_
      refine o_call hk cb_133 (at_impl (t := t) 0 (hm.rep (i := 5) rfl)) ⟨rfl, rfl, trivial⟩ rfl fun v w a hR hk => ?_
      obtain ⟨hp, c3, rfl, hR⟩ := hR
      obtain ⟨cs3, p3, cap3, cu3, rfl⟩ := rep_T5 hR
      have hm := hm.result hp hR
      refine o_field hk ff_39_3 rfl rfl rfl fun a hk => ?_
      refine o_lenSlice hk te_36 rfl rfl fun a hk => ?_
      refine o_move hk rfl rfl fun a hk => ?_
      refine c_end ?_
      have hm := hm.addEls 18
      have hN := (small_spec (small_at hsm 0)).2.1
      refine c_range (L0 := [(0, .pointer (some ⟨g, 0, none⟩)), (3, .pointer (some ⟨b1, 0, none⟩)), (22, .slice p3 (((t.at_ 0)).l.length) cap3)]) (N := ((t.at_ 0)).l.length) (by omega) (fun k L w => ∃ vr xs, L = [(0, .pointer (some ⟨g, 0, none⟩)), (3, .pointer (some ⟨b1, 0, none⟩)), (22, .slice p3 (((t.at_ 0)).l.length) cap3)] ∧ vr ≠ .slice none 0 0 ∧ Mem w0 (fun k => k = g) Y [.els 18 ((((t.at_ 0)).l.take k).map (ddS sch_sReadShareGroupStateSummaryResponseTopic true)) xs, .rep (ddT (t.at_ 0)) [.int .i64 (((t.at_ 0)).n), cs3, .bool (((t.at_ 0)).z), .slice p3 (((t.at_ 0)).l.length) cap3, cu3], .row 180 18 vr k xs, .rep (ddT (t.at_ 0)) [.int .i64 (((t.at_ 0)).n), cs2, .bool (((t.at_ 0)).z), .slice p2 (((t.at_ 0)).l.length) cap2, cu2], .rep (ddT (t.at_ 0)) [.int .i64 (((t.at_ 0)).n), cs1, .bool (((t.at_ 0)).z), .slice p1 (((t.at_ 0)).l.length) cap1, cu1], .blk b1 [.int .i64 t.n, cs, .bool t.z, .slice p t.l.length cap, .slice pu t.u.length capu] 39, .blk g [.int .i16 V, vr, .map none] 111, .rep (ddT t) [.int .i64 t.n, cs, .bool t.z, .slice p t.l.length cap, .slice pu t.u.length capu]] w) (hk.sub ⟨rfl, rfl, rfl, rfl, rfl, trivial⟩) ⟨_, _, rfl, by simp, hm⟩ rfl rfl rfl rfl rfl rfl rfl (fun k L a w hlt hR hk => ?_) rfl (fun L a w hR hk => ?_)
      · obtain ⟨vr, xs, rfl, hnn, hm⟩ := hR
        obtain ⟨_, bl, off, c4, hpl, hl4, hR4, hC4⟩ := rep_sl_get (rep_T_l (hm.rep (i := 1) rfl)) (getD_map ddT ((t.at_ 0)).l k T.nil hlt)
        obtain ⟨cs4, p4, cap4, cu4, rfl⟩ := rep_T5 hR4
        have hm := hm.add (e := .rep (ddT ((t.at_ 0).l.getD k T.nil)) [.int .i64 ((((t.at_ 0).l.getD k T.nil)).n), cs4, .bool ((((t.at_ 0).l.getD k T.nil)).z), .slice p4 ((((t.at_ 0).l.getD k T.nil)).l.length) cap4, cu4]) rfl hR4
        refine c_region ?_
        refine o_indexAddr (j := k) (b := bl) (off := off) hk te_36 ts_39 (by rw [← hpl]; rfl) rfl hlt rfl fun a hk => ?_
        refine o_loadN (cs := [.int .i64 ((((t.at_ 0).l.getD k T.nil)).n), cs4, .bool ((((t.at_ 0).l.getD k T.nil)).z), .slice p4 ((((t.at_ 0).l.getD k T.nil)).l.length) cap4, cu4]) hk ts_39 rfl (hC4.at_) rfl fun a hk => ?_
        refine o_alloc hk hm tz_39 rfl rfl fun a b3 w hk hm => ?_
        refine o_store (i := 0) hk hm ts_39 rfl rfl rfl rfl (rep_T_one hR4) rfl (Nat.le_of_ble_eq_true rfl) fun a w hk hm => ?_
        refine c_end ?_
        refine d_startM (K := 8) mixed hm fun w hm => ?_
        refine d_take (i := 1) rfl rfl rfl (by kernel_rfl) (fun _ _ _ h => h) hk rfl (fun w hm => r_move hk rfl) hm fun a hk => ?_
        refine d_take (i := 2) rfl rfl rfl (by kernel_rfl) (fun _ _ _ h => h) hk rfl (fun w hm => r_nilCheck hk rfl) hm fun a hk => ?_
        refine d_take (i := 3) rfl rfl rfl (by kernel_rfl) (fun _ _ _ h => h) hk rfl (fun w hm => r_fieldAddr hk fo_111_1 rfl) hm fun a hk => ?_
        refine d_take (i := 4) rfl rfl rfl (by kernel_rfl) (fun _ _ _ h => h) hk rfl (fun w hm => r_load1 hk ts_109 rfl (hm.cell_blk (i := 8) rfl rfl)) hm fun a hk => ?_
        refine d_take (i := 5) rfl rfl rfl (by kernel_rfl) (fun _ _ _ h => h) hk rfl (fun w hm => r_loadN (cs := [.int .i64 ((((t.at_ 0).l.getD k T.nil)).n), cs4, .bool ((((t.at_ 0).l.getD k T.nil)).z), .slice p4 ((((t.at_ 0).l.getD k T.nil)).l.length) cap4, cu4]) hk ts_39 rfl (hm.cells_blk (i := 0) rfl rfl)) hm fun a hk => ?_
        refine d_takeF (i := 0) rfl rfl rfl (by kernel_rfl) (fun _ _ _ h => h) hk rfl (fun w => r_move hk rfl) (fun _ => hm) fun a hk => ?_
        refine d_one (k := 6) (by kernel_rfl) rfl rfl ?_
        refine o_call hk cb_173 (make_ReadShareGroupStateSummaryResponseTopic (t := ((t.at_ 0).l.getD k T.nil)) (hm.rep (i := 1) rfl) (small_getD (small_at hsm 0) k)) ⟨rfl, trivial⟩ rfl fun v w a hR hk => ?_
        obtain ⟨hp, c5, rfl, hl5, ho5, hR⟩ := hR
        have hm := hm.result hp hR
        refine c_endQ (c_then ⟨fun _ => hm.tail, ?_⟩)
        refine d_one (k := 7) (by kernel_rfl) rfl rfl ?_
        refine o_build1 (c := c5) hk hm rt_109 rfl rfl hl5 rfl rfl rfl fun a b4 w hk hm => ?_
        refine c_endQ (c_then ⟨fun _ => hm.tail.tail, ?_⟩)
        refine d_one (k := 8) (by kernel_rfl) rfl rfl ?_
        refine o_append (i := 6) hk hm rt_109 rfl rfl rfl (src_cells (k := 1) (news := c5) te_109 (by rw [hl5]) (hm.cells_blk (i := 0) rfl (by simp)) ho5) (by unfold maxLen; omega) (by omega) rfl fun a v5 w hk hm hnilv5 => ?_
        refine c_endQ (c_then ⟨fun h => Bool.noConfusion (show true = false from h), ?_⟩)
        refine d_one (k := 9) (by kernel_rfl) rfl rfl ?_
        refine o_nilCheck hk rfl rfl fun a hk => ?_
        refine c_endQ (c_then ⟨fun h => Bool.noConfusion (show true = false from h), ?_⟩)
        refine d_one (k := 10) (by kernel_rfl) rfl rfl ?_
        refine o_fieldAddr hk fo_111_1 rfl rfl fun a hk => ?_
        refine c_endQ (c_then ⟨fun h => Bool.noConfusion (show true = false from h), ?_⟩)
        refine d_one (k := 11) (by kernel_rfl) rfl rfl ?_
        refine o_store (i := 10) hk hm ts_109 rfl rfl (cells1 (row_one (hm.row (i := 6) rfl))) rfl (one1 (row_one (hm.row (i := 6) rfl))) rfl (Nat.le_of_ble_eq_true rfl) fun a w hk hm => ?_
        refine c_endQ (c_then ⟨fun h => Bool.noConfusion (show true = false from h), ?_⟩)
        refine d_done (by kernel_rfl) ?_ _
        refine c_inNormal ?_
        have hm := hm.elsPush (i := 4) (d := (ddS sch_sReadShareGroupStateSummaryResponseTopic true ((t.at_ 0).l.getD k T.nil))) rfl (hm.rep (i := 1) rfl) (by rw [hl5])
        rw [← take_succ_map (ddS sch_sReadShareGroupStateSummaryResponseTopic true) ((t.at_ 0)).l k T.nil hlt] at hm
        have hm := hm.tail
        have hm := hm.tail
        have hm := hm.tail
        have hm := hm.tail
        refine c_round (L' := [(0, .pointer (some ⟨g, 0, none⟩)), (3, .pointer (some ⟨b1, 0, none⟩)), (22, .slice p3 (((t.at_ 0)).l.length) cap3)]) hk ⟨rfl, rfl, rfl, rfl, rfl, trivial⟩ rfl ⟨_, _, rfl, fun e => hnn (hnilv5.1 e).1, hm⟩
      · obtain ⟨vl6, xsvl6, rfl, hnnvl6, hm⟩ := hR
        have hovl6 := row_one (hm.row (i := 2) rfl)
        have hm := hm.freezeRow (i := 2) (st := true) rfl (fun k hk => hm.rowNe (i := 2) (j := 6) rfl rfl (by decide) hk) (hm.els (i := 0) rfl) (by rw [List.length_map, List.length_take]; omega) (fun h => absurd h hnnvl6)
        rw [List.take_length] at hm
        refine c_then ⟨vl6, hovl6, hk.sub ⟨rfl, rfl, trivial⟩, ?_⟩
        rw [hz]; exact hm.pick [2, 5, 6, 7] rfl rfl
    · have hz : (t.at_ 0).z = true := by simpa using hc
      refine wp_skip ?_
      have hm := hm.addV (.slice none 0 0)
      refine c_then ⟨.slice none 0 0, rfl, hk.sub ⟨rfl, rfl, trivial⟩, ?_⟩
      rw [hz]; exact hm.pick [0, 2, 3, 4] rfl rfl
  obtain ⟨vj0, ho0, hk, hm⟩ := hJ
  refine c_region ?_
  refine o_fieldAddr hk fo_39_4 rfl rfl fun a hk => ?_
  refine o_load hk ts_37 rfl (hm.cell_blk (i := 1) rfl rfl) rfl fun a hk => ?_
  refine o_lenSlice hk te_37 rfl rfl fun a hk => ?_
  refine o_move hk rfl rfl fun a hk => ?_
  refine c_end ?_
  have hm := hm.addMap0
  have hm := hm.addEls 1
  have hrs := small_rising hsm
  have hN := (small_spec (hsm)).2.2.1
  refine c_range (L0 := [(0, .pointer (some ⟨g, 0, none⟩)), (41, .slice pu t.u.length capu)]) (N := t.u.length) (by omega) (fun k L w => ∃ pm vs, L = [(0, .pointer (some ⟨g, 0, none⟩)), (41, .slice pu t.u.length capu)] ∧ Mem w0 (fun k => k = g) Y [.els 1 ((t.u.take k).map ddTagV) vs, .mapb pm ((t.u.take k).map Prod.fst) vs, .rep (if (t.at_ 0).z then .v (.slice none 0 0) else .sl true 18 ((t.at_ 0).l.map (ddS sch_sReadShareGroupStateSummaryResponseTopic true))) [vj0], .blk b1 [.int .i64 t.n, cs, .bool t.z, .slice p t.l.length cap, .slice pu t.u.length capu] 39, .blk g [.int .i16 V, vj0, .map pm] 111, .rep (ddT t) [.int .i64 t.n, cs, .bool t.z, .slice p t.l.length cap, .slice pu t.u.length capu]] w) (hk.sub ⟨rfl, rfl, rfl, rfl, trivial⟩) ⟨none, [], rfl, hm⟩ rfl rfl rfl rfl rfl rfl rfl (fun k L a w hlt hR hk => ?_) rfl (fun L a w hR hk => ?_)
  · obtain ⟨pm, vs, rfl, hm⟩ := hR
    obtain ⟨hlt2, blt, offt, et, hpt, hlet, hRt, hCt⟩ := rep_sl_get (rep_T_u (hm.rep (i := 5) rfl)) (getD_map ddTag t.u k (0, []) hlt)
    obtain ⟨ptt, captt, rfl, hRt2⟩ := rep_Tag hRt
    have hm := hm.add (e := .rep (ddTag (t.u.getD k (0, []))) [.int .u32 (((t.u.getD k (0, [])).1 : Nat) : Int), .slice ptt ((t.u.getD k (0, [])).2.length) captt]) rfl hRt
    refine c_region ?_
    refine o_indexAddr (j := k) (b := blt) (off := offt) hk te_37 ts_62 (by rw [← hpt]; rfl) rfl hlt2 rfl fun a hk => ?_
    refine o_loadN (cs := [.int .u32 (((t.u.getD k (0, [])).1 : Nat) : Int), .slice ptt ((t.u.getD k (0, [])).2.length) captt]) hk ts_62 rfl (hCt.at_) rfl fun a hk => ?_
    refine o_alloc hk hm tz_62 rfl rfl fun a b7 w hk hm => ?_
    refine o_store (i := 0) hk hm ts_62 rfl rfl rfl rfl rfl rfl (Nat.le_of_ble_eq_true rfl) fun a w hk hm => ?_
    refine c_end ?_
    refine d_startM (K := 7) mixed hm fun w hm => ?_
    refine d_take (i := 0) rfl rfl rfl (by kernel_rfl) (fun _ _ _ h => h) hk rfl (fun w hm => r_move hk rfl) hm fun a hk => ?_
    refine d_take (i := 1) rfl rfl rfl (by kernel_rfl) (fun _ _ _ h => h) hk rfl (fun w hm => r_nilCheck hk rfl) hm fun a hk => ?_
    refine d_take (i := 2) rfl rfl rfl (by kernel_rfl) (fun _ _ _ h => h) hk rfl (fun w hm => r_fieldAddr hk fo_111_2 rfl) hm fun a hk => ?_
    refine d_take (i := 3) rfl rfl rfl (by kernel_rfl) (fun _ _ _ h => h) hk rfl (fun w hm => r_fieldAddr hk fo_62_0 rfl) hm fun a hk => ?_
    refine d_take (i := 4) rfl rfl rfl (by kernel_rfl) (fun _ _ _ h => h) hk rfl (fun w hm => r_load1 hk ts_59 rfl (hm.cell_blk (i := 0) rfl rfl)) hm fun a hk => ?_
    refine d_one (k := 5) (by kernel_rfl) rfl rfl ?_
    refine o_fieldAddr hk fo_62_1 rfl rfl fun a hk => ?_
    refine c_endQ (c_then ⟨fun _ => hm, ?_⟩)
    refine d_one (k := 6) (by kernel_rfl) rfl rfl ?_
    refine o_load hk ts_22 rfl (hm.cell_blk (i := 0) rfl rfl) rfl fun a hk => ?_
    refine c_endQ (c_then ⟨fun _ => hm, ?_⟩)
    refine d_one (k := 7) (by kernel_rfl) rfl rfl ?_
    refine o_call hk cb_134 (tagsSet_c (key := (t.u.getD k (0, [])).1) (hm.blkAt (i := 6) rfl) rfl (hm.mapOr (i := 3) rfl)) ⟨rfl, rfl, rfl, trivial⟩ rfl fun v w a hR hk => ?_
    obtain ⟨hp, rr, hb1, hM1, hr1⟩ := hR
    have hm := hm.setTags (i := 6) (j := 3) rfl rfl hp hb1 hM1 hr1
    rw [setV_rising hrs hlt] at hm
    have hm := hm.elsPush (i := 2) (d := ddTagV (t.u.getD k (0, []))) rfl (rep_Tag2 (hm.rep (i := 1) rfl)) rfl
    rw [← take_succ_map ddTagV t.u k (0, []) hlt] at hm
    refine c_endQ (c_then ⟨fun h => Bool.noConfusion (show true = false from h), ?_⟩)
    refine d_done (by kernel_rfl) ?_ _
    refine c_inNormal ?_
    exact c_round (L' := [(0, .pointer (some ⟨g, 0, none⟩)), (41, .slice pu t.u.length capu)]) hk ⟨rfl, rfl, rfl, rfl, trivial⟩ rfl ⟨_, _, rfl, hm.tail.tail⟩
  · obtain ⟨pm, vs, rfl, hm⟩ := hR
    rw [List.take_length] at hm
    have hm := hm.freezeMap (i := 1) rfl (hm.mapNe (i := 1) (j := 4) rfl rfl) (hm.els (i := 0) rfl)
    refine b_endNone rfl hk ?_
    have hz := hm.all _ (entAt_mem (i := 4) rfl)
    simp only [Ent.holds] at hz
    refine ⟨hm.agr, _, hz, ?_⟩
    refine hm.out ?_
    rw [dd_ReadShareGroupStateSummaryResponse]
    refine rep_agg ?_
    exact RepL.cons1 (hm.rep (i := 2) rfl) (RepL.cons1 (hm.rep (i := 1) rfl) (RepL.nil))
end Go.Proofs.Ytojbmnelohjhmaa
