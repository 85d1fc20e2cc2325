/- Walks of functions that the laws of this seat reach. No statement of the seat stands here. -/
import Derived.Test.YtnndnjbkhhammaaL2
import Derived.Test.YtnndnjbkhhammaaRows
import Derived.Test.YtnndnjbkhhammaaFa
import Derived.Test.YtnndnjbkhhammaaSch
import Derived.Test.YtnndnjbkhhammaaOb
namespace Go.Proofs.Ytnndnjbkhhammaa
open Go Go.Mk
theorem dd_sDescribeGroupsResponseGroupMember (t : T) : ddS sch_sDescribeGroupsResponseGroupMember true t = .agg [.v (.string (bs (t.at_ 0).s)), ddVal 8 0 (fun _ => .agg []) (t.at_ 1), .v (.string (bs (t.at_ 2).s)), .v (.string (bs (t.at_ 3).s)), ddVal 9 (-1) (fun _ => .agg []) (t.at_ 4), ddVal 9 (-1) (fun _ => .agg []) (t.at_ 5), ddTagMap t.u] := rfl
theorem make_DescribeGroupsResponseGroupMember {w0 : World} {Y : Nat → Prop} {t : T} {c : List Value} (hT : Rep w0 Y (ddT t) c) (hsm : t.small = true) (hoc : octFs sch_sDescribeGroupsResponseGroupMember t.l 0 = true) :
    Ret Try.prog 80 [.agg c.toArray] w0 fun v w' => Agr Nob w0 w' ∧ ∃ c', v = .agg c'.toArray ∧ c'.length = 7 ∧ oneCells c' = true ∧ Rep w' (fun b => b < w0.heap.size ∧ Y b) (ddS sch_sDescribeGroupsResponseGroupMember true t) c' := by
  have _hsm := hsm
  obtain ⟨cs, p, cap, pu, capu, rfl⟩ := rep_T6 hT
  refine c_call Try.func80 rfl rfl fun a hk => ?_
  have hk : Kn 48 [(0, .agg #[.int .i64 t.n, cs, .bool t.z, .slice p t.l.length cap, .slice pu t.u.length capu])] a := hk
  have hm : Mem w0 Nob Y [.rep (ddT t) [.int .i64 t.n, cs, .bool t.z, .slice p t.l.length cap, .slice pu t.u.length capu]] w0 := Mem.start rfl (by simp only [List.forall_mem_cons, List.not_mem_nil, false_imp_iff, implies_true, and_true]; exact hT)
  refine c_region ?_
  refine o_box hk hm rfl rfl rfl fun a b1 w hk hm => ?_
  refine o_alloc hk hm tz_118 rfl rfl fun a b2 w hk hm => ?_
  refine c_end ?_
  refine c_region ?_
  refine o_alloc hk hm tz_118 rfl rfl fun a b3 w hk hm => ?_
  refine c_end ?_
  refine c_region ?_
  refine o_loadN (cs := [.int .i64 t.n, cs, .bool t.z, .slice p t.l.length cap, .slice pu t.u.length capu]) hk ts_39 rfl (hm.cells_blk (i := 2) rfl rfl) rfl fun a hk => ?_
  refine o_call hk cb_38 (at_impl (t := t) 0 (hm.rep (i := 3) rfl)) ⟨rfl, rfl, trivial⟩ rfl fun v w a hR hk => ?_
  obtain ⟨hp, c1, rfl, hR⟩ := hR
  obtain ⟨cs1, p1, cap1, cu1, rfl⟩ := rep_T5 hR
  have hm := hm.result hp hR
  refine o_field hk ff_39_1 rfl rfl rfl fun a hk => ?_
  refine o_bytesToStr hk iy_22 is_9 rfl (rep_T_s (hm.rep (i := 0) rfl)) rfl fun a hk => ?_
  refine o_fieldAddr hk fo_118_0 rfl rfl fun a hk => ?_
  refine o_store (i := 1) hk hm ts_9 rfl rfl rfl rfl rfl rfl (Nat.le_of_ble_eq_true rfl) fun a w hk hm => ?_
  refine c_end ?_
  refine c_region ?_
  refine o_loadN (cs := [.int .i64 t.n, cs, .bool t.z, .slice p t.l.length cap, .slice pu t.u.length capu]) hk ts_39 rfl (hm.cells_blk (i := 3) rfl rfl) rfl fun a hk => ?_
  refine o_call hk cb_38 (at_impl (t := t) 1 (hm.rep (i := 4) rfl)) ⟨rfl, rfl, trivial⟩ rfl fun v w a hR hk => ?_
  obtain ⟨hp, c2, rfl, hR⟩ := hR
  obtain ⟨cs2, p2, cap2, cu2, rfl⟩ := rep_T5 hR
  have hm := hm.result hp hR
  refine o_call hk cb_42 (textOf_c (t := (t.at_ 1)) (hm.rep (i := 0) rfl)) ⟨rfl, trivial⟩ rfl fun v3 w a hR hk => ?_
  obtain ⟨hp, hR, ho3⟩ := hR
  have hm := hm.result hp hR
  refine o_fieldAddr hk fo_118_1 rfl rfl fun a hk => ?_
  refine o_store (i := 3) hk hm ts_55 rfl rfl (cells1 (ho3)) rfl (one1 (ho3)) rfl (Nat.le_of_ble_eq_true rfl) fun a w hk hm => ?_
  refine c_end ?_
  refine c_region ?_
  refine o_loadN (cs := [.int .i64 t.n, cs, .bool t.z, .slice p t.l.length cap, .slice pu t.u.length capu]) hk ts_39 rfl (hm.cells_blk (i := 5) rfl rfl) rfl fun a hk => ?_
  refine o_call hk cb_38 (at_impl (t := t) 2 (hm.rep (i := 6) rfl)) ⟨rfl, rfl, trivial⟩ rfl fun v w a hR hk => ?_
  obtain ⟨hp, c4, rfl, hR⟩ := hR
  obtain ⟨cs4, p4, cap4, cu4, rfl⟩ := rep_T5 hR
  have hm := hm.result hp hR
  refine o_field hk ff_39_1 rfl rfl rfl fun a hk => ?_
  refine o_bytesToStr hk iy_22 is_9 rfl (rep_T_s (hm.rep (i := 0) rfl)) rfl fun a hk => ?_
  refine o_fieldAddr hk fo_118_2 rfl rfl fun a hk => ?_
  refine o_store (i := 4) hk hm ts_9 rfl rfl rfl rfl rfl rfl (Nat.le_of_ble_eq_true rfl) fun a w hk hm => ?_
  refine c_end ?_
  refine c_region ?_
  refine o_loadN (cs := [.int .i64 t.n, cs, .bool t.z, .slice p t.l.length cap, .slice pu t.u.length capu]) hk ts_39 rfl (hm.cells_blk (i := 6) rfl rfl) rfl fun a hk => ?_
  refine o_call hk cb_38 (at_impl (t := t) 3 (hm.rep (i := 7) rfl)) ⟨rfl, rfl, trivial⟩ rfl fun v w a hR hk => ?_
  obtain ⟨hp, c5, rfl, hR⟩ := hR
  obtain ⟨cs5, p5, cap5, cu5, rfl⟩ := rep_T5 hR
  have hm := hm.result hp hR
  refine o_field hk ff_39_1 rfl rfl rfl fun a hk => ?_
  refine o_bytesToStr hk iy_22 is_9 rfl (rep_T_s (hm.rep (i := 0) rfl)) rfl fun a hk => ?_
  refine o_fieldAddr hk fo_118_3 rfl rfl fun a hk => ?_
  refine o_store (i := 5) hk hm ts_9 rfl rfl rfl rfl rfl rfl (Nat.le_of_ble_eq_true rfl) fun a w hk hm => ?_
  refine c_end ?_
  refine c_region ?_
  refine o_loadN (cs := [.int .i64 t.n, cs, .bool t.z, .slice p t.l.length cap, .slice pu t.u.length capu]) hk ts_39 rfl (hm.cells_blk (i := 7) rfl rfl) rfl fun a hk => ?_
  refine o_call hk cb_38 (at_impl (t := t) 4 (hm.rep (i := 8) rfl)) ⟨rfl, rfl, trivial⟩ rfl fun v w a hR hk => ?_
  obtain ⟨hp, c6, rfl, hR⟩ := hR
  obtain ⟨cs6, p6, cap6, cu6, rfl⟩ := rep_T5 hR
  have hm := hm.result hp hR
  refine o_call hk cb_84 (octetsOf_c (t := (t.at_ 4)) (hm.rep (i := 0) rfl) (oct_9 (oct_at (hoc) 4 (by decide)))) ⟨rfl, trivial⟩ rfl fun v7 w a hR hk => ?_
  obtain ⟨hp, hR, ho7⟩ := hR
  have hm := hm.result hp hR
  refine o_fieldAddr hk fo_118_4 rfl rfl fun a hk => ?_
  refine o_store (i := 7) hk hm ts_22 rfl rfl (cells1 (ho7)) rfl (one1 (ho7)) rfl (Nat.le_of_ble_eq_true rfl) fun a w hk hm => ?_
  refine c_end ?_
  refine c_region ?_
  refine o_loadN (cs := [.int .i64 t.n, cs, .bool t.z, .slice p t.l.length cap, .slice pu t.u.length capu]) hk ts_39 rfl (hm.cells_blk (i := 9) rfl rfl) rfl fun a hk => ?_
  refine o_call hk cb_38 (at_impl (t := t) 5 (hm.rep (i := 10) rfl)) ⟨rfl, rfl, trivial⟩ rfl fun v w a hR hk => ?_
  obtain ⟨hp, c8, rfl, hR⟩ := hR
  obtain ⟨cs8, p8, cap8, cu8, rfl⟩ := rep_T5 hR
  have hm := hm.result hp hR
  refine o_call hk cb_84 (octetsOf_c (t := (t.at_ 5)) (hm.rep (i := 0) rfl) (oct_9 (oct_at (hoc) 5 (by decide)))) ⟨rfl, trivial⟩ rfl fun v9 w a hR hk => ?_
  obtain ⟨hp, hR, ho9⟩ := hR
  have hm := hm.result hp hR
  refine o_fieldAddr hk fo_118_5 rfl rfl fun a hk => ?_
  refine o_store (i := 9) hk hm ts_22 rfl rfl (cells1 (ho9)) rfl (one1 (ho9)) rfl (Nat.le_of_ble_eq_true rfl) fun a w hk hm => ?_
  refine c_end ?_
  refine wp_seq ?_
  refine c_region ?_
  refine o_fieldAddr hk fo_39_4 rfl rfl fun a hk => ?_
  refine o_load hk ts_37 rfl (hm.cell_blk (i := 11) rfl rfl) rfl fun a hk => ?_
  refine o_lenSlice hk te_37 rfl rfl fun a hk => ?_
  refine o_move hk rfl rfl fun a hk => ?_
  refine c_end ?_
  have hm := hm.addMap0
  have hm := hm.addEls 1
  have hrs := small_rising hsm
  have hN := (small_spec (hsm)).2.2.1
  refine c_range (L0 := [(2, .pointer (some ⟨b2, 0, none⟩)), (3, .pointer (some ⟨b3, 0, none⟩)), (34, .slice pu t.u.length capu)]) (N := t.u.length) (by omega) (fun k L w => ∃ pm vs, L = [(2, .pointer (some ⟨b2, 0, none⟩)), (3, .pointer (some ⟨b3, 0, none⟩)), (34, .slice pu t.u.length capu)] ∧ Mem w0 Nob Y [.els 1 ((t.u.take k).map ddTagV) vs, .mapb pm ((t.u.take k).map Prod.fst) vs, .rep (ddVal 9 (-1) (fun _ => .agg []) (t.at_ 5)) [v9], .rep (ddT (t.at_ 5)) [.int .i64 (((t.at_ 5)).n), cs8, .bool (((t.at_ 5)).z), .slice p8 (((t.at_ 5)).l.length) cap8, cu8], .rep (ddVal 9 (-1) (fun _ => .agg []) (t.at_ 4)) [v7], .rep (ddT (t.at_ 4)) [.int .i64 (((t.at_ 4)).n), cs6, .bool (((t.at_ 4)).z), .slice p6 (((t.at_ 4)).l.length) cap6, cu6], .rep (ddT (t.at_ 3)) [.int .i64 (((t.at_ 3)).n), cs5, .bool (((t.at_ 3)).z), .slice p5 (((t.at_ 3)).l.length) cap5, cu5], .rep (ddT (t.at_ 2)) [.int .i64 (((t.at_ 2)).n), cs4, .bool (((t.at_ 2)).z), .slice p4 (((t.at_ 2)).l.length) cap4, cu4], .rep (ddVal 8 0 (fun _ => .agg []) (t.at_ 1)) [v3], .rep (ddT (t.at_ 1)) [.int .i64 (((t.at_ 1)).n), cs2, .bool (((t.at_ 1)).z), .slice p2 (((t.at_ 1)).l.length) cap2, cu2], .rep (ddT (t.at_ 0)) [.int .i64 (((t.at_ 0)).n), cs1, .bool (((t.at_ 0)).z), .slice p1 (((t.at_ 0)).l.length) cap1, cu1], .blk b3 [.string (bs ((t.at_ 0)).s), v3, .string (bs ((t.at_ 2)).s), .string (bs ((t.at_ 3)).s), v7, v9, .map pm] 118, .blk b2 [.string .empty, .pointer none, .string .empty, .string .empty, .slice none 0 0, .slice none 0 0, .map none] 118, .blk b1 [.int .i64 t.n, cs, .bool t.z, .slice p t.l.length cap, .slice pu t.u.length capu] 39, .rep (ddT t) [.int .i64 t.n, cs, .bool t.z, .slice p t.l.length cap, .slice pu t.u.length capu]] w) (hk.sub ⟨rfl, rfl, rfl, rfl, rfl, trivial⟩) ⟨none, [], rfl, hm⟩ rfl rfl rfl rfl rfl rfl rfl (fun k L a w hlt hR hk => ?_) rfl (fun L a w hR hk => ?_)
  · obtain ⟨pm, vs, rfl, hm⟩ := hR
    obtain ⟨hlt2, blt, offt, et, hpt, hlet, hRt, hCt⟩ := rep_sl_get (rep_T_u (hm.rep (i := 14) rfl)) (getD_map ddTag t.u k (0, []) hlt)
    obtain ⟨ptt, captt, rfl, hRt2⟩ := rep_Tag hRt
    have hm := hm.add (e := .rep (ddTag (t.u.getD k (0, []))) [.int .u32 (((t.u.getD k (0, [])).1 : Nat) : Int), .slice ptt ((t.u.getD k (0, [])).2.length) captt]) rfl hRt
    refine c_region ?_
    refine o_indexAddr (j := k) (b := blt) (off := offt) hk te_37 ts_68 (by rw [← hpt]; rfl) rfl hlt2 rfl fun a hk => ?_
    refine o_loadN (cs := [.int .u32 (((t.u.getD k (0, [])).1 : Nat) : Int), .slice ptt ((t.u.getD k (0, [])).2.length) captt]) hk ts_68 rfl (hCt.at_) rfl fun a hk => ?_
    refine o_alloc hk hm tz_68 rfl rfl fun a b4 w hk hm => ?_
    refine o_store (i := 0) hk hm ts_68 rfl rfl rfl rfl rfl rfl (Nat.le_of_ble_eq_true rfl) fun a w hk hm => ?_
    refine c_end ?_
    refine c_reg ?_
    refine o_fieldAddr hk fo_118_6 rfl rfl fun a hk => ?_
    refine o_fieldAddr hk fo_68_0 rfl rfl fun a hk => ?_
    refine o_load hk ts_65 rfl (hm.cell_blk (i := 0) rfl rfl) rfl fun a hk => ?_
    refine o_fieldAddr hk fo_68_1 rfl rfl fun a hk => ?_
    refine o_load hk ts_22 rfl (hm.cell_blk (i := 0) rfl rfl) rfl fun a hk => ?_
    refine o_call hk cb_43 (tagsSet_c (key := (t.u.getD k (0, [])).1) (hm.blkAt (i := 13) rfl) rfl (hm.mapOr (i := 3) rfl)) ⟨rfl, rfl, rfl, trivial⟩ rfl fun v w a hR hk => ?_
    obtain ⟨hp, rr, hb1, hM1, hr1⟩ := hR
    have hm := hm.setTags (i := 13) (j := 3) rfl rfl hp hb1 hM1 hr1
    rw [setV_rising hrs hlt] at hm
    have hm := hm.elsPush (i := 2) (d := ddTagV (t.u.getD k (0, []))) rfl (rep_Tag2 (hm.rep (i := 1) rfl)) rfl
    rw [← take_succ_map ddTagV t.u k (0, []) hlt] at hm
    refine c_endQ ?_
    refine c_inNormal ?_
    exact c_round (L' := [(2, .pointer (some ⟨b2, 0, none⟩)), (3, .pointer (some ⟨b3, 0, none⟩)), (34, .slice pu t.u.length capu)]) hk ⟨rfl, rfl, rfl, rfl, rfl, trivial⟩ rfl ⟨_, _, rfl, hm.tail.tail⟩
  · obtain ⟨pm, vs, rfl, hm⟩ := hR
    rw [List.take_length] at hm
    have hm := hm.freezeMap (i := 1) rfl (fun _ _ h => h) (hm.els (i := 0) rfl)
    refine c_then ?_
    refine c_region ?_
    refine o_loadN (cs := [.string (bs ((t.at_ 0)).s), v3, .string (bs ((t.at_ 2)).s), .string (bs ((t.at_ 3)).s), v7, v9, .map pm]) hk ts_118 rfl (hm.cells_blk (i := 11) rfl rfl) rfl fun a hk => ?_
    refine o_store (i := 12) hk hm ts_118 rfl rfl rfl rfl (one_cons rfl (one_cons ho3 (one_cons rfl (one_cons rfl (one_cons ho7 (one_cons ho9 (one_cons rfl rfl))))))) rfl (Nat.le_of_ble_eq_true rfl) fun a w hk hm => ?_
    refine c_end ?_
    refine wp_ret ?_
    refine b_retCell (i := 12) (cs := [.string (bs ((t.at_ 0)).s), v3, .string (bs ((t.at_ 2)).s), .string (bs ((t.at_ 3)).s), v7, v9, .map pm]) rfl ts_118 hk hm rfl rfl ?_
    refine ⟨hm.agr, _, rfl, rfl, (one_cons rfl (one_cons ho3 (one_cons rfl (one_cons rfl (one_cons ho7 (one_cons ho9 (one_cons rfl rfl))))))), ?_⟩
    refine hm.out ?_
    rw [dd_sDescribeGroupsResponseGroupMember]
    refine rep_agg ?_
    exact RepL.cons1 (rep_v _) (RepL.cons1 (hm.rep (i := 8) rfl) (RepL.cons1 (rep_v _) (RepL.cons1 (rep_v _) (RepL.cons1 (hm.rep (i := 4) rfl) (RepL.cons1 (hm.rep (i := 2) rfl) (RepL.cons1 (hm.rep (i := 1) rfl) (RepL.nil)))))))
theorem dd_sDescribeGroupsResponseGroup (t : T) : ddS sch_sDescribeGroupsResponseGroup true t = .agg [.v (.int .i16 (IntKind.i16.wrap (t.at_ 0).n)), ddVal 8 0 (fun _ => .agg []) (t.at_ 1), .v (.string (bs (t.at_ 2).s)), .v (.string (bs (t.at_ 3).s)), .v (.string (bs (t.at_ 4).s)), .v (.string (bs (t.at_ 5).s)), if (t.at_ 6).z then .v (.slice none 0 0) else .sl true 7 ((t.at_ 6).l.map (ddS sch_sDescribeGroupsResponseGroupMember true)), .v (.int .i32 (IntKind.i32.wrap (t.at_ 7).n)), ddTagMap t.u] := rfl
theorem make_DescribeGroupsResponseGroup {w0 : World} {Y : Nat → Prop} {t : T} {c : List Value} (hT : Rep w0 Y (ddT t) c) (hsm : t.small = true) (hoc : octFs sch_sDescribeGroupsResponseGroup t.l 0 = true) :
    Ret Try.prog 68 [.agg c.toArray] w0 fun v w' => Agr Nob w0 w' ∧ ∃ c', v = .agg c'.toArray ∧ c'.length = 9 ∧ oneCells c' = true ∧ Rep w' (fun b => b < w0.heap.size ∧ Y b) (ddS sch_sDescribeGroupsResponseGroup true t) c' := by
  have _hsm := hsm
  obtain ⟨cs, p, cap, pu, capu, rfl⟩ := rep_T6 hT
  refine c_call Try.func68 rfl rfl fun a hk => ?_
  have hk : Kn 83 [(0, .agg #[.int .i64 t.n, cs, .bool t.z, .slice p t.l.length cap, .slice pu t.u.length capu])] a := hk
  have hm : Mem w0 Nob Y [.rep (ddT t) [.int .i64 t.n, cs, .bool t.z, .slice p t.l.length cap, .slice pu t.u.length capu]] w0 := Mem.start rfl (by simp only [List.forall_mem_cons, List.not_mem_nil, false_imp_iff, implies_true, and_true]; exact hT)
  refine c_region ?_
  refine o_box hk hm rfl rfl rfl fun a b1 w hk hm => ?_
  refine o_alloc hk hm tz_113 rfl rfl fun a b2 w hk hm => ?_
  refine c_end ?_
  refine c_region ?_
  refine o_alloc hk hm tz_113 rfl rfl fun a b3 w hk hm => ?_
  refine c_end ?_
  refine c_region ?_
  refine o_loadN (cs := [.int .i64 t.n, cs, .bool t.z, .slice p t.l.length cap, .slice pu t.u.length capu]) hk ts_39 rfl (hm.cells_blk (i := 2) rfl rfl) rfl fun a hk => ?_
  refine o_call hk cb_38 (at_impl (t := t) 0 (hm.rep (i := 3) rfl)) ⟨rfl, rfl, trivial⟩ rfl fun v w a hR hk => ?_
  obtain ⟨hp, c1, rfl, hR⟩ := hR
  obtain ⟨cs1, p1, cap1, cu1, rfl⟩ := rep_T5 hR
  have hm := hm.result hp hR
  refine o_field hk ff_39_0 rfl rfl rfl fun a hk => ?_
  refine o_convInt (c := IntKind.i16.wrap (((t.at_ 0)).n)) hk un_2 ti_45 rfl rfl rfl fun a hk => ?_
  refine o_fieldAddr hk fo_113_0 rfl rfl fun a hk => ?_
  refine o_store (i := 1) hk hm ts_45 rfl rfl rfl rfl rfl rfl (Nat.le_of_ble_eq_true rfl) fun a w hk hm => ?_
  refine c_end ?_
  refine c_region ?_
  refine o_loadN (cs := [.int .i64 t.n, cs, .bool t.z, .slice p t.l.length cap, .slice pu t.u.length capu]) hk ts_39 rfl (hm.cells_blk (i := 3) rfl rfl) rfl fun a hk => ?_
  refine o_call hk cb_38 (at_impl (t := t) 1 (hm.rep (i := 4) rfl)) ⟨rfl, rfl, trivial⟩ rfl fun v w a hR hk => ?_
  obtain ⟨hp, c2, rfl, hR⟩ := hR
  obtain ⟨cs2, p2, cap2, cu2, rfl⟩ := rep_T5 hR
  have hm := hm.result hp hR
  refine o_call hk cb_42 (textOf_c (t := (t.at_ 1)) (hm.rep (i := 0) rfl)) ⟨rfl, trivial⟩ rfl fun v3 w a hR hk => ?_
  obtain ⟨hp, hR, ho3⟩ := hR
  have hm := hm.result hp hR
  refine o_fieldAddr hk fo_113_1 rfl rfl fun a hk => ?_
  refine o_store (i := 3) hk hm ts_55 rfl rfl (cells1 (ho3)) rfl (one1 (ho3)) rfl (Nat.le_of_ble_eq_true rfl) fun a w hk hm => ?_
  refine c_end ?_
  refine c_region ?_
  refine o_loadN (cs := [.int .i64 t.n, cs, .bool t.z, .slice p t.l.length cap, .slice pu t.u.length capu]) hk ts_39 rfl (hm.cells_blk (i := 5) rfl rfl) rfl fun a hk => ?_
  refine o_call hk cb_38 (at_impl (t := t) 2 (hm.rep (i := 6) rfl)) ⟨rfl, rfl, trivial⟩ rfl fun v w a hR hk => ?_
  obtain ⟨hp, c4, rfl, hR⟩ := hR
  obtain ⟨cs4, p4, cap4, cu4, rfl⟩ := rep_T5 hR
  have hm := hm.result hp hR
  refine o_field hk ff_39_1 rfl rfl rfl fun a hk => ?_
  refine o_bytesToStr hk iy_22 is_9 rfl (rep_T_s (hm.rep (i := 0) rfl)) rfl fun a hk => ?_
  refine o_fieldAddr hk fo_113_2 rfl rfl fun a hk => ?_
  refine o_store (i := 4) hk hm ts_9 rfl rfl rfl rfl rfl rfl (Nat.le_of_ble_eq_true rfl) fun a w hk hm => ?_
  refine c_end ?_
  refine c_region ?_
  refine o_loadN (cs := [.int .i64 t.n, cs, .bool t.z, .slice p t.l.length cap, .slice pu t.u.length capu]) hk ts_39 rfl (hm.cells_blk (i := 6) rfl rfl) rfl fun a hk => ?_
  refine o_call hk cb_38 (at_impl (t := t) 3 (hm.rep (i := 7) rfl)) ⟨rfl, rfl, trivial⟩ rfl fun v w a hR hk => ?_
  obtain ⟨hp, c5, rfl, hR⟩ := hR
  obtain ⟨cs5, p5, cap5, cu5, rfl⟩ := rep_T5 hR
  have hm := hm.result hp hR
  refine o_field hk ff_39_1 rfl rfl rfl fun a hk => ?_
  refine o_bytesToStr hk iy_22 is_9 rfl (rep_T_s (hm.rep (i := 0) rfl)) rfl fun a hk => ?_
  refine o_fieldAddr hk fo_113_3 rfl rfl fun a hk => ?_
  refine o_store (i := 5) hk hm ts_9 rfl rfl rfl rfl rfl rfl (Nat.le_of_ble_eq_true rfl) fun a w hk hm => ?_
  refine c_end ?_
  refine c_region ?_
  refine o_loadN (cs := [.int .i64 t.n, cs, .bool t.z, .slice p t.l.length cap, .slice pu t.u.length capu]) hk ts_39 rfl (hm.cells_blk (i := 7) rfl rfl) rfl fun a hk => ?_
  refine o_call hk cb_38 (at_impl (t := t) 4 (hm.rep (i := 8) rfl)) ⟨rfl, rfl, trivial⟩ rfl fun v w a hR hk => ?_
  obtain ⟨hp, c6, rfl, hR⟩ := hR
  obtain ⟨cs6, p6, cap6, cu6, rfl⟩ := rep_T5 hR
  have hm := hm.result hp hR
  refine o_field hk ff_39_1 rfl rfl rfl fun a hk => ?_
  refine o_bytesToStr hk iy_22 is_9 rfl (rep_T_s (hm.rep (i := 0) rfl)) rfl fun a hk => ?_
  refine o_fieldAddr hk fo_113_4 rfl rfl fun a hk => ?_
  refine o_store (i := 6) hk hm ts_9 rfl rfl rfl rfl rfl rfl (Nat.le_of_ble_eq_true rfl) fun a w hk hm => ?_
  refine c_end ?_
  refine c_region ?_
  refine o_loadN (cs := [.int .i64 t.n, cs, .bool t.z, .slice p t.l.length cap, .slice pu t.u.length capu]) hk ts_39 rfl (hm.cells_blk (i := 8) rfl rfl) rfl fun a hk => ?_
  refine o_call hk cb_38 (at_impl (t := t) 5 (hm.rep (i := 9) rfl)) ⟨rfl, rfl, trivial⟩ rfl fun v w a hR hk => ?_
  obtain ⟨hp, c7, rfl, hR⟩ := hR
  obtain ⟨cs7, p7, cap7, cu7, rfl⟩ := rep_T5 hR
  have hm := hm.result hp hR
  refine o_field hk ff_39_1 rfl rfl rfl fun a hk => ?_
  refine o_bytesToStr hk iy_22 is_9 rfl (rep_T_s (hm.rep (i := 0) rfl)) rfl fun a hk => ?_
  refine o_fieldAddr hk fo_113_5 rfl rfl fun a hk => ?_
  refine o_store (i := 7) hk hm ts_9 rfl rfl rfl rfl rfl rfl (Nat.le_of_ble_eq_true rfl) fun a w hk hm => ?_
  refine c_end ?_
  refine c_cut (fun a w => ∃ v, v.oneCell' = true ∧ Kn 83 [(1, .pointer (some ⟨b1, 0, none⟩)), (2, .pointer (some ⟨b2, 0, none⟩)), (3, .pointer (some ⟨b3, 0, none⟩))] a ∧ Mem w0 Nob Y [.rep (if (t.at_ 6).z then .v (.slice none 0 0) else .sl true 7 ((t.at_ 6).l.map (ddS sch_sDescribeGroupsResponseGroupMember true))) [v], .rep (ddT (t.at_ 5)) [.int .i64 (((t.at_ 5)).n), cs7, .bool (((t.at_ 5)).z), .slice p7 (((t.at_ 5)).l.length) cap7, cu7], .rep (ddT (t.at_ 4)) [.int .i64 (((t.at_ 4)).n), cs6, .bool (((t.at_ 4)).z), .slice p6 (((t.at_ 4)).l.length) cap6, cu6], .rep (ddT (t.at_ 3)) [.int .i64 (((t.at_ 3)).n), cs5, .bool (((t.at_ 3)).z), .slice p5 (((t.at_ 3)).l.length) cap5, cu5], .rep (ddT (t.at_ 2)) [.int .i64 (((t.at_ 2)).n), cs4, .bool (((t.at_ 2)).z), .slice p4 (((t.at_ 2)).l.length) cap4, cu4], .rep (ddVal 8 0 (fun _ => .agg []) (t.at_ 1)) [v3], .rep (ddT (t.at_ 1)) [.int .i64 (((t.at_ 1)).n), cs2, .bool (((t.at_ 1)).z), .slice p2 (((t.at_ 1)).l.length) cap2, cu2], .rep (ddT (t.at_ 0)) [.int .i64 (((t.at_ 0)).n), cs1, .bool (((t.at_ 0)).z), .slice p1 (((t.at_ 0)).l.length) cap1, cu1], .blk b3 [.int .i16 (IntKind.i16.wrap (((t.at_ 0)).n)), v3, .string (bs ((t.at_ 2)).s), .string (bs ((t.at_ 3)).s), .string (bs ((t.at_ 4)).s), .string (bs ((t.at_ 5)).s), v, .int .i32 0, .map none] 113, .blk b2 [.int .i16 0, .pointer none, .string .empty, .string .empty, .string .empty, .string .empty, .slice none 0 0, .int .i32 0, .map none] 113, .blk b1 [.int .i64 t.n, cs, .bool t.z, .slice p t.l.length cap, .slice pu t.u.length capu] 39, .rep (ddT t) [.int .i64 t.n, cs, .bool t.z, .slice p t.l.length cap, .slice pu t.u.length capu]] w) ?_ (fun a w hJ => ?_)
  · refine c_region ?_
    refine o_loadN (cs := [.int .i64 t.n, cs, .bool t.z, .slice p t.l.length cap, .slice pu t.u.length capu]) hk ts_39 rfl (hm.cells_blk (i := 9) rfl rfl) rfl fun a hk => ?_
    refine o_call hk cb_38 (at_impl (t := t) 6 (hm.rep (i := 10) rfl)) ⟨rfl, rfl, trivial⟩ rfl fun v w a hR hk => ?_
    obtain ⟨hp, c8, rfl, hR⟩ := hR
    obtain ⟨cs8, p8, cap8, cu8, rfl⟩ := rep_T5 hR
    have hm := hm.result hp hR
    refine o_field hk ff_39_2 rfl rfl rfl fun a hk => ?_
    refine o_not hk rfl rfl fun a hk => ?_
    refine c_end ?_
    refine c_cond hk rfl (fun hc => ?_) (fun hc => ?_)
    · have hz : (t.at_ 6).z = false := by simpa using hc
      refine c_region ?_
      refine o_loadN (cs := [.int .i64 t.n, cs, .bool t.z, .slice p t.l.length cap, .slice pu t.u.length capu]) hk ts_39 rfl (hm.cells_blk (i := 10) rfl rfl) rfl fun a hk => ?_
      refine o_call hk cb_38 (at_impl (t := t) 6 (hm.rep (i := 11) rfl)) ⟨rfl, rfl, trivial⟩ rfl fun v w a hR hk => ?_
      obtain ⟨hp, c9, rfl, hR⟩ := hR
      obtain ⟨cs9, p9, cap9, cu9, rfl⟩ := rep_T5 hR
      have hm := hm.result hp hR
      refine o_field hk ff_39_3 rfl rfl rfl fun a hk => ?_
      refine o_lenSlice hk te_36 rfl rfl fun a hk => ?_
      have hsb4 := (small_spec (small_at hsm 6)).2.1
      refine o_make0 (cap := ((t.at_ 6)).l.length) hk hm rt_111 tz_118 rfl (by unfold maxLen; omega) (by omega) rfl fun a b4 w hbb4 hk hm => ?_
      refine o_fieldAddr hk fo_113_6 rfl rfl fun a hk => ?_
      refine o_store (i := 10) hk hm ts_111 rfl rfl rfl rfl rfl rfl (Nat.le_of_ble_eq_true rfl) fun a w hk hm => ?_
      refine c_end ?_
      refine c_region ?_
      refine o_loadN (cs := [.int .i64 t.n, cs, .bool t.z, .slice p t.l.length cap, .slice pu t.u.length capu]) hk ts_39 rfl (hm.cells_blk (i := 12) rfl rfl) rfl fun a hk => ?_
      refine o_call hk cb_38 (at_impl (t := t) 6 (hm.rep (i := 13) rfl)) ⟨rfl, rfl, trivial⟩ rfl fun v w a hR hk => ?_
      obtain ⟨hp, c10, rfl, hR⟩ := hR
      obtain ⟨cs10, p10, cap10, cu10, rfl⟩ := rep_T5 hR
      have hm := hm.result hp hR
      refine o_field hk ff_39_3 rfl rfl rfl fun a hk => ?_
      refine o_lenSlice hk te_36 rfl rfl fun a hk => ?_
      refine o_move hk rfl rfl fun a hk => ?_
      refine c_end ?_
      have hm := hm.addEls 7
      have hN := (small_spec (small_at hsm 6)).2.1
      refine c_range (L0 := [(1, .pointer (some ⟨b1, 0, none⟩)), (2, .pointer (some ⟨b2, 0, none⟩)), (3, .pointer (some ⟨b3, 0, none⟩)), (49, .slice p10 (((t.at_ 6)).l.length) cap10)]) (N := ((t.at_ 6)).l.length) (by omega) (fun k L w => ∃ vr xs, L = [(1, .pointer (some ⟨b1, 0, none⟩)), (2, .pointer (some ⟨b2, 0, none⟩)), (3, .pointer (some ⟨b3, 0, none⟩)), (49, .slice p10 (((t.at_ 6)).l.length) cap10)] ∧ vr ≠ .slice none 0 0 ∧ Mem w0 Nob Y [.els 7 ((((t.at_ 6)).l.take k).map (ddS sch_sDescribeGroupsResponseGroupMember true)) xs, .rep (ddT (t.at_ 6)) [.int .i64 (((t.at_ 6)).n), cs10, .bool (((t.at_ 6)).z), .slice p10 (((t.at_ 6)).l.length) cap10, cu10], .row 118 7 vr k xs, .rep (ddT (t.at_ 6)) [.int .i64 (((t.at_ 6)).n), cs9, .bool (((t.at_ 6)).z), .slice p9 (((t.at_ 6)).l.length) cap9, cu9], .rep (ddT (t.at_ 6)) [.int .i64 (((t.at_ 6)).n), cs8, .bool (((t.at_ 6)).z), .slice p8 (((t.at_ 6)).l.length) cap8, cu8], .rep (ddT (t.at_ 5)) [.int .i64 (((t.at_ 5)).n), cs7, .bool (((t.at_ 5)).z), .slice p7 (((t.at_ 5)).l.length) cap7, cu7], .rep (ddT (t.at_ 4)) [.int .i64 (((t.at_ 4)).n), cs6, .bool (((t.at_ 4)).z), .slice p6 (((t.at_ 4)).l.length) cap6, cu6], .rep (ddT (t.at_ 3)) [.int .i64 (((t.at_ 3)).n), cs5, .bool (((t.at_ 3)).z), .slice p5 (((t.at_ 3)).l.length) cap5, cu5], .rep (ddT (t.at_ 2)) [.int .i64 (((t.at_ 2)).n), cs4, .bool (((t.at_ 2)).z), .slice p4 (((t.at_ 2)).l.length) cap4, cu4], .rep (ddVal 8 0 (fun _ => .agg []) (t.at_ 1)) [v3], .rep (ddT (t.at_ 1)) [.int .i64 (((t.at_ 1)).n), cs2, .bool (((t.at_ 1)).z), .slice p2 (((t.at_ 1)).l.length) cap2, cu2], .rep (ddT (t.at_ 0)) [.int .i64 (((t.at_ 0)).n), cs1, .bool (((t.at_ 0)).z), .slice p1 (((t.at_ 0)).l.length) cap1, cu1], .blk b3 [.int .i16 (IntKind.i16.wrap (((t.at_ 0)).n)), v3, .string (bs ((t.at_ 2)).s), .string (bs ((t.at_ 3)).s), .string (bs ((t.at_ 4)).s), .string (bs ((t.at_ 5)).s), vr, .int .i32 0, .map none] 113, .blk b2 [.int .i16 0, .pointer none, .string .empty, .string .empty, .string .empty, .string .empty, .slice none 0 0, .int .i32 0, .map none] 113, .blk b1 [.int .i64 t.n, cs, .bool t.z, .slice p t.l.length cap, .slice pu t.u.length capu] 39, .rep (ddT t) [.int .i64 t.n, cs, .bool t.z, .slice p t.l.length cap, .slice pu t.u.length capu]] w) (hk.sub ⟨rfl, rfl, rfl, rfl, rfl, rfl, trivial⟩) ⟨_, _, rfl, by simp, hm⟩ rfl rfl rfl rfl rfl rfl rfl (fun k L a w hlt hR hk => ?_) rfl (fun L a w hR hk => ?_)
      · obtain ⟨vr, xs, rfl, hnn, hm⟩ := hR
        obtain ⟨_, bl, off, c11, hpl, hl11, hR11, hC11⟩ := rep_sl_get (rep_T_l (hm.rep (i := 1) rfl)) (getD_map ddT ((t.at_ 6)).l k T.nil hlt)
        obtain ⟨cs11, p11, cap11, cu11, rfl⟩ := rep_T5 hR11
        have hm := hm.add (e := .rep (ddT ((t.at_ 6).l.getD k T.nil)) [.int .i64 ((((t.at_ 6).l.getD k T.nil)).n), cs11, .bool ((((t.at_ 6).l.getD k T.nil)).z), .slice p11 ((((t.at_ 6).l.getD k T.nil)).l.length) cap11, cu11]) rfl hR11
        refine c_region ?_
        refine o_indexAddr (j := k) (b := bl) (off := off) hk te_36 ts_39 (by rw [← hpl]; rfl) rfl hlt rfl fun a hk => ?_
        refine o_loadN (cs := [.int .i64 ((((t.at_ 6).l.getD k T.nil)).n), cs11, .bool ((((t.at_ 6).l.getD k T.nil)).z), .slice p11 ((((t.at_ 6).l.getD k T.nil)).l.length) cap11, cu11]) hk ts_39 rfl (hC11.at_) rfl fun a hk => ?_
        refine o_alloc hk hm tz_39 rfl rfl fun a b5 w hk hm => ?_
        refine o_store (i := 0) hk hm ts_39 rfl rfl rfl rfl (rep_T_one hR11) rfl (Nat.le_of_ble_eq_true rfl) fun a w hk hm => ?_
        refine c_end ?_
        refine d_startM (K := 5) mixed hm fun w hm => ?_
        refine d_take (i := 0) rfl rfl rfl (by kernel_rfl) (fun _ _ _ h => h) hk rfl (fun w hm => r_fieldAddr hk fo_113_6 rfl) hm fun a hk => ?_
        refine d_take (i := 1) rfl rfl rfl (by kernel_rfl) (fun _ _ _ h => h) hk rfl (fun w hm => r_load1 hk ts_111 rfl (hm.cell_blk (i := 14) rfl rfl)) hm fun a hk => ?_
        refine d_one (k := 2) (by kernel_rfl) rfl rfl ?_
        refine o_loadN (cs := [.int .i64 ((((t.at_ 6).l.getD k T.nil)).n), cs11, .bool ((((t.at_ 6).l.getD k T.nil)).z), .slice p11 ((((t.at_ 6).l.getD k T.nil)).l.length) cap11, cu11]) hk ts_39 rfl (hm.cells_blk (i := 0) rfl rfl) rfl fun a hk => ?_
        refine c_endQ (c_then ⟨fun _ => hm, ?_⟩)
        refine d_one (k := 3) (by kernel_rfl) rfl rfl ?_
        refine o_call hk cb_80 (make_DescribeGroupsResponseGroupMember (t := ((t.at_ 6).l.getD k T.nil)) (hm.rep (i := 1) rfl) (small_getD (small_at hsm 6) k) (oct_list (oct_at (hoc) 6 (by decide)) k)) ⟨rfl, trivial⟩ rfl fun v w a hR hk => ?_
        obtain ⟨hp, c12, rfl, hl12, ho12, hR⟩ := hR
        have hm := hm.result hp hR
        refine c_endQ (c_then ⟨fun _ => hm.tail, ?_⟩)
        refine d_one (k := 4) (by kernel_rfl) rfl rfl ?_
        refine o_build1 (c := c12) hk hm rt_111 rfl rfl hl12 rfl rfl rfl fun a b6 w hk hm => ?_
        refine c_endQ (c_then ⟨fun _ => hm.tail.tail, ?_⟩)
        refine d_one (k := 5) (by kernel_rfl) rfl rfl ?_
        refine o_append (i := 6) hk hm rt_111 rfl rfl rfl (src_cells (k := 1) (news := c12) te_111 (by rw [hl12]) (hm.cells_blk (i := 0) rfl (by simp)) ho12) (by unfold maxLen; omega) (by omega) rfl fun a v7 w hk hm hnilv7 => ?_
        refine c_endQ (c_then ⟨fun h => Bool.noConfusion (show true = false from h), ?_⟩)
        refine d_one (k := 6) (by kernel_rfl) rfl rfl ?_
        refine o_fieldAddr hk fo_113_6 rfl rfl fun a hk => ?_
        refine c_endQ (c_then ⟨fun h => Bool.noConfusion (show true = false from h), ?_⟩)
        refine d_one (k := 7) (by kernel_rfl) rfl rfl ?_
        refine o_store (i := 16) hk hm ts_111 rfl rfl (cells1 (row_one (hm.row (i := 6) rfl))) rfl (one1 (row_one (hm.row (i := 6) rfl))) rfl (Nat.le_of_ble_eq_true rfl) fun a w hk hm => ?_
        refine c_endQ (c_then ⟨fun h => Bool.noConfusion (show true = false from h), ?_⟩)
        refine d_done (by kernel_rfl) ?_ _
        refine c_inNormal ?_
        have hm := hm.elsPush (i := 4) (d := (ddS sch_sDescribeGroupsResponseGroupMember true ((t.at_ 6).l.getD k T.nil))) rfl (hm.rep (i := 1) rfl) (by rw [hl12])
        rw [← take_succ_map (ddS sch_sDescribeGroupsResponseGroupMember true) ((t.at_ 6)).l k T.nil hlt] at hm
        have hm := hm.tail
        have hm := hm.tail
        have hm := hm.tail
        have hm := hm.tail
        refine c_round (L' := [(1, .pointer (some ⟨b1, 0, none⟩)), (2, .pointer (some ⟨b2, 0, none⟩)), (3, .pointer (some ⟨b3, 0, none⟩)), (49, .slice p10 (((t.at_ 6)).l.length) cap10)]) hk ⟨rfl, rfl, rfl, rfl, rfl, rfl, trivial⟩ rfl ⟨_, _, rfl, fun e => hnn (hnilv7.1 e).1, hm⟩
      · obtain ⟨vl8, xsvl8, rfl, hnnvl8, hm⟩ := hR
        have hovl8 := row_one (hm.row (i := 2) rfl)
        have hm := hm.freezeRow (i := 2) (st := true) rfl (noX _) (hm.els (i := 0) rfl) (by rw [List.length_map, List.length_take]; omega) (fun h => absurd h hnnvl8)
        rw [List.take_length] at hm
        refine c_then ⟨vl8, hovl8, hk.sub ⟨rfl, rfl, rfl, trivial⟩, ?_⟩
        rw [hz]; exact hm.pick [2, 5, 6, 7, 8, 9, 10, 11, 12, 13, 14, 15] rfl rfl
    · have hz : (t.at_ 6).z = true := by simpa using hc
      refine wp_skip ?_
      have hm := hm.addV (.slice none 0 0)
      refine c_then ⟨.slice none 0 0, rfl, hk.sub ⟨rfl, rfl, rfl, trivial⟩, ?_⟩
      rw [hz]; exact hm.pick [0, 2, 3, 4, 5, 6, 7, 8, 9, 10, 11, 12] rfl rfl
  obtain ⟨vj6, ho6, hk, hm⟩ := hJ
  refine c_region ?_
  refine o_loadN (cs := [.int .i64 t.n, cs, .bool t.z, .slice p t.l.length cap, .slice pu t.u.length capu]) hk ts_39 rfl (hm.cells_blk (i := 10) rfl rfl) rfl fun a hk => ?_
  refine o_call hk cb_38 (at_impl (t := t) 7 (hm.rep (i := 11) rfl)) ⟨rfl, rfl, trivial⟩ rfl fun v w a hR hk => ?_
  obtain ⟨hp, c13, rfl, hR⟩ := hR
  obtain ⟨cs13, p13, cap13, cu13, rfl⟩ := rep_T5 hR
  have hm := hm.result hp hR
  refine o_field hk ff_39_0 rfl rfl rfl fun a hk => ?_
  refine o_convInt (c := IntKind.i32.wrap (((t.at_ 7)).n)) hk un_2 ti_21 rfl rfl rfl fun a hk => ?_
  refine o_fieldAddr hk fo_113_7 rfl rfl fun a hk => ?_
  refine o_store (i := 9) hk hm ts_21 rfl rfl rfl rfl rfl rfl (Nat.le_of_ble_eq_true rfl) fun a w hk hm => ?_
  refine c_end ?_
  refine wp_seq ?_
  refine c_region ?_
  refine o_fieldAddr hk fo_39_4 rfl rfl fun a hk => ?_
  refine o_load hk ts_37 rfl (hm.cell_blk (i := 11) rfl rfl) rfl fun a hk => ?_
  refine o_lenSlice hk te_37 rfl rfl fun a hk => ?_
  refine o_move hk rfl rfl fun a hk => ?_
  refine c_end ?_
  have hm := hm.addMap0
  have hm := hm.addEls 1
  have hrs := small_rising hsm
  have hN := (small_spec (hsm)).2.2.1
  refine c_range (L0 := [(2, .pointer (some ⟨b2, 0, none⟩)), (3, .pointer (some ⟨b3, 0, none⟩)), (69, .slice pu t.u.length capu)]) (N := t.u.length) (by omega) (fun k L w => ∃ pm vs, L = [(2, .pointer (some ⟨b2, 0, none⟩)), (3, .pointer (some ⟨b3, 0, none⟩)), (69, .slice pu t.u.length capu)] ∧ Mem w0 Nob Y [.els 1 ((t.u.take k).map ddTagV) vs, .mapb pm ((t.u.take k).map Prod.fst) vs, .rep (ddT (t.at_ 7)) [.int .i64 (((t.at_ 7)).n), cs13, .bool (((t.at_ 7)).z), .slice p13 (((t.at_ 7)).l.length) cap13, cu13], .rep (if (t.at_ 6).z then .v (.slice none 0 0) else .sl true 7 ((t.at_ 6).l.map (ddS sch_sDescribeGroupsResponseGroupMember true))) [vj6], .rep (ddT (t.at_ 5)) [.int .i64 (((t.at_ 5)).n), cs7, .bool (((t.at_ 5)).z), .slice p7 (((t.at_ 5)).l.length) cap7, cu7], .rep (ddT (t.at_ 4)) [.int .i64 (((t.at_ 4)).n), cs6, .bool (((t.at_ 4)).z), .slice p6 (((t.at_ 4)).l.length) cap6, cu6], .rep (ddT (t.at_ 3)) [.int .i64 (((t.at_ 3)).n), cs5, .bool (((t.at_ 3)).z), .slice p5 (((t.at_ 3)).l.length) cap5, cu5], .rep (ddT (t.at_ 2)) [.int .i64 (((t.at_ 2)).n), cs4, .bool (((t.at_ 2)).z), .slice p4 (((t.at_ 2)).l.length) cap4, cu4], .rep (ddVal 8 0 (fun _ => .agg []) (t.at_ 1)) [v3], .rep (ddT (t.at_ 1)) [.int .i64 (((t.at_ 1)).n), cs2, .bool (((t.at_ 1)).z), .slice p2 (((t.at_ 1)).l.length) cap2, cu2], .rep (ddT (t.at_ 0)) [.int .i64 (((t.at_ 0)).n), cs1, .bool (((t.at_ 0)).z), .slice p1 (((t.at_ 0)).l.length) cap1, cu1], .blk b3 [.int .i16 (IntKind.i16.wrap (((t.at_ 0)).n)), v3, .string (bs ((t.at_ 2)).s), .string (bs ((t.at_ 3)).s), .string (bs ((t.at_ 4)).s), .string (bs ((t.at_ 5)).s), vj6, .int .i32 (IntKind.i32.wrap (((t.at_ 7)).n)), .map pm] 113, .blk b2 [.int .i16 0, .pointer none, .string .empty, .string .empty, .string .empty, .string .empty, .slice none 0 0, .int .i32 0, .map none] 113, .blk b1 [.int .i64 t.n, cs, .bool t.z, .slice p t.l.length cap, .slice pu t.u.length capu] 39, .rep (ddT t) [.int .i64 t.n, cs, .bool t.z, .slice p t.l.length cap, .slice pu t.u.length capu]] w) (hk.sub ⟨rfl, rfl, rfl, rfl, rfl, trivial⟩) ⟨none, [], rfl, hm⟩ rfl rfl rfl rfl rfl rfl rfl (fun k L a w hlt hR hk => ?_) rfl (fun L a w hR hk => ?_)
  · obtain ⟨pm, vs, rfl, hm⟩ := hR
    obtain ⟨hlt2, blt, offt, et, hpt, hlet, hRt, hCt⟩ := rep_sl_get (rep_T_u (hm.rep (i := 14) rfl)) (getD_map ddTag t.u k (0, []) hlt)
    obtain ⟨ptt, captt, rfl, hRt2⟩ := rep_Tag hRt
    have hm := hm.add (e := .rep (ddTag (t.u.getD k (0, []))) [.int .u32 (((t.u.getD k (0, [])).1 : Nat) : Int), .slice ptt ((t.u.getD k (0, [])).2.length) captt]) rfl hRt
    refine c_region ?_
    refine o_indexAddr (j := k) (b := blt) (off := offt) hk te_37 ts_68 (by rw [← hpt]; rfl) rfl hlt2 rfl fun a hk => ?_
    refine o_loadN (cs := [.int .u32 (((t.u.getD k (0, [])).1 : Nat) : Int), .slice ptt ((t.u.getD k (0, [])).2.length) captt]) hk ts_68 rfl (hCt.at_) rfl fun a hk => ?_
    refine o_alloc hk hm tz_68 rfl rfl fun a b9 w hk hm => ?_
    refine o_store (i := 0) hk hm ts_68 rfl rfl rfl rfl rfl rfl (Nat.le_of_ble_eq_true rfl) fun a w hk hm => ?_
    refine c_end ?_
    refine c_reg ?_
    refine o_fieldAddr hk fo_113_8 rfl rfl fun a hk => ?_
    refine o_fieldAddr hk fo_68_0 rfl rfl fun a hk => ?_
    refine o_load hk ts_65 rfl (hm.cell_blk (i := 0) rfl rfl) rfl fun a hk => ?_
    refine o_fieldAddr hk fo_68_1 rfl rfl fun a hk => ?_
    refine o_load hk ts_22 rfl (hm.cell_blk (i := 0) rfl rfl) rfl fun a hk => ?_
    refine o_call hk cb_43 (tagsSet_c (key := (t.u.getD k (0, [])).1) (hm.blkAt (i := 13) rfl) rfl (hm.mapOr (i := 3) rfl)) ⟨rfl, rfl, rfl, trivial⟩ rfl fun v w a hR hk => ?_
    obtain ⟨hp, rr, hb1, hM1, hr1⟩ := hR
    have hm := hm.setTags (i := 13) (j := 3) rfl rfl hp hb1 hM1 hr1
    rw [setV_rising hrs hlt] at hm
    have hm := hm.elsPush (i := 2) (d := ddTagV (t.u.getD k (0, []))) rfl (rep_Tag2 (hm.rep (i := 1) rfl)) rfl
    rw [← take_succ_map ddTagV t.u k (0, []) hlt] at hm
    refine c_endQ ?_
    refine c_inNormal ?_
    exact c_round (L' := [(2, .pointer (some ⟨b2, 0, none⟩)), (3, .pointer (some ⟨b3, 0, none⟩)), (69, .slice pu t.u.length capu)]) hk ⟨rfl, rfl, rfl, rfl, rfl, trivial⟩ rfl ⟨_, _, rfl, hm.tail.tail⟩
  · obtain ⟨pm, vs, rfl, hm⟩ := hR
    rw [List.take_length] at hm
    have hm := hm.freezeMap (i := 1) rfl (fun _ _ h => h) (hm.els (i := 0) rfl)
    refine c_then ?_
    refine c_region ?_
    refine o_loadN (cs := [.int .i16 (IntKind.i16.wrap (((t.at_ 0)).n)), v3, .string (bs ((t.at_ 2)).s), .string (bs ((t.at_ 3)).s), .string (bs ((t.at_ 4)).s), .string (bs ((t.at_ 5)).s), vj6, .int .i32 (IntKind.i32.wrap (((t.at_ 7)).n)), .map pm]) hk ts_113 rfl (hm.cells_blk (i := 11) rfl rfl) rfl fun a hk => ?_
    refine o_store (i := 12) hk hm ts_113 rfl rfl rfl rfl (one_cons rfl (one_cons ho3 (one_cons rfl (one_cons rfl (one_cons rfl (one_cons rfl (one_cons ho6 (one_cons rfl (one_cons rfl rfl))))))))) rfl (Nat.le_of_ble_eq_true rfl) fun a w hk hm => ?_
    refine c_end ?_
    refine wp_ret ?_
    refine b_retCell (i := 12) (cs := [.int .i16 (IntKind.i16.wrap (((t.at_ 0)).n)), v3, .string (bs ((t.at_ 2)).s), .string (bs ((t.at_ 3)).s), .string (bs ((t.at_ 4)).s), .string (bs ((t.at_ 5)).s), vj6, .int .i32 (IntKind.i32.wrap (((t.at_ 7)).n)), .map pm]) rfl ts_113 hk hm rfl rfl ?_
    refine ⟨hm.agr, _, rfl, rfl, (one_cons rfl (one_cons ho3 (one_cons rfl (one_cons rfl (one_cons rfl (one_cons rfl (one_cons ho6 (one_cons rfl (one_cons rfl rfl))))))))), ?_⟩
    refine hm.out ?_
    rw [dd_sDescribeGroupsResponseGroup]
    refine rep_agg ?_
    exact RepL.cons1 (rep_v _) (RepL.cons1 (hm.rep (i := 8) rfl) (RepL.cons1 (rep_v _) (RepL.cons1 (rep_v _) (RepL.cons1 (rep_v _) (RepL.cons1 (rep_v _) (RepL.cons1 (hm.rep (i := 3) rfl) (RepL.cons1 (rep_v _) (RepL.cons1 (hm.rep (i := 1) rfl) (RepL.nil)))))))))
theorem dd_DescribeGroupsResponse (t : T) : ddS sch_DescribeGroupsResponse true t = .agg [.v (.int .i32 (IntKind.i32.wrap (t.at_ 0).n)), if (t.at_ 1).z then .v (.slice none 0 0) else .sl true 9 ((t.at_ 1).l.map (ddS sch_sDescribeGroupsResponseGroup true)), ddTagMap t.u] := rfl
theorem fill_DescribeGroupsResponse {w0 : World} {Y : Nat → Prop} {t : T} {ct : List Value} {g : Nat} {V : Int} (hb : w0.heap[g]? = some (.cells [.int .i16 V, .int .i32 0, .slice none 0 0, .map none].toArray 77 (0, 0))) (hg : Y g) (hT : Rep w0 Y (ddT t) ct) (hsm : t.small = true) (hoc : octFs sch_DescribeGroupsResponse t.l 0 = true) : Ret Try.prog 34 [.pointer (some ⟨g, 0, none⟩), .agg ct.toArray] w0 fun _ w' => Agr (fun k => k = g) w0 w' ∧ ∃ c', w'.heap[g]? = some (.cells (.int .i16 V :: c').toArray 77 (0, 0)) ∧ Rep w' (fun b => b < w0.heap.size ∧ Y b) (ddS sch_DescribeGroupsResponse true t) c' := by
  have _hsm := hsm
  obtain ⟨cs, p, cap, pu, capu, rfl⟩ := rep_T6 hT
  refine c_call Try.func34 rfl rfl fun a hk => ?_
  have hk : Kn 63 [(0, .pointer (some ⟨g, 0, none⟩)), (1, .agg #[.int .i64 t.n, cs, .bool t.z, .slice p t.l.length cap, .slice pu t.u.length capu])] a := hk
  have hm : Mem w0 (fun k => k = g) Y [.blk g [.int .i16 V, .int .i32 0, .slice none 0 0, .map none] 77, .rep (ddT t) [.int .i64 t.n, cs, .bool t.z, .slice p t.l.length cap, .slice pu t.u.length capu]] w0 := Mem.startBlk hb hg rfl (by simp only [List.forall_mem_cons, List.not_mem_nil, false_imp_iff, implies_true, and_true]; exact hT)
  refine c_region ?_
  refine o_box hk hm rfl rfl rfl fun a b1 w hk hm => ?_
  refine c_end ?_
  refine c_region ?_
  refine o_move hk rfl rfl fun a hk => ?_
  refine o_loadN (cs := [.int .i64 t.n, cs, .bool t.z, .slice p t.l.length cap, .slice pu t.u.length capu]) hk ts_39 rfl (hm.cells_blk (i := 0) rfl rfl) rfl fun a hk => ?_
  refine o_call hk cb_38 (at_impl (t := t) 0 (hm.rep (i := 2) rfl)) ⟨rfl, rfl, trivial⟩ rfl fun v w a hR hk => ?_
  obtain ⟨hp, c1, rfl, hR⟩ := hR
  obtain ⟨cs1, p1, cap1, cu1, rfl⟩ := rep_T5 hR
  have hm := hm.result hp hR
  refine o_field hk ff_39_0 rfl rfl rfl fun a hk => ?_
  refine o_convInt (c := IntKind.i32.wrap (((t.at_ 0)).n)) hk un_2 ti_21 rfl rfl rfl fun a hk => ?_
  refine o_nilCheck hk rfl rfl fun a hk => ?_
  refine o_fieldAddr hk fo_77_1 rfl rfl fun a hk => ?_
  refine o_store (i := 2) hk hm ts_21 rfl rfl rfl rfl rfl rfl (Nat.le_of_ble_eq_true rfl) fun a w hk hm => ?_
  refine c_end ?_
  refine c_cut (fun a w => ∃ v, v.oneCell' = true ∧ Kn 63 [(0, .pointer (some ⟨g, 0, none⟩)), (3, .pointer (some ⟨b1, 0, none⟩))] a ∧ Mem w0 (fun k => k = g) Y [.rep (if (t.at_ 1).z then .v (.slice none 0 0) else .sl true 9 ((t.at_ 1).l.map (ddS sch_sDescribeGroupsResponseGroup true))) [v], .rep (ddT (t.at_ 0)) [.int .i64 (((t.at_ 0)).n), cs1, .bool (((t.at_ 0)).z), .slice p1 (((t.at_ 0)).l.length) cap1, cu1], .blk b1 [.int .i64 t.n, cs, .bool t.z, .slice p t.l.length cap, .slice pu t.u.length capu] 39, .blk g [.int .i16 V, .int .i32 (IntKind.i32.wrap (((t.at_ 0)).n)), v, .map none] 77, .rep (ddT t) [.int .i64 t.n, cs, .bool t.z, .slice p t.l.length cap, .slice pu t.u.length capu]] w) ?_ (fun a w hJ => ?_)
  · refine c_region ?_
    refine o_loadN (cs := [.int .i64 t.n, cs, .bool t.z, .slice p t.l.length cap, .slice pu t.u.length capu]) hk ts_39 rfl (hm.cells_blk (i := 1) rfl rfl) rfl fun a hk => ?_
    refine o_call hk cb_38 (at_impl (t := t) 1 (hm.rep (i := 3) rfl)) ⟨rfl, rfl, trivial⟩ rfl fun v w a hR hk => ?_
    obtain ⟨hp, c2, rfl, hR⟩ := hR
    obtain ⟨cs2, p2, cap2, cu2, rfl⟩ := rep_T5 hR
    have hm := hm.result hp hR
    refine o_field hk ff_39_2 rfl rfl rfl fun a hk => ?_
    refine o_not hk rfl rfl fun a hk => ?_
    refine c_end ?_
    refine c_cond hk rfl (fun hc => ?_) (fun hc => ?_)
    · have hz : (t.at_ 1).z = false := by simpa using hc
      refine c_region ?_
      refine o_move hk rfl rfl fun a hk => ?_
      refine o_loadN (cs := [.int .i64 t.n, cs, .bool t.z, .slice p t.l.length cap, .slice pu t.u.length capu]) hk ts_39 rfl (hm.cells_blk (i := 2) rfl rfl) rfl fun a hk => ?_
      refine o_call hk cb_38 (at_impl (t := t) 1 (hm.rep (i := 4) rfl)) ⟨rfl, rfl, trivial⟩ rfl fun v w a hR hk => ?_
      obtain ⟨hp, c3, rfl, hR⟩ := hR
      obtain ⟨cs3, p3, cap3, cu3, rfl⟩ := rep_T5 hR
      have hm := hm.result hp hR
      refine o_field hk ff_39_3 rfl rfl rfl fun a hk => ?_
      refine o_lenSlice hk te_36 rfl rfl fun a hk => ?_
      have hsb2 := (small_spec (small_at hsm 1)).2.1
      refine o_make0 (cap := ((t.at_ 1)).l.length) hk hm rt_75 tz_113 rfl (by unfold maxLen; omega) (by omega) rfl fun a b2 w hbb2 hk hm => ?_
      refine o_nilCheck hk rfl rfl fun a hk => ?_
      refine o_fieldAddr hk fo_77_2 rfl rfl fun a hk => ?_
      refine o_store (i := 5) hk hm ts_75 rfl rfl rfl rfl rfl rfl (Nat.le_of_ble_eq_true rfl) fun a w hk hm => ?_
      refine c_end ?_
      refine c_region ?_
      refine o_loadN (cs := [.int .i64 t.n, cs, .bool t.z, .slice p t.l.length cap, .slice pu t.u.length capu]) hk ts_39 rfl (hm.cells_blk (i := 4) rfl rfl) rfl fun a hk => ?_
      refine o_call hk cb_38 (at_impl (t := t) 1 (hm.rep (i := 6) rfl)) ⟨rfl, rfl, trivial⟩ rfl fun v w a hR hk => ?_
      obtain ⟨hp, c4, rfl, hR⟩ := hR
      obtain ⟨cs4, p4, cap4, cu4, rfl⟩ := rep_T5 hR
      have hm := hm.result hp hR
      refine o_field hk ff_39_3 rfl rfl rfl fun a hk => ?_
      refine o_lenSlice hk te_36 rfl rfl fun a hk => ?_
      refine o_move hk rfl rfl fun a hk => ?_
      refine c_end ?_
      have hm := hm.addEls 9
      have hN := (small_spec (small_at hsm 1)).2.1
      refine c_range (L0 := [(0, .pointer (some ⟨g, 0, none⟩)), (3, .pointer (some ⟨b1, 0, none⟩)), (29, .slice p4 (((t.at_ 1)).l.length) cap4)]) (N := ((t.at_ 1)).l.length) (by omega) (fun k L w => ∃ vr xs, L = [(0, .pointer (some ⟨g, 0, none⟩)), (3, .pointer (some ⟨b1, 0, none⟩)), (29, .slice p4 (((t.at_ 1)).l.length) cap4)] ∧ vr ≠ .slice none 0 0 ∧ Mem w0 (fun k => k = g) Y [.els 9 ((((t.at_ 1)).l.take k).map (ddS sch_sDescribeGroupsResponseGroup true)) xs, .rep (ddT (t.at_ 1)) [.int .i64 (((t.at_ 1)).n), cs4, .bool (((t.at_ 1)).z), .slice p4 (((t.at_ 1)).l.length) cap4, cu4], .row 113 9 vr k xs, .rep (ddT (t.at_ 1)) [.int .i64 (((t.at_ 1)).n), cs3, .bool (((t.at_ 1)).z), .slice p3 (((t.at_ 1)).l.length) cap3, cu3], .rep (ddT (t.at_ 1)) [.int .i64 (((t.at_ 1)).n), cs2, .bool (((t.at_ 1)).z), .slice p2 (((t.at_ 1)).l.length) cap2, cu2], .rep (ddT (t.at_ 0)) [.int .i64 (((t.at_ 0)).n), cs1, .bool (((t.at_ 0)).z), .slice p1 (((t.at_ 0)).l.length) cap1, cu1], .blk b1 [.int .i64 t.n, cs, .bool t.z, .slice p t.l.length cap, .slice pu t.u.length capu] 39, .blk g [.int .i16 V, .int .i32 (IntKind.i32.wrap (((t.at_ 0)).n)), vr, .map none] 77, .rep (ddT t) [.int .i64 t.n, cs, .bool t.z, .slice p t.l.length cap, .slice pu t.u.length capu]] w) (hk.sub ⟨rfl, rfl, rfl, rfl, rfl, trivial⟩) ⟨_, _, rfl, by simp, hm⟩ rfl rfl rfl rfl rfl rfl rfl (fun k L a w hlt hR hk => ?_) rfl (fun L a w hR hk => ?_)
      · obtain ⟨vr, xs, rfl, hnn, hm⟩ := hR
        obtain ⟨_, bl, off, c5, hpl, hl5, hR5, hC5⟩ := rep_sl_get (rep_T_l (hm.rep (i := 1) rfl)) (getD_map ddT ((t.at_ 1)).l k T.nil hlt)
        obtain ⟨cs5, p5, cap5, cu5, rfl⟩ := rep_T5 hR5
        have hm := hm.add (e := .rep (ddT ((t.at_ 1).l.getD k T.nil)) [.int .i64 ((((t.at_ 1).l.getD k T.nil)).n), cs5, .bool ((((t.at_ 1).l.getD k T.nil)).z), .slice p5 ((((t.at_ 1).l.getD k T.nil)).l.length) cap5, cu5]) rfl hR5
        refine c_region ?_
        refine o_indexAddr (j := k) (b := bl) (off := off) hk te_36 ts_39 (by rw [← hpl]; rfl) rfl hlt rfl fun a hk => ?_
        refine o_loadN (cs := [.int .i64 ((((t.at_ 1).l.getD k T.nil)).n), cs5, .bool ((((t.at_ 1).l.getD k T.nil)).z), .slice p5 ((((t.at_ 1).l.getD k T.nil)).l.length) cap5, cu5]) hk ts_39 rfl (hC5.at_) rfl fun a hk => ?_
        refine o_alloc hk hm tz_39 rfl rfl fun a b3 w hk hm => ?_
        refine o_store (i := 0) hk hm ts_39 rfl rfl rfl rfl (rep_T_one hR5) rfl (Nat.le_of_ble_eq_true rfl) fun a w hk hm => ?_
        refine c_end ?_
        refine d_startM (K := 8) mixed hm fun w hm => ?_
        refine d_take (i := 1) rfl rfl rfl (by kernel_rfl) (fun _ _ _ h => h) hk rfl (fun w hm => r_move hk rfl) hm fun a hk => ?_
        refine d_take (i := 2) rfl rfl rfl (by kernel_rfl) (fun _ _ _ h => h) hk rfl (fun w hm => r_nilCheck hk rfl) hm fun a hk => ?_
        refine d_take (i := 3) rfl rfl rfl (by kernel_rfl) (fun _ _ _ h => h) hk rfl (fun w hm => r_fieldAddr hk fo_77_2 rfl) hm fun a hk => ?_
        refine d_take (i := 4) rfl rfl rfl (by kernel_rfl) (fun _ _ _ h => h) hk rfl (fun w hm => r_load1 hk ts_75 rfl (hm.cell_blk (i := 9) rfl rfl)) hm fun a hk => ?_
        refine d_take (i := 5) rfl rfl rfl (by kernel_rfl) (fun _ _ _ h => h) hk rfl (fun w hm => r_loadN (cs := [.int .i64 ((((t.at_ 1).l.getD k T.nil)).n), cs5, .bool ((((t.at_ 1).l.getD k T.nil)).z), .slice p5 ((((t.at_ 1).l.getD k T.nil)).l.length) cap5, cu5]) hk ts_39 rfl (hm.cells_blk (i := 0) rfl rfl)) hm fun a hk => ?_
        refine d_takeF (i := 0) rfl rfl rfl (by kernel_rfl) (fun _ _ _ h => h) hk rfl (fun w => r_move hk rfl) (fun _ => hm) fun a hk => ?_
        refine d_one (k := 6) (by kernel_rfl) rfl rfl ?_
        refine o_call hk cb_68 (make_DescribeGroupsResponseGroup (t := ((t.at_ 1).l.getD k T.nil)) (hm.rep (i := 1) rfl) (small_getD (small_at hsm 1) k) (oct_list (oct_at (hoc) 1 (by decide)) k)) ⟨rfl, trivial⟩ rfl fun v w a hR hk => ?_
        obtain ⟨hp, c6, rfl, hl6, ho6, hR⟩ := hR
        have hm := hm.result hp hR
        refine c_endQ (c_then ⟨fun _ => hm.tail, ?_⟩)
        refine d_one (k := 7) (by kernel_rfl) rfl rfl ?_
        refine o_build1 (c := c6) hk hm rt_75 rfl rfl hl6 rfl rfl rfl fun a b4 w hk hm => ?_
        refine c_endQ (c_then ⟨fun _ => hm.tail.tail, ?_⟩)
        refine d_one (k := 8) (by kernel_rfl) rfl rfl ?_
        refine o_append (i := 6) hk hm rt_75 rfl rfl rfl (src_cells (k := 1) (news := c6) te_75 (by rw [hl6]) (hm.cells_blk (i := 0) rfl (by simp)) ho6) (by unfold maxLen; omega) (by omega) rfl fun a v5 w hk hm hnilv5 => ?_
        refine c_endQ (c_then ⟨fun h => Bool.noConfusion (show true = false from h), ?_⟩)
        refine d_one (k := 9) (by kernel_rfl) rfl rfl ?_
        refine o_nilCheck hk rfl rfl fun a hk => ?_
        refine c_endQ (c_then ⟨fun h => Bool.noConfusion (show true = false from h), ?_⟩)
        refine d_one (k := 10) (by kernel_rfl) rfl rfl ?_
        refine o_fieldAddr hk fo_77_2 rfl rfl fun a hk => ?_
        refine c_endQ (c_then ⟨fun h => Bool.noConfusion (show true = false from h), ?_⟩)
        refine d_one (k := 11) (by kernel_rfl) rfl rfl ?_
        refine o_store (i := 11) hk hm ts_75 rfl rfl (cells1 (row_one (hm.row (i := 6) rfl))) rfl (one1 (row_one (hm.row (i := 6) rfl))) rfl (Nat.le_of_ble_eq_true rfl) fun a w hk hm => ?_
        refine c_endQ (c_then ⟨fun h => Bool.noConfusion (show true = false from h), ?_⟩)
        refine d_done (by kernel_rfl) ?_ _
        refine c_inNormal ?_
        have hm := hm.elsPush (i := 4) (d := (ddS sch_sDescribeGroupsResponseGroup true ((t.at_ 1).l.getD k T.nil))) rfl (hm.rep (i := 1) rfl) (by rw [hl6])
        rw [← take_succ_map (ddS sch_sDescribeGroupsResponseGroup true) ((t.at_ 1)).l k T.nil hlt] at hm
        have hm := hm.tail
        have hm := hm.tail
        have hm := hm.tail
        have hm := hm.tail
        refine c_round (L' := [(0, .pointer (some ⟨g, 0, none⟩)), (3, .pointer (some ⟨b1, 0, none⟩)), (29, .slice p4 (((t.at_ 1)).l.length) cap4)]) hk ⟨rfl, rfl, rfl, rfl, rfl, trivial⟩ rfl ⟨_, _, rfl, fun e => hnn (hnilv5.1 e).1, hm⟩
      · obtain ⟨vl6, xsvl6, rfl, hnnvl6, hm⟩ := hR
        have hovl6 := row_one (hm.row (i := 2) rfl)
        have hm := hm.freezeRow (i := 2) (st := true) rfl (fun k hk => hm.rowNe (i := 2) (j := 7) rfl rfl (by decide) hk) (hm.els (i := 0) rfl) (by rw [List.length_map, List.length_take]; omega) (fun h => absurd h hnnvl6)
        rw [List.take_length] at hm
        refine c_then ⟨vl6, hovl6, hk.sub ⟨rfl, rfl, trivial⟩, ?_⟩
        rw [hz]; exact hm.pick [2, 5, 6, 7, 8] rfl rfl
    · have hz : (t.at_ 1).z = true := by simpa using hc
      refine wp_skip ?_
      have hm := hm.addV (.slice none 0 0)
      refine c_then ⟨.slice none 0 0, rfl, hk.sub ⟨rfl, rfl, trivial⟩, ?_⟩
      rw [hz]; exact hm.pick [0, 2, 3, 4, 5] rfl rfl
  obtain ⟨vj1, ho1, hk, hm⟩ := hJ
  refine c_region ?_
  refine o_fieldAddr hk fo_39_4 rfl rfl fun a hk => ?_
  refine o_load hk ts_37 rfl (hm.cell_blk (i := 2) rfl rfl) rfl fun a hk => ?_
  refine o_lenSlice hk te_37 rfl rfl fun a hk => ?_
  refine o_move hk rfl rfl fun a hk => ?_
  refine c_end ?_
  have hm := hm.addMap0
  have hm := hm.addEls 1
  have hrs := small_rising hsm
  have hN := (small_spec (hsm)).2.2.1
  refine c_range (L0 := [(0, .pointer (some ⟨g, 0, none⟩)), (48, .slice pu t.u.length capu)]) (N := t.u.length) (by omega) (fun k L w => ∃ pm vs, L = [(0, .pointer (some ⟨g, 0, none⟩)), (48, .slice pu t.u.length capu)] ∧ Mem w0 (fun k => k = g) Y [.els 1 ((t.u.take k).map ddTagV) vs, .mapb pm ((t.u.take k).map Prod.fst) vs, .rep (if (t.at_ 1).z then .v (.slice none 0 0) else .sl true 9 ((t.at_ 1).l.map (ddS sch_sDescribeGroupsResponseGroup true))) [vj1], .rep (ddT (t.at_ 0)) [.int .i64 (((t.at_ 0)).n), cs1, .bool (((t.at_ 0)).z), .slice p1 (((t.at_ 0)).l.length) cap1, cu1], .blk b1 [.int .i64 t.n, cs, .bool t.z, .slice p t.l.length cap, .slice pu t.u.length capu] 39, .blk g [.int .i16 V, .int .i32 (IntKind.i32.wrap (((t.at_ 0)).n)), vj1, .map pm] 77, .rep (ddT t) [.int .i64 t.n, cs, .bool t.z, .slice p t.l.length cap, .slice pu t.u.length capu]] w) (hk.sub ⟨rfl, rfl, rfl, rfl, trivial⟩) ⟨none, [], rfl, hm⟩ rfl rfl rfl rfl rfl rfl rfl (fun k L a w hlt hR hk => ?_) rfl (fun L a w hR hk => ?_)
  · obtain ⟨pm, vs, rfl, hm⟩ := hR
    obtain ⟨hlt2, blt, offt, et, hpt, hlet, hRt, hCt⟩ := rep_sl_get (rep_T_u (hm.rep (i := 6) rfl)) (getD_map ddTag t.u k (0, []) hlt)
    obtain ⟨ptt, captt, rfl, hRt2⟩ := rep_Tag hRt
    have hm := hm.add (e := .rep (ddTag (t.u.getD k (0, []))) [.int .u32 (((t.u.getD k (0, [])).1 : Nat) : Int), .slice ptt ((t.u.getD k (0, [])).2.length) captt]) rfl hRt
    refine c_region ?_
    refine o_indexAddr (j := k) (b := blt) (off := offt) hk te_37 ts_68 (by rw [← hpt]; rfl) rfl hlt2 rfl fun a hk => ?_
    refine o_loadN (cs := [.int .u32 (((t.u.getD k (0, [])).1 : Nat) : Int), .slice ptt ((t.u.getD k (0, [])).2.length) captt]) hk ts_68 rfl (hCt.at_) rfl fun a hk => ?_
    refine o_alloc hk hm tz_68 rfl rfl fun a b7 w hk hm => ?_
    refine o_store (i := 0) hk hm ts_68 rfl rfl rfl rfl rfl rfl (Nat.le_of_ble_eq_true rfl) fun a w hk hm => ?_
    refine c_end ?_
    refine d_startM (K := 7) mixed hm fun w hm => ?_
    refine d_take (i := 0) rfl rfl rfl (by kernel_rfl) (fun _ _ _ h => h) hk rfl (fun w hm => r_move hk rfl) hm fun a hk => ?_
    refine d_take (i := 1) rfl rfl rfl (by kernel_rfl) (fun _ _ _ h => h) hk rfl (fun w hm => r_nilCheck hk rfl) hm fun a hk => ?_
    refine d_take (i := 2) rfl rfl rfl (by kernel_rfl) (fun _ _ _ h => h) hk rfl (fun w hm => r_fieldAddr hk fo_77_3 rfl) hm fun a hk => ?_
    refine d_take (i := 3) rfl rfl rfl (by kernel_rfl) (fun _ _ _ h => h) hk rfl (fun w hm => r_fieldAddr hk fo_68_0 rfl) hm fun a hk => ?_
    refine d_take (i := 4) rfl rfl rfl (by kernel_rfl) (fun _ _ _ h => h) hk rfl (fun w hm => r_load1 hk ts_65 rfl (hm.cell_blk (i := 0) rfl rfl)) hm fun a hk => ?_
    refine d_one (k := 5) (by kernel_rfl) rfl rfl ?_
    refine o_fieldAddr hk fo_68_1 rfl rfl fun a hk => ?_
    refine c_endQ (c_then ⟨fun _ => hm, ?_⟩)
    refine d_one (k := 6) (by kernel_rfl) rfl rfl ?_
    refine o_load hk ts_22 rfl (hm.cell_blk (i := 0) rfl rfl) rfl fun a hk => ?_
    refine c_endQ (c_then ⟨fun _ => hm, ?_⟩)
    refine d_one (k := 7) (by kernel_rfl) rfl rfl ?_
    refine o_call hk cb_43 (tagsSet_c (key := (t.u.getD k (0, [])).1) (hm.blkAt (i := 7) rfl) rfl (hm.mapOr (i := 3) rfl)) ⟨rfl, rfl, rfl, trivial⟩ rfl fun v w a hR hk => ?_
    obtain ⟨hp, rr, hb1, hM1, hr1⟩ := hR
    have hm := hm.setTags (i := 7) (j := 3) rfl rfl hp hb1 hM1 hr1
    rw [setV_rising hrs hlt] at hm
    have hm := hm.elsPush (i := 2) (d := ddTagV (t.u.getD k (0, []))) rfl (rep_Tag2 (hm.rep (i := 1) rfl)) rfl
    rw [← take_succ_map ddTagV t.u k (0, []) hlt] at hm
    refine c_endQ (c_then ⟨fun h => Bool.noConfusion (show true = false from h), ?_⟩)
    refine d_done (by kernel_rfl) ?_ _
    refine c_inNormal ?_
    exact c_round (L' := [(0, .pointer (some ⟨g, 0, none⟩)), (48, .slice pu t.u.length capu)]) hk ⟨rfl, rfl, rfl, rfl, trivial⟩ rfl ⟨_, _, rfl, hm.tail.tail⟩
  · obtain ⟨pm, vs, rfl, hm⟩ := hR
    rw [List.take_length] at hm
    have hm := hm.freezeMap (i := 1) rfl (hm.mapNe (i := 1) (j := 5) rfl rfl) (hm.els (i := 0) rfl)
    refine b_endNone rfl hk ?_
    have hz := hm.all _ (entAt_mem (i := 5) rfl)
    simp only [Ent.holds] at hz
    refine ⟨hm.agr, _, hz, ?_⟩
    refine hm.out ?_
    rw [dd_DescribeGroupsResponse]
    refine rep_agg ?_
    exact RepL.cons1 (rep_v _) (RepL.cons1 (hm.rep (i := 2) rfl) (RepL.cons1 (hm.rep (i := 1) rfl) (RepL.nil)))
end Go.Proofs.Ytnndnjbkhhammaa
