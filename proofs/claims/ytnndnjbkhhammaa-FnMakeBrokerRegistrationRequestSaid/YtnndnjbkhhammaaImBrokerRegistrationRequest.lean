/- Walks of functions that the laws of this seat reach. No statement of the seat stands here. -/
import Derived.Test.YtnndnjbkhhammaaL2
import Derived.Test.YtnndnjbkhhammaaRows
import Derived.Test.YtnndnjbkhhammaaFa
import Derived.Test.YtnndnjbkhhammaaSch
import Derived.Test.YtnndnjbkhhammaaOb
namespace Go.Proofs.Ytnndnjbkhhammaa
open Go Go.Mk
theorem dd_sBrokerRegistrationRequestListener (t : T) : ddS sch_sBrokerRegistrationRequestListener true t = .agg [.v (.string (bs (t.at_ 0).s)), .v (.string (bs (t.at_ 1).s)), .v (.int .u16 (IntKind.u16.wrap (t.at_ 2).n)), .v (.int .i16 (IntKind.i16.wrap (t.at_ 3).n)), ddTagMap t.u] := rfl
theorem make_BrokerRegistrationRequestListener {w0 : World} {Y : Nat → Prop} {t : T} {c : List Value} (hT : Rep w0 Y (ddT t) c) (hsm : t.small = true) :
    Ret Try.prog 40 [.agg c.toArray] w0 fun v w' => Agr Nob w0 w' ∧ ∃ c', v = .agg c'.toArray ∧ c'.length = 5 ∧ oneCells c' = true ∧ Rep w' (fun b => b < w0.heap.size ∧ Y b) (ddS sch_sBrokerRegistrationRequestListener true t) c' := by
  have _hsm := hsm
  obtain ⟨cs, p, cap, pu, capu, rfl⟩ := rep_T6 hT
  refine c_call Try.func40 rfl rfl fun a hk => ?_
  have hk : Kn 41 [(0, .agg #[.int .i64 t.n, cs, .bool t.z, .slice p t.l.length cap, .slice pu t.u.length capu])] a := hk
  have hm : Mem w0 Nob Y [.rep (ddT t) [.int .i64 t.n, cs, .bool t.z, .slice p t.l.length cap, .slice pu t.u.length capu]] w0 := Mem.start rfl (by simp only [List.forall_mem_cons, List.not_mem_nil, false_imp_iff, implies_true, and_true]; exact hT)
  refine c_region ?_
  refine o_box hk hm rfl rfl rfl fun a b1 w hk hm => ?_
  refine o_alloc hk hm tz_84 rfl rfl fun a b2 w hk hm => ?_
  refine c_end ?_
  refine c_region ?_
  refine o_alloc hk hm tz_84 rfl rfl fun a b3 w hk hm => ?_
  refine c_end ?_
  refine c_region ?_
  refine o_loadN (cs := [.int .i64 t.n, cs, .bool t.z, .slice p t.l.length cap, .slice pu t.u.length capu]) hk ts_39 rfl (hm.cells_blk (i := 2) rfl rfl) rfl fun a hk => ?_
  refine o_call hk cb_38 (at_impl (t := t) 0 (hm.rep (i := 3) rfl)) ⟨rfl, rfl, trivial⟩ rfl fun v w a hR hk => ?_
  obtain ⟨hp, c1, rfl, hR⟩ := hR
  obtain ⟨cs1, p1, cap1, cu1, rfl⟩ := rep_T5 hR
  have hm := hm.result hp hR
  refine o_field hk ff_39_1 rfl rfl rfl fun a hk => ?_
  refine o_bytesToStr hk iy_22 is_9 rfl (rep_T_s (hm.rep (i := 0) rfl)) rfl fun a hk => ?_
  refine o_fieldAddr hk fo_84_0 rfl rfl fun a hk => ?_
  refine o_store (i := 1) hk hm ts_9 rfl rfl rfl rfl rfl rfl (Nat.le_of_ble_eq_true rfl) fun a w hk hm => ?_
  refine c_end ?_
  refine c_region ?_
  refine o_loadN (cs := [.int .i64 t.n, cs, .bool t.z, .slice p t.l.length cap, .slice pu t.u.length capu]) hk ts_39 rfl (hm.cells_blk (i := 3) rfl rfl) rfl fun a hk => ?_
  refine o_call hk cb_38 (at_impl (t := t) 1 (hm.rep (i := 4) rfl)) ⟨rfl, rfl, trivial⟩ rfl fun v w a hR hk => ?_
  obtain ⟨hp, c2, rfl, hR⟩ := hR
  obtain ⟨cs2, p2, cap2, cu2, rfl⟩ := rep_T5 hR
  have hm := hm.result hp hR
  refine o_field hk ff_39_1 rfl rfl rfl fun a hk => ?_
  refine o_bytesToStr hk iy_22 is_9 rfl (rep_T_s (hm.rep (i := 0) rfl)) rfl fun a hk => ?_
  refine o_fieldAddr hk fo_84_1 rfl rfl fun a hk => ?_
  refine o_store (i := 2) hk hm ts_9 rfl rfl rfl rfl rfl rfl (Nat.le_of_ble_eq_true rfl) fun a w hk hm => ?_
  refine c_end ?_
  refine c_region ?_
  refine o_loadN (cs := [.int .i64 t.n, cs, .bool t.z, .slice p t.l.length cap, .slice pu t.u.length capu]) hk ts_39 rfl (hm.cells_blk (i := 4) rfl rfl) rfl fun a hk => ?_
  refine o_call hk cb_38 (at_impl (t := t) 2 (hm.rep (i := 5) rfl)) ⟨rfl, rfl, trivial⟩ rfl fun v w a hR hk => ?_
  obtain ⟨hp, c3, rfl, hR⟩ := hR
  obtain ⟨cs3, p3, cap3, cu3, rfl⟩ := rep_T5 hR
  have hm := hm.result hp hR
  refine o_field hk ff_39_0 rfl rfl rfl fun a hk => ?_
  refine o_convInt (c := IntKind.u16.wrap (((t.at_ 2)).n)) hk un_2 ti_82 rfl rfl rfl fun a hk => ?_
  refine o_fieldAddr hk fo_84_2 rfl rfl fun a hk => ?_
  refine o_store (i := 3) hk hm ts_82 rfl rfl rfl rfl rfl rfl (Nat.le_of_ble_eq_true rfl) fun a w hk hm => ?_
  refine c_end ?_
  refine c_region ?_
  refine o_loadN (cs := [.int .i64 t.n, cs, .bool t.z, .slice p t.l.length cap, .slice pu t.u.length capu]) hk ts_39 rfl (hm.cells_blk (i := 5) rfl rfl) rfl fun a hk => ?_
  refine o_call hk cb_38 (at_impl (t := t) 3 (hm.rep (i := 6) rfl)) ⟨rfl, rfl, trivial⟩ rfl fun v w a hR hk => ?_
  obtain ⟨hp, c4, rfl, hR⟩ := hR
  obtain ⟨cs4, p4, cap4, cu4, rfl⟩ := rep_T5 hR
  have hm := hm.result hp hR
  refine o_field hk ff_39_0 rfl rfl rfl fun a hk => ?_
  refine o_convInt (c := IntKind.i16.wrap (((t.at_ 3)).n)) hk un_2 ti_45 rfl rfl rfl fun a hk => ?_
  refine o_fieldAddr hk fo_84_3 rfl rfl fun a hk => ?_
  refine o_store (i := 4) hk hm ts_45 rfl rfl rfl rfl rfl rfl (Nat.le_of_ble_eq_true rfl) fun a w hk hm => ?_
  refine c_end ?_
  refine wp_seq ?_
  refine c_region ?_
  refine o_fieldAddr hk fo_39_4 rfl rfl fun a hk => ?_
  refine o_load hk ts_37 rfl (hm.cell_blk (i := 6) rfl rfl) rfl fun a hk => ?_
  refine o_lenSlice hk te_37 rfl rfl fun a hk => ?_
  refine o_move hk rfl rfl fun a hk => ?_
  refine c_end ?_
  have hm := hm.addMap0
  have hm := hm.addEls 1
  have hrs := small_rising hsm
  have hN := (small_spec (hsm)).2.2.1
  refine c_range (L0 := [(2, .pointer (some ⟨b2, 0, none⟩)), (3, .pointer (some ⟨b3, 0, none⟩)), (27, .slice pu t.u.length capu)]) (N := t.u.length) (by omega) (fun k L w => ∃ pm vs, L = [(2, .pointer (some ⟨b2, 0, none⟩)), (3, .pointer (some ⟨b3, 0, none⟩)), (27, .slice pu t.u.length capu)] ∧ Mem w0 Nob Y [.els 1 ((t.u.take k).map ddTagV) vs, .mapb pm ((t.u.take k).map Prod.fst) vs, .rep (ddT (t.at_ 3)) [.int .i64 (((t.at_ 3)).n), cs4, .bool (((t.at_ 3)).z), .slice p4 (((t.at_ 3)).l.length) cap4, cu4], .rep (ddT (t.at_ 2)) [.int .i64 (((t.at_ 2)).n), cs3, .bool (((t.at_ 2)).z), .slice p3 (((t.at_ 2)).l.length) cap3, cu3], .rep (ddT (t.at_ 1)) [.int .i64 (((t.at_ 1)).n), cs2, .bool (((t.at_ 1)).z), .slice p2 (((t.at_ 1)).l.length) cap2, cu2], .rep (ddT (t.at_ 0)) [.int .i64 (((t.at_ 0)).n), cs1, .bool (((t.at_ 0)).z), .slice p1 (((t.at_ 0)).l.length) cap1, cu1], .blk b3 [.string (bs ((t.at_ 0)).s), .string (bs ((t.at_ 1)).s), .int .u16 (IntKind.u16.wrap (((t.at_ 2)).n)), .int .i16 (IntKind.i16.wrap (((t.at_ 3)).n)), .map pm] 84, .blk b2 [.string .empty, .string .empty, .int .u16 0, .int .i16 0, .map none] 84, .blk b1 [.int .i64 t.n, cs, .bool t.z, .slice p t.l.length cap, .slice pu t.u.length capu] 39, .rep (ddT t) [.int .i64 t.n, cs, .bool t.z, .slice p t.l.length cap, .slice pu t.u.length capu]] w) (hk.sub ⟨rfl, rfl, rfl, rfl, rfl, trivial⟩) ⟨none, [], rfl, hm⟩ rfl rfl rfl rfl rfl rfl rfl (fun k L a w hlt hR hk => ?_) rfl (fun L a w hR hk => ?_)
  · obtain ⟨pm, vs, rfl, hm⟩ := hR
    obtain ⟨hlt2, blt, offt, et, hpt, hlet, hRt, hCt⟩ := rep_sl_get (rep_T_u (hm.rep (i := 9) rfl)) (getD_map ddTag t.u k (0, []) hlt)
    obtain ⟨ptt, captt, rfl, hRt2⟩ := rep_Tag hRt
    have hm := hm.add (e := .rep (ddTag (t.u.getD k (0, []))) [.int .u32 (((t.u.getD k (0, [])).1 : Nat) : Int), .slice ptt ((t.u.getD k (0, [])).2.length) captt]) rfl hRt
    refine c_region ?_
    refine o_indexAddr (j := k) (b := blt) (off := offt) hk te_37 ts_68 (by rw [← hpt]; rfl) rfl hlt2 rfl fun a hk => ?_
    refine o_loadN (cs := [.int .u32 (((t.u.getD k (0, [])).1 : Nat) : Int), .slice ptt ((t.u.getD k (0, [])).2.length) captt]) hk ts_68 rfl (hCt.at_) rfl fun a hk => ?_
    refine o_alloc hk hm tz_68 rfl rfl fun a b4 w hk hm => ?_
    refine o_store (i := 0) hk hm ts_68 rfl rfl rfl rfl rfl rfl (Nat.le_of_ble_eq_true rfl) fun a w hk hm => ?_
    refine c_end ?_
    refine c_reg ?_
    refine o_fieldAddr hk fo_84_4 rfl rfl fun a hk => ?_
    refine o_fieldAddr hk fo_68_0 rfl rfl fun a hk => ?_
    refine o_load hk ts_65 rfl (hm.cell_blk (i := 0) rfl rfl) rfl fun a hk => ?_
    refine o_fieldAddr hk fo_68_1 rfl rfl fun a hk => ?_
    refine o_load hk ts_22 rfl (hm.cell_blk (i := 0) rfl rfl) rfl fun a hk => ?_
    refine o_call hk cb_43 (tagsSet_c (key := (t.u.getD k (0, [])).1) (hm.blkAt (i := 8) rfl) rfl (hm.mapOr (i := 3) rfl)) ⟨rfl, rfl, rfl, trivial⟩ rfl fun v w a hR hk => ?_
    obtain ⟨hp, rr, hb1, hM1, hr1⟩ := hR
    have hm := hm.setTags (i := 8) (j := 3) rfl rfl hp hb1 hM1 hr1
    rw [setV_rising hrs hlt] at hm
    have hm := hm.elsPush (i := 2) (d := ddTagV (t.u.getD k (0, []))) rfl (rep_Tag2 (hm.rep (i := 1) rfl)) rfl
    rw [← take_succ_map ddTagV t.u k (0, []) hlt] at hm
    refine c_endQ ?_
    refine c_inNormal ?_
    exact c_round (L' := [(2, .pointer (some ⟨b2, 0, none⟩)), (3, .pointer (some ⟨b3, 0, none⟩)), (27, .slice pu t.u.length capu)]) hk ⟨rfl, rfl, rfl, rfl, rfl, trivial⟩ rfl ⟨_, _, rfl, hm.tail.tail⟩
  · obtain ⟨pm, vs, rfl, hm⟩ := hR
    rw [List.take_length] at hm
    have hm := hm.freezeMap (i := 1) rfl (fun _ _ h => h) (hm.els (i := 0) rfl)
    refine c_then ?_
    refine c_region ?_
    refine o_loadN (cs := [.string (bs ((t.at_ 0)).s), .string (bs ((t.at_ 1)).s), .int .u16 (IntKind.u16.wrap (((t.at_ 2)).n)), .int .i16 (IntKind.i16.wrap (((t.at_ 3)).n)), .map pm]) hk ts_84 rfl (hm.cells_blk (i := 6) rfl rfl) rfl fun a hk => ?_
    refine o_store (i := 7) hk hm ts_84 rfl rfl rfl rfl (one_cons rfl (one_cons rfl (one_cons rfl (one_cons rfl (one_cons rfl rfl))))) rfl (Nat.le_of_ble_eq_true rfl) fun a w hk hm => ?_
    refine c_end ?_
    refine wp_ret ?_
    refine b_retCell (i := 7) (cs := [.string (bs ((t.at_ 0)).s), .string (bs ((t.at_ 1)).s), .int .u16 (IntKind.u16.wrap (((t.at_ 2)).n)), .int .i16 (IntKind.i16.wrap (((t.at_ 3)).n)), .map pm]) rfl ts_84 hk hm rfl rfl ?_
    refine ⟨hm.agr, _, rfl, rfl, (one_cons rfl (one_cons rfl (one_cons rfl (one_cons rfl (one_cons rfl rfl))))), ?_⟩
    refine hm.out ?_
    rw [dd_sBrokerRegistrationRequestListener]
    refine rep_agg ?_
    exact RepL.cons1 (rep_v _) (RepL.cons1 (rep_v _) (RepL.cons1 (rep_v _) (RepL.cons1 (rep_v _) (RepL.cons1 (hm.rep (i := 1) rfl) (RepL.nil)))))
theorem dd_sBrokerRegistrationRequestFeature (t : T) : ddS sch_sBrokerRegistrationRequestFeature true t = .agg [.v (.string (bs (t.at_ 0).s)), .v (.int .i16 (IntKind.i16.wrap (t.at_ 1).n)), .v (.int .i16 (IntKind.i16.wrap (t.at_ 2).n)), ddTagMap t.u] := rfl
theorem make_BrokerRegistrationRequestFeature {w0 : World} {Y : Nat → Prop} {t : T} {c : List Value} (hT : Rep w0 Y (ddT t) c) (hsm : t.small = true) :
    Ret Try.prog 41 [.agg c.toArray] w0 fun v w' => Agr Nob w0 w' ∧ ∃ c', v = .agg c'.toArray ∧ c'.length = 4 ∧ oneCells c' = true ∧ Rep w' (fun b => b < w0.heap.size ∧ Y b) (ddS sch_sBrokerRegistrationRequestFeature true t) c' := by
  have _hsm := hsm
  obtain ⟨cs, p, cap, pu, capu, rfl⟩ := rep_T6 hT
  refine c_call Try.func41 rfl rfl fun a hk => ?_
  have hk : Kn 36 [(0, .agg #[.int .i64 t.n, cs, .bool t.z, .slice p t.l.length cap, .slice pu t.u.length capu])] a := hk
  have hm : Mem w0 Nob Y [.rep (ddT t) [.int .i64 t.n, cs, .bool t.z, .slice p t.l.length cap, .slice pu t.u.length capu]] w0 := Mem.start rfl (by simp only [List.forall_mem_cons, List.not_mem_nil, false_imp_iff, implies_true, and_true]; exact hT)
  refine c_region ?_
  refine o_box hk hm rfl rfl rfl fun a b1 w hk hm => ?_
  refine o_alloc hk hm tz_87 rfl rfl fun a b2 w hk hm => ?_
  refine c_end ?_
  refine c_region ?_
  refine o_alloc hk hm tz_87 rfl rfl fun a b3 w hk hm => ?_
  refine c_end ?_
  refine c_region ?_
  refine o_loadN (cs := [.int .i64 t.n, cs, .bool t.z, .slice p t.l.length cap, .slice pu t.u.length capu]) hk ts_39 rfl (hm.cells_blk (i := 2) rfl rfl) rfl fun a hk => ?_
  refine o_call hk cb_38 (at_impl (t := t) 0 (hm.rep (i := 3) rfl)) ⟨rfl, rfl, trivial⟩ rfl fun v w a hR hk => ?_
  obtain ⟨hp, c1, rfl, hR⟩ := hR
  obtain ⟨cs1, p1, cap1, cu1, rfl⟩ := rep_T5 hR
  have hm := hm.result hp hR
  refine o_field hk ff_39_1 rfl rfl rfl fun a hk => ?_
  refine o_bytesToStr hk iy_22 is_9 rfl (rep_T_s (hm.rep (i := 0) rfl)) rfl fun a hk => ?_
  refine o_fieldAddr hk fo_87_0 rfl rfl fun a hk => ?_
  refine o_store (i := 1) hk hm ts_9 rfl rfl rfl rfl rfl rfl (Nat.le_of_ble_eq_true rfl) fun a w hk hm => ?_
  refine c_end ?_
  refine c_region ?_
  refine o_loadN (cs := [.int .i64 t.n, cs, .bool t.z, .slice p t.l.length cap, .slice pu t.u.length capu]) hk ts_39 rfl (hm.cells_blk (i := 3) rfl rfl) rfl fun a hk => ?_
  refine o_call hk cb_38 (at_impl (t := t) 1 (hm.rep (i := 4) rfl)) ⟨rfl, rfl, trivial⟩ rfl fun v w a hR hk => ?_
  obtain ⟨hp, c2, rfl, hR⟩ := hR
  obtain ⟨cs2, p2, cap2, cu2, rfl⟩ := rep_T5 hR
  have hm := hm.result hp hR
  refine o_field hk ff_39_0 rfl rfl rfl fun a hk => ?_
  refine o_convInt (c := IntKind.i16.wrap (((t.at_ 1)).n)) hk un_2 ti_45 rfl rfl rfl fun a hk => ?_
  refine o_fieldAddr hk fo_87_1 rfl rfl fun a hk => ?_
  refine o_store (i := 2) hk hm ts_45 rfl rfl rfl rfl rfl rfl (Nat.le_of_ble_eq_true rfl) fun a w hk hm => ?_
  refine c_end ?_
  refine c_region ?_
  refine o_loadN (cs := [.int .i64 t.n, cs, .bool t.z, .slice p t.l.length cap, .slice pu t.u.length capu]) hk ts_39 rfl (hm.cells_blk (i := 4) rfl rfl) rfl fun a hk => ?_
  refine o_call hk cb_38 (at_impl (t := t) 2 (hm.rep (i := 5) rfl)) ⟨rfl, rfl, trivial⟩ rfl fun v w a hR hk => ?_
  obtain ⟨hp, c3, rfl, hR⟩ := hR
  obtain ⟨cs3, p3, cap3, cu3, rfl⟩ := rep_T5 hR
  have hm := hm.result hp hR
  refine o_field hk ff_39_0 rfl rfl rfl fun a hk => ?_
  refine o_convInt (c := IntKind.i16.wrap (((t.at_ 2)).n)) hk un_2 ti_45 rfl rfl rfl fun a hk => ?_
  refine o_fieldAddr hk fo_87_2 rfl rfl fun a hk => ?_
  refine o_store (i := 3) hk hm ts_45 rfl rfl rfl rfl rfl rfl (Nat.le_of_ble_eq_true rfl) fun a w hk hm => ?_
  refine c_end ?_
  refine wp_seq ?_
  refine c_region ?_
  refine o_fieldAddr hk fo_39_4 rfl rfl fun a hk => ?_
  refine o_load hk ts_37 rfl (hm.cell_blk (i := 5) rfl rfl) rfl fun a hk => ?_
  refine o_lenSlice hk te_37 rfl rfl fun a hk => ?_
  refine o_move hk rfl rfl fun a hk => ?_
  refine c_end ?_
  have hm := hm.addMap0
  have hm := hm.addEls 1
  have hrs := small_rising hsm
  have hN := (small_spec (hsm)).2.2.1
  refine c_range (L0 := [(2, .pointer (some ⟨b2, 0, none⟩)), (3, .pointer (some ⟨b3, 0, none⟩)), (22, .slice pu t.u.length capu)]) (N := t.u.length) (by omega) (fun k L w => ∃ pm vs, L = [(2, .pointer (some ⟨b2, 0, none⟩)), (3, .pointer (some ⟨b3, 0, none⟩)), (22, .slice pu t.u.length capu)] ∧ Mem w0 Nob Y [.els 1 ((t.u.take k).map ddTagV) vs, .mapb pm ((t.u.take k).map Prod.fst) vs, .rep (ddT (t.at_ 2)) [.int .i64 (((t.at_ 2)).n), cs3, .bool (((t.at_ 2)).z), .slice p3 (((t.at_ 2)).l.length) cap3, cu3], .rep (ddT (t.at_ 1)) [.int .i64 (((t.at_ 1)).n), cs2, .bool (((t.at_ 1)).z), .slice p2 (((t.at_ 1)).l.length) cap2, cu2], .rep (ddT (t.at_ 0)) [.int .i64 (((t.at_ 0)).n), cs1, .bool (((t.at_ 0)).z), .slice p1 (((t.at_ 0)).l.length) cap1, cu1], .blk b3 [.string (bs ((t.at_ 0)).s), .int .i16 (IntKind.i16.wrap (((t.at_ 1)).n)), .int .i16 (IntKind.i16.wrap (((t.at_ 2)).n)), .map pm] 87, .blk b2 [.string .empty, .int .i16 0, .int .i16 0, .map none] 87, .blk b1 [.int .i64 t.n, cs, .bool t.z, .slice p t.l.length cap, .slice pu t.u.length capu] 39, .rep (ddT t) [.int .i64 t.n, cs, .bool t.z, .slice p t.l.length cap, .slice pu t.u.length capu]] w) (hk.sub ⟨rfl, rfl, rfl, rfl, rfl, trivial⟩) ⟨none, [], rfl, hm⟩ rfl rfl rfl rfl rfl rfl rfl (fun k L a w hlt hR hk => ?_) rfl (fun L a w hR hk => ?_)
  · obtain ⟨pm, vs, rfl, hm⟩ := hR
    obtain ⟨hlt2, blt, offt, et, hpt, hlet, hRt, hCt⟩ := rep_sl_get (rep_T_u (hm.rep (i := 8) rfl)) (getD_map ddTag t.u k (0, []) hlt)
    obtain ⟨ptt, captt, rfl, hRt2⟩ := rep_Tag hRt
    have hm := hm.add (e := .rep (ddTag (t.u.getD k (0, []))) [.int .u32 (((t.u.getD k (0, [])).1 : Nat) : Int), .slice ptt ((t.u.getD k (0, [])).2.length) captt]) rfl hRt
    refine c_region ?_
    refine o_indexAddr (j := k) (b := blt) (off := offt) hk te_37 ts_68 (by rw [← hpt]; rfl) rfl hlt2 rfl fun a hk => ?_
    refine o_loadN (cs := [.int .u32 (((t.u.getD k (0, [])).1 : Nat) : Int), .slice ptt ((t.u.getD k (0, [])).2.length) captt]) hk ts_68 rfl (hCt.at_) rfl fun a hk => ?_
    refine o_alloc hk hm tz_68 rfl rfl fun a b4 w hk hm => ?_
    refine o_store (i := 0) hk hm ts_68 rfl rfl rfl rfl rfl rfl (Nat.le_of_ble_eq_true rfl) fun a w hk hm => ?_
    refine c_end ?_
    refine c_reg ?_
    refine o_fieldAddr hk fo_87_3 rfl rfl fun a hk => ?_
    refine o_fieldAddr hk fo_68_0 rfl rfl fun a hk => ?_
    refine o_load hk ts_65 rfl (hm.cell_blk (i := 0) rfl rfl) rfl fun a hk => ?_
    refine o_fieldAddr hk fo_68_1 rfl rfl fun a hk => ?_
    refine o_load hk ts_22 rfl (hm.cell_blk (i := 0) rfl rfl) rfl fun a hk => ?_
    refine o_call hk cb_43 (tagsSet_c (key := (t.u.getD k (0, [])).1) (hm.blkAt (i := 7) rfl) rfl (hm.mapOr (i := 3) rfl)) ⟨rfl, rfl, rfl, trivial⟩ rfl fun v w a hR hk => ?_
    obtain ⟨hp, rr, hb1, hM1, hr1⟩ := hR
    have hm := hm.setTags (i := 7) (j := 3) rfl rfl hp hb1 hM1 hr1
    rw [setV_rising hrs hlt] at hm
    have hm := hm.elsPush (i := 2) (d := ddTagV (t.u.getD k (0, []))) rfl (rep_Tag2 (hm.rep (i := 1) rfl)) rfl
    rw [← take_succ_map ddTagV t.u k (0, []) hlt] at hm
    refine c_endQ ?_
    refine c_inNormal ?_
    exact c_round (L' := [(2, .pointer (some ⟨b2, 0, none⟩)), (3, .pointer (some ⟨b3, 0, none⟩)), (22, .slice pu t.u.length capu)]) hk ⟨rfl, rfl, rfl, rfl, rfl, trivial⟩ rfl ⟨_, _, rfl, hm.tail.tail⟩
  · obtain ⟨pm, vs, rfl, hm⟩ := hR
    rw [List.take_length] at hm
    have hm := hm.freezeMap (i := 1) rfl (fun _ _ h => h) (hm.els (i := 0) rfl)
    refine c_then ?_
    refine c_region ?_
    refine o_loadN (cs := [.string (bs ((t.at_ 0)).s), .int .i16 (IntKind.i16.wrap (((t.at_ 1)).n)), .int .i16 (IntKind.i16.wrap (((t.at_ 2)).n)), .map pm]) hk ts_87 rfl (hm.cells_blk (i := 5) rfl rfl) rfl fun a hk => ?_
    refine o_store (i := 6) hk hm ts_87 rfl rfl rfl rfl (one_cons rfl (one_cons rfl (one_cons rfl (one_cons rfl rfl)))) rfl (Nat.le_of_ble_eq_true rfl) fun a w hk hm => ?_
    refine c_end ?_
    refine wp_ret ?_
    refine b_retCell (i := 6) (cs := [.string (bs ((t.at_ 0)).s), .int .i16 (IntKind.i16.wrap (((t.at_ 1)).n)), .int .i16 (IntKind.i16.wrap (((t.at_ 2)).n)), .map pm]) rfl ts_87 hk hm rfl rfl ?_
    refine ⟨hm.agr, _, rfl, rfl, (one_cons rfl (one_cons rfl (one_cons rfl (one_cons rfl rfl)))), ?_⟩
    refine hm.out ?_
    rw [dd_sBrokerRegistrationRequestFeature]
    refine rep_agg ?_
    exact RepL.cons1 (rep_v _) (RepL.cons1 (rep_v _) (RepL.cons1 (rep_v _) (RepL.cons1 (hm.rep (i := 1) rfl) (RepL.nil))))
theorem dd_BrokerRegistrationRequest (t : T) : ddS sch_BrokerRegistrationRequest true t = .agg [.v (.int .i32 (IntKind.i32.wrap (t.at_ 0).n)), .v (.string (bs (t.at_ 1).s)), .agg ((sixteen (t.at_ 2).s).map ddB), if (t.at_ 3).z then .v (.slice none 0 0) else .sl true 5 ((t.at_ 3).l.map (ddS sch_sBrokerRegistrationRequestListener true)), if (t.at_ 4).z then .v (.slice none 0 0) else .sl true 4 ((t.at_ 4).l.map (ddS sch_sBrokerRegistrationRequestFeature true)), ddVal 8 0 (fun _ => .agg []) (t.at_ 5), .v (.bool ((t.at_ 6).n % 2 == 1)), if (t.at_ 7).z then .v (.slice none 0 0) else .sl true 16 ((t.at_ 7).l.map (fun x : T => DD.agg ((sixteen x.s).map ddB))), .v (.int .i64 (t.at_ 8).n), ddTagMap t.u] := rfl
theorem fill_BrokerRegistrationRequest {w0 : World} {Y : Nat → Prop} {t : T} {ct : List Value} {g : Nat} {V : Int} (hb : w0.heap[g]? = some (.cells [.int .i16 V, .int .i32 0, .string .empty, .int .u8 0, .int .u8 0, .int .u8 0, .int .u8 0, .int .u8 0, .int .u8 0, .int .u8 0, .int .u8 0, .int .u8 0, .int .u8 0, .int .u8 0, .int .u8 0, .int .u8 0, .int .u8 0, .int .u8 0, .int .u8 0, .slice none 0 0, .slice none 0 0, .pointer none, .bool false, .slice none 0 0, .int .i64 0, .map none].toArray 61 (0, 0))) (hg : Y g) (hT : Rep w0 Y (ddT t) ct) (hsm : t.small = true) : Ret Try.prog 23 [.pointer (some ⟨g, 0, none⟩), .agg ct.toArray] w0 fun _ w' => Agr (fun k => k = g) w0 w' ∧ ∃ c', w'.heap[g]? = some (.cells (.int .i16 V :: c').toArray 61 (0, 0)) ∧ Rep w' (fun b => b < w0.heap.size ∧ Y b) (ddS sch_BrokerRegistrationRequest true t) c' := by
  have _hsm := hsm
  obtain ⟨cs, p, cap, pu, capu, rfl⟩ := rep_T6 hT
  refine c_call Try.func23 rfl rfl fun a hk => ?_
  have hk : Kn 166 [(0, .pointer (some ⟨g, 0, none⟩)), (1, .agg #[.int .i64 t.n, cs, .bool t.z, .slice p t.l.length cap, .slice pu t.u.length capu])] a := hk
  have hm : Mem w0 (fun k => k = g) Y [.blk g [.int .i16 V, .int .i32 0, .string .empty, .int .u8 0, .int .u8 0, .int .u8 0, .int .u8 0, .int .u8 0, .int .u8 0, .int .u8 0, .int .u8 0, .int .u8 0, .int .u8 0, .int .u8 0, .int .u8 0, .int .u8 0, .int .u8 0, .int .u8 0, .int .u8 0, .slice none 0 0, .slice none 0 0, .pointer none, .bool false, .slice none 0 0, .int .i64 0, .map none] 61, .rep (ddT t) [.int .i64 t.n, cs, .bool t.z, .slice p t.l.length cap, .slice pu t.u.length capu]] w0 := Mem.startBlk hb hg rfl (by simp only [List.forall_mem_cons, List.not_mem_nil, false_imp_iff, implies_true, and_true]; exact hT)
  refine c_region ?_
  refine o_box hk hm rfl rfl rfl fun a b1 w hk hm => ?_
  refine c_end ?_
  refine c_region ?_
  refine o_move hk rfl rfl fun a hk => ?_
  refine o_loadN (cs := [.int .i64 t.n, cs, .bool t.z, .slice p t.l.length cap, .slice pu t.u.length capu]) hk ts_39 rfl (hm.cells_blk (i := 0) rfl rfl) rfl fun a hk => ?_
  refine o_call hk cb_38 (at_impl (t := t) 0 (hm.rep (i := 2) rfl)) ⟨rfl, rfl, trivial⟩ rfl fun v w a hR hk => ?_
  obtain ⟨hp, c1, rfl, hR⟩ := hR
  obtain ⟨cs1, p1, cap1, cu1, rfl⟩ := rep_T5 hR
  have hm := hm.result hp hR
  refine o_field hk ff_39_0 rfl rfl rfl fun a hk => ?_
  refine o_convInt (c := IntKind.i32.wrap (((t.at_ 0)).n)) hk un_2 ti_21 rfl rfl rfl fun a hk => ?_
  refine o_nilCheck hk rfl rfl fun a hk => ?_
  refine o_fieldAddr hk fo_61_1 rfl rfl fun a hk => ?_
  refine o_store (i := 2) hk hm ts_21 rfl rfl rfl rfl rfl rfl (Nat.le_of_ble_eq_true rfl) fun a w hk hm => ?_
  refine c_end ?_
  refine c_region ?_
  refine o_move hk rfl rfl fun a hk => ?_
  refine o_loadN (cs := [.int .i64 t.n, cs, .bool t.z, .slice p t.l.length cap, .slice pu t.u.length capu]) hk ts_39 rfl (hm.cells_blk (i := 1) rfl rfl) rfl fun a hk => ?_
  refine o_call hk cb_38 (at_impl (t := t) 1 (hm.rep (i := 3) rfl)) ⟨rfl, rfl, trivial⟩ rfl fun v w a hR hk => ?_
  obtain ⟨hp, c2, rfl, hR⟩ := hR
  obtain ⟨cs2, p2, cap2, cu2, rfl⟩ := rep_T5 hR
  have hm := hm.result hp hR
  refine o_field hk ff_39_1 rfl rfl rfl fun a hk => ?_
  refine o_bytesToStr hk iy_22 is_9 rfl (rep_T_s (hm.rep (i := 0) rfl)) rfl fun a hk => ?_
  refine o_nilCheck hk rfl rfl fun a hk => ?_
  refine o_fieldAddr hk fo_61_2 rfl rfl fun a hk => ?_
  refine o_store (i := 3) hk hm ts_9 rfl rfl rfl rfl rfl rfl (Nat.le_of_ble_eq_true rfl) fun a w hk hm => ?_
  refine c_end ?_
  refine c_region ?_
  refine o_move hk rfl rfl fun a hk => ?_
  refine o_loadN (cs := [.int .i64 t.n, cs, .bool t.z, .slice p t.l.length cap, .slice pu t.u.length capu]) hk ts_39 rfl (hm.cells_blk (i := 2) rfl rfl) rfl fun a hk => ?_
  refine o_call hk cb_38 (at_impl (t := t) 2 (hm.rep (i := 4) rfl)) ⟨rfl, rfl, trivial⟩ rfl fun v w a hR hk => ?_
  obtain ⟨hp, c3, rfl, hR⟩ := hR
  obtain ⟨cs3, p3, cap3, cu3, rfl⟩ := rep_T5 hR
  have hm := hm.result hp hR
  refine o_field hk ff_39_1 rfl rfl rfl fun a hk => ?_
  refine o_call hk cb_39 (sixteen_c (rep_T_s (hm.rep (i := 0) rfl))) ⟨rfl, trivial⟩ rfl fun v w a hR hk => ?_
  obtain ⟨hp, rfl⟩ := hR
  have hm := hm.pure hp
  refine o_nilCheck hk rfl rfl fun a hk => ?_
  refine o_fieldAddr hk fo_61_3 rfl rfl fun a hk => ?_
  refine o_store (i := 4) hk hm ts_52 rfl rfl rfl rfl rfl rfl (Nat.le_of_ble_eq_true rfl) fun a w hk hm => ?_
  refine c_end ?_
  refine c_cut (fun a w => ∃ v, v.oneCell' = true ∧ Kn 166 [(0, .pointer (some ⟨g, 0, none⟩)), (3, .pointer (some ⟨b1, 0, none⟩))] a ∧ Mem w0 (fun k => k = g) Y [.rep (if (t.at_ 3).z then .v (.slice none 0 0) else .sl true 5 ((t.at_ 3).l.map (ddS sch_sBrokerRegistrationRequestListener true))) [v], .rep (ddT (t.at_ 2)) [.int .i64 (((t.at_ 2)).n), cs3, .bool (((t.at_ 2)).z), .slice p3 (((t.at_ 2)).l.length) cap3, cu3], .rep (ddT (t.at_ 1)) [.int .i64 (((t.at_ 1)).n), cs2, .bool (((t.at_ 1)).z), .slice p2 (((t.at_ 1)).l.length) cap2, cu2], .rep (ddT (t.at_ 0)) [.int .i64 (((t.at_ 0)).n), cs1, .bool (((t.at_ 0)).z), .slice p1 (((t.at_ 0)).l.length) cap1, cu1], .blk b1 [.int .i64 t.n, cs, .bool t.z, .slice p t.l.length cap, .slice pu t.u.length capu] 39, .blk g [.int .i16 V, .int .i32 (IntKind.i32.wrap (((t.at_ 0)).n)), .string (bs ((t.at_ 1)).s), .int .u8 (((sixteen ((t.at_ 2)).s).getD 0 0).toNat : Int), .int .u8 (((sixteen ((t.at_ 2)).s).getD 1 0).toNat : Int), .int .u8 (((sixteen ((t.at_ 2)).s).getD 2 0).toNat : Int), .int .u8 (((sixteen ((t.at_ 2)).s).getD 3 0).toNat : Int), .int .u8 (((sixteen ((t.at_ 2)).s).getD 4 0).toNat : Int), .int .u8 (((sixteen ((t.at_ 2)).s).getD 5 0).toNat : Int), .int .u8 (((sixteen ((t.at_ 2)).s).getD 6 0).toNat : Int), .int .u8 (((sixteen ((t.at_ 2)).s).getD 7 0).toNat : Int), .int .u8 (((sixteen ((t.at_ 2)).s).getD 8 0).toNat : Int), .int .u8 (((sixteen ((t.at_ 2)).s).getD 9 0).toNat : Int), .int .u8 (((sixteen ((t.at_ 2)).s).getD 10 0).toNat : Int), .int .u8 (((sixteen ((t.at_ 2)).s).getD 11 0).toNat : Int), .int .u8 (((sixteen ((t.at_ 2)).s).getD 12 0).toNat : Int), .int .u8 (((sixteen ((t.at_ 2)).s).getD 13 0).toNat : Int), .int .u8 (((sixteen ((t.at_ 2)).s).getD 14 0).toNat : Int), .int .u8 (((sixteen ((t.at_ 2)).s).getD 15 0).toNat : Int), v, .slice none 0 0, .pointer none, .bool false, .slice none 0 0, .int .i64 0, .map none] 61, .rep (ddT t) [.int .i64 t.n, cs, .bool t.z, .slice p t.l.length cap, .slice pu t.u.length capu]] w) ?_ (fun a w hJ => ?_)
  · refine c_region ?_
    refine o_loadN (cs := [.int .i64 t.n, cs, .bool t.z, .slice p t.l.length cap, .slice pu t.u.length capu]) hk ts_39 rfl (hm.cells_blk (i := 3) rfl rfl) rfl fun a hk => ?_
    refine o_call hk cb_38 (at_impl (t := t) 3 (hm.rep (i := 5) rfl)) ⟨rfl, rfl, trivial⟩ rfl fun v w a hR hk => ?_
    obtain ⟨hp, c5, rfl, hR⟩ := hR
    obtain ⟨cs5, p5, cap5, cu5, rfl⟩ := rep_T5 hR
    have hm := hm.result hp hR
    refine o_field hk ff_39_2 rfl rfl rfl fun a hk => ?_
    refine o_not hk rfl rfl fun a hk => ?_
    refine c_end ?_
    refine c_cond hk rfl (fun hc => ?_) (fun hc => ?_)
    · have hz : (t.at_ 3).z = false := by simpa using hc
      refine c_region ?_
      refine o_move hk rfl rfl fun a hk => ?_
      refine o_loadN (cs := [.int .i64 t.n, cs, .bool t.z, .slice p t.l.length cap, .slice pu t.u.length capu]) hk ts_39 rfl (hm.cells_blk (i := 4) rfl rfl) rfl fun a hk => ?_
      refine o_call hk cb_38 (at_impl (t := t) 3 (hm.rep (i := 6) rfl)) ⟨rfl, rfl, trivial⟩ rfl fun v w a hR hk => ?_
      obtain ⟨hp, c6, rfl, hR⟩ := hR
      obtain ⟨cs6, p6, cap6, cu6, rfl⟩ := rep_T5 hR
      have hm := hm.result hp hR
      refine o_field hk ff_39_3 rfl rfl rfl fun a hk => ?_
      refine o_lenSlice hk te_36 rfl rfl fun a hk => ?_
      have hsb2 := (small_spec (small_at hsm 3)).2.1
      refine o_make0 (cap := ((t.at_ 3)).l.length) hk hm rt_53 tz_84 rfl (by unfold maxLen; omega) (by omega) rfl fun a b2 w hbb2 hk hm => ?_
      refine o_nilCheck hk rfl rfl fun a hk => ?_
      refine o_fieldAddr hk fo_61_4 rfl rfl fun a hk => ?_
      refine o_store (i := 7) hk hm ts_53 rfl rfl rfl rfl rfl rfl (Nat.le_of_ble_eq_true rfl) fun a w hk hm => ?_
      refine c_end ?_
      refine c_region ?_
      refine o_loadN (cs := [.int .i64 t.n, cs, .bool t.z, .slice p t.l.length cap, .slice pu t.u.length capu]) hk ts_39 rfl (hm.cells_blk (i := 6) rfl rfl) rfl fun a hk => ?_
      refine o_call hk cb_38 (at_impl (t := t) 3 (hm.rep (i := 8) rfl)) ⟨rfl, rfl, trivial⟩ rfl fun v w a hR hk => ?_
      obtain ⟨hp, c7, rfl, hR⟩ := hR
      obtain ⟨cs7, p7, cap7, cu7, rfl⟩ := rep_T5 hR
      have hm := hm.result hp hR
      refine o_field hk ff_39_3 rfl rfl rfl fun a hk => ?_
      refine o_lenSlice hk te_36 rfl rfl fun a hk => ?_
      refine o_move hk rfl rfl fun a hk => ?_
      refine c_end ?_
      have hm := hm.addEls 5
      have hN := (small_spec (small_at hsm 3)).2.1
      refine c_range (L0 := [(0, .pointer (some ⟨g, 0, none⟩)), (3, .pointer (some ⟨b1, 0, none⟩)), (47, .slice p7 (((t.at_ 3)).l.length) cap7)]) (N := ((t.at_ 3)).l.length) (by omega) (fun k L w => ∃ vr xs, L = [(0, .pointer (some ⟨g, 0, none⟩)), (3, .pointer (some ⟨b1, 0, none⟩)), (47, .slice p7 (((t.at_ 3)).l.length) cap7)] ∧ vr ≠ .slice none 0 0 ∧ Mem w0 (fun k => k = g) Y [.els 5 ((((t.at_ 3)).l.take k).map (ddS sch_sBrokerRegistrationRequestListener true)) xs, .rep (ddT (t.at_ 3)) [.int .i64 (((t.at_ 3)).n), cs7, .bool (((t.at_ 3)).z), .slice p7 (((t.at_ 3)).l.length) cap7, cu7], .row 84 5 vr k xs, .rep (ddT (t.at_ 3)) [.int .i64 (((t.at_ 3)).n), cs6, .bool (((t.at_ 3)).z), .slice p6 (((t.at_ 3)).l.length) cap6, cu6], .rep (ddT (t.at_ 3)) [.int .i64 (((t.at_ 3)).n), cs5, .bool (((t.at_ 3)).z), .slice p5 (((t.at_ 3)).l.length) cap5, cu5], .rep (ddT (t.at_ 2)) [.int .i64 (((t.at_ 2)).n), cs3, .bool (((t.at_ 2)).z), .slice p3 (((t.at_ 2)).l.length) cap3, cu3], .rep (ddT (t.at_ 1)) [.int .i64 (((t.at_ 1)).n), cs2, .bool (((t.at_ 1)).z), .slice p2 (((t.at_ 1)).l.length) cap2, cu2], .rep (ddT (t.at_ 0)) [.int .i64 (((t.at_ 0)).n), cs1, .bool (((t.at_ 0)).z), .slice p1 (((t.at_ 0)).l.length) cap1, cu1], .blk b1 [.int .i64 t.n, cs, .bool t.z, .slice p t.l.length cap, .slice pu t.u.length capu] 39, .blk g [.int .i16 V, .int .i32 (IntKind.i32.wrap (((t.at_ 0)).n)), .string (bs ((t.at_ 1)).s), .int .u8 (((sixteen ((t.at_ 2)).s).getD 0 0).toNat : Int), .int .u8 (((sixteen ((t.at_ 2)).s).getD 1 0).toNat : Int), .int .u8 (((sixteen ((t.at_ 2)).s).getD 2 0).toNat : Int), .int .u8 (((sixteen ((t.at_ 2)).s).getD 3 0).toNat : Int), .int .u8 (((sixteen ((t.at_ 2)).s).getD 4 0).toNat : Int), .int .u8 (((sixteen ((t.at_ 2)).s).getD 5 0).toNat : Int), .int .u8 (((sixteen ((t.at_ 2)).s).getD 6 0).toNat : Int), .int .u8 (((sixteen ((t.at_ 2)).s).getD 7 0).toNat : Int), .int .u8 (((sixteen ((t.at_ 2)).s).getD 8 0).toNat : Int), .int .u8 (((sixteen ((t.at_ 2)).s).getD 9 0).toNat : Int), .int .u8 (((sixteen ((t.at_ 2)).s).getD 10 0).toNat : Int), .int .u8 (((sixteen ((t.at_ 2)).s).getD 11 0).toNat : Int), .int .u8 (((sixteen ((t.at_ 2)).s).getD 12 0).toNat : Int), .int .u8 (((sixteen ((t.at_ 2)).s).getD 13 0).toNat : Int), .int .u8 (((sixteen ((t.at_ 2)).s).getD 14 0).toNat : Int), .int .u8 (((sixteen ((t.at_ 2)).s).getD 15 0).toNat : Int), vr, .slice none 0 0, .pointer none, .bool false, .slice none 0 0, .int .i64 0, .map none] 61, .rep (ddT t) [.int .i64 t.n, cs, .bool t.z, .slice p t.l.length cap, .slice pu t.u.length capu]] w) (hk.sub ⟨rfl, rfl, rfl, rfl, rfl, trivial⟩) ⟨_, _, rfl, by simp, hm⟩ rfl rfl rfl rfl rfl rfl rfl (fun k L a w hlt hR hk => ?_) rfl (fun L a w hR hk => ?_)
      · obtain ⟨vr, xs, rfl, hnn, hm⟩ := hR
        obtain ⟨_, bl, off, c8, hpl, hl8, hR8, hC8⟩ := rep_sl_get (rep_T_l (hm.rep (i := 1) rfl)) (getD_map ddT ((t.at_ 3)).l k T.nil hlt)
        obtain ⟨cs8, p8, cap8, cu8, rfl⟩ := rep_T5 hR8
        have hm := hm.add (e := .rep (ddT ((t.at_ 3).l.getD k T.nil)) [.int .i64 ((((t.at_ 3).l.getD k T.nil)).n), cs8, .bool ((((t.at_ 3).l.getD k T.nil)).z), .slice p8 ((((t.at_ 3).l.getD k T.nil)).l.length) cap8, cu8]) rfl hR8
        refine c_region ?_
        refine o_indexAddr (j := k) (b := bl) (off := off) hk te_36 ts_39 (by rw [← hpl]; rfl) rfl hlt rfl fun a hk => ?_
        refine o_loadN (cs := [.int .i64 ((((t.at_ 3).l.getD k T.nil)).n), cs8, .bool ((((t.at_ 3).l.getD k T.nil)).z), .slice p8 ((((t.at_ 3).l.getD k T.nil)).l.length) cap8, cu8]) hk ts_39 rfl (hC8.at_) rfl fun a hk => ?_
        refine o_alloc hk hm tz_39 rfl rfl fun a b3 w hk hm => ?_
        refine o_store (i := 0) hk hm ts_39 rfl rfl rfl rfl (rep_T_one hR8) rfl (Nat.le_of_ble_eq_true rfl) fun a w hk hm => ?_
        refine c_end ?_
        refine d_startM (K := 8) mixed hm fun w hm => ?_
        refine d_take (i := 1) rfl rfl rfl (by kernel_rfl) (fun _ _ _ h => h) hk rfl (fun w hm => r_move hk rfl) hm fun a hk => ?_
        refine d_take (i := 2) rfl rfl rfl (by kernel_rfl) (fun _ _ _ h => h) hk rfl (fun w hm => r_nilCheck hk rfl) hm fun a hk => ?_
        refine d_take (i := 3) rfl rfl rfl (by kernel_rfl) (fun _ _ _ h => h) hk rfl (fun w hm => r_fieldAddr hk fo_61_4 rfl) hm fun a hk => ?_
        refine d_take (i := 4) rfl rfl rfl (by kernel_rfl) (fun _ _ _ h => h) hk rfl (fun w hm => r_load1 hk ts_53 rfl (hm.cell_blk (i := 11) rfl rfl)) hm fun a hk => ?_
        refine d_take (i := 5) rfl rfl rfl (by kernel_rfl) (fun _ _ _ h => h) hk rfl (fun w hm => r_loadN (cs := [.int .i64 ((((t.at_ 3).l.getD k T.nil)).n), cs8, .bool ((((t.at_ 3).l.getD k T.nil)).z), .slice p8 ((((t.at_ 3).l.getD k T.nil)).l.length) cap8, cu8]) hk ts_39 rfl (hm.cells_blk (i := 0) rfl rfl)) hm fun a hk => ?_
        refine d_takeF (i := 0) rfl rfl rfl (by kernel_rfl) (fun _ _ _ h => h) hk rfl (fun w => r_move hk rfl) (fun _ => hm) fun a hk => ?_
        refine d_one (k := 6) (by kernel_rfl) rfl rfl ?_
        refine o_call hk cb_40 (make_BrokerRegistrationRequestListener (t := ((t.at_ 3).l.getD k T.nil)) (hm.rep (i := 1) rfl) (small_getD (small_at hsm 3) k)) ⟨rfl, trivial⟩ rfl fun v w a hR hk => ?_
        obtain ⟨hp, c9, rfl, hl9, ho9, hR⟩ := hR
        have hm := hm.result hp hR
        refine c_endQ (c_then ⟨fun _ => hm.tail, ?_⟩)
        refine d_one (k := 7) (by kernel_rfl) rfl rfl ?_
        refine o_build1 (c := c9) hk hm rt_53 rfl rfl hl9 rfl rfl rfl fun a b4 w hk hm => ?_
        refine c_endQ (c_then ⟨fun _ => hm.tail.tail, ?_⟩)
        refine d_one (k := 8) (by kernel_rfl) rfl rfl ?_
        refine o_append (i := 6) hk hm rt_53 rfl rfl rfl (src_cells (k := 1) (news := c9) te_53 (by rw [hl9]) (hm.cells_blk (i := 0) rfl (by simp)) ho9) (by unfold maxLen; omega) (by omega) rfl fun a v5 w hk hm hnilv5 => ?_
        refine c_endQ (c_then ⟨fun h => Bool.noConfusion (show true = false from h), ?_⟩)
        refine d_one (k := 9) (by kernel_rfl) rfl rfl ?_
        refine o_nilCheck hk rfl rfl fun a hk => ?_
        refine c_endQ (c_then ⟨fun h => Bool.noConfusion (show true = false from h), ?_⟩)
        refine d_one (k := 10) (by kernel_rfl) rfl rfl ?_
        refine o_fieldAddr hk fo_61_4 rfl rfl fun a hk => ?_
        refine c_endQ (c_then ⟨fun h => Bool.noConfusion (show true = false from h), ?_⟩)
        refine d_one (k := 11) (by kernel_rfl) rfl rfl ?_
        refine o_store (i := 13) hk hm ts_53 rfl rfl (cells1 (row_one (hm.row (i := 6) rfl))) rfl (one1 (row_one (hm.row (i := 6) rfl))) rfl (Nat.le_of_ble_eq_true rfl) fun a w hk hm => ?_
        refine c_endQ (c_then ⟨fun h => Bool.noConfusion (show true = false from h), ?_⟩)
        refine d_done (by kernel_rfl) ?_ _
        refine c_inNormal ?_
        have hm := hm.elsPush (i := 4) (d := (ddS sch_sBrokerRegistrationRequestListener true ((t.at_ 3).l.getD k T.nil))) rfl (hm.rep (i := 1) rfl) (by rw [hl9])
        rw [← take_succ_map (ddS sch_sBrokerRegistrationRequestListener true) ((t.at_ 3)).l k T.nil hlt] at hm
        have hm := hm.tail
        have hm := hm.tail
        have hm := hm.tail
        have hm := hm.tail
        refine c_round (L' := [(0, .pointer (some ⟨g, 0, none⟩)), (3, .pointer (some ⟨b1, 0, none⟩)), (47, .slice p7 (((t.at_ 3)).l.length) cap7)]) hk ⟨rfl, rfl, rfl, rfl, rfl, trivial⟩ rfl ⟨_, _, rfl, fun e => hnn (hnilv5.1 e).1, hm⟩
      · obtain ⟨vl6, xsvl6, rfl, hnnvl6, hm⟩ := hR
        have hovl6 := row_one (hm.row (i := 2) rfl)
        have hm := hm.freezeRow (i := 2) (st := true) rfl (fun k hk => hm.rowNe (i := 2) (j := 9) rfl rfl (by decide) hk) (hm.els (i := 0) rfl) (by rw [List.length_map, List.length_take]; omega) (fun h => absurd h hnnvl6)
        rw [List.take_length] at hm
        refine c_then ⟨vl6, hovl6, hk.sub ⟨rfl, rfl, trivial⟩, ?_⟩
        rw [hz]; exact hm.pick [2, 5, 6, 7, 8, 9, 10] rfl rfl
    · have hz : (t.at_ 3).z = true := by simpa using hc
      refine wp_skip ?_
      have hm := hm.addV (.slice none 0 0)
      refine c_then ⟨.slice none 0 0, rfl, hk.sub ⟨rfl, rfl, trivial⟩, ?_⟩
      rw [hz]; exact hm.pick [0, 2, 3, 4, 5, 6, 7] rfl rfl
  obtain ⟨vj3, ho3, hk, hm⟩ := hJ
  refine c_cut (fun a w => ∃ v, v.oneCell' = true ∧ Kn 166 [(0, .pointer (some ⟨g, 0, none⟩)), (3, .pointer (some ⟨b1, 0, none⟩))] a ∧ Mem w0 (fun k => k = g) Y [.rep (if (t.at_ 4).z then .v (.slice none 0 0) else .sl true 4 ((t.at_ 4).l.map (ddS sch_sBrokerRegistrationRequestFeature true))) [v], .rep (if (t.at_ 3).z then .v (.slice none 0 0) else .sl true 5 ((t.at_ 3).l.map (ddS sch_sBrokerRegistrationRequestListener true))) [vj3], .rep (ddT (t.at_ 2)) [.int .i64 (((t.at_ 2)).n), cs3, .bool (((t.at_ 2)).z), .slice p3 (((t.at_ 2)).l.length) cap3, cu3], .rep (ddT (t.at_ 1)) [.int .i64 (((t.at_ 1)).n), cs2, .bool (((t.at_ 1)).z), .slice p2 (((t.at_ 1)).l.length) cap2, cu2], .rep (ddT (t.at_ 0)) [.int .i64 (((t.at_ 0)).n), cs1, .bool (((t.at_ 0)).z), .slice p1 (((t.at_ 0)).l.length) cap1, cu1], .blk b1 [.int .i64 t.n, cs, .bool t.z, .slice p t.l.length cap, .slice pu t.u.length capu] 39, .blk g [.int .i16 V, .int .i32 (IntKind.i32.wrap (((t.at_ 0)).n)), .string (bs ((t.at_ 1)).s), .int .u8 (((sixteen ((t.at_ 2)).s).getD 0 0).toNat : Int), .int .u8 (((sixteen ((t.at_ 2)).s).getD 1 0).toNat : Int), .int .u8 (((sixteen ((t.at_ 2)).s).getD 2 0).toNat : Int), .int .u8 (((sixteen ((t.at_ 2)).s).getD 3 0).toNat : Int), .int .u8 (((sixteen ((t.at_ 2)).s).getD 4 0).toNat : Int), .int .u8 (((sixteen ((t.at_ 2)).s).getD 5 0).toNat : Int), .int .u8 (((sixteen ((t.at_ 2)).s).getD 6 0).toNat : Int), .int .u8 (((sixteen ((t.at_ 2)).s).getD 7 0).toNat : Int), .int .u8 (((sixteen ((t.at_ 2)).s).getD 8 0).toNat : Int), .int .u8 (((sixteen ((t.at_ 2)).s).getD 9 0).toNat : Int), .int .u8 (((sixteen ((t.at_ 2)).s).getD 10 0).toNat : Int), .int .u8 (((sixteen ((t.at_ 2)).s).getD 11 0).toNat : Int), .int .u8 (((sixteen ((t.at_ 2)).s).getD 12 0).toNat : Int), .int .u8 (((sixteen ((t.at_ 2)).s).getD 13 0).toNat : Int), .int .u8 (((sixteen ((t.at_ 2)).s).getD 14 0).toNat : Int), .int .u8 (((sixteen ((t.at_ 2)).s).getD 15 0).toNat : Int), vj3, v, .pointer none, .bool false, .slice none 0 0, .int .i64 0, .map none] 61, .rep (ddT t) [.int .i64 t.n, cs, .bool t.z, .slice p t.l.length cap, .slice pu t.u.length capu]] w) ?_ (fun a w hJ => ?_)
  · refine c_region ?_
    refine o_loadN (cs := [.int .i64 t.n, cs, .bool t.z, .slice p t.l.length cap, .slice pu t.u.length capu]) hk ts_39 rfl (hm.cells_blk (i := 4) rfl rfl) rfl fun a hk => ?_
    refine o_call hk cb_38 (at_impl (t := t) 4 (hm.rep (i := 6) rfl)) ⟨rfl, rfl, trivial⟩ rfl fun v w a hR hk => ?_
    obtain ⟨hp, c10, rfl, hR⟩ := hR
    obtain ⟨cs10, p10, cap10, cu10, rfl⟩ := rep_T5 hR
    have hm := hm.result hp hR
    refine o_field hk ff_39_2 rfl rfl rfl fun a hk => ?_
    refine o_not hk rfl rfl fun a hk => ?_
    refine c_end ?_
    refine c_cond hk rfl (fun hc => ?_) (fun hc => ?_)
    · have hz : (t.at_ 4).z = false := by simpa using hc
      refine c_region ?_
      refine o_move hk rfl rfl fun a hk => ?_
      refine o_loadN (cs := [.int .i64 t.n, cs, .bool t.z, .slice p t.l.length cap, .slice pu t.u.length capu]) hk ts_39 rfl (hm.cells_blk (i := 5) rfl rfl) rfl fun a hk => ?_
      refine o_call hk cb_38 (at_impl (t := t) 4 (hm.rep (i := 7) rfl)) ⟨rfl, rfl, trivial⟩ rfl fun v w a hR hk => ?_
      obtain ⟨hp, c11, rfl, hR⟩ := hR
      obtain ⟨cs11, p11, cap11, cu11, rfl⟩ := rep_T5 hR
      have hm := hm.result hp hR
      refine o_field hk ff_39_3 rfl rfl rfl fun a hk => ?_
      refine o_lenSlice hk te_36 rfl rfl fun a hk => ?_
      have hsb7 := (small_spec (small_at hsm 4)).2.1
      refine o_make0 (cap := ((t.at_ 4)).l.length) hk hm rt_54 tz_87 rfl (by unfold maxLen; omega) (by omega) rfl fun a b7 w hbb7 hk hm => ?_
      refine o_nilCheck hk rfl rfl fun a hk => ?_
      refine o_fieldAddr hk fo_61_5 rfl rfl fun a hk => ?_
      refine o_store (i := 8) hk hm ts_54 rfl rfl rfl rfl rfl rfl (Nat.le_of_ble_eq_true rfl) fun a w hk hm => ?_
      refine c_end ?_
      refine c_region ?_
      refine o_loadN (cs := [.int .i64 t.n, cs, .bool t.z, .slice p t.l.length cap, .slice pu t.u.length capu]) hk ts_39 rfl (hm.cells_blk (i := 7) rfl rfl) rfl fun a hk => ?_
      refine o_call hk cb_38 (at_impl (t := t) 4 (hm.rep (i := 9) rfl)) ⟨rfl, rfl, trivial⟩ rfl fun v w a hR hk => ?_
      obtain ⟨hp, c12, rfl, hR⟩ := hR
      obtain ⟨cs12, p12, cap12, cu12, rfl⟩ := rep_T5 hR
      have hm := hm.result hp hR
      refine o_field hk ff_39_3 rfl rfl rfl fun a hk => ?_
      refine o_lenSlice hk te_36 rfl rfl fun a hk => ?_
      refine o_move hk rfl rfl fun a hk => ?_
      refine c_end ?_
      have hm := hm.addEls 4
      have hN := (small_spec (small_at hsm 4)).2.1
      refine c_range (L0 := [(0, .pointer (some ⟨g, 0, none⟩)), (3, .pointer (some ⟨b1, 0, none⟩)), (79, .slice p12 (((t.at_ 4)).l.length) cap12)]) (N := ((t.at_ 4)).l.length) (by omega) (fun k L w => ∃ vr xs, L = [(0, .pointer (some ⟨g, 0, none⟩)), (3, .pointer (some ⟨b1, 0, none⟩)), (79, .slice p12 (((t.at_ 4)).l.length) cap12)] ∧ vr ≠ .slice none 0 0 ∧ Mem w0 (fun k => k = g) Y [.els 4 ((((t.at_ 4)).l.take k).map (ddS sch_sBrokerRegistrationRequestFeature true)) xs, .rep (ddT (t.at_ 4)) [.int .i64 (((t.at_ 4)).n), cs12, .bool (((t.at_ 4)).z), .slice p12 (((t.at_ 4)).l.length) cap12, cu12], .row 87 4 vr k xs, .rep (ddT (t.at_ 4)) [.int .i64 (((t.at_ 4)).n), cs11, .bool (((t.at_ 4)).z), .slice p11 (((t.at_ 4)).l.length) cap11, cu11], .rep (ddT (t.at_ 4)) [.int .i64 (((t.at_ 4)).n), cs10, .bool (((t.at_ 4)).z), .slice p10 (((t.at_ 4)).l.length) cap10, cu10], .rep (if (t.at_ 3).z then .v (.slice none 0 0) else .sl true 5 ((t.at_ 3).l.map (ddS sch_sBrokerRegistrationRequestListener true))) [vj3], .rep (ddT (t.at_ 2)) [.int .i64 (((t.at_ 2)).n), cs3, .bool (((t.at_ 2)).z), .slice p3 (((t.at_ 2)).l.length) cap3, cu3], .rep (ddT (t.at_ 1)) [.int .i64 (((t.at_ 1)).n), cs2, .bool (((t.at_ 1)).z), .slice p2 (((t.at_ 1)).l.length) cap2, cu2], .rep (ddT (t.at_ 0)) [.int .i64 (((t.at_ 0)).n), cs1, .bool (((t.at_ 0)).z), .slice p1 (((t.at_ 0)).l.length) cap1, cu1], .blk b1 [.int .i64 t.n, cs, .bool t.z, .slice p t.l.length cap, .slice pu t.u.length capu] 39, .blk g [.int .i16 V, .int .i32 (IntKind.i32.wrap (((t.at_ 0)).n)), .string (bs ((t.at_ 1)).s), .int .u8 (((sixteen ((t.at_ 2)).s).getD 0 0).toNat : Int), .int .u8 (((sixteen ((t.at_ 2)).s).getD 1 0).toNat : Int), .int .u8 (((sixteen ((t.at_ 2)).s).getD 2 0).toNat : Int), .int .u8 (((sixteen ((t.at_ 2)).s).getD 3 0).toNat : Int), .int .u8 (((sixteen ((t.at_ 2)).s).getD 4 0).toNat : Int), .int .u8 (((sixteen ((t.at_ 2)).s).getD 5 0).toNat : Int), .int .u8 (((sixteen ((t.at_ 2)).s).getD 6 0).toNat : Int), .int .u8 (((sixteen ((t.at_ 2)).s).getD 7 0).toNat : Int), .int .u8 (((sixteen ((t.at_ 2)).s).getD 8 0).toNat : Int), .int .u8 (((sixteen ((t.at_ 2)).s).getD 9 0).toNat : Int), .int .u8 (((sixteen ((t.at_ 2)).s).getD 10 0).toNat : Int), .int .u8 (((sixteen ((t.at_ 2)).s).getD 11 0).toNat : Int), .int .u8 (((sixteen ((t.at_ 2)).s).getD 12 0).toNat : Int), .int .u8 (((sixteen ((t.at_ 2)).s).getD 13 0).toNat : Int), .int .u8 (((sixteen ((t.at_ 2)).s).getD 14 0).toNat : Int), .int .u8 (((sixteen ((t.at_ 2)).s).getD 15 0).toNat : Int), vj3, vr, .pointer none, .bool false, .slice none 0 0, .int .i64 0, .map none] 61, .rep (ddT t) [.int .i64 t.n, cs, .bool t.z, .slice p t.l.length cap, .slice pu t.u.length capu]] w) (hk.sub ⟨rfl, rfl, rfl, rfl, rfl, trivial⟩) ⟨_, _, rfl, by simp, hm⟩ rfl rfl rfl rfl rfl rfl rfl (fun k L a w hlt hR hk => ?_) rfl (fun L a w hR hk => ?_)
      · obtain ⟨vr, xs, rfl, hnn, hm⟩ := hR
        obtain ⟨_, bl, off, c13, hpl, hl13, hR13, hC13⟩ := rep_sl_get (rep_T_l (hm.rep (i := 1) rfl)) (getD_map ddT ((t.at_ 4)).l k T.nil hlt)
        obtain ⟨cs13, p13, cap13, cu13, rfl⟩ := rep_T5 hR13
        have hm := hm.add (e := .rep (ddT ((t.at_ 4).l.getD k T.nil)) [.int .i64 ((((t.at_ 4).l.getD k T.nil)).n), cs13, .bool ((((t.at_ 4).l.getD k T.nil)).z), .slice p13 ((((t.at_ 4).l.getD k T.nil)).l.length) cap13, cu13]) rfl hR13
        refine c_region ?_
        refine o_indexAddr (j := k) (b := bl) (off := off) hk te_36 ts_39 (by rw [← hpl]; rfl) rfl hlt rfl fun a hk => ?_
        refine o_loadN (cs := [.int .i64 ((((t.at_ 4).l.getD k T.nil)).n), cs13, .bool ((((t.at_ 4).l.getD k T.nil)).z), .slice p13 ((((t.at_ 4).l.getD k T.nil)).l.length) cap13, cu13]) hk ts_39 rfl (hC13.at_) rfl fun a hk => ?_
        refine o_alloc hk hm tz_39 rfl rfl fun a b8 w hk hm => ?_
        refine o_store (i := 0) hk hm ts_39 rfl rfl rfl rfl (rep_T_one hR13) rfl (Nat.le_of_ble_eq_true rfl) fun a w hk hm => ?_
        refine c_end ?_
        refine d_startM (K := 8) mixed hm fun w hm => ?_
        refine d_take (i := 1) rfl rfl rfl (by kernel_rfl) (fun _ _ _ h => h) hk rfl (fun w hm => r_move hk rfl) hm fun a hk => ?_
        refine d_take (i := 2) rfl rfl rfl (by kernel_rfl) (fun _ _ _ h => h) hk rfl (fun w hm => r_nilCheck hk rfl) hm fun a hk => ?_
        refine d_take (i := 3) rfl rfl rfl (by kernel_rfl) (fun _ _ _ h => h) hk rfl (fun w hm => r_fieldAddr hk fo_61_5 rfl) hm fun a hk => ?_
        refine d_take (i := 4) rfl rfl rfl (by kernel_rfl) (fun _ _ _ h => h) hk rfl (fun w hm => r_load1 hk ts_54 rfl (hm.cell_blk (i := 12) rfl rfl)) hm fun a hk => ?_
        refine d_take (i := 5) rfl rfl rfl (by kernel_rfl) (fun _ _ _ h => h) hk rfl (fun w hm => r_loadN (cs := [.int .i64 ((((t.at_ 4).l.getD k T.nil)).n), cs13, .bool ((((t.at_ 4).l.getD k T.nil)).z), .slice p13 ((((t.at_ 4).l.getD k T.nil)).l.length) cap13, cu13]) hk ts_39 rfl (hm.cells_blk (i := 0) rfl rfl)) hm fun a hk => ?_
        refine d_takeF (i := 0) rfl rfl rfl (by kernel_rfl) (fun _ _ _ h => h) hk rfl (fun w => r_move hk rfl) (fun _ => hm) fun a hk => ?_
        refine d_one (k := 6) (by kernel_rfl) rfl rfl ?_
        refine o_call hk cb_41 (make_BrokerRegistrationRequestFeature (t := ((t.at_ 4).l.getD k T.nil)) (hm.rep (i := 1) rfl) (small_getD (small_at hsm 4) k)) ⟨rfl, trivial⟩ rfl fun v w a hR hk => ?_
        obtain ⟨hp, c14, rfl, hl14, ho14, hR⟩ := hR
        have hm := hm.result hp hR
        refine c_endQ (c_then ⟨fun _ => hm.tail, ?_⟩)
        refine d_one (k := 7) (by kernel_rfl) rfl rfl ?_
        refine o_build1 (c := c14) hk hm rt_54 rfl rfl hl14 rfl rfl rfl fun a b9 w hk hm => ?_
        refine c_endQ (c_then ⟨fun _ => hm.tail.tail, ?_⟩)
        refine d_one (k := 8) (by kernel_rfl) rfl rfl ?_
        refine o_append (i := 6) hk hm rt_54 rfl rfl rfl (src_cells (k := 1) (news := c14) te_54 (by rw [hl14]) (hm.cells_blk (i := 0) rfl (by simp)) ho14) (by unfold maxLen; omega) (by omega) rfl fun a v10 w hk hm hnilv10 => ?_
        refine c_endQ (c_then ⟨fun h => Bool.noConfusion (show true = false from h), ?_⟩)
        refine d_one (k := 9) (by kernel_rfl) rfl rfl ?_
        refine o_nilCheck hk rfl rfl fun a hk => ?_
        refine c_endQ (c_then ⟨fun h => Bool.noConfusion (show true = false from h), ?_⟩)
        refine d_one (k := 10) (by kernel_rfl) rfl rfl ?_
        refine o_fieldAddr hk fo_61_5 rfl rfl fun a hk => ?_
        refine c_endQ (c_then ⟨fun h => Bool.noConfusion (show true = false from h), ?_⟩)
        refine d_one (k := 11) (by kernel_rfl) rfl rfl ?_
        refine o_store (i := 14) hk hm ts_54 rfl rfl (cells1 (row_one (hm.row (i := 6) rfl))) rfl (one1 (row_one (hm.row (i := 6) rfl))) rfl (Nat.le_of_ble_eq_true rfl) fun a w hk hm => ?_
        refine c_endQ (c_then ⟨fun h => Bool.noConfusion (show true = false from h), ?_⟩)
        refine d_done (by kernel_rfl) ?_ _
        refine c_inNormal ?_
        have hm := hm.elsPush (i := 4) (d := (ddS sch_sBrokerRegistrationRequestFeature true ((t.at_ 4).l.getD k T.nil))) rfl (hm.rep (i := 1) rfl) (by rw [hl14])
        rw [← take_succ_map (ddS sch_sBrokerRegistrationRequestFeature true) ((t.at_ 4)).l k T.nil hlt] at hm
        have hm := hm.tail
        have hm := hm.tail
        have hm := hm.tail
        have hm := hm.tail
        refine c_round (L' := [(0, .pointer (some ⟨g, 0, none⟩)), (3, .pointer (some ⟨b1, 0, none⟩)), (79, .slice p12 (((t.at_ 4)).l.length) cap12)]) hk ⟨rfl, rfl, rfl, rfl, rfl, trivial⟩ rfl ⟨_, _, rfl, fun e => hnn (hnilv10.1 e).1, hm⟩
      · obtain ⟨vl11, xsvl11, rfl, hnnvl11, hm⟩ := hR
        have hovl11 := row_one (hm.row (i := 2) rfl)
        have hm := hm.freezeRow (i := 2) (st := true) rfl (fun k hk => hm.rowNe (i := 2) (j := 10) rfl rfl (by decide) hk) (hm.els (i := 0) rfl) (by rw [List.length_map, List.length_take]; omega) (fun h => absurd h hnnvl11)
        rw [List.take_length] at hm
        refine c_then ⟨vl11, hovl11, hk.sub ⟨rfl, rfl, trivial⟩, ?_⟩
        rw [hz]; exact hm.pick [2, 5, 6, 7, 8, 9, 10, 11] rfl rfl
    · have hz : (t.at_ 4).z = true := by simpa using hc
      refine wp_skip ?_
      have hm := hm.addV (.slice none 0 0)
      refine c_then ⟨.slice none 0 0, rfl, hk.sub ⟨rfl, rfl, trivial⟩, ?_⟩
      rw [hz]; exact hm.pick [0, 2, 3, 4, 5, 6, 7, 8] rfl rfl
  obtain ⟨vj4, ho4, hk, hm⟩ := hJ
  refine c_region ?_
  refine o_move hk rfl rfl fun a hk => ?_
  refine o_loadN (cs := [.int .i64 t.n, cs, .bool t.z, .slice p t.l.length cap, .slice pu t.u.length capu]) hk ts_39 rfl (hm.cells_blk (i := 5) rfl rfl) rfl fun a hk => ?_
  refine o_call hk cb_38 (at_impl (t := t) 5 (hm.rep (i := 7) rfl)) ⟨rfl, rfl, trivial⟩ rfl fun v w a hR hk => ?_
  obtain ⟨hp, c15, rfl, hR⟩ := hR
  obtain ⟨cs15, p15, cap15, cu15, rfl⟩ := rep_T5 hR
  have hm := hm.result hp hR
  refine o_call hk cb_42 (textOf_c (t := (t.at_ 5)) (hm.rep (i := 0) rfl)) ⟨rfl, trivial⟩ rfl fun v16 w a hR hk => ?_
  obtain ⟨hp, hR, ho16⟩ := hR
  have hm := hm.result hp hR
  refine o_nilCheck hk rfl rfl fun a hk => ?_
  refine o_fieldAddr hk fo_61_6 rfl rfl fun a hk => ?_
  refine o_store (i := 8) hk hm ts_55 rfl rfl (cells1 (ho16)) rfl (one1 (ho16)) rfl (Nat.le_of_ble_eq_true rfl) fun a w hk hm => ?_
  refine c_end ?_
  refine c_region ?_
  refine o_move hk rfl rfl fun a hk => ?_
  refine o_loadN (cs := [.int .i64 t.n, cs, .bool t.z, .slice p t.l.length cap, .slice pu t.u.length capu]) hk ts_39 rfl (hm.cells_blk (i := 7) rfl rfl) rfl fun a hk => ?_
  refine o_call hk cb_38 (at_impl (t := t) 6 (hm.rep (i := 9) rfl)) ⟨rfl, rfl, trivial⟩ rfl fun v w a hR hk => ?_
  obtain ⟨hp, c17, rfl, hR⟩ := hR
  obtain ⟨cs17, p17, cap17, cu17, rfl⟩ := rep_T5 hR
  have hm := hm.result hp hR
  refine o_field hk ff_39_0 rfl rfl rfl fun a hk => ?_
  refine o_ibits (c := (((t.at_ 6)).n) % 2) hk rfl rfl (and1_i64 _) rfl fun a hk => ?_
  refine o_icmp hk rfl rfl rfl rfl fun a hk => ?_
  refine o_nilCheck hk rfl rfl fun a hk => ?_
  refine o_fieldAddr hk fo_61_7 rfl rfl fun a hk => ?_
  refine o_store (i := 9) hk hm ts_4 rfl rfl rfl rfl rfl rfl (Nat.le_of_ble_eq_true rfl) fun a w hk hm => ?_
  refine c_end ?_
  refine c_cut (fun a w => ∃ v, v.oneCell' = true ∧ Kn 166 [(0, .pointer (some ⟨g, 0, none⟩)), (3, .pointer (some ⟨b1, 0, none⟩))] a ∧ Mem w0 (fun k => k = g) Y [.rep (if (t.at_ 7).z then .v (.slice none 0 0) else .sl true 16 ((t.at_ 7).l.map (fun x : T => DD.agg ((sixteen x.s).map ddB)))) [v], .rep (ddT (t.at_ 6)) [.int .i64 (((t.at_ 6)).n), cs17, .bool (((t.at_ 6)).z), .slice p17 (((t.at_ 6)).l.length) cap17, cu17], .rep (ddVal 8 0 (fun _ => .agg []) (t.at_ 5)) [v16], .rep (ddT (t.at_ 5)) [.int .i64 (((t.at_ 5)).n), cs15, .bool (((t.at_ 5)).z), .slice p15 (((t.at_ 5)).l.length) cap15, cu15], .rep (if (t.at_ 4).z then .v (.slice none 0 0) else .sl true 4 ((t.at_ 4).l.map (ddS sch_sBrokerRegistrationRequestFeature true))) [vj4], .rep (if (t.at_ 3).z then .v (.slice none 0 0) else .sl true 5 ((t.at_ 3).l.map (ddS sch_sBrokerRegistrationRequestListener true))) [vj3], .rep (ddT (t.at_ 2)) [.int .i64 (((t.at_ 2)).n), cs3, .bool (((t.at_ 2)).z), .slice p3 (((t.at_ 2)).l.length) cap3, cu3], .rep (ddT (t.at_ 1)) [.int .i64 (((t.at_ 1)).n), cs2, .bool (((t.at_ 1)).z), .slice p2 (((t.at_ 1)).l.length) cap2, cu2], .rep (ddT (t.at_ 0)) [.int .i64 (((t.at_ 0)).n), cs1, .bool (((t.at_ 0)).z), .slice p1 (((t.at_ 0)).l.length) cap1, cu1], .blk b1 [.int .i64 t.n, cs, .bool t.z, .slice p t.l.length cap, .slice pu t.u.length capu] 39, .blk g [.int .i16 V, .int .i32 (IntKind.i32.wrap (((t.at_ 0)).n)), .string (bs ((t.at_ 1)).s), .int .u8 (((sixteen ((t.at_ 2)).s).getD 0 0).toNat : Int), .int .u8 (((sixteen ((t.at_ 2)).s).getD 1 0).toNat : Int), .int .u8 (((sixteen ((t.at_ 2)).s).getD 2 0).toNat : Int), .int .u8 (((sixteen ((t.at_ 2)).s).getD 3 0).toNat : Int), .int .u8 (((sixteen ((t.at_ 2)).s).getD 4 0).toNat : Int), .int .u8 (((sixteen ((t.at_ 2)).s).getD 5 0).toNat : Int), .int .u8 (((sixteen ((t.at_ 2)).s).getD 6 0).toNat : Int), .int .u8 (((sixteen ((t.at_ 2)).s).getD 7 0).toNat : Int), .int .u8 (((sixteen ((t.at_ 2)).s).getD 8 0).toNat : Int), .int .u8 (((sixteen ((t.at_ 2)).s).getD 9 0).toNat : Int), .int .u8 (((sixteen ((t.at_ 2)).s).getD 10 0).toNat : Int), .int .u8 (((sixteen ((t.at_ 2)).s).getD 11 0).toNat : Int), .int .u8 (((sixteen ((t.at_ 2)).s).getD 12 0).toNat : Int), .int .u8 (((sixteen ((t.at_ 2)).s).getD 13 0).toNat : Int), .int .u8 (((sixteen ((t.at_ 2)).s).getD 14 0).toNat : Int), .int .u8 (((sixteen ((t.at_ 2)).s).getD 15 0).toNat : Int), vj3, vj4, v16, .bool (((((t.at_ 6)).n) % 2 : Int) == 1), v, .int .i64 0, .map none] 61, .rep (ddT t) [.int .i64 t.n, cs, .bool t.z, .slice p t.l.length cap, .slice pu t.u.length capu]] w) ?_ (fun a w hJ => ?_)
  · refine c_region ?_
    refine o_loadN (cs := [.int .i64 t.n, cs, .bool t.z, .slice p t.l.length cap, .slice pu t.u.length capu]) hk ts_39 rfl (hm.cells_blk (i := 8) rfl rfl) rfl fun a hk => ?_
    refine o_call hk cb_38 (at_impl (t := t) 7 (hm.rep (i := 10) rfl)) ⟨rfl, rfl, trivial⟩ rfl fun v w a hR hk => ?_
    obtain ⟨hp, c18, rfl, hR⟩ := hR
    obtain ⟨cs18, p18, cap18, cu18, rfl⟩ := rep_T5 hR
    have hm := hm.result hp hR
    refine o_field hk ff_39_2 rfl rfl rfl fun a hk => ?_
    refine o_not hk rfl rfl fun a hk => ?_
    refine c_end ?_
    refine c_cond hk rfl (fun hc => ?_) (fun hc => ?_)
    · have hz : (t.at_ 7).z = false := by simpa using hc
      refine c_region ?_
      refine o_move hk rfl rfl fun a hk => ?_
      refine o_loadN (cs := [.int .i64 t.n, cs, .bool t.z, .slice p t.l.length cap, .slice pu t.u.length capu]) hk ts_39 rfl (hm.cells_blk (i := 9) rfl rfl) rfl fun a hk => ?_
      refine o_call hk cb_38 (at_impl (t := t) 7 (hm.rep (i := 11) rfl)) ⟨rfl, rfl, trivial⟩ rfl fun v w a hR hk => ?_
      obtain ⟨hp, c19, rfl, hR⟩ := hR
      obtain ⟨cs19, p19, cap19, cu19, rfl⟩ := rep_T5 hR
      have hm := hm.result hp hR
      refine o_field hk ff_39_3 rfl rfl rfl fun a hk => ?_
      refine o_lenSlice hk te_36 rfl rfl fun a hk => ?_
      have hsb12 := (small_spec (small_at hsm 7)).2.1
      refine o_make0 (cap := ((t.at_ 7)).l.length) hk hm rt_56 tz_52 rfl (by unfold maxLen; omega) (by omega) rfl fun a b12 w hbb12 hk hm => ?_
      refine o_nilCheck hk rfl rfl fun a hk => ?_
      refine o_fieldAddr hk fo_61_8 rfl rfl fun a hk => ?_
      refine o_store (i := 12) hk hm ts_56 rfl rfl rfl rfl rfl rfl (Nat.le_of_ble_eq_true rfl) fun a w hk hm => ?_
      refine c_end ?_
      refine c_region ?_
      refine o_loadN (cs := [.int .i64 t.n, cs, .bool t.z, .slice p t.l.length cap, .slice pu t.u.length capu]) hk ts_39 rfl (hm.cells_blk (i := 11) rfl rfl) rfl fun a hk => ?_
      refine o_call hk cb_38 (at_impl (t := t) 7 (hm.rep (i := 13) rfl)) ⟨rfl, rfl, trivial⟩ rfl fun v w a hR hk => ?_
      obtain ⟨hp, c20, rfl, hR⟩ := hR
      obtain ⟨cs20, p20, cap20, cu20, rfl⟩ := rep_T5 hR
      have hm := hm.result hp hR
      refine o_field hk ff_39_3 rfl rfl rfl fun a hk => ?_
      refine o_lenSlice hk te_36 rfl rfl fun a hk => ?_
      refine o_move hk rfl rfl fun a hk => ?_
      refine c_end ?_
      have hm := hm.addEls 16
      have hN := (small_spec (small_at hsm 7)).2.1
      refine c_range (L0 := [(0, .pointer (some ⟨g, 0, none⟩)), (3, .pointer (some ⟨b1, 0, none⟩)), (125, .slice p20 (((t.at_ 7)).l.length) cap20)]) (N := ((t.at_ 7)).l.length) (by omega) (fun k L w => ∃ vr xs, L = [(0, .pointer (some ⟨g, 0, none⟩)), (3, .pointer (some ⟨b1, 0, none⟩)), (125, .slice p20 (((t.at_ 7)).l.length) cap20)] ∧ vr ≠ .slice none 0 0 ∧ Mem w0 (fun k => k = g) Y [.els 16 ((((t.at_ 7)).l.take k).map (fun x : T => DD.agg ((sixteen x.s).map ddB))) xs, .rep (ddT (t.at_ 7)) [.int .i64 (((t.at_ 7)).n), cs20, .bool (((t.at_ 7)).z), .slice p20 (((t.at_ 7)).l.length) cap20, cu20], .row 52 16 vr k xs, .rep (ddT (t.at_ 7)) [.int .i64 (((t.at_ 7)).n), cs19, .bool (((t.at_ 7)).z), .slice p19 (((t.at_ 7)).l.length) cap19, cu19], .rep (ddT (t.at_ 7)) [.int .i64 (((t.at_ 7)).n), cs18, .bool (((t.at_ 7)).z), .slice p18 (((t.at_ 7)).l.length) cap18, cu18], .rep (ddT (t.at_ 6)) [.int .i64 (((t.at_ 6)).n), cs17, .bool (((t.at_ 6)).z), .slice p17 (((t.at_ 6)).l.length) cap17, cu17], .rep (ddVal 8 0 (fun _ => .agg []) (t.at_ 5)) [v16], .rep (ddT (t.at_ 5)) [.int .i64 (((t.at_ 5)).n), cs15, .bool (((t.at_ 5)).z), .slice p15 (((t.at_ 5)).l.length) cap15, cu15], .rep (if (t.at_ 4).z then .v (.slice none 0 0) else .sl true 4 ((t.at_ 4).l.map (ddS sch_sBrokerRegistrationRequestFeature true))) [vj4], .rep (if (t.at_ 3).z then .v (.slice none 0 0) else .sl true 5 ((t.at_ 3).l.map (ddS sch_sBrokerRegistrationRequestListener true))) [vj3], .rep (ddT (t.at_ 2)) [.int .i64 (((t.at_ 2)).n), cs3, .bool (((t.at_ 2)).z), .slice p3 (((t.at_ 2)).l.length) cap3, cu3], .rep (ddT (t.at_ 1)) [.int .i64 (((t.at_ 1)).n), cs2, .bool (((t.at_ 1)).z), .slice p2 (((t.at_ 1)).l.length) cap2, cu2], .rep (ddT (t.at_ 0)) [.int .i64 (((t.at_ 0)).n), cs1, .bool (((t.at_ 0)).z), .slice p1 (((t.at_ 0)).l.length) cap1, cu1], .blk b1 [.int .i64 t.n, cs, .bool t.z, .slice p t.l.length cap, .slice pu t.u.length capu] 39, .blk g [.int .i16 V, .int .i32 (IntKind.i32.wrap (((t.at_ 0)).n)), .string (bs ((t.at_ 1)).s), .int .u8 (((sixteen ((t.at_ 2)).s).getD 0 0).toNat : Int), .int .u8 (((sixteen ((t.at_ 2)).s).getD 1 0).toNat : Int), .int .u8 (((sixteen ((t.at_ 2)).s).getD 2 0).toNat : Int), .int .u8 (((sixteen ((t.at_ 2)).s).getD 3 0).toNat : Int), .int .u8 (((sixteen ((t.at_ 2)).s).getD 4 0).toNat : Int), .int .u8 (((sixteen ((t.at_ 2)).s).getD 5 0).toNat : Int), .int .u8 (((sixteen ((t.at_ 2)).s).getD 6 0).toNat : Int), .int .u8 (((sixteen ((t.at_ 2)).s).getD 7 0).toNat : Int), .int .u8 (((sixteen ((t.at_ 2)).s).getD 8 0).toNat : Int), .int .u8 (((sixteen ((t.at_ 2)).s).getD 9 0).toNat : Int), .int .u8 (((sixteen ((t.at_ 2)).s).getD 10 0).toNat : Int), .int .u8 (((sixteen ((t.at_ 2)).s).getD 11 0).toNat : Int), .int .u8 (((sixteen ((t.at_ 2)).s).getD 12 0).toNat : Int), .int .u8 (((sixteen ((t.at_ 2)).s).getD 13 0).toNat : Int), .int .u8 (((sixteen ((t.at_ 2)).s).getD 14 0).toNat : Int), .int .u8 (((sixteen ((t.at_ 2)).s).getD 15 0).toNat : Int), vj3, vj4, v16, .bool (((((t.at_ 6)).n) % 2 : Int) == 1), vr, .int .i64 0, .map none] 61, .rep (ddT t) [.int .i64 t.n, cs, .bool t.z, .slice p t.l.length cap, .slice pu t.u.length capu]] w) (hk.sub ⟨rfl, rfl, rfl, rfl, rfl, trivial⟩) ⟨_, _, rfl, by simp, hm⟩ rfl rfl rfl rfl rfl rfl rfl (fun k L a w hlt hR hk => ?_) rfl (fun L a w hR hk => ?_)
      · obtain ⟨vr, xs, rfl, hnn, hm⟩ := hR
        obtain ⟨_, bl, off, c21, hpl, hl21, hR21, hC21⟩ := rep_sl_get (rep_T_l (hm.rep (i := 1) rfl)) (getD_map ddT ((t.at_ 7)).l k T.nil hlt)
        obtain ⟨cs21, p21, cap21, cu21, rfl⟩ := rep_T5 hR21
        have hm := hm.add (e := .rep (ddT ((t.at_ 7).l.getD k T.nil)) [.int .i64 ((((t.at_ 7).l.getD k T.nil)).n), cs21, .bool ((((t.at_ 7).l.getD k T.nil)).z), .slice p21 ((((t.at_ 7).l.getD k T.nil)).l.length) cap21, cu21]) rfl hR21
        refine c_region ?_
        refine o_indexAddr (j := k) (b := bl) (off := off) hk te_36 ts_39 (by rw [← hpl]; rfl) rfl hlt rfl fun a hk => ?_
        refine o_loadN (cs := [.int .i64 ((((t.at_ 7).l.getD k T.nil)).n), cs21, .bool ((((t.at_ 7).l.getD k T.nil)).z), .slice p21 ((((t.at_ 7).l.getD k T.nil)).l.length) cap21, cu21]) hk ts_39 rfl (hC21.at_) rfl fun a hk => ?_
        refine o_alloc hk hm tz_39 rfl rfl fun a b13 w hk hm => ?_
        refine o_store (i := 0) hk hm ts_39 rfl rfl rfl rfl (rep_T_one hR21) rfl (Nat.le_of_ble_eq_true rfl) fun a w hk hm => ?_
        refine c_end ?_
        refine d_startM (K := 9) mixed hm fun w hm => ?_
        refine d_take (i := 1) rfl rfl rfl (by kernel_rfl) (fun _ _ _ h => h) hk rfl (fun w hm => r_move hk rfl) hm fun a hk => ?_
        refine d_take (i := 2) rfl rfl rfl (by kernel_rfl) (fun _ _ _ h => h) hk rfl (fun w hm => r_nilCheck hk rfl) hm fun a hk => ?_
        refine d_take (i := 3) rfl rfl rfl (by kernel_rfl) (fun _ _ _ h => h) hk rfl (fun w hm => r_fieldAddr hk fo_61_8 rfl) hm fun a hk => ?_
        refine d_take (i := 4) rfl rfl rfl (by kernel_rfl) (fun _ _ _ h => h) hk rfl (fun w hm => r_load1 hk ts_56 rfl (hm.cell_blk (i := 16) rfl rfl)) hm fun a hk => ?_
        refine d_take (i := 5) rfl rfl rfl (by kernel_rfl) (fun _ _ _ h => h) hk rfl (fun w hm => r_fieldAddr hk fo_39_1 rfl) hm fun a hk => ?_
        refine d_take (i := 6) rfl rfl rfl (by kernel_rfl) (fun _ _ _ h => h) hk rfl (fun w hm => r_load1 hk ts_22 rfl (hm.cell_blk (i := 0) rfl rfl)) hm fun a hk => ?_
        refine d_takeF (i := 0) rfl rfl rfl (by kernel_rfl) (fun _ _ _ h => h) hk rfl (fun w => r_move hk rfl) (fun _ => hm) fun a hk => ?_
        refine d_one (k := 7) (by kernel_rfl) rfl rfl ?_
        refine o_call hk cb_39 (sixteen_c (rep_T_s (hm.rep (i := 1) rfl))) ⟨rfl, trivial⟩ rfl fun v w a hR hk => ?_
        obtain ⟨hp, rfl⟩ := hR
        have hm := hm.pure hp
        refine c_endQ (c_then ⟨fun _ => hm, ?_⟩)
        refine d_one (k := 8) (by kernel_rfl) rfl rfl ?_
        refine o_buildSlice (r := [.int .u8 (((sixteen (((t.at_ 7).l.getD k T.nil)).s).getD 0 0).toNat : Int), .int .u8 (((sixteen (((t.at_ 7).l.getD k T.nil)).s).getD 1 0).toNat : Int), .int .u8 (((sixteen (((t.at_ 7).l.getD k T.nil)).s).getD 2 0).toNat : Int), .int .u8 (((sixteen (((t.at_ 7).l.getD k T.nil)).s).getD 3 0).toNat : Int), .int .u8 (((sixteen (((t.at_ 7).l.getD k T.nil)).s).getD 4 0).toNat : Int), .int .u8 (((sixteen (((t.at_ 7).l.getD k T.nil)).s).getD 5 0).toNat : Int), .int .u8 (((sixteen (((t.at_ 7).l.getD k T.nil)).s).getD 6 0).toNat : Int), .int .u8 (((sixteen (((t.at_ 7).l.getD k T.nil)).s).getD 7 0).toNat : Int), .int .u8 (((sixteen (((t.at_ 7).l.getD k T.nil)).s).getD 8 0).toNat : Int), .int .u8 (((sixteen (((t.at_ 7).l.getD k T.nil)).s).getD 9 0).toNat : Int), .int .u8 (((sixteen (((t.at_ 7).l.getD k T.nil)).s).getD 10 0).toNat : Int), .int .u8 (((sixteen (((t.at_ 7).l.getD k T.nil)).s).getD 11 0).toNat : Int), .int .u8 (((sixteen (((t.at_ 7).l.getD k T.nil)).s).getD 12 0).toNat : Int), .int .u8 (((sixteen (((t.at_ 7).l.getD k T.nil)).s).getD 13 0).toNat : Int), .int .u8 (((sixteen (((t.at_ 7).l.getD k T.nil)).s).getD 14 0).toNat : Int), .int .u8 (((sixteen (((t.at_ 7).l.getD k T.nil)).s).getD 15 0).toNat : Int)]) hk hm rt_56 tz_52 rfl rfl rfl ⟨_, _, _, rfl, rfl, rfl, rfl, rfl⟩ rfl fun a b14 w hk hm => ?_
        refine c_endQ (c_then ⟨fun _ => hm.tail, ?_⟩)
        refine d_one (k := 9) (by kernel_rfl) rfl rfl ?_
        refine o_append (i := 5) hk hm rt_56 rfl rfl rfl (src_cells (k := 1) (news := [.int .u8 (((sixteen (((t.at_ 7).l.getD k T.nil)).s).getD 0 0).toNat : Int), .int .u8 (((sixteen (((t.at_ 7).l.getD k T.nil)).s).getD 1 0).toNat : Int), .int .u8 (((sixteen (((t.at_ 7).l.getD k T.nil)).s).getD 2 0).toNat : Int), .int .u8 (((sixteen (((t.at_ 7).l.getD k T.nil)).s).getD 3 0).toNat : Int), .int .u8 (((sixteen (((t.at_ 7).l.getD k T.nil)).s).getD 4 0).toNat : Int), .int .u8 (((sixteen (((t.at_ 7).l.getD k T.nil)).s).getD 5 0).toNat : Int), .int .u8 (((sixteen (((t.at_ 7).l.getD k T.nil)).s).getD 6 0).toNat : Int), .int .u8 (((sixteen (((t.at_ 7).l.getD k T.nil)).s).getD 7 0).toNat : Int), .int .u8 (((sixteen (((t.at_ 7).l.getD k T.nil)).s).getD 8 0).toNat : Int), .int .u8 (((sixteen (((t.at_ 7).l.getD k T.nil)).s).getD 9 0).toNat : Int), .int .u8 (((sixteen (((t.at_ 7).l.getD k T.nil)).s).getD 10 0).toNat : Int), .int .u8 (((sixteen (((t.at_ 7).l.getD k T.nil)).s).getD 11 0).toNat : Int), .int .u8 (((sixteen (((t.at_ 7).l.getD k T.nil)).s).getD 12 0).toNat : Int), .int .u8 (((sixteen (((t.at_ 7).l.getD k T.nil)).s).getD 13 0).toNat : Int), .int .u8 (((sixteen (((t.at_ 7).l.getD k T.nil)).s).getD 14 0).toNat : Int), .int .u8 (((sixteen (((t.at_ 7).l.getD k T.nil)).s).getD 15 0).toNat : Int)]) te_56 rfl (hm.cells_blk (i := 0) rfl rfl) rfl) (by unfold maxLen; omega) (by omega) rfl fun a v15 w hk hm hnilv15 => ?_
        refine c_endQ (c_then ⟨fun h => Bool.noConfusion (show true = false from h), ?_⟩)
        refine d_one (k := 10) (by kernel_rfl) rfl rfl ?_
        refine o_nilCheck hk rfl rfl fun a hk => ?_
        refine c_endQ (c_then ⟨fun h => Bool.noConfusion (show true = false from h), ?_⟩)
        refine d_one (k := 11) (by kernel_rfl) rfl rfl ?_
        refine o_fieldAddr hk fo_61_8 rfl rfl fun a hk => ?_
        refine c_endQ (c_then ⟨fun h => Bool.noConfusion (show true = false from h), ?_⟩)
        refine d_one (k := 12) (by kernel_rfl) rfl rfl ?_
        refine o_store (i := 17) hk hm ts_56 rfl rfl (cells1 (row_one (hm.row (i := 5) rfl))) rfl (one1 (row_one (hm.row (i := 5) rfl))) rfl (Nat.le_of_ble_eq_true rfl) fun a w hk hm => ?_
        refine c_endQ (c_then ⟨fun h => Bool.noConfusion (show true = false from h), ?_⟩)
        refine d_done (by kernel_rfl) ?_ _
        refine c_inNormal ?_
        have hm := hm.elsPush (i := 3) (d := (.agg ((sixteen ((t.at_ 7).l.getD k T.nil).s).map ddB))) rfl (rep_six _) rfl
        rw [← take_succ_map (fun x : T => DD.agg ((sixteen x.s).map ddB)) ((t.at_ 7)).l k T.nil hlt] at hm
        have hm := hm.tail
        have hm := hm.tail
        have hm := hm.tail
        refine c_round (L' := [(0, .pointer (some ⟨g, 0, none⟩)), (3, .pointer (some ⟨b1, 0, none⟩)), (125, .slice p20 (((t.at_ 7)).l.length) cap20)]) hk ⟨rfl, rfl, rfl, rfl, rfl, trivial⟩ rfl ⟨_, _, rfl, fun e => hnn (hnilv15.1 e).1, hm⟩
      · obtain ⟨vl16, xsvl16, rfl, hnnvl16, hm⟩ := hR
        have hovl16 := row_one (hm.row (i := 2) rfl)
        have hm := hm.freezeRow (i := 2) (st := true) rfl (fun k hk => hm.rowNe (i := 2) (j := 14) rfl rfl (by decide) hk) (hm.els (i := 0) rfl) (by rw [List.length_map, List.length_take]; omega) (fun h => absurd h hnnvl16)
        rw [List.take_length] at hm
        refine c_then ⟨vl16, hovl16, hk.sub ⟨rfl, rfl, trivial⟩, ?_⟩
        rw [hz]; exact hm.pick [2, 5, 6, 7, 8, 9, 10, 11, 12, 13, 14, 15] rfl rfl
    · have hz : (t.at_ 7).z = true := by simpa using hc
      refine wp_skip ?_
      have hm := hm.addV (.slice none 0 0)
      refine c_then ⟨.slice none 0 0, rfl, hk.sub ⟨rfl, rfl, trivial⟩, ?_⟩
      rw [hz]; exact hm.pick [0, 2, 3, 4, 5, 6, 7, 8, 9, 10, 11, 12] rfl rfl
  obtain ⟨vj7, ho7, hk, hm⟩ := hJ
  refine c_region ?_
  refine o_move hk rfl rfl fun a hk => ?_
  refine o_loadN (cs := [.int .i64 t.n, cs, .bool t.z, .slice p t.l.length cap, .slice pu t.u.length capu]) hk ts_39 rfl (hm.cells_blk (i := 9) rfl rfl) rfl fun a hk => ?_
  refine o_call hk cb_38 (at_impl (t := t) 8 (hm.rep (i := 11) rfl)) ⟨rfl, rfl, trivial⟩ rfl fun v w a hR hk => ?_
  obtain ⟨hp, c23, rfl, hR⟩ := hR
  obtain ⟨cs23, p23, cap23, cu23, rfl⟩ := rep_T5 hR
  have hm := hm.result hp hR
  refine o_field hk ff_39_0 rfl rfl rfl fun a hk => ?_
  refine o_nilCheck hk rfl rfl fun a hk => ?_
  refine o_fieldAddr hk fo_61_9 rfl rfl fun a hk => ?_
  refine o_store (i := 11) hk hm ts_2 rfl rfl rfl rfl rfl rfl (Nat.le_of_ble_eq_true rfl) fun a w hk hm => ?_
  refine c_end ?_
  refine c_region ?_
  refine o_fieldAddr hk fo_39_4 rfl rfl fun a hk => ?_
  refine o_load hk ts_37 rfl (hm.cell_blk (i := 10) rfl rfl) rfl fun a hk => ?_
  refine o_lenSlice hk te_37 rfl rfl fun a hk => ?_
  refine o_move hk rfl rfl fun a hk => ?_
  refine c_end ?_
  have hm := hm.addMap0
  have hm := hm.addEls 1
  have hrs := small_rising hsm
  have hN := (small_spec (hsm)).2.2.1
  refine c_range (L0 := [(0, .pointer (some ⟨g, 0, none⟩)), (151, .slice pu t.u.length capu)]) (N := t.u.length) (by omega) (fun k L w => ∃ pm vs, L = [(0, .pointer (some ⟨g, 0, none⟩)), (151, .slice pu t.u.length capu)] ∧ Mem w0 (fun k => k = g) Y [.els 1 ((t.u.take k).map ddTagV) vs, .mapb pm ((t.u.take k).map Prod.fst) vs, .rep (ddT (t.at_ 8)) [.int .i64 (((t.at_ 8)).n), cs23, .bool (((t.at_ 8)).z), .slice p23 (((t.at_ 8)).l.length) cap23, cu23], .rep (if (t.at_ 7).z then .v (.slice none 0 0) else .sl true 16 ((t.at_ 7).l.map (fun x : T => DD.agg ((sixteen x.s).map ddB)))) [vj7], .rep (ddT (t.at_ 6)) [.int .i64 (((t.at_ 6)).n), cs17, .bool (((t.at_ 6)).z), .slice p17 (((t.at_ 6)).l.length) cap17, cu17], .rep (ddVal 8 0 (fun _ => .agg []) (t.at_ 5)) [v16], .rep (ddT (t.at_ 5)) [.int .i64 (((t.at_ 5)).n), cs15, .bool (((t.at_ 5)).z), .slice p15 (((t.at_ 5)).l.length) cap15, cu15], .rep (if (t.at_ 4).z then .v (.slice none 0 0) else .sl true 4 ((t.at_ 4).l.map (ddS sch_sBrokerRegistrationRequestFeature true))) [vj4], .rep (if (t.at_ 3).z then .v (.slice none 0 0) else .sl true 5 ((t.at_ 3).l.map (ddS sch_sBrokerRegistrationRequestListener true))) [vj3], .rep (ddT (t.at_ 2)) [.int .i64 (((t.at_ 2)).n), cs3, .bool (((t.at_ 2)).z), .slice p3 (((t.at_ 2)).l.length) cap3, cu3], .rep (ddT (t.at_ 1)) [.int .i64 (((t.at_ 1)).n), cs2, .bool (((t.at_ 1)).z), .slice p2 (((t.at_ 1)).l.length) cap2, cu2], .rep (ddT (t.at_ 0)) [.int .i64 (((t.at_ 0)).n), cs1, .bool (((t.at_ 0)).z), .slice p1 (((t.at_ 0)).l.length) cap1, cu1], .blk b1 [.int .i64 t.n, cs, .bool t.z, .slice p t.l.length cap, .slice pu t.u.length capu] 39, .blk g [.int .i16 V, .int .i32 (IntKind.i32.wrap (((t.at_ 0)).n)), .string (bs ((t.at_ 1)).s), .int .u8 (((sixteen ((t.at_ 2)).s).getD 0 0).toNat : Int), .int .u8 (((sixteen ((t.at_ 2)).s).getD 1 0).toNat : Int), .int .u8 (((sixteen ((t.at_ 2)).s).getD 2 0).toNat : Int), .int .u8 (((sixteen ((t.at_ 2)).s).getD 3 0).toNat : Int), .int .u8 (((sixteen ((t.at_ 2)).s).getD 4 0).toNat : Int), .int .u8 (((sixteen ((t.at_ 2)).s).getD 5 0).toNat : Int), .int .u8 (((sixteen ((t.at_ 2)).s).getD 6 0).toNat : Int), .int .u8 (((sixteen ((t.at_ 2)).s).getD 7 0).toNat : Int), .int .u8 (((sixteen ((t.at_ 2)).s).getD 8 0).toNat : Int), .int .u8 (((sixteen ((t.at_ 2)).s).getD 9 0).toNat : Int), .int .u8 (((sixteen ((t.at_ 2)).s).getD 10 0).toNat : Int), .int .u8 (((sixteen ((t.at_ 2)).s).getD 11 0).toNat : Int), .int .u8 (((sixteen ((t.at_ 2)).s).getD 12 0).toNat : Int), .int .u8 (((sixteen ((t.at_ 2)).s).getD 13 0).toNat : Int), .int .u8 (((sixteen ((t.at_ 2)).s).getD 14 0).toNat : Int), .int .u8 (((sixteen ((t.at_ 2)).s).getD 15 0).toNat : Int), vj3, vj4, v16, .bool (((((t.at_ 6)).n) % 2 : Int) == 1), vj7, .int .i64 (((t.at_ 8)).n), .map pm] 61, .rep (ddT t) [.int .i64 t.n, cs, .bool t.z, .slice p t.l.length cap, .slice pu t.u.length capu]] w) (hk.sub ⟨rfl, rfl, rfl, rfl, trivial⟩) ⟨none, [], rfl, hm⟩ rfl rfl rfl rfl rfl rfl rfl (fun k L a w hlt hR hk => ?_) rfl (fun L a w hR hk => ?_)
  · obtain ⟨pm, vs, rfl, hm⟩ := hR
    obtain ⟨hlt2, blt, offt, et, hpt, hlet, hRt, hCt⟩ := rep_sl_get (rep_T_u (hm.rep (i := 14) rfl)) (getD_map ddTag t.u k (0, []) hlt)
    obtain ⟨ptt, captt, rfl, hRt2⟩ := rep_Tag hRt
    have hm := hm.add (e := .rep (ddTag (t.u.getD k (0, []))) [.int .u32 (((t.u.getD k (0, [])).1 : Nat) : Int), .slice ptt ((t.u.getD k (0, [])).2.length) captt]) rfl hRt
    refine c_region ?_
    refine o_indexAddr (j := k) (b := blt) (off := offt) hk te_37 ts_68 (by rw [← hpt]; rfl) rfl hlt2 rfl fun a hk => ?_
    refine o_loadN (cs := [.int .u32 (((t.u.getD k (0, [])).1 : Nat) : Int), .slice ptt ((t.u.getD k (0, [])).2.length) captt]) hk ts_68 rfl (hCt.at_) rfl fun a hk => ?_
    refine o_alloc hk hm tz_68 rfl rfl fun a b17 w hk hm => ?_
    refine o_store (i := 0) hk hm ts_68 rfl rfl rfl rfl rfl rfl (Nat.le_of_ble_eq_true rfl) fun a w hk hm => ?_
    refine c_end ?_
    refine d_startM (K := 7) mixed hm fun w hm => ?_
    refine d_take (i := 0) rfl rfl rfl (by kernel_rfl) (fun _ _ _ h => h) hk rfl (fun w hm => r_move hk rfl) hm fun a hk => ?_
    refine d_take (i := 1) rfl rfl rfl (by kernel_rfl) (fun _ _ _ h => h) hk rfl (fun w hm => r_nilCheck hk rfl) hm fun a hk => ?_
    refine d_take (i := 2) rfl rfl rfl (by kernel_rfl) (fun _ _ _ h => h) hk rfl (fun w hm => r_fieldAddr hk fo_61_10 rfl) hm fun a hk => ?_
    refine d_take (i := 3) rfl rfl rfl (by kernel_rfl) (fun _ _ _ h => h) hk rfl (fun w hm => r_fieldAddr hk fo_68_0 rfl) hm fun a hk => ?_
    refine d_take (i := 4) rfl rfl rfl (by kernel_rfl) (fun _ _ _ h => h) hk rfl (fun w hm => r_load1 hk ts_65 rfl (hm.cell_blk (i := 0) rfl rfl)) hm fun a hk => ?_
    refine d_one (k := 5) (by kernel_rfl) rfl rfl ?_
    refine o_fieldAddr hk fo_68_1 rfl rfl fun a hk => ?_
    refine c_endQ (c_then ⟨fun _ => hm, ?_⟩)
    refine d_one (k := 6) (by kernel_rfl) rfl rfl ?_
    refine o_load hk ts_22 rfl (hm.cell_blk (i := 0) rfl rfl) rfl fun a hk => ?_
    refine c_endQ (c_then ⟨fun _ => hm, ?_⟩)
    refine d_one (k := 7) (by kernel_rfl) rfl rfl ?_
    refine o_call hk cb_43 (tagsSet_c (key := (t.u.getD k (0, [])).1) (hm.blkAt (i := 15) rfl) rfl (hm.mapOr (i := 3) rfl)) ⟨rfl, rfl, rfl, trivial⟩ rfl fun v w a hR hk => ?_
    obtain ⟨hp, rr, hb1, hM1, hr1⟩ := hR
    have hm := hm.setTags (i := 15) (j := 3) rfl rfl hp hb1 hM1 hr1
    rw [setV_rising hrs hlt] at hm
    have hm := hm.elsPush (i := 2) (d := ddTagV (t.u.getD k (0, []))) rfl (rep_Tag2 (hm.rep (i := 1) rfl)) rfl
    rw [← take_succ_map ddTagV t.u k (0, []) hlt] at hm
    refine c_endQ (c_then ⟨fun h => Bool.noConfusion (show true = false from h), ?_⟩)
    refine d_done (by kernel_rfl) ?_ _
    refine c_inNormal ?_
    exact c_round (L' := [(0, .pointer (some ⟨g, 0, none⟩)), (151, .slice pu t.u.length capu)]) hk ⟨rfl, rfl, rfl, rfl, trivial⟩ rfl ⟨_, _, rfl, hm.tail.tail⟩
  · obtain ⟨pm, vs, rfl, hm⟩ := hR
    rw [List.take_length] at hm
    have hm := hm.freezeMap (i := 1) rfl (hm.mapNe (i := 1) (j := 13) rfl rfl) (hm.els (i := 0) rfl)
    refine b_endNone rfl hk ?_
    have hz := hm.all _ (entAt_mem (i := 13) rfl)
    simp only [Ent.holds] at hz
    refine ⟨hm.agr, _, hz, ?_⟩
    refine hm.out ?_
    rw [dd_BrokerRegistrationRequest]
    refine rep_agg ?_
    exact RepL.cons1 (rep_v _) (RepL.cons1 (rep_v _) (RepL.consN (b := [.int .u8 (((sixteen ((t.at_ 2)).s).getD 0 0).toNat : Int), .int .u8 (((sixteen ((t.at_ 2)).s).getD 1 0).toNat : Int), .int .u8 (((sixteen ((t.at_ 2)).s).getD 2 0).toNat : Int), .int .u8 (((sixteen ((t.at_ 2)).s).getD 3 0).toNat : Int), .int .u8 (((sixteen ((t.at_ 2)).s).getD 4 0).toNat : Int), .int .u8 (((sixteen ((t.at_ 2)).s).getD 5 0).toNat : Int), .int .u8 (((sixteen ((t.at_ 2)).s).getD 6 0).toNat : Int), .int .u8 (((sixteen ((t.at_ 2)).s).getD 7 0).toNat : Int), .int .u8 (((sixteen ((t.at_ 2)).s).getD 8 0).toNat : Int), .int .u8 (((sixteen ((t.at_ 2)).s).getD 9 0).toNat : Int), .int .u8 (((sixteen ((t.at_ 2)).s).getD 10 0).toNat : Int), .int .u8 (((sixteen ((t.at_ 2)).s).getD 11 0).toNat : Int), .int .u8 (((sixteen ((t.at_ 2)).s).getD 12 0).toNat : Int), .int .u8 (((sixteen ((t.at_ 2)).s).getD 13 0).toNat : Int), .int .u8 (((sixteen ((t.at_ 2)).s).getD 14 0).toNat : Int), .int .u8 (((sixteen ((t.at_ 2)).s).getD 15 0).toNat : Int)]) (rep_six _) (RepL.cons1 (hm.rep (i := 8) rfl) (RepL.cons1 (hm.rep (i := 7) rfl) (RepL.cons1 (hm.rep (i := 5) rfl) (RepL.cons1 (rep_v _) (RepL.cons1 (hm.rep (i := 3) rfl) (RepL.cons1 (rep_v _) (RepL.cons1 (hm.rep (i := 1) rfl) (RepL.nil))))))))))
end Go.Proofs.Ytnndnjbkhhammaa
