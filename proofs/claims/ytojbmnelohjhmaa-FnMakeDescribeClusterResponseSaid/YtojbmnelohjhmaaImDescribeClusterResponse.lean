/- Walks of functions that the laws of this seat reach. No statement of the seat stands here. -/
import Derived.Test.YtojbmnelohjhmaaL2
import Derived.Test.YtojbmnelohjhmaaRows
import Derived.Test.YtojbmnelohjhmaaFa
import Derived.Test.YtojbmnelohjhmaaSch
import Derived.Test.YtojbmnelohjhmaaOb
namespace Go.Proofs.Ytojbmnelohjhmaa
open Go Go.Mk
theorem dd_sDescribeClusterResponseBroker (t : T) : ddS sch_sDescribeClusterResponseBroker true t = .agg [.v (.int .i32 (IntKind.i32.wrap (t.at_ 0).n)), .v (.string (bs (t.at_ 1).s)), .v (.int .i32 (IntKind.i32.wrap (t.at_ 2).n)), ddVal 8 0 (fun _ => .agg []) (t.at_ 3), .v (.bool ((t.at_ 4).n % 2 == 1)), ddTagMap t.u] := rfl
theorem make_DescribeClusterResponseBroker {w0 : World} {Y : Nat → Prop} {t : T} {c : List Value} (hT : Rep w0 Y (ddT t) c) (hsm : t.small = true) :
    Ret Try.prog 179 [.agg c.toArray] w0 fun v w' => Agr Nob w0 w' ∧ ∃ c', v = .agg c'.toArray ∧ c'.length = 6 ∧ oneCells c' = true ∧ Rep w' (fun b => b < w0.heap.size ∧ Y b) (ddS sch_sDescribeClusterResponseBroker true t) c' := by
  have _hsm := hsm
  obtain ⟨cs, p, cap, pu, capu, rfl⟩ := rep_T6 hT
  refine c_call Try.func179 rfl rfl fun a hk => ?_
  have hk : Kn 46 [(0, .agg #[.int .i64 t.n, cs, .bool t.z, .slice p t.l.length cap, .slice pu t.u.length capu])] a := hk
  have hm : Mem w0 Nob Y [.rep (ddT t) [.int .i64 t.n, cs, .bool t.z, .slice p t.l.length cap, .slice pu t.u.length capu]] w0 := Mem.start rfl (by simp only [List.forall_mem_cons, List.not_mem_nil, false_imp_iff, implies_true, and_true]; exact hT)
  refine c_region ?_
  refine o_box hk hm rfl rfl rfl fun a b1 w hk hm => ?_
  refine o_alloc hk hm tz_196 rfl rfl fun a b2 w hk hm => ?_
  refine c_end ?_
  refine c_region ?_
  refine o_alloc hk hm tz_196 rfl rfl fun a b3 w hk hm => ?_
  refine c_end ?_
  refine c_region ?_
  refine o_loadN (cs := [.int .i64 t.n, cs, .bool t.z, .slice p t.l.length cap, .slice pu t.u.length capu]) hk ts_39 rfl (hm.cells_blk (i := 2) rfl rfl) rfl fun a hk => ?_
  refine o_call hk cb_133 (at_impl (t := t) 0 (hm.rep (i := 3) rfl)) ⟨rfl, rfl, trivial⟩ rfl fun v w a hR hk => ?_
  obtain ⟨hp, c1, rfl, hR⟩ := hR
  obtain ⟨cs1, p1, cap1, cu1, rfl⟩ := rep_T5 hR
  have hm := hm.result hp hR
  refine o_field hk ff_39_0 rfl rfl rfl fun a hk => ?_
  refine o_convInt (c := IntKind.i32.wrap (((t.at_ 0)).n)) hk un_2 ti_21 rfl rfl rfl fun a hk => ?_
  refine o_fieldAddr hk fo_196_0 rfl rfl fun a hk => ?_
  refine o_store (i := 1) hk hm ts_21 rfl rfl rfl rfl rfl rfl (Nat.le_of_ble_eq_true rfl) fun a w hk hm => ?_
  refine c_end ?_
  refine c_region ?_
  refine o_loadN (cs := [.int .i64 t.n, cs, .bool t.z, .slice p t.l.length cap, .slice pu t.u.length capu]) hk ts_39 rfl (hm.cells_blk (i := 3) rfl rfl) rfl fun a hk => ?_
  refine o_call hk cb_133 (at_impl (t := t) 1 (hm.rep (i := 4) rfl)) ⟨rfl, rfl, trivial⟩ rfl fun v w a hR hk => ?_
  obtain ⟨hp, c2, rfl, hR⟩ := hR
  obtain ⟨cs2, p2, cap2, cu2, rfl⟩ := rep_T5 hR
  have hm := hm.result hp hR
  refine o_field hk ff_39_1 rfl rfl rfl fun a hk => ?_
  refine o_bytesToStr hk iy_22 is_9 rfl (rep_T_s (hm.rep (i := 0) rfl)) rfl fun a hk => ?_
  refine o_fieldAddr hk fo_196_1 rfl rfl fun a hk => ?_
  refine o_store (i := 2) hk hm ts_9 rfl rfl rfl rfl rfl rfl (Nat.le_of_ble_eq_true rfl) fun a w hk hm => ?_
  refine c_end ?_
  refine c_region ?_
  refine o_loadN (cs := [.int .i64 t.n, cs, .bool t.z, .slice p t.l.length cap, .slice pu t.u.length capu]) hk ts_39 rfl (hm.cells_blk (i := 4) rfl rfl) rfl fun a hk => ?_
  refine o_call hk cb_133 (at_impl (t := t) 2 (hm.rep (i := 5) rfl)) ⟨rfl, rfl, trivial⟩ rfl fun v w a hR hk => ?_
  obtain ⟨hp, c3, rfl, hR⟩ := hR
  obtain ⟨cs3, p3, cap3, cu3, rfl⟩ := rep_T5 hR
  have hm := hm.result hp hR
  refine o_field hk ff_39_0 rfl rfl rfl fun a hk => ?_
  refine o_convInt (c := IntKind.i32.wrap (((t.at_ 2)).n)) hk un_2 ti_21 rfl rfl rfl fun a hk => ?_
  refine o_fieldAddr hk fo_196_2 rfl rfl fun a hk => ?_
  refine o_store (i := 3) hk hm ts_21 rfl rfl rfl rfl rfl rfl (Nat.le_of_ble_eq_true rfl) fun a w hk hm => ?_
  refine c_end ?_
  refine c_region ?_
  refine o_loadN (cs := [.int .i64 t.n, cs, .bool t.z, .slice p t.l.length cap, .slice pu t.u.length capu]) hk ts_39 rfl (hm.cells_blk (i := 5) rfl rfl) rfl fun a hk => ?_
  refine o_call hk cb_133 (at_impl (t := t) 3 (hm.rep (i := 6) rfl)) ⟨rfl, rfl, trivial⟩ rfl fun v w a hR hk => ?_
  obtain ⟨hp, c4, rfl, hR⟩ := hR
  obtain ⟨cs4, p4, cap4, cu4, rfl⟩ := rep_T5 hR
  have hm := hm.result hp hR
  refine o_call hk cb_149 (textOf_c (t := (t.at_ 3)) (hm.rep (i := 0) rfl)) ⟨rfl, trivial⟩ rfl fun v5 w a hR hk => ?_
  obtain ⟨hp, hR, ho5⟩ := hR
  have hm := hm.result hp hR
  refine o_fieldAddr hk fo_196_3 rfl rfl fun a hk => ?_
  refine o_store (i := 5) hk hm ts_69 rfl rfl (cells1 (ho5)) rfl (one1 (ho5)) rfl (Nat.le_of_ble_eq_true rfl) fun a w hk hm => ?_
  refine c_end ?_
  refine c_region ?_
  refine o_loadN (cs := [.int .i64 t.n, cs, .bool t.z, .slice p t.l.length cap, .slice pu t.u.length capu]) hk ts_39 rfl (hm.cells_blk (i := 7) rfl rfl) rfl fun a hk => ?_
  refine o_call hk cb_133 (at_impl (t := t) 4 (hm.rep (i := 8) rfl)) ⟨rfl, rfl, trivial⟩ rfl fun v w a hR hk => ?_
  obtain ⟨hp, c6, rfl, hR⟩ := hR
  obtain ⟨cs6, p6, cap6, cu6, rfl⟩ := rep_T5 hR
  have hm := hm.result hp hR
  refine o_field hk ff_39_0 rfl rfl rfl fun a hk => ?_
  refine o_ibits (c := (((t.at_ 4)).n) % 2) hk rfl rfl (and1_i64 _) rfl fun a hk => ?_
  refine o_icmp hk rfl rfl rfl rfl fun a hk => ?_
  refine o_fieldAddr hk fo_196_4 rfl rfl fun a hk => ?_
  refine o_store (i := 6) hk hm ts_4 rfl rfl rfl rfl rfl rfl (Nat.le_of_ble_eq_true rfl) fun a w hk hm => ?_
  refine c_end ?_
  refine wp_seq ?_
  refine c_region ?_
  refine o_fieldAddr hk fo_39_4 rfl rfl fun a hk => ?_
  refine o_load hk ts_37 rfl (hm.cell_blk (i := 8) rfl rfl) rfl fun a hk => ?_
  refine o_lenSlice hk te_37 rfl rfl fun a hk => ?_
  refine o_move hk rfl rfl fun a hk => ?_
  refine c_end ?_
  have hm := hm.addMap0
  have hm := hm.addEls 1
  have hrs := small_rising hsm
  have hN := (small_spec (hsm)).2.2.1
  refine c_range (L0 := [(2, .pointer (some ⟨b2, 0, none⟩)), (3, .pointer (some ⟨b3, 0, none⟩)), (32, .slice pu t.u.length capu)]) (N := t.u.length) (by omega) (fun k L w => ∃ pm vs, L = [(2, .pointer (some ⟨b2, 0, none⟩)), (3, .pointer (some ⟨b3, 0, none⟩)), (32, .slice pu t.u.length capu)] ∧ Mem w0 Nob Y [.els 1 ((t.u.take k).map ddTagV) vs, .mapb pm ((t.u.take k).map Prod.fst) vs, .rep (ddT (t.at_ 4)) [.int .i64 (((t.at_ 4)).n), cs6, .bool (((t.at_ 4)).z), .slice p6 (((t.at_ 4)).l.length) cap6, cu6], .rep (ddVal 8 0 (fun _ => .agg []) (t.at_ 3)) [v5], .rep (ddT (t.at_ 3)) [.int .i64 (((t.at_ 3)).n), cs4, .bool (((t.at_ 3)).z), .slice p4 (((t.at_ 3)).l.length) cap4, cu4], .rep (ddT (t.at_ 2)) [.int .i64 (((t.at_ 2)).n), cs3, .bool (((t.at_ 2)).z), .slice p3 (((t.at_ 2)).l.length) cap3, cu3], .rep (ddT (t.at_ 1)) [.int .i64 (((t.at_ 1)).n), cs2, .bool (((t.at_ 1)).z), .slice p2 (((t.at_ 1)).l.length) cap2, cu2], .rep (ddT (t.at_ 0)) [.int .i64 (((t.at_ 0)).n), cs1, .bool (((t.at_ 0)).z), .slice p1 (((t.at_ 0)).l.length) cap1, cu1], .blk b3 [.int .i32 (IntKind.i32.wrap (((t.at_ 0)).n)), .string (bs ((t.at_ 1)).s), .int .i32 (IntKind.i32.wrap (((t.at_ 2)).n)), v5, .bool (((((t.at_ 4)).n) % 2 : Int) == 1), .map pm] 196, .blk b2 [.int .i32 0, .string .empty, .int .i32 0, .pointer none, .bool false, .map none] 196, .blk b1 [.int .i64 t.n, cs, .bool t.z, .slice p t.l.length cap, .slice pu t.u.length capu] 39, .rep (ddT t) [.int .i64 t.n, cs, .bool t.z, .slice p t.l.length cap, .slice pu t.u.length capu]] w) (hk.sub ⟨rfl, rfl, rfl, rfl, rfl, trivial⟩) ⟨none, [], rfl, hm⟩ rfl rfl rfl rfl rfl rfl rfl (fun k L a w hlt hR hk => ?_) rfl (fun L a w hR hk => ?_)
  · obtain ⟨pm, vs, rfl, hm⟩ := hR
    obtain ⟨hlt2, blt, offt, et, hpt, hlet, hRt, hCt⟩ := rep_sl_get (rep_T_u (hm.rep (i := 11) rfl)) (getD_map ddTag t.u k (0, []) hlt)
    obtain ⟨ptt, captt, rfl, hRt2⟩ := rep_Tag hRt
    have hm := hm.add (e := .rep (ddTag (t.u.getD k (0, []))) [.int .u32 (((t.u.getD k (0, [])).1 : Nat) : Int), .slice ptt ((t.u.getD k (0, [])).2.length) captt]) rfl hRt
    refine c_region ?_
    refine o_indexAddr (j := k) (b := blt) (off := offt) hk te_37 ts_62 (by rw [← hpt]; rfl) rfl hlt2 rfl fun a hk => ?_
    refine o_loadN (cs := [.int .u32 (((t.u.getD k (0, [])).1 : Nat) : Int), .slice ptt ((t.u.getD k (0, [])).2.length) captt]) hk ts_62 rfl (hCt.at_) rfl fun a hk => ?_
    refine o_alloc hk hm tz_62 rfl rfl fun a b4 w hk hm => ?_
    refine o_store (i := 0) hk hm ts_62 rfl rfl rfl rfl rfl rfl (Nat.le_of_ble_eq_true rfl) fun a w hk hm => ?_
    refine c_end ?_
    refine c_reg ?_
    refine o_fieldAddr hk fo_196_5 rfl rfl fun a hk => ?_
    refine o_fieldAddr hk fo_62_0 rfl rfl fun a hk => ?_
    refine o_load hk ts_59 rfl (hm.cell_blk (i := 0) rfl rfl) rfl fun a hk => ?_
    refine o_fieldAddr hk fo_62_1 rfl rfl fun a hk => ?_
    refine o_load hk ts_22 rfl (hm.cell_blk (i := 0) rfl rfl) rfl fun a hk => ?_
    refine o_call hk cb_134 (tagsSet_c (key := (t.u.getD k (0, [])).1) (hm.blkAt (i := 10) rfl) rfl (hm.mapOr (i := 3) rfl)) ⟨rfl, rfl, rfl, trivial⟩ rfl fun v w a hR hk => ?_
    obtain ⟨hp, rr, hb1, hM1, hr1⟩ := hR
    have hm := hm.setTags (i := 10) (j := 3) rfl rfl hp hb1 hM1 hr1
    rw [setV_rising hrs hlt] at hm
    have hm := hm.elsPush (i := 2) (d := ddTagV (t.u.getD k (0, []))) rfl (rep_Tag2 (hm.rep (i := 1) rfl)) rfl
    rw [← take_succ_map ddTagV t.u k (0, []) hlt] at hm
    refine c_endQ ?_
    refine c_inNormal ?_
    exact c_round (L' := [(2, .pointer (some ⟨b2, 0, none⟩)), (3, .pointer (some ⟨b3, 0, none⟩)), (32, .slice pu t.u.length capu)]) hk ⟨rfl, rfl, rfl, rfl, rfl, trivial⟩ rfl ⟨_, _, rfl, hm.tail.tail⟩
  · obtain ⟨pm, vs, rfl, hm⟩ := hR
    rw [List.take_length] at hm
    have hm := hm.freezeMap (i := 1) rfl (fun _ _ h => h) (hm.els (i := 0) rfl)
    refine c_then ?_
    refine c_region ?_
    refine o_loadN (cs := [.int .i32 (IntKind.i32.wrap (((t.at_ 0)).n)), .string (bs ((t.at_ 1)).s), .int .i32 (IntKind.i32.wrap (((t.at_ 2)).n)), v5, .bool (((((t.at_ 4)).n) % 2 : Int) == 1), .map pm]) hk ts_196 rfl (hm.cells_blk (i := 8) rfl rfl) rfl fun a hk => ?_
    refine o_store (i := 9) hk hm ts_196 rfl rfl rfl rfl (one_cons rfl (one_cons rfl (one_cons rfl (one_cons ho5 (one_cons rfl (one_cons rfl rfl)))))) rfl (Nat.le_of_ble_eq_true rfl) fun a w hk hm => ?_
    refine c_end ?_
    refine wp_ret ?_
    refine b_retCell (i := 9) (cs := [.int .i32 (IntKind.i32.wrap (((t.at_ 0)).n)), .string (bs ((t.at_ 1)).s), .int .i32 (IntKind.i32.wrap (((t.at_ 2)).n)), v5, .bool (((((t.at_ 4)).n) % 2 : Int) == 1), .map pm]) rfl ts_196 hk hm rfl rfl ?_
    refine ⟨hm.agr, _, rfl, rfl, (one_cons rfl (one_cons rfl (one_cons rfl (one_cons ho5 (one_cons rfl (one_cons rfl rfl)))))), ?_⟩
    refine hm.out ?_
    rw [dd_sDescribeClusterResponseBroker]
    refine rep_agg ?_
    exact RepL.cons1 (rep_v _) (RepL.cons1 (rep_v _) (RepL.cons1 (rep_v _) (RepL.cons1 (hm.rep (i := 3) rfl) (RepL.cons1 (rep_v _) (RepL.cons1 (hm.rep (i := 1) rfl) (RepL.nil))))))
theorem dd_DescribeClusterResponse (t : T) : ddS sch_DescribeClusterResponse true t = .agg [.v (.int .i32 (IntKind.i32.wrap (t.at_ 0).n)), .v (.int .i16 (IntKind.i16.wrap (t.at_ 1).n)), ddVal 8 0 (fun _ => .agg []) (t.at_ 2), .v (.int .i8 (IntKind.i8.wrap (t.at_ 3).n)), .v (.string (bs (t.at_ 4).s)), .v (.int .i32 (IntKind.i32.wrap (t.at_ 5).n)), if (t.at_ 6).z then .v (.slice none 0 0) else .sl true 6 ((t.at_ 6).l.map (ddS sch_sDescribeClusterResponseBroker true)), .v (.int .i32 (IntKind.i32.wrap (t.at_ 7).n)), ddTagMap t.u] := rfl
theorem fill_DescribeClusterResponse {w0 : World} {Y : Nat → Prop} {t : T} {ct : List Value} {g : Nat} {V : Int} (hb : w0.heap[g]? = some (.cells [.int .i16 V, .int .i32 0, .int .i16 0, .pointer none, .int .i8 0, .string .empty, .int .i32 0, .slice none 0 0, .int .i32 0, .map none].toArray 124 (0, 0))) (hg : Y g) (hT : Rep w0 Y (ddT t) ct) (hsm : t.small = true) : Ret Try.prog 123 [.pointer (some ⟨g, 0, none⟩), .agg ct.toArray] w0 fun _ w' => Agr (fun k => k = g) w0 w' ∧ ∃ c', w'.heap[g]? = some (.cells (.int .i16 V :: c').toArray 124 (0, 0)) ∧ Rep w' (fun b => b < w0.heap.size ∧ Y b) (ddS sch_DescribeClusterResponse true t) c' := by
  have _hsm := hsm
  obtain ⟨cs, p, cap, pu, capu, rfl⟩ := rep_T6 hT
  refine c_call Try.func123 rfl rfl fun a hk => ?_
  have hk : Kn 104 [(0, .pointer (some ⟨g, 0, none⟩)), (1, .agg #[.int .i64 t.n, cs, .bool t.z, .slice p t.l.length cap, .slice pu t.u.length capu])] a := hk
  have hm : Mem w0 (fun k => k = g) Y [.blk g [.int .i16 V, .int .i32 0, .int .i16 0, .pointer none, .int .i8 0, .string .empty, .int .i32 0, .slice none 0 0, .int .i32 0, .map none] 124, .rep (ddT t) [.int .i64 t.n, cs, .bool t.z, .slice p t.l.length cap, .slice pu t.u.length capu]] w0 := Mem.startBlk hb hg rfl (by simp only [List.forall_mem_cons, List.not_mem_nil, false_imp_iff, implies_true, and_true]; exact hT)
  refine c_region ?_
  refine o_box hk hm rfl rfl rfl fun a b1 w hk hm => ?_
  refine c_end ?_
  refine c_region ?_
  refine o_move hk rfl rfl fun a hk => ?_
  refine o_loadN (cs := [.int .i64 t.n, cs, .bool t.z, .slice p t.l.length cap, .slice pu t.u.length capu]) hk ts_39 rfl (hm.cells_blk (i := 0) rfl rfl) rfl fun a hk => ?_
  refine o_call hk cb_133 (at_impl (t := t) 0 (hm.rep (i := 2) rfl)) ⟨rfl, rfl, trivial⟩ rfl fun v w a hR hk => ?_
  obtain ⟨hp, c1, rfl, hR⟩ := hR
  obtain ⟨cs1, p1, cap1, cu1, rfl⟩ := rep_T5 hR
  have hm := hm.result hp hR
  refine o_field hk ff_39_0 rfl rfl rfl fun a hk => ?_
  refine o_convInt (c := IntKind.i32.wrap (((t.at_ 0)).n)) hk un_2 ti_21 rfl rfl rfl fun a hk => ?_
  refine o_nilCheck hk rfl rfl fun a hk => ?_
  refine o_fieldAddr hk fo_124_1 rfl rfl fun a hk => ?_
  refine o_store (i := 2) hk hm ts_21 rfl rfl rfl rfl rfl rfl (Nat.le_of_ble_eq_true rfl) fun a w hk hm => ?_
  refine c_end ?_
  refine c_region ?_
  refine o_move hk rfl rfl fun a hk => ?_
  refine o_loadN (cs := [.int .i64 t.n, cs, .bool t.z, .slice p t.l.length cap, .slice pu t.u.length capu]) hk ts_39 rfl (hm.cells_blk (i := 1) rfl rfl) rfl fun a hk => ?_
  refine o_call hk cb_133 (at_impl (t := t) 1 (hm.rep (i := 3) rfl)) ⟨rfl, rfl, trivial⟩ rfl fun v w a hR hk => ?_
  obtain ⟨hp, c2, rfl, hR⟩ := hR
  obtain ⟨cs2, p2, cap2, cu2, rfl⟩ := rep_T5 hR
  have hm := hm.result hp hR
  refine o_field hk ff_39_0 rfl rfl rfl fun a hk => ?_
  refine o_convInt (c := IntKind.i16.wrap (((t.at_ 1)).n)) hk un_2 ti_45 rfl rfl rfl fun a hk => ?_
  refine o_nilCheck hk rfl rfl fun a hk => ?_
  refine o_fieldAddr hk fo_124_2 rfl rfl fun a hk => ?_
  refine o_store (i := 3) hk hm ts_45 rfl rfl rfl rfl rfl rfl (Nat.le_of_ble_eq_true rfl) fun a w hk hm => ?_
  refine c_end ?_
  refine c_region ?_
  refine o_move hk rfl rfl fun a hk => ?_
  refine o_loadN (cs := [.int .i64 t.n, cs, .bool t.z, .slice p t.l.length cap, .slice pu t.u.length capu]) hk ts_39 rfl (hm.cells_blk (i := 2) rfl rfl) rfl fun a hk => ?_
  refine o_call hk cb_133 (at_impl (t := t) 2 (hm.rep (i := 4) rfl)) ⟨rfl, rfl, trivial⟩ rfl fun v w a hR hk => ?_
  obtain ⟨hp, c3, rfl, hR⟩ := hR
  obtain ⟨cs3, p3, cap3, cu3, rfl⟩ := rep_T5 hR
  have hm := hm.result hp hR
  refine o_call hk cb_149 (textOf_c (t := (t.at_ 2)) (hm.rep (i := 0) rfl)) ⟨rfl, trivial⟩ rfl fun v4 w a hR hk => ?_
  obtain ⟨hp, hR, ho4⟩ := hR
  have hm := hm.result hp hR
  refine o_nilCheck hk rfl rfl fun a hk => ?_
  refine o_fieldAddr hk fo_124_3 rfl rfl fun a hk => ?_
  refine o_store (i := 5) hk hm ts_69 rfl rfl (cells1 (ho4)) rfl (one1 (ho4)) rfl (Nat.le_of_ble_eq_true rfl) fun a w hk hm => ?_
  refine c_end ?_
  refine c_region ?_
  refine o_move hk rfl rfl fun a hk => ?_
  refine o_loadN (cs := [.int .i64 t.n, cs, .bool t.z, .slice p t.l.length cap, .slice pu t.u.length capu]) hk ts_39 rfl (hm.cells_blk (i := 4) rfl rfl) rfl fun a hk => ?_
  refine o_call hk cb_133 (at_impl (t := t) 3 (hm.rep (i := 6) rfl)) ⟨rfl, rfl, trivial⟩ rfl fun v w a hR hk => ?_
  obtain ⟨hp, c5, rfl, hR⟩ := hR
  obtain ⟨cs5, p5, cap5, cu5, rfl⟩ := rep_T5 hR
  have hm := hm.result hp hR
  refine o_field hk ff_39_0 rfl rfl rfl fun a hk => ?_
  refine o_convInt (c := IntKind.i8.wrap (((t.at_ 3)).n)) hk un_2 ti_121 rfl rfl rfl fun a hk => ?_
  refine o_nilCheck hk rfl rfl fun a hk => ?_
  refine o_fieldAddr hk fo_124_4 rfl rfl fun a hk => ?_
  refine o_store (i := 6) hk hm ts_121 rfl rfl rfl rfl rfl rfl (Nat.le_of_ble_eq_true rfl) fun a w hk hm => ?_
  refine c_end ?_
  refine c_region ?_
  refine o_move hk rfl rfl fun a hk => ?_
  refine o_loadN (cs := [.int .i64 t.n, cs, .bool t.z, .slice p t.l.length cap, .slice pu t.u.length capu]) hk ts_39 rfl (hm.cells_blk (i := 5) rfl rfl) rfl fun a hk => ?_
  refine o_call hk cb_133 (at_impl (t := t) 4 (hm.rep (i := 7) rfl)) ⟨rfl, rfl, trivial⟩ rfl fun v w a hR hk => ?_
  obtain ⟨hp, c6, rfl, hR⟩ := hR
  obtain ⟨cs6, p6, cap6, cu6, rfl⟩ := rep_T5 hR
  have hm := hm.result hp hR
  refine o_field hk ff_39_1 rfl rfl rfl fun a hk => ?_
  refine o_bytesToStr hk iy_22 is_9 rfl (rep_T_s (hm.rep (i := 0) rfl)) rfl fun a hk => ?_
  refine o_nilCheck hk rfl rfl fun a hk => ?_
  refine o_fieldAddr hk fo_124_5 rfl rfl fun a hk => ?_
  refine o_store (i := 7) hk hm ts_9 rfl rfl rfl rfl rfl rfl (Nat.le_of_ble_eq_true rfl) fun a w hk hm => ?_
  refine c_end ?_
  refine c_region ?_
  refine o_move hk rfl rfl fun a hk => ?_
  refine o_loadN (cs := [.int .i64 t.n, cs, .bool t.z, .slice p t.l.length cap, .slice pu t.u.length capu]) hk ts_39 rfl (hm.cells_blk (i := 6) rfl rfl) rfl fun a hk => ?_
  refine o_call hk cb_133 (at_impl (t := t) 5 (hm.rep (i := 8) rfl)) ⟨rfl, rfl, trivial⟩ rfl fun v w a hR hk => ?_
  obtain ⟨hp, c7, rfl, hR⟩ := hR
  obtain ⟨cs7, p7, cap7, cu7, rfl⟩ := rep_T5 hR
  have hm := hm.result hp hR
  refine o_field hk ff_39_0 rfl rfl rfl fun a hk => ?_
  refine o_convInt (c := IntKind.i32.wrap (((t.at_ 5)).n)) hk un_2 ti_21 rfl rfl rfl fun a hk => ?_
  refine o_nilCheck hk rfl rfl fun a hk => ?_
  refine o_fieldAddr hk fo_124_6 rfl rfl fun a hk => ?_
  refine o_store (i := 8) hk hm ts_21 rfl rfl rfl rfl rfl rfl (Nat.le_of_ble_eq_true rfl) fun a w hk hm => ?_
  refine c_end ?_
  refine c_cut (fun a w => ∃ v, v.oneCell' = true ∧ Kn 104 [(0, .pointer (some ⟨g, 0, none⟩)), (3, .pointer (some ⟨b1, 0, none⟩))] a ∧ Mem w0 (fun k => k = g) Y [.rep (if (t.at_ 6).z then .v (.slice none 0 0) else .sl true 6 ((t.at_ 6).l.map (ddS sch_sDescribeClusterResponseBroker true))) [v], .rep (ddT (t.at_ 5)) [.int .i64 (((t.at_ 5)).n), cs7, .bool (((t.at_ 5)).z), .slice p7 (((t.at_ 5)).l.length) cap7, cu7], .rep (ddT (t.at_ 4)) [.int .i64 (((t.at_ 4)).n), cs6, .bool (((t.at_ 4)).z), .slice p6 (((t.at_ 4)).l.length) cap6, cu6], .rep (ddT (t.at_ 3)) [.int .i64 (((t.at_ 3)).n), cs5, .bool (((t.at_ 3)).z), .slice p5 (((t.at_ 3)).l.length) cap5, cu5], .rep (ddVal 8 0 (fun _ => .agg []) (t.at_ 2)) [v4], .rep (ddT (t.at_ 2)) [.int .i64 (((t.at_ 2)).n), cs3, .bool (((t.at_ 2)).z), .slice p3 (((t.at_ 2)).l.length) cap3, cu3], .rep (ddT (t.at_ 1)) [.int .i64 (((t.at_ 1)).n), cs2, .bool (((t.at_ 1)).z), .slice p2 (((t.at_ 1)).l.length) cap2, cu2], .rep (ddT (t.at_ 0)) [.int .i64 (((t.at_ 0)).n), cs1, .bool (((t.at_ 0)).z), .slice p1 (((t.at_ 0)).l.length) cap1, cu1], .blk b1 [.int .i64 t.n, cs, .bool t.z, .slice p t.l.length cap, .slice pu t.u.length capu] 39, .blk g [.int .i16 V, .int .i32 (IntKind.i32.wrap (((t.at_ 0)).n)), .int .i16 (IntKind.i16.wrap (((t.at_ 1)).n)), v4, .int .i8 (IntKind.i8.wrap (((t.at_ 3)).n)), .string (bs ((t.at_ 4)).s), .int .i32 (IntKind.i32.wrap (((t.at_ 5)).n)), v, .int .i32 0, .map none] 124, .rep (ddT t) [.int .i64 t.n, cs, .bool t.z, .slice p t.l.length cap, .slice pu t.u.length capu]] w) ?_ (fun a w hJ => ?_)
  · refine c_region ?_
    refine o_loadN (cs := [.int .i64 t.n, cs, .bool t.z, .slice p t.l.length cap, .slice pu t.u.length capu]) hk ts_39 rfl (hm.cells_blk (i := 7) rfl rfl) rfl fun a hk => ?_
    refine o_call hk cb_133 (at_impl (t := t) 6 (hm.rep (i := 9) rfl)) ⟨rfl, rfl, trivial⟩ rfl fun v w a hR hk => ?_
    obtain ⟨hp, c8, rfl, hR⟩ := hR
    obtain ⟨cs8, p8, cap8, cu8, rfl⟩ := rep_T5 hR
    have hm := hm.result hp hR
    refine o_field hk ff_39_2 rfl rfl rfl fun a hk => ?_
    refine o_not hk rfl rfl fun a hk => ?_
    refine c_end ?_
    refine c_cond hk rfl (fun hc => ?_) (fun hc => ?_)
    · have hz : (t.at_ 6).z = false := by simpa using hc
      refine c_region ?_
      refine o_move hk rfl rfl fun a hk => ?_
      refine o_loadN (cs := [.int .i64 t.n, cs, .bool t.z, .slice p t.l.length cap, .slice pu t.u.length capu]) hk ts_39 rfl (hm.cells_blk (i := 8) rfl rfl) rfl fun a hk => ?_
      refine o_call hk cb_133 (at_impl (t := t) 6 (hm.rep (i := 10) rfl)) ⟨rfl, rfl, trivial⟩ rfl fun v w a hR hk => ?_
      obtain ⟨hp, c9, rfl, hR⟩ := hR
      obtain ⟨cs9, p9, cap9, cu9, rfl⟩ := rep_T5 hR
      have hm := hm.result hp hR
      refine o_field hk ff_39_3 rfl rfl rfl fun a hk => ?_
      refine o_lenSlice hk te_36 rfl rfl fun a hk => ?_
      have hsb2 := (small_spec (small_at hsm 6)).2.1
      refine o_make0 (cap := ((t.at_ 6)).l.length) hk hm rt_122 tz_196 rfl (by unfold maxLen; omega) (by omega) rfl fun a b2 w hbb2 hk hm => ?_
      refine o_nilCheck hk rfl rfl fun a hk => ?_
      refine o_fieldAddr hk fo_124_7 rfl rfl fun a hk => ?_
      refine o_store (i := 11) hk hm ts_122 rfl rfl rfl rfl rfl rfl (Nat.le_of_ble_eq_true rfl) fun a w hk hm => ?_
      refine c_end ?_
      refine c_region ?_
      refine o_loadN (cs := [.int .i64 t.n, cs, .bool t.z, .slice p t.l.length cap, .slice pu t.u.length capu]) hk ts_39 rfl (hm.cells_blk (i := 10) rfl rfl) rfl fun a hk => ?_
      refine o_call hk cb_133 (at_impl (t := t) 6 (hm.rep (i := 12) rfl)) ⟨rfl, rfl, trivial⟩ rfl fun v w a hR hk => ?_
      obtain ⟨hp, c10, rfl, hR⟩ := hR
      obtain ⟨cs10, p10, cap10, cu10, rfl⟩ := rep_T5 hR
      have hm := hm.result hp hR
      refine o_field hk ff_39_3 rfl rfl rfl fun a hk => ?_
      refine o_lenSlice hk te_36 rfl rfl fun a hk => ?_
      refine o_move hk rfl rfl fun a hk => ?_
      refine c_end ?_
      have hm := hm.addEls 6
      have hN := (small_spec (small_at hsm 6)).2.1
      refine c_range (L0 := [(0, .pointer (some ⟨g, 0, none⟩)), (3, .pointer (some ⟨b1, 0, none⟩)), (63, .slice p10 (((t.at_ 6)).l.length) cap10)]) (N := ((t.at_ 6)).l.length) (by omega) (fun k L w => ∃ vr xs, L = [(0, .pointer (some ⟨g, 0, none⟩)), (3, .pointer (some ⟨b1, 0, none⟩)), (63, .slice p10 (((t.at_ 6)).l.length) cap10)] ∧ vr ≠ .slice none 0 0 ∧ Mem w0 (fun k => k = g) Y [.els 6 ((((t.at_ 6)).l.take k).map (ddS sch_sDescribeClusterResponseBroker true)) xs, .rep (ddT (t.at_ 6)) [.int .i64 (((t.at_ 6)).n), cs10, .bool (((t.at_ 6)).z), .slice p10 (((t.at_ 6)).l.length) cap10, cu10], .row 196 6 vr k xs, .rep (ddT (t.at_ 6)) [.int .i64 (((t.at_ 6)).n), cs9, .bool (((t.at_ 6)).z), .slice p9 (((t.at_ 6)).l.length) cap9, cu9], .rep (ddT (t.at_ 6)) [.int .i64 (((t.at_ 6)).n), cs8, .bool (((t.at_ 6)).z), .slice p8 (((t.at_ 6)).l.length) cap8, cu8], .rep (ddT (t.at_ 5)) [.int .i64 (((t.at_ 5)).n), cs7, .bool (((t.at_ 5)).z), .slice p7 (((t.at_ 5)).l.length) cap7, cu7], .rep (ddT (t.at_ 4)) [.int .i64 (((t.at_ 4)).n), cs6, .bool (((t.at_ 4)).z), .slice p6 (((t.at_ 4)).l.length) cap6, cu6], .rep (ddT (t.at_ 3)) [.int .i64 (((t.at_ 3)).n), cs5, .bool (((t.at_ 3)).z), .slice p5 (((t.at_ 3)).l.length) cap5, cu5], .rep (ddVal 8 0 (fun _ => .agg []) (t.at_ 2)) [v4], .rep (ddT (t.at_ 2)) [.int .i64 (((t.at_ 2)).n), cs3, .bool (((t.at_ 2)).z), .slice p3 (((t.at_ 2)).l.length) cap3, cu3], .rep (ddT (t.at_ 1)) [.int .i64 (((t.at_ 1)).n), cs2, .bool (((t.at_ 1)).z), .slice p2 (((t.at_ 1)).l.length) cap2, cu2], .rep (ddT (t.at_ 0)) [.int .i64 (((t.at_ 0)).n), cs1, .bool (((t.at_ 0)).z), .slice p1 (((t.at_ 0)).l.length) cap1, cu1], .blk b1 [.int .i64 t.n, cs, .bool t.z, .slice p t.l.length cap, .slice pu t.u.length capu] 39, .blk g [.int .i16 V, .int .i32 (IntKind.i32.wrap (((t.at_ 0)).n)), .int .i16 (IntKind.i16.wrap (((t.at_ 1)).n)), v4, .int .i8 (IntKind.i8.wrap (((t.at_ 3)).n)), .string (bs ((t.at_ 4)).s), .int .i32 (IntKind.i32.wrap (((t.at_ 5)).n)), vr, .int .i32 0, .map none] 124, .rep (ddT t) [.int .i64 t.n, cs, .bool t.z, .slice p t.l.length cap, .slice pu t.u.length capu]] w) (hk.sub ⟨rfl, rfl, rfl, rfl, rfl, trivial⟩) ⟨_, _, rfl, by simp, hm⟩ rfl rfl rfl rfl rfl rfl rfl (fun k L a w hlt hR hk => ?_) rfl (fun L a w hR hk => ?_)
      · obtain ⟨vr, xs, rfl, hnn, hm⟩ := hR
        obtain ⟨_, bl, off, c11, hpl, hl11, hR11, hC11⟩ := rep_sl_get (rep_T_l (hm.rep (i := 1) rfl)) (getD_map ddT ((t.at_ 6)).l k T.nil hlt)
        obtain ⟨cs11, p11, cap11, cu11, rfl⟩ := rep_T5 hR11
        have hm := hm.add (e := .rep (ddT ((t.at_ 6).l.getD k T.nil)) [.int .i64 ((((t.at_ 6).l.getD k T.nil)).n), cs11, .bool ((((t.at_ 6).l.getD k T.nil)).z), .slice p11 ((((t.at_ 6).l.getD k T.nil)).l.length) cap11, cu11]) rfl hR11
        refine c_region ?_
        refine o_indexAddr (j := k) (b := bl) (off := off) hk te_36 ts_39 (by rw [← hpl]; rfl) rfl hlt rfl fun a hk => ?_
        refine o_loadN (cs := [.int .i64 ((((t.at_ 6).l.getD k T.nil)).n), cs11, .bool ((((t.at_ 6).l.getD k T.nil)).z), .slice p11 ((((t.at_ 6).l.getD k T.nil)).l.length) cap11, cu11]) hk ts_39 rfl (hC11.at_) rfl fun a hk => ?_
        refine o_alloc hk hm tz_39 rfl rfl fun a b3 w hk hm => ?_
        refine o_store (i := 0) hk hm ts_39 rfl rfl rfl rfl (rep_T_one hR11) rfl (Nat.le_of_ble_eq_true rfl) fun a w hk hm => ?_
        refine c_end ?_
        refine d_startM (K := 8) mixed hm fun w hm => ?_
        refine d_take (i := 1) rfl rfl rfl (by kernel_rfl) (fun _ _ _ h => h) hk rfl (fun w hm => r_move hk rfl) hm fun a hk => ?_
        refine d_take (i := 2) rfl rfl rfl (by kernel_rfl) (fun _ _ _ h => h) hk rfl (fun w hm => r_nilCheck hk rfl) hm fun a hk => ?_
        refine d_take (i := 3) rfl rfl rfl (by kernel_rfl) (fun _ _ _ h => h) hk rfl (fun w hm => r_fieldAddr hk fo_124_7 rfl) hm fun a hk => ?_
        refine d_take (i := 4) rfl rfl rfl (by kernel_rfl) (fun _ _ _ h => h) hk rfl (fun w hm => r_load1 hk ts_122 rfl (hm.cell_blk (i := 15) rfl rfl)) hm fun a hk => ?_
        refine d_take (i := 5) rfl rfl rfl (by kernel_rfl) (fun _ _ _ h => h) hk rfl (fun w hm => r_loadN (cs := [.int .i64 ((((t.at_ 6).l.getD k T.nil)).n), cs11, .bool ((((t.at_ 6).l.getD k T.nil)).z), .slice p11 ((((t.at_ 6).l.getD k T.nil)).l.length) cap11, cu11]) hk ts_39 rfl (hm.cells_blk (i := 0) rfl rfl)) hm fun a hk => ?_
        refine d_takeF (i := 0) rfl rfl rfl (by kernel_rfl) (fun _ _ _ h => h) hk rfl (fun w => r_move hk rfl) (fun _ => hm) fun a hk => ?_
        refine d_one (k := 6) (by kernel_rfl) rfl rfl ?_
        refine o_call hk cb_179 (make_DescribeClusterResponseBroker (t := ((t.at_ 6).l.getD k T.nil)) (hm.rep (i := 1) rfl) (small_getD (small_at hsm 6) k)) ⟨rfl, trivial⟩ rfl fun v w a hR hk => ?_
        obtain ⟨hp, c12, rfl, hl12, ho12, hR⟩ := hR
        have hm := hm.result hp hR
        refine c_endQ (c_then ⟨fun _ => hm.tail, ?_⟩)
        refine d_one (k := 7) (by kernel_rfl) rfl rfl ?_
        refine o_build1 (c := c12) hk hm rt_122 rfl rfl hl12 rfl rfl rfl fun a b4 w hk hm => ?_
        refine c_endQ (c_then ⟨fun _ => hm.tail.tail, ?_⟩)
        refine d_one (k := 8) (by kernel_rfl) rfl rfl ?_
        refine o_append (i := 6) hk hm rt_122 rfl rfl rfl (src_cells (k := 1) (news := c12) te_122 (by rw [hl12]) (hm.cells_blk (i := 0) rfl (by simp)) ho12) (by unfold maxLen; omega) (by omega) rfl fun a v5 w hk hm hnilv5 => ?_
        refine c_endQ (c_then ⟨fun h => Bool.noConfusion (show true = false from h), ?_⟩)
        refine d_one (k := 9) (by kernel_rfl) rfl rfl ?_
        refine o_nilCheck hk rfl rfl fun a hk => ?_
        refine c_endQ (c_then ⟨fun h => Bool.noConfusion (show true = false from h), ?_⟩)
        refine d_one (k := 10) (by kernel_rfl) rfl rfl ?_
        refine o_fieldAddr hk fo_124_7 rfl rfl fun a hk => ?_
        refine c_endQ (c_then ⟨fun h => Bool.noConfusion (show true = false from h), ?_⟩)
        refine d_one (k := 11) (by kernel_rfl) rfl rfl ?_
        refine o_store (i := 17) hk hm ts_122 rfl rfl (cells1 (row_one (hm.row (i := 6) rfl))) rfl (one1 (row_one (hm.row (i := 6) rfl))) rfl (Nat.le_of_ble_eq_true rfl) fun a w hk hm => ?_
        refine c_endQ (c_then ⟨fun h => Bool.noConfusion (show true = false from h), ?_⟩)
        refine d_done (by kernel_rfl) ?_ _
        refine c_inNormal ?_
        have hm := hm.elsPush (i := 4) (d := (ddS sch_sDescribeClusterResponseBroker true ((t.at_ 6).l.getD k T.nil))) rfl (hm.rep (i := 1) rfl) (by rw [hl12])
        rw [← take_succ_map (ddS sch_sDescribeClusterResponseBroker true) ((t.at_ 6)).l k T.nil hlt] at hm
        have hm := hm.tail
        have hm := hm.tail
        have hm := hm.tail
        have hm := hm.tail
        refine c_round (L' := [(0, .pointer (some ⟨g, 0, none⟩)), (3, .pointer (some ⟨b1, 0, none⟩)), (63, .slice p10 (((t.at_ 6)).l.length) cap10)]) hk ⟨rfl, rfl, rfl, rfl, rfl, trivial⟩ rfl ⟨_, _, rfl, fun e => hnn (hnilv5.1 e).1, hm⟩
      · obtain ⟨vl6, xsvl6, rfl, hnnvl6, hm⟩ := hR
        have hovl6 := row_one (hm.row (i := 2) rfl)
        have hm := hm.freezeRow (i := 2) (st := true) rfl (fun k hk => hm.rowNe (i := 2) (j := 13) rfl rfl (by decide) hk) (hm.els (i := 0) rfl) (by rw [List.length_map, List.length_take]; omega) (fun h => absurd h hnnvl6)
        rw [List.take_length] at hm
        refine c_then ⟨vl6, hovl6, hk.sub ⟨rfl, rfl, trivial⟩, ?_⟩
        rw [hz]; exact hm.pick [2, 5, 6, 7, 8, 9, 10, 11, 12, 13, 14] rfl rfl
    · have hz : (t.at_ 6).z = true := by simpa using hc
      refine wp_skip ?_
      have hm := hm.addV (.slice none 0 0)
      refine c_then ⟨.slice none 0 0, rfl, hk.sub ⟨rfl, rfl, trivial⟩, ?_⟩
      rw [hz]; exact hm.pick [0, 2, 3, 4, 5, 6, 7, 8, 9, 10, 11] rfl rfl
  obtain ⟨vj6, ho6, hk, hm⟩ := hJ
  refine c_region ?_
  refine o_move hk rfl rfl fun a hk => ?_
  refine o_loadN (cs := [.int .i64 t.n, cs, .bool t.z, .slice p t.l.length cap, .slice pu t.u.length capu]) hk ts_39 rfl (hm.cells_blk (i := 8) rfl rfl) rfl fun a hk => ?_
  refine o_call hk cb_133 (at_impl (t := t) 7 (hm.rep (i := 10) rfl)) ⟨rfl, rfl, trivial⟩ rfl fun v w a hR hk => ?_
  obtain ⟨hp, c13, rfl, hR⟩ := hR
  obtain ⟨cs13, p13, cap13, cu13, rfl⟩ := rep_T5 hR
  have hm := hm.result hp hR
  refine o_field hk ff_39_0 rfl rfl rfl fun a hk => ?_
  refine o_convInt (c := IntKind.i32.wrap (((t.at_ 7)).n)) hk un_2 ti_21 rfl rfl rfl fun a hk => ?_
  refine o_nilCheck hk rfl rfl fun a hk => ?_
  refine o_fieldAddr hk fo_124_8 rfl rfl fun a hk => ?_
  refine o_store (i := 10) hk hm ts_21 rfl rfl rfl rfl rfl rfl (Nat.le_of_ble_eq_true rfl) fun a w hk hm => ?_
  refine c_end ?_
  refine c_region ?_
  refine o_fieldAddr hk fo_39_4 rfl rfl fun a hk => ?_
  refine o_load hk ts_37 rfl (hm.cell_blk (i := 9) rfl rfl) rfl fun a hk => ?_
  refine o_lenSlice hk te_37 rfl rfl fun a hk => ?_
  refine o_move hk rfl rfl fun a hk => ?_
  refine c_end ?_
  have hm := hm.addMap0
  have hm := hm.addEls 1
  have hrs := small_rising hsm
  have hN := (small_spec (hsm)).2.2.1
  refine c_range (L0 := [(0, .pointer (some ⟨g, 0, none⟩)), (89, .slice pu t.u.length capu)]) (N := t.u.length) (by omega) (fun k L w => ∃ pm vs, L = [(0, .pointer (some ⟨g, 0, none⟩)), (89, .slice pu t.u.length capu)] ∧ Mem w0 (fun k => k = g) Y [.els 1 ((t.u.take k).map ddTagV) vs, .mapb pm ((t.u.take k).map Prod.fst) vs, .rep (ddT (t.at_ 7)) [.int .i64 (((t.at_ 7)).n), cs13, .bool (((t.at_ 7)).z), .slice p13 (((t.at_ 7)).l.length) cap13, cu13], .rep (if (t.at_ 6).z then .v (.slice none 0 0) else .sl true 6 ((t.at_ 6).l.map (ddS sch_sDescribeClusterResponseBroker true))) [vj6], .rep (ddT (t.at_ 5)) [.int .i64 (((t.at_ 5)).n), cs7, .bool (((t.at_ 5)).z), .slice p7 (((t.at_ 5)).l.length) cap7, cu7], .rep (ddT (t.at_ 4)) [.int .i64 (((t.at_ 4)).n), cs6, .bool (((t.at_ 4)).z), .slice p6 (((t.at_ 4)).l.length) cap6, cu6], .rep (ddT (t.at_ 3)) [.int .i64 (((t.at_ 3)).n), cs5, .bool (((t.at_ 3)).z), .slice p5 (((t.at_ 3)).l.length) cap5, cu5], .rep (ddVal 8 0 (fun _ => .agg []) (t.at_ 2)) [v4], .rep (ddT (t.at_ 2)) [.int .i64 (((t.at_ 2)).n), cs3, .bool (((t.at_ 2)).z), .slice p3 (((t.at_ 2)).l.length) cap3, cu3], .rep (ddT (t.at_ 1)) [.int .i64 (((t.at_ 1)).n), cs2, .bool (((t.at_ 1)).z), .slice p2 (((t.at_ 1)).l.length) cap2, cu2], .rep (ddT (t.at_ 0)) [.int .i64 (((t.at_ 0)).n), cs1, .bool (((t.at_ 0)).z), .slice p1 (((t.at_ 0)).l.length) cap1, cu1], .blk b1 [.int .i64 t.n, cs, .bool t.z, .slice p t.l.length cap, .slice pu t.u.length capu] 39, .blk g [.int .i16 V, .int .i32 (IntKind.i32.wrap (((t.at_ 0)).n)), .int .i16 (IntKind.i16.wrap (((t.at_ 1)).n)), v4, .int .i8 (IntKind.i8.wrap (((t.at_ 3)).n)), .string (bs ((t.at_ 4)).s), .int .i32 (IntKind.i32.wrap (((t.at_ 5)).n)), vj6, .int .i32 (IntKind.i32.wrap (((t.at_ 7)).n)), .map pm] 124, .rep (ddT t) [.int .i64 t.n, cs, .bool t.z, .slice p t.l.length cap, .slice pu t.u.length capu]] w) (hk.sub ⟨rfl, rfl, rfl, rfl, trivial⟩) ⟨none, [], rfl, hm⟩ rfl rfl rfl rfl rfl rfl rfl (fun k L a w hlt hR hk => ?_) rfl (fun L a w hR hk => ?_)
  · obtain ⟨pm, vs, rfl, hm⟩ := hR
    obtain ⟨hlt2, blt, offt, et, hpt, hlet, hRt, hCt⟩ := rep_sl_get (rep_T_u (hm.rep (i := 13) rfl)) (getD_map ddTag t.u k (0, []) hlt)
    obtain ⟨ptt, captt, rfl, hRt2⟩ := rep_Tag hRt
    have hm := hm.add (e := .rep (ddTag (t.u.getD k (0, []))) [.int .u32 (((t.u.getD k (0, [])).1 : Nat) : Int), .slice ptt ((t.u.getD k (0, [])).2.length) captt]) rfl hRt
    refine c_region ?_
    refine o_indexAddr (j := k) (b := blt) (off := offt) hk te_37 ts_62 (by rw [← hpt]; rfl) rfl hlt2 rfl fun a hk => ?_
    refine o_loadN (cs := [.int .u32 (((t.u.getD k (0, [])).1 : Nat) : Int), .slice ptt ((t.u.getD k (0, [])).2.length) captt]) hk ts_62 rfl (hCt.at_) rfl fun a hk => ?_
    refine o_alloc hk hm tz_62 rfl rfl fun a b7 w hk hm => ?_
    refine o_store (i := 0) hk hm ts_62 rfl rfl rfl rfl rfl rfl (Nat.le_of_ble_eq_true rfl) fun a w hk hm => ?_
    refine c_end ?_
    refine d_startM (K := 7) mixed hm fun w hm => ?_
    refine d_take (i := 0) rfl rfl rfl (by kernel_rfl) (fun _ _ _ h => h) hk rfl (fun w hm => r_move hk rfl) hm fun a hk => ?_
    refine d_take (i := 1) rfl rfl rfl (by kernel_rfl) (fun _ _ _ h => h) hk rfl (fun w hm => r_nilCheck hk rfl) hm fun a hk => ?_
    refine d_take (i := 2) rfl rfl rfl (by kernel_rfl) (fun _ _ _ h => h) hk rfl (fun w hm => r_fieldAddr hk fo_124_9 rfl) hm fun a hk => ?_
    refine d_take (i := 3) rfl rfl rfl (by kernel_rfl) (fun _ _ _ h => h) hk rfl (fun w hm => r_fieldAddr hk fo_62_0 rfl) hm fun a hk => ?_
    refine d_take (i := 4) rfl rfl rfl (by kernel_rfl) (fun _ _ _ h => h) hk rfl (fun w hm => r_load1 hk ts_59 rfl (hm.cell_blk (i := 0) rfl rfl)) hm fun a hk => ?_
    refine d_one (k := 5) (by kernel_rfl) rfl rfl ?_
    refine o_fieldAddr hk fo_62_1 rfl rfl fun a hk => ?_
    refine c_endQ (c_then ⟨fun _ => hm, ?_⟩)
    refine d_one (k := 6) (by kernel_rfl) rfl rfl ?_
    refine o_load hk ts_22 rfl (hm.cell_blk (i := 0) rfl rfl) rfl fun a hk => ?_
    refine c_endQ (c_then ⟨fun _ => hm, ?_⟩)
    refine d_one (k := 7) (by kernel_rfl) rfl rfl ?_
    refine o_call hk cb_134 (tagsSet_c (key := (t.u.getD k (0, [])).1) (hm.blkAt (i := 14) rfl) rfl (hm.mapOr (i := 3) rfl)) ⟨rfl, rfl, rfl, trivial⟩ rfl fun v w a hR hk => ?_
    obtain ⟨hp, rr, hb1, hM1, hr1⟩ := hR
    have hm := hm.setTags (i := 14) (j := 3) rfl rfl hp hb1 hM1 hr1
    rw [setV_rising hrs hlt] at hm
    have hm := hm.elsPush (i := 2) (d := ddTagV (t.u.getD k (0, []))) rfl (rep_Tag2 (hm.rep (i := 1) rfl)) rfl
    rw [← take_succ_map ddTagV t.u k (0, []) hlt] at hm
    refine c_endQ (c_then ⟨fun h => Bool.noConfusion (show true = false from h), ?_⟩)
    refine d_done (by kernel_rfl) ?_ _
    refine c_inNormal ?_
    exact c_round (L' := [(0, .pointer (some ⟨g, 0, none⟩)), (89, .slice pu t.u.length capu)]) hk ⟨rfl, rfl, rfl, rfl, trivial⟩ rfl ⟨_, _, rfl, hm.tail.tail⟩
  · obtain ⟨pm, vs, rfl, hm⟩ := hR
    rw [List.take_length] at hm
    have hm := hm.freezeMap (i := 1) rfl (hm.mapNe (i := 1) (j := 12) rfl rfl) (hm.els (i := 0) rfl)
    refine b_endNone rfl hk ?_
    have hz := hm.all _ (entAt_mem (i := 12) rfl)
    simp only [Ent.holds] at hz
    refine ⟨hm.agr, _, hz, ?_⟩
    refine hm.out ?_
    rw [dd_DescribeClusterResponse]
    refine rep_agg ?_
    exact RepL.cons1 (rep_v _) (RepL.cons1 (rep_v _) (RepL.cons1 (hm.rep (i := 7) rfl) (RepL.cons1 (rep_v _) (RepL.cons1 (rep_v _) (RepL.cons1 (rep_v _) (RepL.cons1 (hm.rep (i := 3) rfl) (RepL.cons1 (rep_v _) (RepL.cons1 (hm.rep (i := 1) rfl) (RepL.nil)))))))))
end Go.Proofs.Ytojbmnelohjhmaa
