/- Walks of functions that the laws of this seat reach. No statement of the seat stands here. -/
import Derived.Test.YtbljeefficdemaaMkOpen
import Derived.Test.YtbljeefficdemaaRows
import Derived.Test.YtbljeefficdemaaFa
import Derived.Test.YtbljeefficdemaaSch
import Derived.Test.YtbljeefficdemaaOa
namespace Go.Proofs.Ytbljeefficdemaa
open Go Go.Mk
theorem dd_sConnectMemberAssignmentAssignment (t : T) : ddS sch_sConnectMemberAssignmentAssignment false t = .agg [.v (.string (bs (t.at_ 0).s)), if (t.at_ 1).z then .v (.slice none 0 0) else .sl true 1 ((t.at_ 1).l.map (fun x : T => DD.v (.int .i16 (IntKind.i16.wrap x.n))))] := rfl
theorem make_ConnectMemberAssignmentAssignment {w0 : World} {Y : Nat → Prop} {t : T} {c : List Value} (hT : Rep w0 Y (ddT t) c) (hsm : t.small = true) :
    Ret Try.prog 50 [.agg c.toArray] w0 fun v w' => Agr Nob w0 w' ∧ ∃ c', v = .agg c'.toArray ∧ c'.length = 2 ∧ oneCells c' = true ∧ Rep w' (fun b => b < w0.heap.size ∧ Y b) (ddS sch_sConnectMemberAssignmentAssignment false t) c' := by
  have _hsm := hsm
  obtain ⟨cs, p, cap, cu, rfl⟩ := rep_T5 hT
  refine c_call Try.func50 rfl rfl fun a hk => ?_
  have hk : Kn 39 [(0, .agg #[.int .i64 t.n, cs, .bool t.z, .slice p t.l.length cap, cu])] a := hk
  have hm : Mem w0 Nob Y [.rep (ddT t) [.int .i64 t.n, cs, .bool t.z, .slice p t.l.length cap, cu]] w0 := Mem.start rfl (by simp only [List.forall_mem_cons, List.not_mem_nil, false_imp_iff, implies_true, and_true]; exact hT)
  refine c_region ?_
  refine o_box hk hm rfl rfl rfl fun a b1 w hk hm => ?_
  refine o_alloc hk hm tz_97 rfl rfl fun a b2 w hk hm => ?_
  refine c_end ?_
  refine c_region ?_
  refine o_alloc hk hm tz_97 rfl rfl fun a b3 w hk hm => ?_
  refine c_end ?_
  refine c_region ?_
  refine o_loadN (cs := [.int .i64 t.n, cs, .bool t.z, .slice p t.l.length cap, cu]) hk ts_39 rfl (hm.cells_blk (i := 2) rfl rfl) rfl fun a hk => ?_
  refine o_call hk cb_37 (at_impl (t := t) 0 (hm.rep (i := 3) rfl)) ⟨rfl, rfl, trivial⟩ rfl fun v w a hR hk => ?_
  obtain ⟨hp, c1, rfl, hR⟩ := hR
  obtain ⟨cs1, p1, cap1, cu1, rfl⟩ := rep_T5 hR
  have hm := hm.result hp hR
  refine o_field hk ff_39_1 rfl rfl rfl fun a hk => ?_
  refine o_bytesToStr hk iy_22 is_9 rfl (rep_T_s (hm.rep (i := 0) rfl)) rfl fun a hk => ?_
  refine o_fieldAddr hk fo_97_0 rfl rfl fun a hk => ?_
  refine o_store (i := 1) hk hm ts_9 rfl rfl rfl rfl rfl rfl (Nat.le_of_ble_eq_true rfl) fun a w hk hm => ?_
  refine c_end ?_
  refine c_cut (fun a w => ∃ v, v.oneCell' = true ∧ Kn 39 [(2, .pointer (some ⟨b2, 0, none⟩)), (3, .pointer (some ⟨b3, 0, none⟩))] a ∧ Mem w0 Nob Y [.rep (if (t.at_ 1).z then .v (.slice none 0 0) else .sl true 1 ((t.at_ 1).l.map (fun x : T => DD.v (.int .i16 (IntKind.i16.wrap x.n))))) [v], .rep (ddT (t.at_ 0)) [.int .i64 (((t.at_ 0)).n), cs1, .bool (((t.at_ 0)).z), .slice p1 (((t.at_ 0)).l.length) cap1, cu1], .blk b3 [.string (bs ((t.at_ 0)).s), v] 97, .blk b2 [.string .empty, .slice none 0 0] 97, .blk b1 [.int .i64 t.n, cs, .bool t.z, .slice p t.l.length cap, cu] 39, .rep (ddT t) [.int .i64 t.n, cs, .bool t.z, .slice p t.l.length cap, cu]] w) ?_ (fun a w hJ => ?_)
  · refine c_region ?_
    refine o_loadN (cs := [.int .i64 t.n, cs, .bool t.z, .slice p t.l.length cap, cu]) hk ts_39 rfl (hm.cells_blk (i := 3) rfl rfl) rfl fun a hk => ?_
    refine o_call hk cb_37 (at_impl (t := t) 1 (hm.rep (i := 4) rfl)) ⟨rfl, rfl, trivial⟩ rfl fun v w a hR hk => ?_
    obtain ⟨hp, c2, rfl, hR⟩ := hR
    obtain ⟨cs2, p2, cap2, cu2, rfl⟩ := rep_T5 hR
    have hm := hm.result hp hR
    refine o_field hk ff_39_2 rfl rfl rfl fun a hk => ?_
    refine o_not hk rfl rfl fun a hk => ?_
    refine c_end ?_
    refine c_cond hk rfl (fun hc => ?_) (fun hc => ?_)
    · have hz : (t.at_ 1).z = false := by simpa using hc
      refine c_region ?_
      refine o_loadN (cs := [.int .i64 t.n, cs, .bool t.z, .slice p t.l.length cap, cu]) hk ts_39 rfl (hm.cells_blk (i := 4) rfl rfl) rfl fun a hk => ?_
      refine o_call hk cb_37 (at_impl (t := t) 1 (hm.rep (i := 5) rfl)) ⟨rfl, rfl, trivial⟩ rfl fun v w a hR hk => ?_
      obtain ⟨hp, c3, rfl, hR⟩ := hR
      obtain ⟨cs3, p3, cap3, cu3, rfl⟩ := rep_T5 hR
      have hm := hm.result hp hR
      refine o_field hk ff_39_3 rfl rfl rfl fun a hk => ?_
      refine o_lenSlice hk te_36 rfl rfl fun a hk => ?_
      have hsb4 := (small_spec (small_at hsm 1)).2.1
      refine o_make0 (cap := ((t.at_ 1)).l.length) hk hm rt_95 tz_45 rfl (by unfold maxLen; omega) (by omega) rfl fun a b4 w hbb4 hk hm => ?_
      refine o_fieldAddr hk fo_97_1 rfl rfl fun a hk => ?_
      refine o_store (i := 4) hk hm ts_95 rfl rfl rfl rfl rfl rfl (Nat.le_of_ble_eq_true rfl) fun a w hk hm => ?_
      refine c_end ?_
      refine c_region ?_
      refine o_loadN (cs := [.int .i64 t.n, cs, .bool t.z, .slice p t.l.length cap, cu]) hk ts_39 rfl (hm.cells_blk (i := 6) rfl rfl) rfl fun a hk => ?_
      refine o_call hk cb_37 (at_impl (t := t) 1 (hm.rep (i := 7) rfl)) ⟨rfl, rfl, trivial⟩ rfl fun v w a hR hk => ?_
      obtain ⟨hp, c4, rfl, hR⟩ := hR
      obtain ⟨cs4, p4, cap4, cu4, rfl⟩ := rep_T5 hR
      have hm := hm.result hp hR
      refine o_field hk ff_39_3 rfl rfl rfl fun a hk => ?_
      refine o_lenSlice hk te_36 rfl rfl fun a hk => ?_
      refine o_move hk rfl rfl fun a hk => ?_
      refine c_end ?_
      have hm := hm.addEls 1
      have hN := (small_spec (small_at hsm 1)).2.1
      refine c_range (L0 := [(2, .pointer (some ⟨b2, 0, none⟩)), (3, .pointer (some ⟨b3, 0, none⟩)), (23, .slice p4 (((t.at_ 1)).l.length) cap4)]) (N := ((t.at_ 1)).l.length) (by omega) (fun k L w => ∃ vr xs, L = [(2, .pointer (some ⟨b2, 0, none⟩)), (3, .pointer (some ⟨b3, 0, none⟩)), (23, .slice p4 (((t.at_ 1)).l.length) cap4)] ∧ vr ≠ .slice none 0 0 ∧ Mem w0 Nob Y [.els 1 ((((t.at_ 1)).l.take k).map (fun x : T => DD.v (.int .i16 (IntKind.i16.wrap x.n)))) xs, .rep (ddT (t.at_ 1)) [.int .i64 (((t.at_ 1)).n), cs4, .bool (((t.at_ 1)).z), .slice p4 (((t.at_ 1)).l.length) cap4, cu4], .row 45 1 vr k xs, .rep (ddT (t.at_ 1)) [.int .i64 (((t.at_ 1)).n), cs3, .bool (((t.at_ 1)).z), .slice p3 (((t.at_ 1)).l.length) cap3, cu3], .rep (ddT (t.at_ 1)) [.int .i64 (((t.at_ 1)).n), cs2, .bool (((t.at_ 1)).z), .slice p2 (((t.at_ 1)).l.length) cap2, cu2], .rep (ddT (t.at_ 0)) [.int .i64 (((t.at_ 0)).n), cs1, .bool (((t.at_ 0)).z), .slice p1 (((t.at_ 0)).l.length) cap1, cu1], .blk b3 [.string (bs ((t.at_ 0)).s), vr] 97, .blk b2 [.string .empty, .slice none 0 0] 97, .blk b1 [.int .i64 t.n, cs, .bool t.z, .slice p t.l.length cap, cu] 39, .rep (ddT t) [.int .i64 t.n, cs, .bool t.z, .slice p t.l.length cap, cu]] w) (hk.sub ⟨rfl, rfl, rfl, rfl, rfl, trivial⟩) ⟨_, _, rfl, by simp, hm⟩ rfl rfl rfl rfl rfl rfl rfl (fun k L a w hlt hR hk => ?_) rfl (fun L a w hR hk => ?_)
      · obtain ⟨vr, xs, rfl, hnn, hm⟩ := hR
        obtain ⟨_, bl, off, c5, hpl, hl5, hR5, hC5⟩ := rep_sl_get (rep_T_l (hm.rep (i := 1) rfl)) (getD_map ddT ((t.at_ 1)).l k T.nil hlt)
        obtain ⟨cs5, p5, cap5, cu5, rfl⟩ := rep_T5 hR5
        have hm := hm.add (e := .rep (ddT ((t.at_ 1).l.getD k T.nil)) [.int .i64 ((((t.at_ 1).l.getD k T.nil)).n), cs5, .bool ((((t.at_ 1).l.getD k T.nil)).z), .slice p5 ((((t.at_ 1).l.getD k T.nil)).l.length) cap5, cu5]) rfl hR5
        refine c_region ?_
        refine o_indexAddr (j := k) (b := bl) (off := off) hk te_36 ts_39 (by rw [← hpl]; rfl) rfl hlt rfl fun a hk => ?_
        refine o_loadN (cs := [.int .i64 ((((t.at_ 1).l.getD k T.nil)).n), cs5, .bool ((((t.at_ 1).l.getD k T.nil)).z), .slice p5 ((((t.at_ 1).l.getD k T.nil)).l.length) cap5, cu5]) hk ts_39 rfl (hC5.at_) rfl fun a hk => ?_
        refine o_alloc hk hm tz_39 rfl rfl fun a b5 w hk hm => ?_
        refine o_store (i := 0) hk hm ts_39 rfl rfl rfl rfl (rep_T_one hR5) rfl (Nat.le_of_ble_eq_true rfl) fun a w hk hm => ?_
        refine c_end ?_
        refine c_reg ?_
        refine o_fieldAddr hk fo_97_1 rfl rfl fun a hk => ?_
        refine o_load hk ts_95 rfl (hm.cell_blk (i := 8) rfl rfl) rfl fun a hk => ?_
        refine o_fieldAddr hk fo_39_0 rfl rfl fun a hk => ?_
        refine o_load hk ts_2 rfl (hm.cell_blk (i := 0) rfl rfl) rfl fun a hk => ?_
        refine o_convInt (c := IntKind.i16.wrap ((((t.at_ 1).l.getD k T.nil)).n)) hk un_2 ti_45 rfl rfl rfl fun a hk => ?_
        refine o_buildSlice (r := [.int .i16 (IntKind.i16.wrap ((((t.at_ 1).l.getD k T.nil)).n))]) hk hm rt_95 tz_45 rfl rfl rfl ⟨_, _, _, rfl, rfl, rfl, rfl, rfl⟩ rfl fun a b6 w hk hm => ?_
        refine o_append (i := 5) hk hm rt_95 rfl rfl rfl (src_cells (k := 1) (news := [.int .i16 (IntKind.i16.wrap ((((t.at_ 1).l.getD k T.nil)).n))]) te_95 rfl (hm.cells_blk (i := 0) rfl rfl) rfl) (by unfold maxLen; omega) (by omega) rfl fun a v7 w hk hm hnilv7 => ?_
        refine o_fieldAddr hk fo_97_1 rfl rfl fun a hk => ?_
        refine o_store (i := 9) hk hm ts_95 rfl rfl (cells1 (row_one (hm.row (i := 5) rfl))) rfl (one1 (row_one (hm.row (i := 5) rfl))) rfl (Nat.le_of_ble_eq_true rfl) fun a w hk hm => ?_
        refine c_endQ ?_
        refine c_inNormal ?_
        have hm := hm.elsPush (i := 3) (d := (.v (.int .i16 (IntKind.i16.wrap ((((t.at_ 1).l.getD k T.nil)).n))))) rfl (rep_v _) rfl
        rw [← take_succ_map (fun x : T => DD.v (.int .i16 (IntKind.i16.wrap x.n))) ((t.at_ 1)).l k T.nil hlt] at hm
        have hm := hm.tail
        have hm := hm.tail
        have hm := hm.tail
        refine c_round (L' := [(2, .pointer (some ⟨b2, 0, none⟩)), (3, .pointer (some ⟨b3, 0, none⟩)), (23, .slice p4 (((t.at_ 1)).l.length) cap4)]) hk ⟨rfl, rfl, rfl, rfl, rfl, trivial⟩ rfl ⟨_, _, rfl, fun e => hnn (hnilv7.1 e).1, hm⟩
      · obtain ⟨vl8, xsvl8, rfl, hnnvl8, hm⟩ := hR
        have hovl8 := row_one (hm.row (i := 2) rfl)
        have hm := hm.freezeRow (i := 2) (st := true) rfl (noX _) (hm.els (i := 0) rfl) (by rw [List.length_map, List.length_take]; omega) (fun h => absurd h hnnvl8)
        rw [List.take_length] at hm
        refine c_then ⟨vl8, hovl8, hk.sub ⟨rfl, rfl, trivial⟩, ?_⟩
        rw [hz]; exact hm.pick [2, 5, 6, 7, 8, 9] rfl rfl
    · have hz : (t.at_ 1).z = true := by simpa using hc
      refine wp_skip ?_
      have hm := hm.addV (.slice none 0 0)
      refine c_then ⟨.slice none 0 0, rfl, hk.sub ⟨rfl, rfl, trivial⟩, ?_⟩
      rw [hz]; exact hm.pick [0, 2, 3, 4, 5, 6] rfl rfl
  obtain ⟨vj1, ho1, hk, hm⟩ := hJ
  refine c_region ?_
  refine o_loadN (cs := [.string (bs ((t.at_ 0)).s), vj1]) hk ts_97 rfl (hm.cells_blk (i := 2) rfl rfl) rfl fun a hk => ?_
  refine o_store (i := 3) hk hm ts_97 rfl rfl rfl rfl (one_cons rfl (one_cons ho1 rfl)) rfl (Nat.le_of_ble_eq_true rfl) fun a w hk hm => ?_
  refine c_end ?_
  refine wp_ret ?_
  refine b_retCell (i := 3) (cs := [.string (bs ((t.at_ 0)).s), vj1]) rfl ts_97 hk hm rfl rfl ?_
  refine ⟨hm.agr, _, rfl, rfl, (one_cons rfl (one_cons ho1 rfl)), ?_⟩
  refine hm.out ?_
  rw [dd_sConnectMemberAssignmentAssignment]
  refine rep_agg ?_
  exact RepL.cons1 (rep_v _) (RepL.cons1 (hm.rep (i := 0) rfl) (RepL.nil))
theorem dd_sConnectMemberAssignmentRevoked (t : T) : ddS sch_sConnectMemberAssignmentRevoked false t = .agg [.v (.string (bs (t.at_ 0).s)), if (t.at_ 1).z then .v (.slice none 0 0) else .sl true 1 ((t.at_ 1).l.map (fun x : T => DD.v (.int .i16 (IntKind.i16.wrap x.n))))] := rfl
theorem make_ConnectMemberAssignmentRevoked {w0 : World} {Y : Nat → Prop} {t : T} {c : List Value} (hT : Rep w0 Y (ddT t) c) (hsm : t.small = true) :
    Ret Try.prog 51 [.agg c.toArray] w0 fun v w' => Agr Nob w0 w' ∧ ∃ c', v = .agg c'.toArray ∧ c'.length = 2 ∧ oneCells c' = true ∧ Rep w' (fun b => b < w0.heap.size ∧ Y b) (ddS sch_sConnectMemberAssignmentRevoked false t) c' := by
  have _hsm := hsm
  obtain ⟨cs, p, cap, cu, rfl⟩ := rep_T5 hT
  refine c_call Try.func51 rfl rfl fun a hk => ?_
  have hk : Kn 39 [(0, .agg #[.int .i64 t.n, cs, .bool t.z, .slice p t.l.length cap, cu])] a := hk
  have hm : Mem w0 Nob Y [.rep (ddT t) [.int .i64 t.n, cs, .bool t.z, .slice p t.l.length cap, cu]] w0 := Mem.start rfl (by simp only [List.forall_mem_cons, List.not_mem_nil, false_imp_iff, implies_true, and_true]; exact hT)
  refine c_region ?_
  refine o_box hk hm rfl rfl rfl fun a b1 w hk hm => ?_
  refine o_alloc hk hm tz_99 rfl rfl fun a b2 w hk hm => ?_
  refine c_end ?_
  refine c_region ?_
  refine o_alloc hk hm tz_99 rfl rfl fun a b3 w hk hm => ?_
  refine c_end ?_
  refine c_region ?_
  refine o_loadN (cs := [.int .i64 t.n, cs, .bool t.z, .slice p t.l.length cap, cu]) hk ts_39 rfl (hm.cells_blk (i := 2) rfl rfl) rfl fun a hk => ?_
  refine o_call hk cb_37 (at_impl (t := t) 0 (hm.rep (i := 3) rfl)) ⟨rfl, rfl, trivial⟩ rfl fun v w a hR hk => ?_
  obtain ⟨hp, c1, rfl, hR⟩ := hR
  obtain ⟨cs1, p1, cap1, cu1, rfl⟩ := rep_T5 hR
  have hm := hm.result hp hR
  refine o_field hk ff_39_1 rfl rfl rfl fun a hk => ?_
  refine o_bytesToStr hk iy_22 is_9 rfl (rep_T_s (hm.rep (i := 0) rfl)) rfl fun a hk => ?_
  refine o_fieldAddr hk fo_99_0 rfl rfl fun a hk => ?_
  refine o_store (i := 1) hk hm ts_9 rfl rfl rfl rfl rfl rfl (Nat.le_of_ble_eq_true rfl) fun a w hk hm => ?_
  refine c_end ?_
  refine c_cut (fun a w => ∃ v, v.oneCell' = true ∧ Kn 39 [(2, .pointer (some ⟨b2, 0, none⟩)), (3, .pointer (some ⟨b3, 0, none⟩))] a ∧ Mem w0 Nob Y [.rep (if (t.at_ 1).z then .v (.slice none 0 0) else .sl true 1 ((t.at_ 1).l.map (fun x : T => DD.v (.int .i16 (IntKind.i16.wrap x.n))))) [v], .rep (ddT (t.at_ 0)) [.int .i64 (((t.at_ 0)).n), cs1, .bool (((t.at_ 0)).z), .slice p1 (((t.at_ 0)).l.length) cap1, cu1], .blk b3 [.string (bs ((t.at_ 0)).s), v] 99, .blk b2 [.string .empty, .slice none 0 0] 99, .blk b1 [.int .i64 t.n, cs, .bool t.z, .slice p t.l.length cap, cu] 39, .rep (ddT t) [.int .i64 t.n, cs, .bool t.z, .slice p t.l.length cap, cu]] w) ?_ (fun a w hJ => ?_)
  · refine c_region ?_
    refine o_loadN (cs := [.int .i64 t.n, cs, .bool t.z, .slice p t.l.length cap, cu]) hk ts_39 rfl (hm.cells_blk (i := 3) rfl rfl) rfl fun a hk => ?_
    refine o_call hk cb_37 (at_impl (t := t) 1 (hm.rep (i := 4) rfl)) ⟨rfl, rfl, trivial⟩ rfl fun v w a hR hk => ?_
    obtain ⟨hp, c2, rfl, hR⟩ := hR
    obtain ⟨cs2, p2, cap2, cu2, rfl⟩ := rep_T5 hR
    have hm := hm.result hp hR
    refine o_field hk ff_39_2 rfl rfl rfl fun a hk => ?_
    refine o_not hk rfl rfl fun a hk => ?_
    refine c_end ?_
    refine c_cond hk rfl (fun hc => ?_) (fun hc => ?_)
    · have hz : (t.at_ 1).z = false := by simpa using hc
      refine c_region ?_
      refine o_loadN (cs := [.int .i64 t.n, cs, .bool t.z, .slice p t.l.length cap, cu]) hk ts_39 rfl (hm.cells_blk (i := 4) rfl rfl) rfl fun a hk => ?_
      refine o_call hk cb_37 (at_impl (t := t) 1 (hm.rep (i := 5) rfl)) ⟨rfl, rfl, trivial⟩ rfl fun v w a hR hk => ?_
      obtain ⟨hp, c3, rfl, hR⟩ := hR
      obtain ⟨cs3, p3, cap3, cu3, rfl⟩ := rep_T5 hR
      have hm := hm.result hp hR
      refine o_field hk ff_39_3 rfl rfl rfl fun a hk => ?_
      refine o_lenSlice hk te_36 rfl rfl fun a hk => ?_
      have hsb4 := (small_spec (small_at hsm 1)).2.1
      refine o_make0 (cap := ((t.at_ 1)).l.length) hk hm rt_95 tz_45 rfl (by unfold maxLen; omega) (by omega) rfl fun a b4 w hbb4 hk hm => ?_
      refine o_fieldAddr hk fo_99_1 rfl rfl fun a hk => ?_
      refine o_store (i := 4) hk hm ts_95 rfl rfl rfl rfl rfl rfl (Nat.le_of_ble_eq_true rfl) fun a w hk hm => ?_
      refine c_end ?_
      refine c_region ?_
      refine o_loadN (cs := [.int .i64 t.n, cs, .bool t.z, .slice p t.l.length cap, cu]) hk ts_39 rfl (hm.cells_blk (i := 6) rfl rfl) rfl fun a hk => ?_
      refine o_call hk cb_37 (at_impl (t := t) 1 (hm.rep (i := 7) rfl)) ⟨rfl, rfl, trivial⟩ rfl fun v w a hR hk => ?_
      obtain ⟨hp, c4, rfl, hR⟩ := hR
      obtain ⟨cs4, p4, cap4, cu4, rfl⟩ := rep_T5 hR
      have hm := hm.result hp hR
      refine o_field hk ff_39_3 rfl rfl rfl fun a hk => ?_
      refine o_lenSlice hk te_36 rfl rfl fun a hk => ?_
      refine o_move hk rfl rfl fun a hk => ?_
      refine c_end ?_
      have hm := hm.addEls 1
      have hN := (small_spec (small_at hsm 1)).2.1
      refine c_range (L0 := [(2, .pointer (some ⟨b2, 0, none⟩)), (3, .pointer (some ⟨b3, 0, none⟩)), (23, .slice p4 (((t.at_ 1)).l.length) cap4)]) (N := ((t.at_ 1)).l.length) (by omega) (fun k L w => ∃ vr xs, L = [(2, .pointer (some ⟨b2, 0, none⟩)), (3, .pointer (some ⟨b3, 0, none⟩)), (23, .slice p4 (((t.at_ 1)).l.length) cap4)] ∧ vr ≠ .slice none 0 0 ∧ Mem w0 Nob Y [.els 1 ((((t.at_ 1)).l.take k).map (fun x : T => DD.v (.int .i16 (IntKind.i16.wrap x.n)))) xs, .rep (ddT (t.at_ 1)) [.int .i64 (((t.at_ 1)).n), cs4, .bool (((t.at_ 1)).z), .slice p4 (((t.at_ 1)).l.length) cap4, cu4], .row 45 1 vr k xs, .rep (ddT (t.at_ 1)) [.int .i64 (((t.at_ 1)).n), cs3, .bool (((t.at_ 1)).z), .slice p3 (((t.at_ 1)).l.length) cap3, cu3], .rep (ddT (t.at_ 1)) [.int .i64 (((t.at_ 1)).n), cs2, .bool (((t.at_ 1)).z), .slice p2 (((t.at_ 1)).l.length) cap2, cu2], .rep (ddT (t.at_ 0)) [.int .i64 (((t.at_ 0)).n), cs1, .bool (((t.at_ 0)).z), .slice p1 (((t.at_ 0)).l.length) cap1, cu1], .blk b3 [.string (bs ((t.at_ 0)).s), vr] 99, .blk b2 [.string .empty, .slice none 0 0] 99, .blk b1 [.int .i64 t.n, cs, .bool t.z, .slice p t.l.length cap, cu] 39, .rep (ddT t) [.int .i64 t.n, cs, .bool t.z, .slice p t.l.length cap, cu]] w) (hk.sub ⟨rfl, rfl, rfl, rfl, rfl, trivial⟩) ⟨_, _, rfl, by simp, hm⟩ rfl rfl rfl rfl rfl rfl rfl (fun k L a w hlt hR hk => ?_) rfl (fun L a w hR hk => ?_)
      · obtain ⟨vr, xs, rfl, hnn, hm⟩ := hR
        obtain ⟨_, bl, off, c5, hpl, hl5, hR5, hC5⟩ := rep_sl_get (rep_T_l (hm.rep (i := 1) rfl)) (getD_map ddT ((t.at_ 1)).l k T.nil hlt)
        obtain ⟨cs5, p5, cap5, cu5, rfl⟩ := rep_T5 hR5
        have hm := hm.add (e := .rep (ddT ((t.at_ 1).l.getD k T.nil)) [.int .i64 ((((t.at_ 1).l.getD k T.nil)).n), cs5, .bool ((((t.at_ 1).l.getD k T.nil)).z), .slice p5 ((((t.at_ 1).l.getD k T.nil)).l.length) cap5, cu5]) rfl hR5
        refine c_region ?_
        refine o_indexAddr (j := k) (b := bl) (off := off) hk te_36 ts_39 (by rw [← hpl]; rfl) rfl hlt rfl fun a hk => ?_
        refine o_loadN (cs := [.int .i64 ((((t.at_ 1).l.getD k T.nil)).n), cs5, .bool ((((t.at_ 1).l.getD k T.nil)).z), .slice p5 ((((t.at_ 1).l.getD k T.nil)).l.length) cap5, cu5]) hk ts_39 rfl (hC5.at_) rfl fun a hk => ?_
        refine o_alloc hk hm tz_39 rfl rfl fun a b5 w hk hm => ?_
        refine o_store (i := 0) hk hm ts_39 rfl rfl rfl rfl (rep_T_one hR5) rfl (Nat.le_of_ble_eq_true rfl) fun a w hk hm => ?_
        refine c_end ?_
        refine c_reg ?_
        refine o_fieldAddr hk fo_99_1 rfl rfl fun a hk => ?_
        refine o_load hk ts_95 rfl (hm.cell_blk (i := 8) rfl rfl) rfl fun a hk => ?_
        refine o_fieldAddr hk fo_39_0 rfl rfl fun a hk => ?_
        refine o_load hk ts_2 rfl (hm.cell_blk (i := 0) rfl rfl) rfl fun a hk => ?_
        refine o_convInt (c := IntKind.i16.wrap ((((t.at_ 1).l.getD k T.nil)).n)) hk un_2 ti_45 rfl rfl rfl fun a hk => ?_
        refine o_buildSlice (r := [.int .i16 (IntKind.i16.wrap ((((t.at_ 1).l.getD k T.nil)).n))]) hk hm rt_95 tz_45 rfl rfl rfl ⟨_, _, _, rfl, rfl, rfl, rfl, rfl⟩ rfl fun a b6 w hk hm => ?_
        refine o_append (i := 5) hk hm rt_95 rfl rfl rfl (src_cells (k := 1) (news := [.int .i16 (IntKind.i16.wrap ((((t.at_ 1).l.getD k T.nil)).n))]) te_95 rfl (hm.cells_blk (i := 0) rfl rfl) rfl) (by unfold maxLen; omega) (by omega) rfl fun a v7 w hk hm hnilv7 => ?_
        refine o_fieldAddr hk fo_99_1 rfl rfl fun a hk => ?_
        refine o_store (i := 9) hk hm ts_95 rfl rfl (cells1 (row_one (hm.row (i := 5) rfl))) rfl (one1 (row_one (hm.row (i := 5) rfl))) rfl (Nat.le_of_ble_eq_true rfl) fun a w hk hm => ?_
        refine c_endQ ?_
        refine c_inNormal ?_
        have hm := hm.elsPush (i := 3) (d := (.v (.int .i16 (IntKind.i16.wrap ((((t.at_ 1).l.getD k T.nil)).n))))) rfl (rep_v _) rfl
        rw [← take_succ_map (fun x : T => DD.v (.int .i16 (IntKind.i16.wrap x.n))) ((t.at_ 1)).l k T.nil hlt] at hm
        have hm := hm.tail
        have hm := hm.tail
        have hm := hm.tail
        refine c_round (L' := [(2, .pointer (some ⟨b2, 0, none⟩)), (3, .pointer (some ⟨b3, 0, none⟩)), (23, .slice p4 (((t.at_ 1)).l.length) cap4)]) hk ⟨rfl, rfl, rfl, rfl, rfl, trivial⟩ rfl ⟨_, _, rfl, fun e => hnn (hnilv7.1 e).1, hm⟩
      · obtain ⟨vl8, xsvl8, rfl, hnnvl8, hm⟩ := hR
        have hovl8 := row_one (hm.row (i := 2) rfl)
        have hm := hm.freezeRow (i := 2) (st := true) rfl (noX _) (hm.els (i := 0) rfl) (by rw [List.length_map, List.length_take]; omega) (fun h => absurd h hnnvl8)
        rw [List.take_length] at hm
        refine c_then ⟨vl8, hovl8, hk.sub ⟨rfl, rfl, trivial⟩, ?_⟩
        rw [hz]; exact hm.pick [2, 5, 6, 7, 8, 9] rfl rfl
    · have hz : (t.at_ 1).z = true := by simpa using hc
      refine wp_skip ?_
      have hm := hm.addV (.slice none 0 0)
      refine c_then ⟨.slice none 0 0, rfl, hk.sub ⟨rfl, rfl, trivial⟩, ?_⟩
      rw [hz]; exact hm.pick [0, 2, 3, 4, 5, 6] rfl rfl
  obtain ⟨vj1, ho1, hk, hm⟩ := hJ
  refine c_region ?_
  refine o_loadN (cs := [.string (bs ((t.at_ 0)).s), vj1]) hk ts_99 rfl (hm.cells_blk (i := 2) rfl rfl) rfl fun a hk => ?_
  refine o_store (i := 3) hk hm ts_99 rfl rfl rfl rfl (one_cons rfl (one_cons ho1 rfl)) rfl (Nat.le_of_ble_eq_true rfl) fun a w hk hm => ?_
  refine c_end ?_
  refine wp_ret ?_
  refine b_retCell (i := 3) (cs := [.string (bs ((t.at_ 0)).s), vj1]) rfl ts_99 hk hm rfl rfl ?_
  refine ⟨hm.agr, _, rfl, rfl, (one_cons rfl (one_cons ho1 rfl)), ?_⟩
  refine hm.out ?_
  rw [dd_sConnectMemberAssignmentRevoked]
  refine rep_agg ?_
  exact RepL.cons1 (rep_v _) (RepL.cons1 (hm.rep (i := 0) rfl) (RepL.nil))
theorem dd_ConnectMemberAssignment (t : T) : ddS sch_ConnectMemberAssignment false t = .agg [.v (.int .i16 (IntKind.i16.wrap (t.at_ 0).n)), .v (.string (bs (t.at_ 1).s)), .v (.string (bs (t.at_ 2).s)), .v (.int .i64 (t.at_ 3).n), if (t.at_ 4).z then .v (.slice none 0 0) else .sl true 2 ((t.at_ 4).l.map (ddS sch_sConnectMemberAssignmentAssignment false)), if (t.at_ 5).z then .v (.slice none 0 0) else .sl true 2 ((t.at_ 5).l.map (ddS sch_sConnectMemberAssignmentRevoked false)), .v (.int .i32 (IntKind.i32.wrap (t.at_ 6).n))] := rfl
theorem fill_ConnectMemberAssignment {w0 : World} {Y : Nat → Prop} {t : T} {ct : List Value} {g : Nat} {V : Int} (hb : w0.heap[g]? = some (.cells [.int .i16 V, .int .i16 0, .string .empty, .string .empty, .int .i64 0, .slice none 0 0, .slice none 0 0, .int .i32 0].toArray 70 (0, 0))) (hg : Y g) (hT : Rep w0 Y (ddT t) ct) (hsm : t.small = true) : Ret Try.prog 31 [.pointer (some ⟨g, 0, none⟩), .agg ct.toArray] w0 fun _ w' => Agr (fun k => k = g) w0 w' ∧ ∃ c', w'.heap[g]? = some (.cells (.int .i16 V :: c').toArray 70 (0, 0)) ∧ Rep w' (fun b => b < w0.heap.size ∧ Y b) (ddS sch_ConnectMemberAssignment false t) c' := by
  have _hsm := hsm
  obtain ⟨cs, p, cap, cu, rfl⟩ := rep_T5 hT
  refine c_call Try.func31 rfl rfl fun a hk => ?_
  have hk : Kn 106 [(0, .pointer (some ⟨g, 0, none⟩)), (1, .agg #[.int .i64 t.n, cs, .bool t.z, .slice p t.l.length cap, cu])] a := hk
  have hm : Mem w0 (fun k => k = g) Y [.blk g [.int .i16 V, .int .i16 0, .string .empty, .string .empty, .int .i64 0, .slice none 0 0, .slice none 0 0, .int .i32 0] 70, .rep (ddT t) [.int .i64 t.n, cs, .bool t.z, .slice p t.l.length cap, cu]] w0 := Mem.startBlk hb hg rfl (by simp only [List.forall_mem_cons, List.not_mem_nil, false_imp_iff, implies_true, and_true]; exact hT)
  refine c_region ?_
  refine o_box hk hm rfl rfl rfl fun a b1 w hk hm => ?_
  refine c_end ?_
  refine c_region ?_
  refine o_move hk rfl rfl fun a hk => ?_
  refine o_loadN (cs := [.int .i64 t.n, cs, .bool t.z, .slice p t.l.length cap, cu]) hk ts_39 rfl (hm.cells_blk (i := 0) rfl rfl) rfl fun a hk => ?_
  refine o_call hk cb_37 (at_impl (t := t) 0 (hm.rep (i := 2) rfl)) ⟨rfl, rfl, trivial⟩ rfl fun v w a hR hk => ?_
  obtain ⟨hp, c1, rfl, hR⟩ := hR
  obtain ⟨cs1, p1, cap1, cu1, rfl⟩ := rep_T5 hR
  have hm := hm.result hp hR
  refine o_field hk ff_39_0 rfl rfl rfl fun a hk => ?_
  refine o_convInt (c := IntKind.i16.wrap (((t.at_ 0)).n)) hk un_2 ti_45 rfl rfl rfl fun a hk => ?_
  refine o_nilCheck hk rfl rfl fun a hk => ?_
  refine o_fieldAddr hk fo_70_1 rfl rfl fun a hk => ?_
  refine o_store (i := 2) hk hm ts_45 rfl rfl rfl rfl rfl rfl (Nat.le_of_ble_eq_true rfl) fun a w hk hm => ?_
  refine c_end ?_
  refine c_region ?_
  refine o_move hk rfl rfl fun a hk => ?_
  refine o_loadN (cs := [.int .i64 t.n, cs, .bool t.z, .slice p t.l.length cap, cu]) hk ts_39 rfl (hm.cells_blk (i := 1) rfl rfl) rfl fun a hk => ?_
  refine o_call hk cb_37 (at_impl (t := t) 1 (hm.rep (i := 3) rfl)) ⟨rfl, rfl, trivial⟩ rfl fun v w a hR hk => ?_
  obtain ⟨hp, c2, rfl, hR⟩ := hR
  obtain ⟨cs2, p2, cap2, cu2, rfl⟩ := rep_T5 hR
  have hm := hm.result hp hR
  refine o_field hk ff_39_1 rfl rfl rfl fun a hk => ?_
  refine o_bytesToStr hk iy_22 is_9 rfl (rep_T_s (hm.rep (i := 0) rfl)) rfl fun a hk => ?_
  refine o_nilCheck hk rfl rfl fun a hk => ?_
  refine o_fieldAddr hk fo_70_2 rfl rfl fun a hk => ?_
  refine o_store (i := 3) hk hm ts_9 rfl rfl rfl rfl rfl rfl (Nat.le_of_ble_eq_true rfl) fun a w hk hm => ?_
  refine c_end ?_
  refine c_region ?_
  refine o_move hk rfl rfl fun a hk => ?_
  refine o_loadN (cs := [.int .i64 t.n, cs, .bool t.z, .slice p t.l.length cap, cu]) hk ts_39 rfl (hm.cells_blk (i := 2) rfl rfl) rfl fun a hk => ?_
  refine o_call hk cb_37 (at_impl (t := t) 2 (hm.rep (i := 4) rfl)) ⟨rfl, rfl, trivial⟩ rfl fun v w a hR hk => ?_
  obtain ⟨hp, c3, rfl, hR⟩ := hR
  obtain ⟨cs3, p3, cap3, cu3, rfl⟩ := rep_T5 hR
  have hm := hm.result hp hR
  refine o_field hk ff_39_1 rfl rfl rfl fun a hk => ?_
  refine o_bytesToStr hk iy_22 is_9 rfl (rep_T_s (hm.rep (i := 0) rfl)) rfl fun a hk => ?_
  refine o_nilCheck hk rfl rfl fun a hk => ?_
  refine o_fieldAddr hk fo_70_3 rfl rfl fun a hk => ?_
  refine o_store (i := 4) hk hm ts_9 rfl rfl rfl rfl rfl rfl (Nat.le_of_ble_eq_true rfl) fun a w hk hm => ?_
  refine c_end ?_
  refine c_region ?_
  refine o_move hk rfl rfl fun a hk => ?_
  refine o_loadN (cs := [.int .i64 t.n, cs, .bool t.z, .slice p t.l.length cap, cu]) hk ts_39 rfl (hm.cells_blk (i := 3) rfl rfl) rfl fun a hk => ?_
  refine o_call hk cb_37 (at_impl (t := t) 3 (hm.rep (i := 5) rfl)) ⟨rfl, rfl, trivial⟩ rfl fun v w a hR hk => ?_
  obtain ⟨hp, c4, rfl, hR⟩ := hR
  obtain ⟨cs4, p4, cap4, cu4, rfl⟩ := rep_T5 hR
  have hm := hm.result hp hR
  refine o_field hk ff_39_0 rfl rfl rfl fun a hk => ?_
  refine o_nilCheck hk rfl rfl fun a hk => ?_
  refine o_fieldAddr hk fo_70_4 rfl rfl fun a hk => ?_
  refine o_store (i := 5) hk hm ts_2 rfl rfl rfl rfl rfl rfl (Nat.le_of_ble_eq_true rfl) fun a w hk hm => ?_
  refine c_end ?_
  refine c_cut (fun a w => ∃ v, v.oneCell' = true ∧ Kn 106 [(0, .pointer (some ⟨g, 0, none⟩)), (3, .pointer (some ⟨b1, 0, none⟩))] a ∧ Mem w0 (fun k => k = g) Y [.rep (if (t.at_ 4).z then .v (.slice none 0 0) else .sl true 2 ((t.at_ 4).l.map (ddS sch_sConnectMemberAssignmentAssignment false))) [v], .rep (ddT (t.at_ 3)) [.int .i64 (((t.at_ 3)).n), cs4, .bool (((t.at_ 3)).z), .slice p4 (((t.at_ 3)).l.length) cap4, cu4], .rep (ddT (t.at_ 2)) [.int .i64 (((t.at_ 2)).n), cs3, .bool (((t.at_ 2)).z), .slice p3 (((t.at_ 2)).l.length) cap3, cu3], .rep (ddT (t.at_ 1)) [.int .i64 (((t.at_ 1)).n), cs2, .bool (((t.at_ 1)).z), .slice p2 (((t.at_ 1)).l.length) cap2, cu2], .rep (ddT (t.at_ 0)) [.int .i64 (((t.at_ 0)).n), cs1, .bool (((t.at_ 0)).z), .slice p1 (((t.at_ 0)).l.length) cap1, cu1], .blk b1 [.int .i64 t.n, cs, .bool t.z, .slice p t.l.length cap, cu] 39, .blk g [.int .i16 V, .int .i16 (IntKind.i16.wrap (((t.at_ 0)).n)), .string (bs ((t.at_ 1)).s), .string (bs ((t.at_ 2)).s), .int .i64 (((t.at_ 3)).n), v, .slice none 0 0, .int .i32 0] 70, .rep (ddT t) [.int .i64 t.n, cs, .bool t.z, .slice p t.l.length cap, cu]] w) ?_ (fun a w hJ => ?_)
  · refine c_region ?_
    refine o_loadN (cs := [.int .i64 t.n, cs, .bool t.z, .slice p t.l.length cap, cu]) hk ts_39 rfl (hm.cells_blk (i := 4) rfl rfl) rfl fun a hk => ?_
    refine o_call hk cb_37 (at_impl (t := t) 4 (hm.rep (i := 6) rfl)) ⟨rfl, rfl, trivial⟩ rfl fun v w a hR hk => ?_
    obtain ⟨hp, c5, rfl, hR⟩ := hR
    obtain ⟨cs5, p5, cap5, cu5, rfl⟩ := rep_T5 hR
    have hm := hm.result hp hR
    refine o_field hk ff_39_2 rfl rfl rfl fun a hk => ?_
    refine o_not hk rfl rfl fun a hk => ?_
    refine c_end ?_
    refine c_cond hk rfl (fun hc => ?_) (fun hc => ?_)
    · have hz : (t.at_ 4).z = false := by simpa using hc
      refine c_region ?_
      refine o_move hk rfl rfl fun a hk => ?_
      refine o_loadN (cs := [.int .i64 t.n, cs, .bool t.z, .slice p t.l.length cap, cu]) hk ts_39 rfl (hm.cells_blk (i := 5) rfl rfl) rfl fun a hk => ?_
      refine o_call hk cb_37 (at_impl (t := t) 4 (hm.rep (i := 7) rfl)) ⟨rfl, rfl, trivial⟩ rfl fun v w a hR hk => ?_
      obtain ⟨hp, c6, rfl, hR⟩ := hR
      obtain ⟨cs6, p6, cap6, cu6, rfl⟩ := rep_T5 hR
      have hm := hm.result hp hR
      refine o_field hk ff_39_3 rfl rfl rfl fun a hk => ?_
      refine o_lenSlice hk te_36 rfl rfl fun a hk => ?_
      have hsb2 := (small_spec (small_at hsm 4)).2.1
      refine o_make0 (cap := ((t.at_ 4)).l.length) hk hm rt_67 tz_97 rfl (by unfold maxLen; omega) (by omega) rfl fun a b2 w hbb2 hk hm => ?_
      refine o_nilCheck hk rfl rfl fun a hk => ?_
      refine o_fieldAddr hk fo_70_5 rfl rfl fun a hk => ?_
      refine o_store (i := 8) hk hm ts_67 rfl rfl rfl rfl rfl rfl (Nat.le_of_ble_eq_true rfl) fun a w hk hm => ?_
      refine c_end ?_
      refine c_region ?_
      refine o_loadN (cs := [.int .i64 t.n, cs, .bool t.z, .slice p t.l.length cap, cu]) hk ts_39 rfl (hm.cells_blk (i := 7) rfl rfl) rfl fun a hk => ?_
      refine o_call hk cb_37 (at_impl (t := t) 4 (hm.rep (i := 9) rfl)) ⟨rfl, rfl, trivial⟩ rfl fun v w a hR hk => ?_
      obtain ⟨hp, c7, rfl, hR⟩ := hR
      obtain ⟨cs7, p7, cap7, cu7, rfl⟩ := rep_T5 hR
      have hm := hm.result hp hR
      refine o_field hk ff_39_3 rfl rfl rfl fun a hk => ?_
      refine o_lenSlice hk te_36 rfl rfl fun a hk => ?_
      refine o_move hk rfl rfl fun a hk => ?_
      refine c_end ?_
      have hm := hm.addEls 2
      have hN := (small_spec (small_at hsm 4)).2.1
      refine c_range (L0 := [(0, .pointer (some ⟨g, 0, none⟩)), (3, .pointer (some ⟨b1, 0, none⟩)), (49, .slice p7 (((t.at_ 4)).l.length) cap7)]) (N := ((t.at_ 4)).l.length) (by omega) (fun k L w => ∃ vr xs, L = [(0, .pointer (some ⟨g, 0, none⟩)), (3, .pointer (some ⟨b1, 0, none⟩)), (49, .slice p7 (((t.at_ 4)).l.length) cap7)] ∧ vr ≠ .slice none 0 0 ∧ Mem w0 (fun k => k = g) Y [.els 2 ((((t.at_ 4)).l.take k).map (ddS sch_sConnectMemberAssignmentAssignment false)) xs, .rep (ddT (t.at_ 4)) [.int .i64 (((t.at_ 4)).n), cs7, .bool (((t.at_ 4)).z), .slice p7 (((t.at_ 4)).l.length) cap7, cu7], .row 97 2 vr k xs, .rep (ddT (t.at_ 4)) [.int .i64 (((t.at_ 4)).n), cs6, .bool (((t.at_ 4)).z), .slice p6 (((t.at_ 4)).l.length) cap6, cu6], .rep (ddT (t.at_ 4)) [.int .i64 (((t.at_ 4)).n), cs5, .bool (((t.at_ 4)).z), .slice p5 (((t.at_ 4)).l.length) cap5, cu5], .rep (ddT (t.at_ 3)) [.int .i64 (((t.at_ 3)).n), cs4, .bool (((t.at_ 3)).z), .slice p4 (((t.at_ 3)).l.length) cap4, cu4], .rep (ddT (t.at_ 2)) [.int .i64 (((t.at_ 2)).n), cs3, .bool (((t.at_ 2)).z), .slice p3 (((t.at_ 2)).l.length) cap3, cu3], .rep (ddT (t.at_ 1)) [.int .i64 (((t.at_ 1)).n), cs2, .bool (((t.at_ 1)).z), .slice p2 (((t.at_ 1)).l.length) cap2, cu2], .rep (ddT (t.at_ 0)) [.int .i64 (((t.at_ 0)).n), cs1, .bool (((t.at_ 0)).z), .slice p1 (((t.at_ 0)).l.length) cap1, cu1], .blk b1 [.int .i64 t.n, cs, .bool t.z, .slice p t.l.length cap, cu] 39, .blk g [.int .i16 V, .int .i16 (IntKind.i16.wrap (((t.at_ 0)).n)), .string (bs ((t.at_ 1)).s), .string (bs ((t.at_ 2)).s), .int .i64 (((t.at_ 3)).n), vr, .slice none 0 0, .int .i32 0] 70, .rep (ddT t) [.int .i64 t.n, cs, .bool t.z, .slice p t.l.length cap, cu]] w) (hk.sub ⟨rfl, rfl, rfl, rfl, rfl, trivial⟩) ⟨_, _, rfl, by simp, hm⟩ rfl rfl rfl rfl rfl rfl rfl (fun k L a w hlt hR hk => ?_) rfl (fun L a w hR hk => ?_)
      · obtain ⟨vr, xs, rfl, hnn, hm⟩ := hR
        obtain ⟨_, bl, off, c8, hpl, hl8, hR8, hC8⟩ := rep_sl_get (rep_T_l (hm.rep (i := 1) rfl)) (getD_map ddT ((t.at_ 4)).l k T.nil hlt)
        obtain ⟨cs8, p8, cap8, cu8, rfl⟩ := rep_T5 hR8
        have hm := hm.add (e := .rep (ddT ((t.at_ 4).l.getD k T.nil)) [.int .i64 ((((t.at_ 4).l.getD k T.nil)).n), cs8, .bool ((((t.at_ 4).l.getD k T.nil)).z), .slice p8 ((((t.at_ 4).l.getD k T.nil)).l.length) cap8, cu8]) rfl hR8
        refine c_region ?_
        refine o_indexAddr (j := k) (b := bl) (off := off) hk te_36 ts_39 (by rw [← hpl]; rfl) rfl hlt rfl fun a hk => ?_
        refine o_loadN (cs := [.int .i64 ((((t.at_ 4).l.getD k T.nil)).n), cs8, .bool ((((t.at_ 4).l.getD k T.nil)).z), .slice p8 ((((t.at_ 4).l.getD k T.nil)).l.length) cap8, cu8]) hk ts_39 rfl (hC8.at_) rfl fun a hk => ?_
        refine o_alloc hk hm tz_39 rfl rfl fun a b3 w hk hm => ?_
        refine o_store (i := 0) hk hm ts_39 rfl rfl rfl rfl (rep_T_one hR8) rfl (Nat.le_of_ble_eq_true rfl) fun a w hk hm => ?_
        refine c_end ?_
        refine d_startM (K := 8) mixed hm fun w hm => ?_
        refine d_take (i := 1) rfl rfl rfl (by kernel_rfl) (fun _ _ _ h => h) hk rfl (fun w hm => r_move hk rfl) hm fun a hk => ?_
        refine d_take (i := 2) rfl rfl rfl (by kernel_rfl) (fun _ _ _ h => h) hk rfl (fun w hm => r_nilCheck hk rfl) hm fun a hk => ?_
        refine d_take (i := 3) rfl rfl rfl (by kernel_rfl) (fun _ _ _ h => h) hk rfl (fun w hm => r_fieldAddr hk fo_70_5 rfl) hm fun a hk => ?_
        refine d_take (i := 4) rfl rfl rfl (by kernel_rfl) (fun _ _ _ h => h) hk rfl (fun w hm => r_load1 hk ts_67 rfl (hm.cell_blk (i := 12) rfl rfl)) hm fun a hk => ?_
        refine d_take (i := 5) rfl rfl rfl (by kernel_rfl) (fun _ _ _ h => h) hk rfl (fun w hm => r_loadN (cs := [.int .i64 ((((t.at_ 4).l.getD k T.nil)).n), cs8, .bool ((((t.at_ 4).l.getD k T.nil)).z), .slice p8 ((((t.at_ 4).l.getD k T.nil)).l.length) cap8, cu8]) hk ts_39 rfl (hm.cells_blk (i := 0) rfl rfl)) hm fun a hk => ?_
        refine d_takeF (i := 0) rfl rfl rfl (by kernel_rfl) (fun _ _ _ h => h) hk rfl (fun w => r_move hk rfl) (fun _ => hm) fun a hk => ?_
        refine d_one (k := 6) (by kernel_rfl) rfl rfl ?_
        refine o_call hk cb_50 (make_ConnectMemberAssignmentAssignment (t := ((t.at_ 4).l.getD k T.nil)) (hm.rep (i := 1) rfl) (small_getD (small_at hsm 4) k)) ⟨rfl, trivial⟩ rfl fun v w a hR hk => ?_
        obtain ⟨hp, c9, rfl, hl9, ho9, hR⟩ := hR
        have hm := hm.result hp hR
        refine c_endQ (c_then ⟨fun _ => hm.tail, ?_⟩)
        refine d_one (k := 7) (by kernel_rfl) rfl rfl ?_
        refine o_build1 (c := c9) hk hm rt_67 rfl rfl hl9 rfl rfl rfl fun a b4 w hk hm => ?_
        refine c_endQ (c_then ⟨fun _ => hm.tail.tail, ?_⟩)
        refine d_one (k := 8) (by kernel_rfl) rfl rfl ?_
        refine o_append (i := 6) hk hm rt_67 rfl rfl rfl (src_cells (k := 1) (news := c9) te_67 (by rw [hl9]) (hm.cells_blk (i := 0) rfl (by simp)) ho9) (by unfold maxLen; omega) (by omega) rfl fun a v5 w hk hm hnilv5 => ?_
        refine c_endQ (c_then ⟨fun h => Bool.noConfusion (show true = false from h), ?_⟩)
        refine d_one (k := 9) (by kernel_rfl) rfl rfl ?_
        refine o_nilCheck hk rfl rfl fun a hk => ?_
        refine c_endQ (c_then ⟨fun h => Bool.noConfusion (show true = false from h), ?_⟩)
        refine d_one (k := 10) (by kernel_rfl) rfl rfl ?_
        refine o_fieldAddr hk fo_70_5 rfl rfl fun a hk => ?_
        refine c_endQ (c_then ⟨fun h => Bool.noConfusion (show true = false from h), ?_⟩)
        refine d_one (k := 11) (by kernel_rfl) rfl rfl ?_
        refine o_store (i := 14) hk hm ts_67 rfl rfl (cells1 (row_one (hm.row (i := 6) rfl))) rfl (one1 (row_one (hm.row (i := 6) rfl))) rfl (Nat.le_of_ble_eq_true rfl) fun a w hk hm => ?_
        refine c_endQ (c_then ⟨fun h => Bool.noConfusion (show true = false from h), ?_⟩)
        refine d_done (by kernel_rfl) ?_ _
        refine c_inNormal ?_
        have hm := hm.elsPush (i := 4) (d := (ddS sch_sConnectMemberAssignmentAssignment false ((t.at_ 4).l.getD k T.nil))) rfl (hm.rep (i := 1) rfl) (by rw [hl9])
        rw [← take_succ_map (ddS sch_sConnectMemberAssignmentAssignment false) ((t.at_ 4)).l k T.nil hlt] at hm
        have hm := hm.tail
        have hm := hm.tail
        have hm := hm.tail
        have hm := hm.tail
        refine c_round (L' := [(0, .pointer (some ⟨g, 0, none⟩)), (3, .pointer (some ⟨b1, 0, none⟩)), (49, .slice p7 (((t.at_ 4)).l.length) cap7)]) hk ⟨rfl, rfl, rfl, rfl, rfl, trivial⟩ rfl ⟨_, _, rfl, fun e => hnn (hnilv5.1 e).1, hm⟩
      · obtain ⟨vl6, xsvl6, rfl, hnnvl6, hm⟩ := hR
        have hovl6 := row_one (hm.row (i := 2) rfl)
        have hm := hm.freezeRow (i := 2) (st := true) rfl (fun k hk => hm.rowNe (i := 2) (j := 10) rfl rfl (by decide) hk) (hm.els (i := 0) rfl) (by rw [List.length_map, List.length_take]; omega) (fun h => absurd h hnnvl6)
        rw [List.take_length] at hm
        refine c_then ⟨vl6, hovl6, hk.sub ⟨rfl, rfl, trivial⟩, ?_⟩
        rw [hz]; exact hm.pick [2, 5, 6, 7, 8, 9, 10, 11] rfl rfl
    · have hz : (t.at_ 4).z = true := by simpa using hc
      refine wp_skip ?_
      have hm := hm.addV (.slice none 0 0)
      refine c_then ⟨.slice none 0 0, rfl, hk.sub ⟨rfl, rfl, trivial⟩, ?_⟩
      rw [hz]; exact hm.pick [0, 2, 3, 4, 5, 6, 7, 8] rfl rfl
  obtain ⟨vj4, ho4, hk, hm⟩ := hJ
  refine c_cut (fun a w => ∃ v, v.oneCell' = true ∧ Kn 106 [(0, .pointer (some ⟨g, 0, none⟩)), (3, .pointer (some ⟨b1, 0, none⟩))] a ∧ Mem w0 (fun k => k = g) Y [.rep (if (t.at_ 5).z then .v (.slice none 0 0) else .sl true 2 ((t.at_ 5).l.map (ddS sch_sConnectMemberAssignmentRevoked false))) [v], .rep (if (t.at_ 4).z then .v (.slice none 0 0) else .sl true 2 ((t.at_ 4).l.map (ddS sch_sConnectMemberAssignmentAssignment false))) [vj4], .rep (ddT (t.at_ 3)) [.int .i64 (((t.at_ 3)).n), cs4, .bool (((t.at_ 3)).z), .slice p4 (((t.at_ 3)).l.length) cap4, cu4], .rep (ddT (t.at_ 2)) [.int .i64 (((t.at_ 2)).n), cs3, .bool (((t.at_ 2)).z), .slice p3 (((t.at_ 2)).l.length) cap3, cu3], .rep (ddT (t.at_ 1)) [.int .i64 (((t.at_ 1)).n), cs2, .bool (((t.at_ 1)).z), .slice p2 (((t.at_ 1)).l.length) cap2, cu2], .rep (ddT (t.at_ 0)) [.int .i64 (((t.at_ 0)).n), cs1, .bool (((t.at_ 0)).z), .slice p1 (((t.at_ 0)).l.length) cap1, cu1], .blk b1 [.int .i64 t.n, cs, .bool t.z, .slice p t.l.length cap, cu] 39, .blk g [.int .i16 V, .int .i16 (IntKind.i16.wrap (((t.at_ 0)).n)), .string (bs ((t.at_ 1)).s), .string (bs ((t.at_ 2)).s), .int .i64 (((t.at_ 3)).n), vj4, v, .int .i32 0] 70, .rep (ddT t) [.int .i64 t.n, cs, .bool t.z, .slice p t.l.length cap, cu]] w) ?_ (fun a w hJ => ?_)
  · refine c_region ?_
    refine o_loadN (cs := [.int .i64 t.n, cs, .bool t.z, .slice p t.l.length cap, cu]) hk ts_39 rfl (hm.cells_blk (i := 5) rfl rfl) rfl fun a hk => ?_
    refine o_call hk cb_37 (at_impl (t := t) 5 (hm.rep (i := 7) rfl)) ⟨rfl, rfl, trivial⟩ rfl fun v w a hR hk => ?_
    obtain ⟨hp, c10, rfl, hR⟩ := hR
    obtain ⟨cs10, p10, cap10, cu10, rfl⟩ := rep_T5 hR
    have hm := hm.result hp hR
    refine o_field hk ff_39_2 rfl rfl rfl fun a hk => ?_
    refine o_not hk rfl rfl fun a hk => ?_
    refine c_end ?_
    refine c_cond hk rfl (fun hc => ?_) (fun hc => ?_)
    · have hz : (t.at_ 5).z = false := by simpa using hc
      refine c_region ?_
      refine o_move hk rfl rfl fun a hk => ?_
      refine o_loadN (cs := [.int .i64 t.n, cs, .bool t.z, .slice p t.l.length cap, cu]) hk ts_39 rfl (hm.cells_blk (i := 6) rfl rfl) rfl fun a hk => ?_
      refine o_call hk cb_37 (at_impl (t := t) 5 (hm.rep (i := 8) rfl)) ⟨rfl, rfl, trivial⟩ rfl fun v w a hR hk => ?_
      obtain ⟨hp, c11, rfl, hR⟩ := hR
      obtain ⟨cs11, p11, cap11, cu11, rfl⟩ := rep_T5 hR
      have hm := hm.result hp hR
      refine o_field hk ff_39_3 rfl rfl rfl fun a hk => ?_
      refine o_lenSlice hk te_36 rfl rfl fun a hk => ?_
      have hsb7 := (small_spec (small_at hsm 5)).2.1
      refine o_make0 (cap := ((t.at_ 5)).l.length) hk hm rt_68 tz_99 rfl (by unfold maxLen; omega) (by omega) rfl fun a b7 w hbb7 hk hm => ?_
      refine o_nilCheck hk rfl rfl fun a hk => ?_
      refine o_fieldAddr hk fo_70_6 rfl rfl fun a hk => ?_
      refine o_store (i := 9) hk hm ts_68 rfl rfl rfl rfl rfl rfl (Nat.le_of_ble_eq_true rfl) fun a w hk hm => ?_
      refine c_end ?_
      refine c_region ?_
      refine o_loadN (cs := [.int .i64 t.n, cs, .bool t.z, .slice p t.l.length cap, cu]) hk ts_39 rfl (hm.cells_blk (i := 8) rfl rfl) rfl fun a hk => ?_
      refine o_call hk cb_37 (at_impl (t := t) 5 (hm.rep (i := 10) rfl)) ⟨rfl, rfl, trivial⟩ rfl fun v w a hR hk => ?_
      obtain ⟨hp, c12, rfl, hR⟩ := hR
      obtain ⟨cs12, p12, cap12, cu12, rfl⟩ := rep_T5 hR
      have hm := hm.result hp hR
      refine o_field hk ff_39_3 rfl rfl rfl fun a hk => ?_
      refine o_lenSlice hk te_36 rfl rfl fun a hk => ?_
      refine o_move hk rfl rfl fun a hk => ?_
      refine c_end ?_
      have hm := hm.addEls 2
      have hN := (small_spec (small_at hsm 5)).2.1
      refine c_range (L0 := [(0, .pointer (some ⟨g, 0, none⟩)), (3, .pointer (some ⟨b1, 0, none⟩)), (81, .slice p12 (((t.at_ 5)).l.length) cap12)]) (N := ((t.at_ 5)).l.length) (by omega) (fun k L w => ∃ vr xs, L = [(0, .pointer (some ⟨g, 0, none⟩)), (3, .pointer (some ⟨b1, 0, none⟩)), (81, .slice p12 (((t.at_ 5)).l.length) cap12)] ∧ vr ≠ .slice none 0 0 ∧ Mem w0 (fun k => k = g) Y [.els 2 ((((t.at_ 5)).l.take k).map (ddS sch_sConnectMemberAssignmentRevoked false)) xs, .rep (ddT (t.at_ 5)) [.int .i64 (((t.at_ 5)).n), cs12, .bool (((t.at_ 5)).z), .slice p12 (((t.at_ 5)).l.length) cap12, cu12], .row 99 2 vr k xs, .rep (ddT (t.at_ 5)) [.int .i64 (((t.at_ 5)).n), cs11, .bool (((t.at_ 5)).z), .slice p11 (((t.at_ 5)).l.length) cap11, cu11], .rep (ddT (t.at_ 5)) [.int .i64 (((t.at_ 5)).n), cs10, .bool (((t.at_ 5)).z), .slice p10 (((t.at_ 5)).l.length) cap10, cu10], .rep (if (t.at_ 4).z then .v (.slice none 0 0) else .sl true 2 ((t.at_ 4).l.map (ddS sch_sConnectMemberAssignmentAssignment false))) [vj4], .rep (ddT (t.at_ 3)) [.int .i64 (((t.at_ 3)).n), cs4, .bool (((t.at_ 3)).z), .slice p4 (((t.at_ 3)).l.length) cap4, cu4], .rep (ddT (t.at_ 2)) [.int .i64 (((t.at_ 2)).n), cs3, .bool (((t.at_ 2)).z), .slice p3 (((t.at_ 2)).l.length) cap3, cu3], .rep (ddT (t.at_ 1)) [.int .i64 (((t.at_ 1)).n), cs2, .bool (((t.at_ 1)).z), .slice p2 (((t.at_ 1)).l.length) cap2, cu2], .rep (ddT (t.at_ 0)) [.int .i64 (((t.at_ 0)).n), cs1, .bool (((t.at_ 0)).z), .slice p1 (((t.at_ 0)).l.length) cap1, cu1], .blk b1 [.int .i64 t.n, cs, .bool t.z, .slice p t.l.length cap, cu] 39, .blk g [.int .i16 V, .int .i16 (IntKind.i16.wrap (((t.at_ 0)).n)), .string (bs ((t.at_ 1)).s), .string (bs ((t.at_ 2)).s), .int .i64 (((t.at_ 3)).n), vj4, vr, .int .i32 0] 70, .rep (ddT t) [.int .i64 t.n, cs, .bool t.z, .slice p t.l.length cap, cu]] w) (hk.sub ⟨rfl, rfl, rfl, rfl, rfl, trivial⟩) ⟨_, _, rfl, by simp, hm⟩ rfl rfl rfl rfl rfl rfl rfl (fun k L a w hlt hR hk => ?_) rfl (fun L a w hR hk => ?_)
      · obtain ⟨vr, xs, rfl, hnn, hm⟩ := hR
        obtain ⟨_, bl, off, c13, hpl, hl13, hR13, hC13⟩ := rep_sl_get (rep_T_l (hm.rep (i := 1) rfl)) (getD_map ddT ((t.at_ 5)).l k T.nil hlt)
        obtain ⟨cs13, p13, cap13, cu13, rfl⟩ := rep_T5 hR13
        have hm := hm.add (e := .rep (ddT ((t.at_ 5).l.getD k T.nil)) [.int .i64 ((((t.at_ 5).l.getD k T.nil)).n), cs13, .bool ((((t.at_ 5).l.getD k T.nil)).z), .slice p13 ((((t.at_ 5).l.getD k T.nil)).l.length) cap13, cu13]) rfl hR13
        refine c_region ?_
        refine o_indexAddr (j := k) (b := bl) (off := off) hk te_36 ts_39 (by rw [← hpl]; rfl) rfl hlt rfl fun a hk => ?_
        refine o_loadN (cs := [.int .i64 ((((t.at_ 5).l.getD k T.nil)).n), cs13, .bool ((((t.at_ 5).l.getD k T.nil)).z), .slice p13 ((((t.at_ 5).l.getD k T.nil)).l.length) cap13, cu13]) hk ts_39 rfl (hC13.at_) rfl fun a hk => ?_
        refine o_alloc hk hm tz_39 rfl rfl fun a b8 w hk hm => ?_
        refine o_store (i := 0) hk hm ts_39 rfl rfl rfl rfl (rep_T_one hR13) rfl (Nat.le_of_ble_eq_true rfl) fun a w hk hm => ?_
        refine c_end ?_
        refine d_startM (K := 8) mixed hm fun w hm => ?_
        refine d_take (i := 1) rfl rfl rfl (by kernel_rfl) (fun _ _ _ h => h) hk rfl (fun w hm => r_move hk rfl) hm fun a hk => ?_
        refine d_take (i := 2) rfl rfl rfl (by kernel_rfl) (fun _ _ _ h => h) hk rfl (fun w hm => r_nilCheck hk rfl) hm fun a hk => ?_
        refine d_take (i := 3) rfl rfl rfl (by kernel_rfl) (fun _ _ _ h => h) hk rfl (fun w hm => r_fieldAddr hk fo_70_6 rfl) hm fun a hk => ?_
        refine d_take (i := 4) rfl rfl rfl (by kernel_rfl) (fun _ _ _ h => h) hk rfl (fun w hm => r_load1 hk ts_68 rfl (hm.cell_blk (i := 13) rfl rfl)) hm fun a hk => ?_
        refine d_take (i := 5) rfl rfl rfl (by kernel_rfl) (fun _ _ _ h => h) hk rfl (fun w hm => r_loadN (cs := [.int .i64 ((((t.at_ 5).l.getD k T.nil)).n), cs13, .bool ((((t.at_ 5).l.getD k T.nil)).z), .slice p13 ((((t.at_ 5).l.getD k T.nil)).l.length) cap13, cu13]) hk ts_39 rfl (hm.cells_blk (i := 0) rfl rfl)) hm fun a hk => ?_
        refine d_takeF (i := 0) rfl rfl rfl (by kernel_rfl) (fun _ _ _ h => h) hk rfl (fun w => r_move hk rfl) (fun _ => hm) fun a hk => ?_
        refine d_one (k := 6) (by kernel_rfl) rfl rfl ?_
        refine o_call hk cb_51 (make_ConnectMemberAssignmentRevoked (t := ((t.at_ 5).l.getD k T.nil)) (hm.rep (i := 1) rfl) (small_getD (small_at hsm 5) k)) ⟨rfl, trivial⟩ rfl fun v w a hR hk => ?_
        obtain ⟨hp, c14, rfl, hl14, ho14, hR⟩ := hR
        have hm := hm.result hp hR
        refine c_endQ (c_then ⟨fun _ => hm.tail, ?_⟩)
        refine d_one (k := 7) (by kernel_rfl) rfl rfl ?_
        refine o_build1 (c := c14) hk hm rt_68 rfl rfl hl14 rfl rfl rfl fun a b9 w hk hm => ?_
        refine c_endQ (c_then ⟨fun _ => hm.tail.tail, ?_⟩)
        refine d_one (k := 8) (by kernel_rfl) rfl rfl ?_
        refine o_append (i := 6) hk hm rt_68 rfl rfl rfl (src_cells (k := 1) (news := c14) te_68 (by rw [hl14]) (hm.cells_blk (i := 0) rfl (by simp)) ho14) (by unfold maxLen; omega) (by omega) rfl fun a v10 w hk hm hnilv10 => ?_
        refine c_endQ (c_then ⟨fun h => Bool.noConfusion (show true = false from h), ?_⟩)
        refine d_one (k := 9) (by kernel_rfl) rfl rfl ?_
        refine o_nilCheck hk rfl rfl fun a hk => ?_
        refine c_endQ (c_then ⟨fun h => Bool.noConfusion (show true = false from h), ?_⟩)
        refine d_one (k := 10) (by kernel_rfl) rfl rfl ?_
        refine o_fieldAddr hk fo_70_6 rfl rfl fun a hk => ?_
        refine c_endQ (c_then ⟨fun h => Bool.noConfusion (show true = false from h), ?_⟩)
        refine d_one (k := 11) (by kernel_rfl) rfl rfl ?_
        refine o_store (i := 15) hk hm ts_68 rfl rfl (cells1 (row_one (hm.row (i := 6) rfl))) rfl (one1 (row_one (hm.row (i := 6) rfl))) rfl (Nat.le_of_ble_eq_true rfl) fun a w hk hm => ?_
        refine c_endQ (c_then ⟨fun h => Bool.noConfusion (show true = false from h), ?_⟩)
        refine d_done (by kernel_rfl) ?_ _
        refine c_inNormal ?_
        have hm := hm.elsPush (i := 4) (d := (ddS sch_sConnectMemberAssignmentRevoked false ((t.at_ 5).l.getD k T.nil))) rfl (hm.rep (i := 1) rfl) (by rw [hl14])
        rw [← take_succ_map (ddS sch_sConnectMemberAssignmentRevoked false) ((t.at_ 5)).l k T.nil hlt] at hm
        have hm := hm.tail
        have hm := hm.tail
        have hm := hm.tail
        have hm := hm.tail
        refine c_round (L' := [(0, .pointer (some ⟨g, 0, none⟩)), (3, .pointer (some ⟨b1, 0, none⟩)), (81, .slice p12 (((t.at_ 5)).l.length) cap12)]) hk ⟨rfl, rfl, rfl, rfl, rfl, trivial⟩ rfl ⟨_, _, rfl, fun e => hnn (hnilv10.1 e).1, hm⟩
      · obtain ⟨vl11, xsvl11, rfl, hnnvl11, hm⟩ := hR
        have hovl11 := row_one (hm.row (i := 2) rfl)
        have hm := hm.freezeRow (i := 2) (st := true) rfl (fun k hk => hm.rowNe (i := 2) (j := 11) rfl rfl (by decide) hk) (hm.els (i := 0) rfl) (by rw [List.length_map, List.length_take]; omega) (fun h => absurd h hnnvl11)
        rw [List.take_length] at hm
        refine c_then ⟨vl11, hovl11, hk.sub ⟨rfl, rfl, trivial⟩, ?_⟩
        rw [hz]; exact hm.pick [2, 5, 6, 7, 8, 9, 10, 11, 12] rfl rfl
    · have hz : (t.at_ 5).z = true := by simpa using hc
      refine wp_skip ?_
      have hm := hm.addV (.slice none 0 0)
      refine c_then ⟨.slice none 0 0, rfl, hk.sub ⟨rfl, rfl, trivial⟩, ?_⟩
      rw [hz]; exact hm.pick [0, 2, 3, 4, 5, 6, 7, 8, 9] rfl rfl
  obtain ⟨vj5, ho5, hk, hm⟩ := hJ
  refine c_reg ?_
  refine o_move hk rfl rfl fun a hk => ?_
  refine o_loadN (cs := [.int .i64 t.n, cs, .bool t.z, .slice p t.l.length cap, cu]) hk ts_39 rfl (hm.cells_blk (i := 6) rfl rfl) rfl fun a hk => ?_
  refine o_call hk cb_37 (at_impl (t := t) 6 (hm.rep (i := 8) rfl)) ⟨rfl, rfl, trivial⟩ rfl fun v w a hR hk => ?_
  obtain ⟨hp, c15, rfl, hR⟩ := hR
  obtain ⟨cs15, p15, cap15, cu15, rfl⟩ := rep_T5 hR
  have hm := hm.result hp hR
  refine o_field hk ff_39_0 rfl rfl rfl fun a hk => ?_
  refine o_convInt (c := IntKind.i32.wrap (((t.at_ 6)).n)) hk un_2 ti_21 rfl rfl rfl fun a hk => ?_
  refine o_nilCheck hk rfl rfl fun a hk => ?_
  refine o_fieldAddr hk fo_70_7 rfl rfl fun a hk => ?_
  refine o_store (i := 8) hk hm ts_21 rfl rfl rfl rfl rfl rfl (Nat.le_of_ble_eq_true rfl) fun a w hk hm => ?_
  refine c_endQ ?_
  refine b_endNone rfl hk ?_
  have hz := hm.all _ (entAt_mem (i := 8) rfl)
  simp only [Ent.holds] at hz
  refine ⟨hm.agr, _, hz, ?_⟩
  refine hm.out ?_
  rw [dd_ConnectMemberAssignment]
  refine rep_agg ?_
  exact RepL.cons1 (rep_v _) (RepL.cons1 (rep_v _) (RepL.cons1 (rep_v _) (RepL.cons1 (rep_v _) (RepL.cons1 (hm.rep (i := 2) rfl) (RepL.cons1 (hm.rep (i := 1) rfl) (RepL.cons1 (rep_v _) (RepL.nil)))))))
end Go.Proofs.Ytbljeefficdemaa
