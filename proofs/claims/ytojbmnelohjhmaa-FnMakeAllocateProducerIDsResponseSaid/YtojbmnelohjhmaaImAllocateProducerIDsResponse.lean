/- Walks of functions that the laws of this seat reach. No statement of the seat stands here. -/
import Derived.Test.YtojbmnelohjhmaaL2
import Derived.Test.YtojbmnelohjhmaaRows
import Derived.Test.YtojbmnelohjhmaaFa
import Derived.Test.YtojbmnelohjhmaaSch
import Derived.Test.YtojbmnelohjhmaaOb
namespace Go.Proofs.Ytojbmnelohjhmaa
open Go Go.Mk
theorem dd_AllocateProducerIDsResponse (t : T) : ddS sch_AllocateProducerIDsResponse true t = .agg [.v (.int .i32 (IntKind.i32.wrap (t.at_ 0).n)), .v (.int .i16 (IntKind.i16.wrap (t.at_ 1).n)), .v (.int .i64 (t.at_ 2).n), .v (.int .i32 (IntKind.i32.wrap (t.at_ 3).n)), ddTagMap t.u] := rfl
theorem fill_AllocateProducerIDsResponse {w0 : World} {Y : Nat → Prop} {t : T} {ct : List Value} {g : Nat} {V : Int} (hb : w0.heap[g]? = some (.cells [.int .i16 V, .int .i32 0, .int .i16 0, .int .i64 0, .int .i32 0, .map none].toArray 55 (0, 0))) (hg : Y g) (hT : Rep w0 Y (ddT t) ct) (hsm : t.small = true) : Ret Try.prog 61 [.pointer (some ⟨g, 0, none⟩), .agg ct.toArray] w0 fun _ w' => Agr (fun k => k = g) w0 w' ∧ ∃ c', w'.heap[g]? = some (.cells (.int .i16 V :: c').toArray 55 (0, 0)) ∧ Rep w' (fun b => b < w0.heap.size ∧ Y b) (ddS sch_AllocateProducerIDsResponse true t) c' := by
  have _hsm := hsm
  obtain ⟨cs, p, cap, pu, capu, rfl⟩ := rep_T6 hT
  refine c_call Try.func61 rfl rfl fun a hk => ?_
  have hk : Kn 49 [(0, .pointer (some ⟨g, 0, none⟩)), (1, .agg #[.int .i64 t.n, cs, .bool t.z, .slice p t.l.length cap, .slice pu t.u.length capu])] a := hk
  have hm : Mem w0 (fun k => k = g) Y [.blk g [.int .i16 V, .int .i32 0, .int .i16 0, .int .i64 0, .int .i32 0, .map none] 55, .rep (ddT t) [.int .i64 t.n, cs, .bool t.z, .slice p t.l.length cap, .slice pu t.u.length capu]] w0 := Mem.startBlk hb hg rfl (by simp only [List.forall_mem_cons, List.not_mem_nil, false_imp_iff, implies_true, and_true]; exact hT)
  refine c_region ?_
  refine o_box hk hm rfl rfl rfl fun a b1 w hk hm => ?_
  refine c_end ?_
  refine c_region ?_
  refine o_move hk rfl rfl fun a hk => ?_
  refine o_loadN (cs := [.int .i64 t.n, cs, .bool t.z, .slice p t.l.length cap, .slice pu t.u.length capu]) hk ts_39 rfl (hm.cells_blk (i := 0) rfl rfl) rfl fun a hk => ?_
  refine o_call hk cb_133 (at_impl (t := t) 0 (hm.rep (i := 2) rfl)) ⟨rfl, rfl, trivial⟩ rfl fun v w a hR hk => ?_
  obtain ⟨hp, c1, rfl, hR⟩ := hR
  obtain ⟨cs1, p1, cap1, cu1, rfl⟩ := rep_T5 hR
  have hm := hm.result hp hR
  refine o_field hk ff_39_0 rfl rfl rfl fun a hk => ?_
  refine o_convInt (c := IntKind.i32.wrap (((t.at_ 0)).n)) hk un_2 ti_21 rfl rfl rfl fun a hk => ?_
  refine o_nilCheck hk rfl rfl fun a hk => ?_
  refine o_fieldAddr hk fo_55_1 rfl rfl fun a hk => ?_
  refine o_store (i := 2) hk hm ts_21 rfl rfl rfl rfl rfl rfl (Nat.le_of_ble_eq_true rfl) fun a w hk hm => ?_
  refine c_end ?_
  refine c_region ?_
  refine o_move hk rfl rfl fun a hk => ?_
  refine o_loadN (cs := [.int .i64 t.n, cs, .bool t.z, .slice p t.l.length cap, .slice pu t.u.length capu]) hk ts_39 rfl (hm.cells_blk (i := 1) rfl rfl) rfl fun a hk => ?_
  refine o_call hk cb_133 (at_impl (t := t) 1 (hm.rep (i := 3) rfl)) ⟨rfl, rfl, trivial⟩ rfl fun v w a hR hk => ?_
  obtain ⟨hp, c2, rfl, hR⟩ := hR
  obtain ⟨cs2, p2, cap2, cu2, rfl⟩ := rep_T5 hR
  have hm := hm.result hp hR
  refine o_field hk ff_39_0 rfl rfl rfl fun a hk => ?_
  refine o_convInt (c := IntKind.i16.wrap (((t.at_ 1)).n)) hk un_2 ti_45 rfl rfl rfl fun a hk => ?_
  refine o_nilCheck hk rfl rfl fun a hk => ?_
  refine o_fieldAddr hk fo_55_2 rfl rfl fun a hk => ?_
  refine o_store (i := 3) hk hm ts_45 rfl rfl rfl rfl rfl rfl (Nat.le_of_ble_eq_true rfl) fun a w hk hm => ?_
  refine c_end ?_
  refine c_region ?_
  refine o_move hk rfl rfl fun a hk => ?_
  refine o_loadN (cs := [.int .i64 t.n, cs, .bool t.z, .slice p t.l.length cap, .slice pu t.u.length capu]) hk ts_39 rfl (hm.cells_blk (i := 2) rfl rfl) rfl fun a hk => ?_
  refine o_call hk cb_133 (at_impl (t := t) 2 (hm.rep (i := 4) rfl)) ⟨rfl, rfl, trivial⟩ rfl fun v w a hR hk => ?_
  obtain ⟨hp, c3, rfl, hR⟩ := hR
  obtain ⟨cs3, p3, cap3, cu3, rfl⟩ := rep_T5 hR
  have hm := hm.result hp hR
  refine o_field hk ff_39_0 rfl rfl rfl fun a hk => ?_
  refine o_nilCheck hk rfl rfl fun a hk => ?_
  refine o_fieldAddr hk fo_55_3 rfl rfl fun a hk => ?_
  refine o_store (i := 4) hk hm ts_2 rfl rfl rfl rfl rfl rfl (Nat.le_of_ble_eq_true rfl) fun a w hk hm => ?_
  refine c_end ?_
  refine c_region ?_
  refine o_move hk rfl rfl fun a hk => ?_
  refine o_loadN (cs := [.int .i64 t.n, cs, .bool t.z, .slice p t.l.length cap, .slice pu t.u.length capu]) hk ts_39 rfl (hm.cells_blk (i := 3) rfl rfl) rfl fun a hk => ?_
  refine o_call hk cb_133 (at_impl (t := t) 3 (hm.rep (i := 5) rfl)) ⟨rfl, rfl, trivial⟩ rfl fun v w a hR hk => ?_
  obtain ⟨hp, c4, rfl, hR⟩ := hR
  obtain ⟨cs4, p4, cap4, cu4, rfl⟩ := rep_T5 hR
  have hm := hm.result hp hR
  refine o_field hk ff_39_0 rfl rfl rfl fun a hk => ?_
  refine o_convInt (c := IntKind.i32.wrap (((t.at_ 3)).n)) hk un_2 ti_21 rfl rfl rfl fun a hk => ?_
  refine o_nilCheck hk rfl rfl fun a hk => ?_
  refine o_fieldAddr hk fo_55_4 rfl rfl fun a hk => ?_
  refine o_store (i := 5) hk hm ts_21 rfl rfl rfl rfl rfl rfl (Nat.le_of_ble_eq_true rfl) fun a w hk hm => ?_
  refine c_end ?_
  refine c_region ?_
  refine o_fieldAddr hk fo_39_4 rfl rfl fun a hk => ?_
  refine o_load hk ts_37 rfl (hm.cell_blk (i := 4) rfl rfl) rfl fun a hk => ?_
  refine o_lenSlice hk te_37 rfl rfl fun a hk => ?_
  refine o_move hk rfl rfl fun a hk => ?_
  refine c_end ?_
  have hm := hm.addMap0
  have hm := hm.addEls 1
  have hrs := small_rising hsm
  have hN := (small_spec (hsm)).2.2.1
  refine c_range (L0 := [(0, .pointer (some ⟨g, 0, none⟩)), (34, .slice pu t.u.length capu)]) (N := t.u.length) (by omega) (fun k L w => ∃ pm vs, L = [(0, .pointer (some ⟨g, 0, none⟩)), (34, .slice pu t.u.length capu)] ∧ Mem w0 (fun k => k = g) Y [.els 1 ((t.u.take k).map ddTagV) vs, .mapb pm ((t.u.take k).map Prod.fst) vs, .rep (ddT (t.at_ 3)) [.int .i64 (((t.at_ 3)).n), cs4, .bool (((t.at_ 3)).z), .slice p4 (((t.at_ 3)).l.length) cap4, cu4], .rep (ddT (t.at_ 2)) [.int .i64 (((t.at_ 2)).n), cs3, .bool (((t.at_ 2)).z), .slice p3 (((t.at_ 2)).l.length) cap3, cu3], .rep (ddT (t.at_ 1)) [.int .i64 (((t.at_ 1)).n), cs2, .bool (((t.at_ 1)).z), .slice p2 (((t.at_ 1)).l.length) cap2, cu2], .rep (ddT (t.at_ 0)) [.int .i64 (((t.at_ 0)).n), cs1, .bool (((t.at_ 0)).z), .slice p1 (((t.at_ 0)).l.length) cap1, cu1], .blk b1 [.int .i64 t.n, cs, .bool t.z, .slice p t.l.length cap, .slice pu t.u.length capu] 39, .blk g [.int .i16 V, .int .i32 (IntKind.i32.wrap (((t.at_ 0)).n)), .int .i16 (IntKind.i16.wrap (((t.at_ 1)).n)), .int .i64 (((t.at_ 2)).n), .int .i32 (IntKind.i32.wrap (((t.at_ 3)).n)), .map pm] 55, .rep (ddT t) [.int .i64 t.n, cs, .bool t.z, .slice p t.l.length cap, .slice pu t.u.length capu]] w) (hk.sub ⟨rfl, rfl, rfl, rfl, trivial⟩) ⟨none, [], rfl, hm⟩ rfl rfl rfl rfl rfl rfl rfl (fun k L a w hlt hR hk => ?_) rfl (fun L a w hR hk => ?_)
  · obtain ⟨pm, vs, rfl, hm⟩ := hR
    obtain ⟨hlt2, blt, offt, et, hpt, hlet, hRt, hCt⟩ := rep_sl_get (rep_T_u (hm.rep (i := 8) rfl)) (getD_map ddTag t.u k (0, []) hlt)
    obtain ⟨ptt, captt, rfl, hRt2⟩ := rep_Tag hRt
    have hm := hm.add (e := .rep (ddTag (t.u.getD k (0, []))) [.int .u32 (((t.u.getD k (0, [])).1 : Nat) : Int), .slice ptt ((t.u.getD k (0, [])).2.length) captt]) rfl hRt
    refine c_region ?_
    refine o_indexAddr (j := k) (b := blt) (off := offt) hk te_37 ts_62 (by rw [← hpt]; rfl) rfl hlt2 rfl fun a hk => ?_
    refine o_loadN (cs := [.int .u32 (((t.u.getD k (0, [])).1 : Nat) : Int), .slice ptt ((t.u.getD k (0, [])).2.length) captt]) hk ts_62 rfl (hCt.at_) rfl fun a hk => ?_
    refine o_alloc hk hm tz_62 rfl rfl fun a b2 w hk hm => ?_
    refine o_store (i := 0) hk hm ts_62 rfl rfl rfl rfl rfl rfl (Nat.le_of_ble_eq_true rfl) fun a w hk hm => ?_
    refine c_end ?_
    refine d_startM (K := 7) mixed hm fun w hm => ?_
    refine d_take (i := 0) rfl rfl rfl (by kernel_rfl) (fun _ _ _ h => h) hk rfl (fun w hm => r_move hk rfl) hm fun a hk => ?_
    refine d_take (i := 1) rfl rfl rfl (by kernel_rfl) (fun _ _ _ h => h) hk rfl (fun w hm => r_nilCheck hk rfl) hm fun a hk => ?_
    refine d_take (i := 2) rfl rfl rfl (by kernel_rfl) (fun _ _ _ h => h) hk rfl (fun w hm => r_fieldAddr hk fo_55_5 rfl) hm fun a hk => ?_
    refine d_take (i := 3) rfl rfl rfl (by kernel_rfl) (fun _ _ _ h => h) hk rfl (fun w hm => r_fieldAddr hk fo_62_0 rfl) hm fun a hk => ?_
    refine d_take (i := 4) rfl rfl rfl (by kernel_rfl) (fun _ _ _ h => h) hk rfl (fun w hm => r_load1 hk ts_59 rfl (hm.cell_blk (i := 0) rfl rfl)) hm fun a hk => ?_
    refine d_one (k := 5) (by kernel_rfl) rfl rfl ?_
    refine o_fieldAddr hk fo_62_1 rfl rfl fun a hk => ?_
    refine c_endQ (c_then ⟨fun _ => hm, ?_⟩)
    refine d_one (k := 6) (by kernel_rfl) rfl rfl ?_
    refine o_load hk ts_22 rfl (hm.cell_blk (i := 0) rfl rfl) rfl fun a hk => ?_
    refine c_endQ (c_then ⟨fun _ => hm, ?_⟩)
    refine d_one (k := 7) (by kernel_rfl) rfl rfl ?_
    refine o_call hk cb_134 (tagsSet_c (key := (t.u.getD k (0, [])).1) (hm.blkAt (i := 9) rfl) rfl (hm.mapOr (i := 3) rfl)) ⟨rfl, rfl, rfl, trivial⟩ rfl fun v w a hR hk => ?_
    obtain ⟨hp, rr, hb1, hM1, hr1⟩ := hR
    have hm := hm.setTags (i := 9) (j := 3) rfl rfl hp hb1 hM1 hr1
    rw [setV_rising hrs hlt] at hm
    have hm := hm.elsPush (i := 2) (d := ddTagV (t.u.getD k (0, []))) rfl (rep_Tag2 (hm.rep (i := 1) rfl)) rfl
    rw [← take_succ_map ddTagV t.u k (0, []) hlt] at hm
    refine c_endQ (c_then ⟨fun h => Bool.noConfusion (show true = false from h), ?_⟩)
    refine d_done (by kernel_rfl) ?_ _
    refine c_inNormal ?_
    exact c_round (L' := [(0, .pointer (some ⟨g, 0, none⟩)), (34, .slice pu t.u.length capu)]) hk ⟨rfl, rfl, rfl, rfl, trivial⟩ rfl ⟨_, _, rfl, hm.tail.tail⟩
  · obtain ⟨pm, vs, rfl, hm⟩ := hR
    rw [List.take_length] at hm
    have hm := hm.freezeMap (i := 1) rfl (hm.mapNe (i := 1) (j := 7) rfl rfl) (hm.els (i := 0) rfl)
    refine b_endNone rfl hk ?_
    have hz := hm.all _ (entAt_mem (i := 7) rfl)
    simp only [Ent.holds] at hz
    refine ⟨hm.agr, _, hz, ?_⟩
    refine hm.out ?_
    rw [dd_AllocateProducerIDsResponse]
    refine rep_agg ?_
    exact RepL.cons1 (rep_v _) (RepL.cons1 (rep_v _) (RepL.cons1 (rep_v _) (RepL.cons1 (rep_v _) (RepL.cons1 (hm.rep (i := 1) rfl) (RepL.nil)))))
end Go.Proofs.Ytojbmnelohjhmaa
