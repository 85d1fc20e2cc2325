/- Walks of functions that the laws of this seat reach. No statement of the seat stands here. -/
import Derived.Test.YtbljeefficdemaaMkOpen
import Derived.Test.YtbljeefficdemaaRows
import Derived.Test.YtbljeefficdemaaFa
import Derived.Test.YtbljeefficdemaaSf
namespace Go.Proofs.Ytbljeefficdemaa
open Go Go.Mk
theorem part_plain {fs : List Fld} (hf : ∀ f ∈ fs, FieldC false f) (hlen : fs.length ≤ 1000) : PartC false fs := by
  intro w0 Y t ct p cap V hF hT hroom
  rw [partP_false] at hroom ⊢
  obtain ⟨pst, capst, pt, capt, put, caput, rfl⟩ := rep_T7 hT
  refine c_call Try.func28 rfl rfl fun a hk => ?_
  have hk : Kn 132 [(0, .slice p fs.length cap), (1, .int .i64 V), (2, .bool false), (3, .agg #[.int .i64 t.n, .slice pst t.s.length capst, .bool t.z, .slice pt t.l.length capt, .slice put t.u.length caput])] a := hk
  have hm : Mem w0 Nob Y [.rep (.sl false 8 (fs.map ddFd)) [.slice p fs.length cap], .rep (ddT t) [.int .i64 t.n, .slice pst t.s.length capst, .bool t.z, .slice pt t.l.length capt, .slice put t.u.length caput]] w0 := Mem.start rfl (by simp only [List.forall_mem_cons, List.not_mem_nil, false_imp_iff, implies_true, and_true]; exact ⟨hF, hT⟩)
  refine c_region ?_
  refine o_box hk hm rfl rfl rfl fun a b1 w hk hm => ?_
  refine o_assign hk rfl rfl fun a hk => ?_
  refine c_end ?_
  refine c_region ?_
  refine o_assign hk rfl rfl fun a hk => ?_
  refine o_assign hk rfl rfl fun a hk => ?_
  refine c_end ?_
  refine c_region ?_
  refine o_assign hk rfl rfl fun a hk => ?_
  refine c_end ?_
  refine wp_seq ?_
  refine c_region ?_
  refine o_move hk rfl rfl fun a hk => ?_
  refine o_lenSlice hk te_29 rfl rfl fun a hk => ?_
  refine o_move hk rfl rfl fun a hk => ?_
  refine c_end ?_
  have hm := hm.addNil 5 1
  have hm := hm.rowEq (i := 0) (n' := ((List.range 0).flatMap (pie fs V false t)).length) (xs' := bv ((List.range 0).flatMap (pie fs V false t))) rfl rfl rfl
  refine c_range (L0 := [(0, .slice p fs.length cap), (1, .int .i64 V), (2, .bool false), (7, .pointer (some ⟨b1, 0, none⟩)), (9, .slice none 0 0), (10, .slice none 0 0), (11, .int .i64 0), (21, .slice p fs.length cap)]) (N := fs.length) (by omega) (fun k L w => ∃ vr, L = [(0, .slice p fs.length cap), (1, .int .i64 V), (2, .bool false), (7, .pointer (some ⟨b1, 0, none⟩)), (9, vr), (10, .slice none 0 0), (11, .int .i64 0), (21, .slice p fs.length cap)] ∧ Mem w0 Nob Y [.row 5 1 vr (((List.range k).flatMap (pie fs V false t)).length) (bv ((List.range k).flatMap (pie fs V false t))), .blk b1 [.int .i64 t.n, .slice pst t.s.length capst, .bool t.z, .slice pt t.l.length capt, .slice put t.u.length caput] 26, .rep (.sl false 8 (fs.map ddFd)) [.slice p fs.length cap], .rep (ddT t) [.int .i64 t.n, .slice pst t.s.length capst, .bool t.z, .slice pt t.l.length capt, .slice put t.u.length caput]] w) (hk.sub ⟨rfl, rfl, rfl, rfl, rfl, rfl, rfl, rfl, rfl, rfl, trivial⟩) ⟨_, rfl, hm.pick [0, 1, 2, 3] rfl rfl⟩ rfl rfl rfl rfl rfl rfl rfl (fun k L a w hlt hR hk => ?_) rfl (fun L a w hR hk => ?_)
  · obtain ⟨vr, rfl, hm⟩ := hR
    have hfl := range_flat_le (pie fs V false t) hlt
    have hsucc := range_flat_succ (pie fs V false t) k
    obtain ⟨hltx, blx, offx, ex, hplx, helx, hRex, hCex⟩ := rep_sl_get (hm.rep (i := 2) rfl) (getD_map ddFd fs k FNIL hlt)
    obtain ⟨pfx, capfx, rfl, -⟩ := rep_Fd hRex
    have hm := hm.add (e := .rep (ddFd (fs.getD k FNIL)) [.int .i64 (((fs.getD k FNIL).kind : Nat) : Int), .int .i64 ((fs.getD k FNIL).fr), .int .i64 ((fs.getD k FNIL).to), .int .i64 ((fs.getD k FNIL).nu), .int .i64 ((fs.getD k FNIL).tag), .int .i64 ((fs.getD k FNIL).df), .int .i64 (((fs.getD k FNIL).of : Nat) : Int), .slice pfx ((fs.getD k FNIL).sub.length) capfx]) rfl hRex
    have hm := hm.add (e := .cel blx (offx + k * 8) [.int .i64 (((fs.getD k FNIL).kind : Nat) : Int), .int .i64 ((fs.getD k FNIL).fr), .int .i64 ((fs.getD k FNIL).to), .int .i64 ((fs.getD k FNIL).nu), .int .i64 ((fs.getD k FNIL).tag), .int .i64 ((fs.getD k FNIL).df), .int .i64 (((fs.getD k FNIL).of : Nat) : Int), .slice pfx ((fs.getD k FNIL).sub.length) capfx]) rfl hCex
    refine c_region ?_
    refine o_move hk rfl rfl fun a hk => ?_
    refine o_indexAddr (j := k) (b := blx) (off := offx) hk te_29 ts_50 (by rw [← hplx]; rfl) rfl hltx rfl fun a hk => ?_
    refine o_loadN (cs := [.int .i64 (((fs.getD k FNIL).kind : Nat) : Int), .int .i64 ((fs.getD k FNIL).fr), .int .i64 ((fs.getD k FNIL).to), .int .i64 ((fs.getD k FNIL).nu), .int .i64 ((fs.getD k FNIL).tag), .int .i64 ((fs.getD k FNIL).df), .int .i64 (((fs.getD k FNIL).of : Nat) : Int), .slice pfx ((fs.getD k FNIL).sub.length) capfx]) hk ts_50 rfl (hm.cells_cel (i := 0) (k := 0) rfl rfl) rfl fun a hk => ?_
    refine o_alloc hk hm tz_50 rfl rfl fun a b2 w hk hm => ?_
    refine o_assign hk rfl rfl fun a hk => ?_
    refine o_store (i := 0) hk hm ts_50 rfl rfl rfl rfl rfl rfl (Nat.le_of_ble_eq_true rfl) fun a w hk hm => ?_
    refine c_end ?_
    refine c_region ?_
    refine o_fieldAddr hk fo_50_4 rfl rfl fun a hk => ?_
    refine o_load hk ts_3 rfl (hm.cell_blk (i := 0) rfl rfl) rfl fun a hk => ?_
    refine o_icmp hk rfl rfl rfl rfl fun a hk => ?_
    refine o_move hk rfl rfl fun a hk => ?_
    rcases Bool.eq_false_or_eq_true (decide (((fs.getD k FNIL).tag : Int) < 0)) with hb3 | hb3
    · rw [hb3] at hk
      refine o_want (o' := _) hk ⟨_, _, _, rfl, rfl, rfl⟩ rfl ?_
      refine o_loadN (cs := [.int .i64 (((fs.getD k FNIL).kind : Nat) : Int), .int .i64 ((fs.getD k FNIL).fr), .int .i64 ((fs.getD k FNIL).to), .int .i64 ((fs.getD k FNIL).nu), .int .i64 ((fs.getD k FNIL).tag), .int .i64 ((fs.getD k FNIL).df), .int .i64 (((fs.getD k FNIL).of : Nat) : Int), .slice pfx ((fs.getD k FNIL).sub.length) capfx]) hk ts_50 rfl (hm.cells_blk (i := 0) rfl rfl) rfl fun a hk => ?_
      refine o_want (o' := _) hk ⟨_, _, _, rfl, rfl, rfl⟩ rfl ?_
      refine o_move hk rfl rfl fun a hk => ?_
      refine o_want (o' := _) hk ⟨_, _, _, rfl, rfl, rfl⟩ rfl ?_
      refine o_call hk cb_46 (has_c V (hm.rep (i := 2) rfl)) ⟨rfl, rfl, trivial⟩ rfl fun v w a hR hk => ?_
      obtain ⟨hp, rfl⟩ := hR
      have hm := hm.pure hp
      refine o_pick hk rfl rfl rfl rfl rfl fun a hk => ?_
      refine c_end ?_
      refine c_cond hk rfl (fun hc => ?_) (fun hc => ?_)
      · refine d_startM (K := 8) mixed hm fun w hm => ?_
        refine d_take (i := 0) rfl rfl rfl (by kernel_rfl) (fun _ _ _ h => h) hk rfl (fun w hm => r_move hk rfl) hm fun a hk => ?_
        refine d_take (i := 1) rfl rfl rfl (by kernel_rfl) (fun _ _ _ h => h) hk rfl (fun w hm => r_loadN (cs := [.int .i64 (((fs.getD k FNIL).kind : Nat) : Int), .int .i64 ((fs.getD k FNIL).fr), .int .i64 ((fs.getD k FNIL).to), .int .i64 ((fs.getD k FNIL).nu), .int .i64 ((fs.getD k FNIL).tag), .int .i64 ((fs.getD k FNIL).df), .int .i64 (((fs.getD k FNIL).of : Nat) : Int), .slice pfx ((fs.getD k FNIL).sub.length) capfx]) hk ts_50 rfl (hm.cells_blk (i := 0) rfl rfl)) hm fun a hk => ?_
        refine d_take (i := 2) rfl rfl rfl (by kernel_rfl) (fun _ _ _ h => h) hk rfl (fun w hm => r_move hk rfl) hm fun a hk => ?_
        refine d_take (i := 3) rfl rfl rfl (by kernel_rfl) (fun _ _ _ h => h) hk rfl (fun w hm => r_move hk rfl) hm fun a hk => ?_
        refine d_take (i := 4) rfl rfl rfl (by kernel_rfl) (fun _ _ _ h => h) hk rfl (fun w hm => r_loadN (cs := [.int .i64 t.n, .slice pst t.s.length capst, .bool t.z, .slice pt t.l.length capt, .slice put t.u.length caput]) hk ts_26 rfl (hm.cells_blk (i := 4) rfl rfl)) hm fun a hk => ?_
        refine d_one (k := 5) (by kernel_rfl) rfl rfl ?_
        refine o_move hk rfl rfl fun a hk => ?_
        refine c_endQ (c_then ⟨fun _ => hm, ?_⟩)
        refine d_one (k := 6) (by kernel_rfl) rfl rfl ?_
        refine o_call hk cb_25 (at_spec (t := t) k (hm.rep (i := 6) rfl)) ⟨rfl, rfl, trivial⟩ rfl fun v w a hR hk => ?_
        obtain ⟨hp, ca1, rfl, hR⟩ := hR
        obtain ⟨psa1, capsa1, pa1, capa1, pua1, capua1, rfl⟩ := rep_T7 hR
        have hm := hm.result hp hR
        refine c_endQ (c_then ⟨fun _ => hm.tail, ?_⟩)
        refine d_one (k := 7) (by kernel_rfl) rfl rfl ?_
        have hpc : pie fs V false t k = fieldP (fs.getD k FNIL) V false (t.at_ k) := pie_has (by simpa using hb3) hc
        rw [hpc] at hfl hsucc
        refine o_call hk cb_47 (hf (fs.getD k FNIL) (getD_mem hlt) V (hm.rep (i := 3) rfl) (hm.rep (i := 0) rfl) (by omega)) ⟨rfl, rfl, rfl, rfl, trivial⟩ rfl fun v4 w a hR hk => ?_
        have hm := hm.rowNew hR
        refine c_endQ (c_then ⟨fun _ => hm.tail.tail, ?_⟩)
        refine d_one (k := 8) (by kernel_rfl) rfl rfl ?_
        refine o_append (i := 5) hk hm rt_22 rfl rfl rfl (src_row te_22 (hm.row (i := 0) rfl) (bv_one _)) (room_len (by omega)) (room_by (by omega)) rfl fun a v5 w hk hm _ => ?_
        have hm := hm.rowEq (i := 5) (n' := ((List.range k).flatMap (pie fs V false t) ++ (fieldP (fs.getD k FNIL) V false (t.at_ k))).length) (xs' := bv ((List.range k).flatMap (pie fs V false t) ++ (fieldP (fs.getD k FNIL) V false (t.at_ k)))) rfl List.length_append.symm (bv_append _ _).symm
        refine c_endQ (c_then ⟨fun h => Bool.noConfusion (show true = false from h), ?_⟩)
        refine d_one (k := 9) (by kernel_rfl) rfl rfl ?_
        refine o_assign hk rfl rfl fun a hk => ?_
        refine c_endQ (c_then ⟨fun h => Bool.noConfusion (show true = false from h), ?_⟩)
        refine d_done (by kernel_rfl) ?_ _
        refine c_inNormal ?_
        have hm := hm.rowEq (i := 5) (n' := ((List.range (k + 1)).flatMap (pie fs V false t)).length) (xs' := bv ((List.range (k + 1)).flatMap (pie fs V false t))) rfl (by rw [hsucc]) (by rw [hsucc])
        exact c_round (L' := [(0, .slice p fs.length cap), (1, .int .i64 V), (2, .bool false), (7, .pointer (some ⟨b1, 0, none⟩)), (9, v5), (10, .slice none 0 0), (11, .int .i64 0), (21, .slice p fs.length cap)]) hk ⟨rfl, rfl, rfl, rfl, rfl, rfl, rfl, rfl, rfl, rfl, trivial⟩ rfl ⟨_, rfl, hm.pick [5, 6, 7, 8] rfl rfl⟩
      · refine wp_skip ?_
        refine c_inNormal ?_
        have hpc : pie fs V false t k = [] := pie_not (fun h => by rw [h.2] at hc; cases hc)
        have hm := hm.rowEq (i := 3) (n' := ((List.range (k + 1)).flatMap (pie fs V false t)).length) (xs' := bv ((List.range (k + 1)).flatMap (pie fs V false t))) rfl (by rw [hsucc, hpc, List.append_nil]) (by rw [hsucc, hpc, List.append_nil])
        exact c_round (L' := [(0, .slice p fs.length cap), (1, .int .i64 V), (2, .bool false), (7, .pointer (some ⟨b1, 0, none⟩)), (9, vr), (10, .slice none 0 0), (11, .int .i64 0), (21, .slice p fs.length cap)]) hk ⟨rfl, rfl, rfl, rfl, rfl, rfl, rfl, rfl, rfl, rfl, trivial⟩ rfl ⟨_, rfl, hm.pick [3, 4, 5, 6] rfl rfl⟩
    · rw [hb3] at hk
      refine o_skipV hk ⟨_, _, _, _, rfl, rfl, rfl, nb_ft⟩ rfl rfl fun a hk => ?_
      refine o_skipV hk ⟨_, _, _, _, rfl, rfl, rfl, nb_ft⟩ rfl rfl fun a hk => ?_
      refine o_skipV hk ⟨_, _, _, _, rfl, rfl, rfl, nb_ft⟩ rfl rfl fun a hk => ?_
      refine o_pick hk rfl rfl rfl rfl rfl fun a hk => ?_
      refine c_end ?_
      refine c_condF hk rfl ?_
      refine wp_skip ?_
      refine c_inNormal ?_
      have hpc : pie fs V false t k = [] := pie_not (fun h => absurd h.1 (of_decide_eq_false hb3))
      have hm := hm.rowEq (i := 3) (n' := ((List.range (k + 1)).flatMap (pie fs V false t)).length) (xs' := bv ((List.range (k + 1)).flatMap (pie fs V false t))) rfl (by rw [hsucc, hpc, List.append_nil]) (by rw [hsucc, hpc, List.append_nil])
      exact c_round (L' := [(0, .slice p fs.length cap), (1, .int .i64 V), (2, .bool false), (7, .pointer (some ⟨b1, 0, none⟩)), (9, vr), (10, .slice none 0 0), (11, .int .i64 0), (21, .slice p fs.length cap)]) hk ⟨rfl, rfl, rfl, rfl, rfl, rfl, rfl, rfl, rfl, rfl, trivial⟩ rfl ⟨_, rfl, hm.pick [3, 4, 5, 6] rfl rfl⟩
  · obtain ⟨vz, rfl, hm⟩ := hR
    refine c_then ?_
    refine wp_seq ?_
    refine c_region ?_
    refine o_move hk rfl rfl fun a hk => ?_
    refine o_not hk rfl rfl fun a hk => ?_
    refine c_end ?_
    refine c_condT hk rfl ?_
    refine c_region ?_
    refine o_move hk rfl rfl fun a hk => ?_
    refine o_assign hk rfl rfl fun a hk => ?_
    refine c_end ?_
    refine wp_ret ?_
    refine c_thenRet ?_
    refine b_retTmp rfl hk rfl ?_
    have hr := hm.rowOut (i := 0) rfl
    exact hr
theorem fieldp_c : ∀ f : Fld, tidyF f = true → FieldC false f := Fld_ind fun f ih h => by
  have ht := tidy_spec h
  have hp : PartC false f.sub := @part_plain f.sub (fun g hg => ih g hg (tidy_mem ht.2.2.2.2 g hg)) ht.2.2.2.1
  have hv : ∀ kind, ValueC false kind f.sub := fun kind => @value_walk false kind f.sub hp
  exact @field_walk false f hv hp
theorem partp_c {fs : List Fld} (h : tidyFs fs = true) (hl : fs.length ≤ 1000) : PartC false fs := @part_plain fs (fun f hf => fieldp_c f (tidy_mem h f hf)) hl
end Go.Proofs.Ytbljeefficdemaa
