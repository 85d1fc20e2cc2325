/- Walks of functions that the laws of this seat reach. No statement of the seat stands here. -/
import Derived.Test.YtbljeefficdemaaMkOpen
import Derived.Test.YtbljeefficdemaaRows
import Derived.Test.YtbljeefficdemaaFa
namespace Go.Proofs.Ytbljeefficdemaa
open Go Go.Mk
theorem at_impl {w0 : World} {Y : Nat → Prop} {t : T} {c : List Value} (i : Nat) (hT : Rep w0 Y (ddT t) c) :
    Ret Try.prog 37 [.agg c.toArray, .int .i64 (i : Int)] w0 fun v w' => Agr Nob w0 w' ∧ ∃ c', v = .agg c'.toArray ∧ Rep w' (fun b => b < w0.heap.size ∧ Y b) (ddT (t.at_ i)) c' := by
  obtain ⟨cs, cl, cu, rfl, h1, h2, h3⟩ := rep_T hT
  obtain ⟨p, cap, rfl⟩ := rep_sl_len h2
  rw [List.length_map] at h2 hT ⊢
  refine c_call Try.func37 rfl rfl fun a hk => ?_
  have hk : Kn 16 [(0, .agg #[.int .i64 t.n, cs, .bool t.z, .slice p t.l.length cap, cu]), (1, .int .i64 (i : Int))] a := hk
  have hm : Mem w0 Nob Y [.rep (.sl false 5 (t.l.map ddT)) [.slice p t.l.length cap]] w0 := Mem.start rfl (by simp only [List.forall_mem_cons, List.not_mem_nil, false_imp_iff, implies_true, and_true]; exact h2)
  refine c_region ?_
  refine o_box hk hm rfl rfl rfl fun a b1 w hk hm => ?_
  refine o_alloc hk hm tz_39 rfl rfl fun a b2 w hk hm => ?_
  refine c_end ?_
  refine wp_seq ?_
  refine c_region ?_
  refine o_move hk rfl rfl fun a hk => ?_
  refine o_fieldAddr hk fo_39_3 rfl rfl fun a hk => ?_
  refine o_load hk ts_36 rfl (hm.cell_blk (i := 1) rfl rfl) rfl fun a hk => ?_
  refine o_lenSlice hk te_36 rfl rfl fun a hk => ?_
  refine o_icmp hk rfl rfl rfl rfl fun a hk => ?_
  refine c_end ?_
  refine c_cond hk rfl (fun hc => ?_) (fun hc => ?_)
  · have hi : i < t.l.length := by simpa using hc
    obtain ⟨_, b, off, cs5, rfl, hl, hR, hC⟩ := rep_sl_get (hm.rep (i := 2) rfl) (getD_map ddT t.l i T.nil hi)
    obtain ⟨cs', cl', cu', rfl, -⟩ := rep_T hR
    have hm := hm.add (e := .rep (ddT (t.l.getD i T.nil)) [.int .i64 ((t.l.getD i T.nil).n), cs', .bool ((t.l.getD i T.nil).z), cl', cu']) rfl hR
    refine c_region ?_
    refine o_fieldAddr hk fo_39_3 rfl rfl fun a hk => ?_
    refine o_load hk ts_36 rfl (hm.cell_blk (i := 2) rfl rfl) rfl fun a hk => ?_
    refine o_move hk rfl rfl fun a hk => ?_
    refine o_indexAddr (j := i) hk te_36 ts_39 rfl rfl hi rfl fun a hk => ?_
    refine o_loadN (cs := [.int .i64 ((t.l.getD i T.nil).n), cs', .bool ((t.l.getD i T.nil).z), cl', cu']) hk ts_39 rfl (hC.at_) rfl fun a hk => ?_
    refine o_store (i := 1) hk hm ts_39 rfl rfl rfl rfl (rep_T_one hR) rfl (Nat.le_of_ble_eq_true rfl) fun a w hk hm => ?_
    refine c_end ?_
    refine wp_ret ?_
    refine c_thenRet ?_
    refine b_retCell (i := 1) (cs := [.int .i64 ((t.l.getD i T.nil).n), cs', .bool ((t.l.getD i T.nil).z), cl', cu']) rfl ts_39 hk hm rfl rfl ?_
    refine ⟨hm.agr, _, rfl, ?_⟩
    have e : t.at_ i = t.l.getD i T.nil := rfl
    rw [e]
    exact Mem.yof (hm.rep (i := 0) rfl)
  · have hi : t.l.length ≤ i := by simpa using hc
    refine wp_skip ?_
    refine c_then ?_
    refine c_region ?_
    refine o_build (r := [.int .i64 0, .slice none 0 0, .bool false, .slice none 0 0, .slice none 0 0]) hk tz_39 rfl fok_39 rfl rfl fun a hk => ?_
    refine o_store (i := 0) hk hm ts_39 rfl rfl rfl rfl rfl rfl (Nat.le_of_ble_eq_true rfl) fun a w hk hm => ?_
    refine c_end ?_
    refine wp_ret ?_
    refine b_retCell (i := 0) (cs := [.int .i64 0, .slice none 0 0, .bool false, .slice none 0 0, .slice none 0 0]) rfl ts_39 hk hm rfl rfl ?_
    refine ⟨hm.agr, _, rfl, ?_⟩
    have e : t.at_ i = T.nil := by simp [T.at_, hi]
    rw [e]
    exact rep_T_nil
end Go.Proofs.Ytbljeefficdemaa
