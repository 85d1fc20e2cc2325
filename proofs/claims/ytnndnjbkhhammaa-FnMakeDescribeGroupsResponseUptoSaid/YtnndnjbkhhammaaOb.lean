/- Walks of functions that the laws of this seat reach. No statement of the seat stands here. -/
import Derived.Test.YtnndnjbkhhammaaL3
import Derived.Test.YtnndnjbkhhammaaRows
import Derived.Test.YtnndnjbkhhammaaFa
namespace Go.Proofs.Ytnndnjbkhhammaa
open Go Go.Mk
theorem at_impl {w0 : World} {Y : Nat → Prop} {t : T} {c : List Value} (i : Nat) (hT : Rep w0 Y (ddT t) c) :
    Ret Try.prog 38 [.agg c.toArray, .int .i64 (i : Int)] w0 fun v w' => Agr Nob w0 w' ∧ ∃ c', v = .agg c'.toArray ∧ Rep w' (fun b => b < w0.heap.size ∧ Y b) (ddT (t.at_ i)) c' := by
  obtain ⟨cs, cl, cu, rfl, h1, h2, h3⟩ := rep_T hT
  obtain ⟨p, cap, rfl⟩ := rep_sl_len h2
  rw [List.length_map] at h2 hT ⊢
  refine c_call Try.func38 rfl rfl fun a hk => ?_
  have hk : Kn 16 [(0, .agg #[.int .i64 t.n, cs, .bool t.z, .slice p t.l.length cap, cu]), (1, .int .i64 (i : Int))] a := hk
  have hm : Mem w0 Nob Y [.rep (.sl false 5 (t.l.map ddT)) [.slice p t.l.length cap]] w0 := Mem.start rfl (by simp only [List.forall_mem_cons, List.not_mem_nil, false_imp_iff, implies_true, and_true]; exact h2)
  refine c_region ?_
  refine o_box hk hm rfl rfl rfl fun a b1 w hk hm => ?_
  refine o_alloc hk hm tz_39 rfl rfl fun a b2 w hk hm => ?_
  refine c_end ?_
  refine wp_seq ?_
  refine c_region ?_
  refine o_move hk rfl rfl fun a hk => ?_
  refine o_fieldAddr hk fo_39_3 rfl rfl fun a hk => ?_
  refine o_load hk ts_36 rfl (hm.cell_blk (i := 1) rfl rfl) rfl fun a hk => ?_
  refine o_lenSlice hk te_36 rfl rfl fun a hk => ?_
  refine o_icmp hk rfl rfl rfl rfl fun a hk => ?_
  refine c_end ?_
  refine c_cond hk rfl (fun hc => ?_) (fun hc => ?_)
  · have hi : i < t.l.length := by simpa using hc
    obtain ⟨_, b, off, cs5, rfl, hl, hR, hC⟩ := rep_sl_get (hm.rep (i := 2) rfl) (getD_map ddT t.l i T.nil hi)
    obtain ⟨cs', cl', cu', rfl, -⟩ := rep_T hR
    have hm := hm.add (e := .rep (ddT (t.l.getD i T.nil)) [.int .i64 ((t.l.getD i T.nil).n), cs', .bool ((t.l.getD i T.nil).z), cl', cu']) rfl hR
    refine c_region ?_
    refine o_fieldAddr hk fo_39_3 rfl rfl fun a hk => ?_
    refine o_load hk ts_36 rfl (hm.cell_blk (i := 2) rfl rfl) rfl fun a hk => ?_
    refine o_move hk rfl rfl fun a hk => ?_
    refine o_indexAddr (j := i) hk te_36 ts_39 rfl rfl hi rfl fun a hk => ?_
    refine o_loadN (cs := [.int .i64 ((t.l.getD i T.nil).n), cs', .bool ((t.l.getD i T.nil).z), cl', cu']) hk ts_39 rfl (hC.at_) rfl fun a hk => ?_
    refine o_store (i := 1) hk hm ts_39 rfl rfl rfl rfl (rep_T_one hR) rfl (Nat.le_of_ble_eq_true rfl) fun a w hk hm => ?_
    refine c_end ?_
    refine wp_ret ?_
    refine c_thenRet ?_
    refine b_retCell (i := 1) (cs := [.int .i64 ((t.l.getD i T.nil).n), cs', .bool ((t.l.getD i T.nil).z), cl', cu']) rfl ts_39 hk hm rfl rfl ?_
    refine ⟨hm.agr, _, rfl, ?_⟩
    have e : t.at_ i = t.l.getD i T.nil := rfl
    rw [e]
    exact Mem.yof (hm.rep (i := 0) rfl)
  · have hi : t.l.length ≤ i := by simpa using hc
    refine wp_skip ?_
    refine c_then ?_
    refine c_region ?_
    refine o_build (r := [.int .i64 0, .slice none 0 0, .bool false, .slice none 0 0, .slice none 0 0]) hk tz_39 rfl fok_39 rfl rfl fun a hk => ?_
    refine o_store (i := 0) hk hm ts_39 rfl rfl rfl rfl rfl rfl (Nat.le_of_ble_eq_true rfl) fun a w hk hm => ?_
    refine c_end ?_
    refine wp_ret ?_
    refine b_retCell (i := 0) (cs := [.int .i64 0, .slice none 0 0, .bool false, .slice none 0 0, .slice none 0 0]) rfl ts_39 hk hm rfl rfl ?_
    refine ⟨hm.agr, _, rfl, ?_⟩
    have e : t.at_ i = T.nil := by simp [T.at_, hi]
    rw [e]
    exact rep_T_nil
theorem tagsSet_c {w0 : World} {g off e key : Nat} {cs : List Value} {p : Option Nat} {ks : List Nat} {vs : List Value} {x : Value} (hb : w0.heap[g]? = some (.cells cs.toArray e (0, 0))) (hc : cs[off]? = some (.map p)) (hM : MapOr w0 p ks vs) :
    Ret Try.prog 43 [.pointer (some ⟨g, off, none⟩), .int .u32 (key : Int), x] w0 fun _ w' => Agr (fun k => k = g ∨ p = some k) w0 w' ∧ ∃ r, w'.heap[g]? = some (.cells (spl cs off [.map (some r)]).toArray e (0, 0)) ∧
      MapAt w' r (setV ks vs key x).1 (setV ks vs key x).2 ∧ (p = some r ∨ (p = none ∧ w0.heap.size ≤ r)) := by
  have hol : off < cs.length := by
    have := (List.getElem?_eq_some_iff.1 hc).1
    exact this
  have hm := Mem.startTags hb hM
  refine c_call Try.func43 rfl rfl fun a hk => ?_
  have hk : Kn 21 [(0, .pointer (some ⟨g, off, none⟩)), (1, .int .u32 (key : Int)), (2, x)] a := hk
  refine wp_seq ?_
  refine c_region ?_
  refine o_move hk rfl rfl fun a hk => ?_
  refine o_nilCheck hk rfl rfl fun a hk => ?_
  refine o_fieldAddr hk fo_59_0 rfl rfl fun a hk => ?_
  refine o_load hk ts_57 rfl (hm.cell_blk (i := 0) rfl hc) rfl fun a hk => ?_
  refine o_mapNil hk im_57 rfl rfl fun a hk => ?_
  refine c_end ?_
  cases p with
  | none =>
    obtain ⟨rfl, rfl⟩ := hM
    refine c_condT hk rfl ?_
    refine c_reg ?_
    refine o_move hk rfl rfl fun a hk => ?_
    refine o_makeMap hk rfl fun a b w1 hbs hp hM1 hk => ?_
    have hm := hm.mapNew (i := 1) rfl hp hbs hM1
    refine o_nilCheck hk rfl rfl fun a hk => ?_
    refine o_fieldAddr hk fo_59_0 rfl rfl fun a hk => ?_
    refine o_store (i := 0) hk hm ts_57 rfl rfl rfl rfl rfl rfl hol fun a w hk hm => ?_
    refine c_endQ ?_
    refine c_then ?_
    refine c_reg ?_
    refine o_move hk rfl rfl fun a hk => ?_
    refine o_nilCheck hk rfl rfl fun a hk => ?_
    refine o_fieldAddr hk fo_59_0 rfl rfl fun a hk => ?_
    refine o_load hk ts_57 rfl (hm.cell_blk (i := 0) rfl (spl_get1 hol)) rfl fun a hk => ?_
    refine o_move hk rfl rfl fun a hk => ?_
    refine o_move hk rfl rfl fun a hk => ?_
    refine o_mapUpdate hk mt_57 rfl rfl rfl (hm.mapOr (i := 1) rfl) fun a w2 hp2 hM2 hk => ?_
    have hm := hm.setEnt (i := 1) (e' := .mapb (some b) _ _) rfl rfl rfl hp2 hM2
    refine c_endQ ?_
    refine b_endNone rfl hk ?_
    exact ⟨hm.agr, b, hm.blkAt (i := 0) rfl, hm.mapOr (i := 1) rfl, .inr ⟨rfl, by omega⟩⟩
  | some r =>
    refine c_condF hk rfl ?_
    refine wp_skip ?_
    refine c_then ?_
    refine c_reg ?_
    refine o_move hk rfl rfl fun a hk => ?_
    refine o_nilCheck hk rfl rfl fun a hk => ?_
    refine o_fieldAddr hk fo_59_0 rfl rfl fun a hk => ?_
    refine o_load hk ts_57 rfl (hm.cell_blk (i := 0) rfl hc) rfl fun a hk => ?_
    refine o_move hk rfl rfl fun a hk => ?_
    refine o_move hk rfl rfl fun a hk => ?_
    refine o_mapUpdate hk mt_57 rfl rfl rfl (hm.mapOr (i := 1) rfl) fun a w2 hp2 hM2 hk => ?_
    have hm := hm.setEnt (i := 1) (e' := .mapb (some r) _ _) rfl rfl rfl hp2 hM2
    refine c_endQ ?_
    refine b_endNone rfl hk ?_
    exact ⟨hm.agr, r, by rw [spl_same hc]; exact hm.blkAt (i := 0) rfl, hm.mapOr (i := 1) rfl, .inl rfl⟩
theorem textOf_c {w0 : World} {Y : Nat → Prop} {t : T} {c : List Value} (hT : Rep w0 Y (ddT t) c) : Ret Try.prog 42 [.agg c.toArray] w0 fun v w' => Agr Nob w0 w' ∧ Rep w' (fun b => b < w0.heap.size ∧ Y b) (ddVal 8 0 (fun _ => .agg []) t) [v] ∧ v.oneCell' = true := by
  have e : ddVal 8 0 (fun _ => DD.agg []) t = if t.z then .v (.pointer none) else .ptr (.v (.string (bs t.s))) := rfl
  rw [e]
  obtain ⟨cs, p, cap, cu, rfl⟩ := rep_T5 hT
  refine c_call Try.func42 rfl rfl fun a hk => ?_
  have hk : Kn 9 [(0, .agg #[.int .i64 t.n, cs, .bool t.z, .slice p t.l.length cap, cu])] a := hk
  have hm : Mem w0 Nob Y [.rep (ddT t) [.int .i64 t.n, cs, .bool t.z, .slice p t.l.length cap, cu]] w0 := Mem.start rfl (by simp only [List.forall_mem_cons, List.not_mem_nil, false_imp_iff, implies_true, and_true]; exact hT)
  refine c_region ?_
  refine o_box hk hm rfl rfl rfl fun a b1 w hk hm => ?_
  refine o_assign hk rfl rfl fun a hk => ?_
  refine c_end ?_
  refine wp_seq ?_
  refine c_region ?_
  refine o_fieldAddr hk fo_39_2 rfl rfl fun a hk => ?_
  refine o_load hk ts_4 rfl (hm.cell_blk (i := 0) rfl rfl) rfl fun a hk => ?_
  refine c_end ?_
  refine c_cond hk rfl (fun hc => ?_) (fun hc => ?_)
  · refine c_region ?_
    refine o_assign hk rfl rfl fun a hk => ?_
    refine c_end ?_
    refine wp_ret ?_
    refine c_thenRet ?_
    refine b_retTmp rfl hk rfl ?_
    have hz : t.z = true := hc
    rw [if_pos hz]
    exact ⟨hm.agr, rep_v _, rfl⟩
  · refine wp_skip ?_
    refine c_then ?_
    refine c_region ?_
    refine o_fieldAddr hk fo_39_1 rfl rfl fun a hk => ?_
    refine o_load hk ts_22 rfl (hm.cell_blk (i := 0) rfl rfl) rfl fun a hk => ?_
    refine o_bytesToStr hk iy_22 is_9 rfl (rep_T_s (hm.rep (i := 1) rfl)) rfl fun a hk => ?_
    refine o_alloc hk hm tz_9 rfl rfl fun a b2 w hk hm => ?_
    refine o_store (i := 0) hk hm ts_9 rfl rfl rfl rfl rfl rfl (Nat.le_of_ble_eq_true rfl) fun a w hk hm => ?_
    refine c_end ?_
    refine c_region ?_
    refine o_assign hk rfl rfl fun a hk => ?_
    refine c_end ?_
    refine wp_ret ?_
    refine b_retTmp rfl hk rfl ?_
    have hz : ¬ t.z = true := by rw [hc]; exact Bool.false_ne_true
    rw [if_neg hz]
    have hm := hm.freezeBlk (i := 0) rfl id
    exact ⟨hm.agr, hm.out (rep_str (hm.all _ (entAt_mem (i := 0) rfl))), rfl⟩
theorem octetsOf_c {w0 : World} {Y : Nat → Prop} {t : T} {c : List Value} (hT : Rep w0 Y (ddT t) c) (hs : t.s.length ≤ 32767) : Ret Try.prog 84 [.agg c.toArray] w0 fun v w' => Agr Nob w0 w' ∧ Rep w' (fun b => b < w0.heap.size ∧ Y b) (ddVal 9 (-1) (fun _ => .agg []) t) [v] ∧ v.oneCell' = true := by
  have e : ddVal 9 (-1) (fun _ => DD.agg []) t = if t.z then .v (.slice none 0 0) else .sl true 1 (t.s.map ddB) := rfl
  rw [e]
  obtain ⟨cs0, p, cap, cu, rfl⟩ := rep_T5 hT
  obtain ⟨ps, caps, rfl⟩ := rep_sl_len (rep_T_s hT)
  rw [List.length_map] at hT ⊢
  refine c_call Try.func84 rfl rfl fun a hk => ?_
  have hk : Kn 9 [(0, .agg #[.int .i64 t.n, .slice ps t.s.length caps, .bool t.z, .slice p t.l.length cap, cu])] a := hk
  have hm : Mem w0 Nob Y [.rep (ddT t) [.int .i64 t.n, .slice ps t.s.length caps, .bool t.z, .slice p t.l.length cap, cu]] w0 := Mem.start rfl (by simp only [List.forall_mem_cons, List.not_mem_nil, false_imp_iff, implies_true, and_true]; exact hT)
  refine c_region ?_
  refine o_box hk hm rfl rfl rfl fun a b1 w hk hm => ?_
  refine o_assign hk rfl rfl fun a hk => ?_
  refine c_end ?_
  refine wp_seq ?_
  refine c_region ?_
  refine o_fieldAddr hk fo_39_2 rfl rfl fun a hk => ?_
  refine o_load hk ts_4 rfl (hm.cell_blk (i := 0) rfl rfl) rfl fun a hk => ?_
  refine c_end ?_
  refine c_cond hk rfl (fun hc => ?_) (fun hc => ?_)
  · refine c_region ?_
    refine o_assign hk rfl rfl fun a hk => ?_
    refine c_end ?_
    refine wp_ret ?_
    refine c_thenRet ?_
    refine b_retTmp rfl hk rfl ?_
    have hz : t.z = true := hc
    rw [if_pos hz]
    exact ⟨hm.agr, rep_v _, rfl⟩
  · refine wp_skip ?_
    refine c_then ?_
    refine c_region ?_
    refine o_buildEmpty hk hm te_22 ts_5 rfl fun a b2 w hk hm => ?_
    have hm := hm.blkRow (i := 0) (n := 0) (sz := 1) rfl rfl (by decide)
    refine o_fieldAddr hk fo_39_1 rfl rfl fun a hk => ?_
    refine o_load hk ts_22 rfl (hm.cell_blk (i := 1) rfl rfl) rfl fun a hk => ?_
    refine o_append (i := 0) hk hm rt_22 rfl rfl rfl (src_bs te_22 (rep_T_s (hm.rep (i := 2) rfl))) (by unfold maxLen; omega) (by omega) rfl fun a v3 w hk hm hnilv3 => ?_
    refine o_assign hk rfl rfl fun a hk => ?_
    refine c_end ?_
    refine wp_ret ?_
    refine b_retTmp rfl hk rfl ?_
    have hz : ¬ t.z = true := by rw [hc]; exact Bool.false_ne_true
    rw [if_neg hz]
    have hone : (v3).oneCell' = true := row_one (hm.row (i := 0) rfl)
    have hm := hm.freezeRow (i := 0) (st := true) (l := t.s.map ddB) rfl (noX v3) (by simpa using repE_bv t.s) (by simp) (fun e => nomatch (hnilv3.1 e).1)
    exact ⟨hm.agr, hm.out (hm.rep (i := 0) rfl), hone⟩
theorem sixteen_c {w0 : World} {Y : Nat → Prop} {s : List UInt8} {c : Value} (h : Rep w0 Y (ddBs s) [c]) : Ret Try.prog 39 [c] w0 fun v w' => Agr Nob w0 w' ∧ v = .agg #[.int .u8 (((sixteen s).getD 0 0).toNat : Int), .int .u8 (((sixteen s).getD 1 0).toNat : Int), .int .u8 (((sixteen s).getD 2 0).toNat : Int), .int .u8 (((sixteen s).getD 3 0).toNat : Int), .int .u8 (((sixteen s).getD 4 0).toNat : Int), .int .u8 (((sixteen s).getD 5 0).toNat : Int), .int .u8 (((sixteen s).getD 6 0).toNat : Int), .int .u8 (((sixteen s).getD 7 0).toNat : Int), .int .u8 (((sixteen s).getD 8 0).toNat : Int), .int .u8 (((sixteen s).getD 9 0).toNat : Int), .int .u8 (((sixteen s).getD 10 0).toNat : Int), .int .u8 (((sixteen s).getD 11 0).toNat : Int), .int .u8 (((sixteen s).getD 12 0).toNat : Int), .int .u8 (((sixteen s).getD 13 0).toNat : Int), .int .u8 (((sixteen s).getD 14 0).toNat : Int), .int .u8 (((sixteen s).getD 15 0).toNat : Int)] := by
  obtain ⟨ps, caps, rfl⟩ := rep_sl_len h
  rw [List.length_map] at h ⊢
  refine c_call Try.func39 rfl rfl fun a hk => ?_
  have hk : Kn 7 [(0, .slice ps s.length caps)] a := hk
  have hm : Mem w0 Nob Y [.rep (ddBs s) [.slice ps s.length caps]] w0 := Mem.start rfl (by simp only [List.forall_mem_cons, List.not_mem_nil, false_imp_iff, implies_true, and_true]; exact h)
  refine c_region ?_
  refine o_alloc hk hm tz_52 rfl rfl fun a b1 w hk hm => ?_
  refine c_end ?_
  refine c_region ?_
  refine o_sliceArr hk at_52 ts_5 rfl rfl fun a hk => ?_
  refine o_move hk rfl rfl fun a hk => ?_
  refine o_copyB (i := 0) hk hm te_22 cz_5 rfl rfl rfl rfl (hm.rep (i := 1) rfl) rfl fun a w hk hm => ?_
  have e16 : (bv s).take 16 ++ List.drop s.length [Value.int .u8 0, Value.int .u8 0, Value.int .u8 0, Value.int .u8 0, Value.int .u8 0, Value.int .u8 0, Value.int .u8 0, Value.int .u8 0, Value.int .u8 0, Value.int .u8 0, Value.int .u8 0, Value.int .u8 0, Value.int .u8 0, Value.int .u8 0, Value.int .u8 0, Value.int .u8 0] = [.int .u8 (((sixteen s).getD 0 0).toNat : Int), .int .u8 (((sixteen s).getD 1 0).toNat : Int), .int .u8 (((sixteen s).getD 2 0).toNat : Int), .int .u8 (((sixteen s).getD 3 0).toNat : Int), .int .u8 (((sixteen s).getD 4 0).toNat : Int), .int .u8 (((sixteen s).getD 5 0).toNat : Int), .int .u8 (((sixteen s).getD 6 0).toNat : Int), .int .u8 (((sixteen s).getD 7 0).toNat : Int), .int .u8 (((sixteen s).getD 8 0).toNat : Int), .int .u8 (((sixteen s).getD 9 0).toNat : Int), .int .u8 (((sixteen s).getD 10 0).toNat : Int), .int .u8 (((sixteen s).getD 11 0).toNat : Int), .int .u8 (((sixteen s).getD 12 0).toNat : Int), .int .u8 (((sixteen s).getD 13 0).toNat : Int), .int .u8 (((sixteen s).getD 14 0).toNat : Int), .int .u8 (((sixteen s).getD 15 0).toNat : Int)] := by have e0 := sixteen_cells s; rw [bv_sixteen] at e0; exact e0
  have hm : Mem w0 Nob Y [.blk b1 ((bv s).take 16 ++ List.drop s.length [Value.int .u8 0, Value.int .u8 0, Value.int .u8 0, Value.int .u8 0, Value.int .u8 0, Value.int .u8 0, Value.int .u8 0, Value.int .u8 0, Value.int .u8 0, Value.int .u8 0, Value.int .u8 0, Value.int .u8 0, Value.int .u8 0, Value.int .u8 0, Value.int .u8 0, Value.int .u8 0]) 52, .rep (ddBs s) [.slice ps s.length caps]] w := hm
  rw [e16] at hm
  refine c_end ?_
  refine c_region ?_
  refine o_loadN (cs := [.int .u8 (((sixteen s).getD 0 0).toNat : Int), .int .u8 (((sixteen s).getD 1 0).toNat : Int), .int .u8 (((sixteen s).getD 2 0).toNat : Int), .int .u8 (((sixteen s).getD 3 0).toNat : Int), .int .u8 (((sixteen s).getD 4 0).toNat : Int), .int .u8 (((sixteen s).getD 5 0).toNat : Int), .int .u8 (((sixteen s).getD 6 0).toNat : Int), .int .u8 (((sixteen s).getD 7 0).toNat : Int), .int .u8 (((sixteen s).getD 8 0).toNat : Int), .int .u8 (((sixteen s).getD 9 0).toNat : Int), .int .u8 (((sixteen s).getD 10 0).toNat : Int), .int .u8 (((sixteen s).getD 11 0).toNat : Int), .int .u8 (((sixteen s).getD 12 0).toNat : Int), .int .u8 (((sixteen s).getD 13 0).toNat : Int), .int .u8 (((sixteen s).getD 14 0).toNat : Int), .int .u8 (((sixteen s).getD 15 0).toNat : Int)]) hk ts_52 rfl (hm.cells_blk (i := 0) rfl rfl) rfl fun a hk => ?_
  refine o_store (i := 0) hk hm ts_52 rfl rfl rfl rfl rfl rfl (Nat.le_of_ble_eq_true rfl) fun a w hk hm => ?_
  refine c_end ?_
  refine wp_ret ?_
  refine b_retCell (i := 0) (cs := [.int .u8 (((sixteen s).getD 0 0).toNat : Int), .int .u8 (((sixteen s).getD 1 0).toNat : Int), .int .u8 (((sixteen s).getD 2 0).toNat : Int), .int .u8 (((sixteen s).getD 3 0).toNat : Int), .int .u8 (((sixteen s).getD 4 0).toNat : Int), .int .u8 (((sixteen s).getD 5 0).toNat : Int), .int .u8 (((sixteen s).getD 6 0).toNat : Int), .int .u8 (((sixteen s).getD 7 0).toNat : Int), .int .u8 (((sixteen s).getD 8 0).toNat : Int), .int .u8 (((sixteen s).getD 9 0).toNat : Int), .int .u8 (((sixteen s).getD 10 0).toNat : Int), .int .u8 (((sixteen s).getD 11 0).toNat : Int), .int .u8 (((sixteen s).getD 12 0).toNat : Int), .int .u8 (((sixteen s).getD 13 0).toNat : Int), .int .u8 (((sixteen s).getD 14 0).toNat : Int), .int .u8 (((sixteen s).getD 15 0).toNat : Int)]) rfl ts_52 hk hm rfl rfl ?_
  exact ⟨hm.agr, rfl⟩
end Go.Proofs.Ytnndnjbkhhammaa
