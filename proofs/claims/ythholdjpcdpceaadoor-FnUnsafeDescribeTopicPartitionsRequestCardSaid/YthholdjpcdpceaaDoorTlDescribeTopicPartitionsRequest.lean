/- Walks of functions that the laws of this seat reach. No statement of the seat stands here. -/
import Derived.Test.YthholdjpcdpceaaDoorL4
import Derived.Test.YthholdjpcdpceaaDoorRows
import Derived.Test.YthholdjpcdpceaaDoorFa
import Derived.Test.YthholdjpcdpceaaDoorTt
import Derived.Test.YthholdjpcdpceaaDoorTf
import Derived.Test.YthholdjpcdpceaaDoorTg2
import Derived.Test.YthholdjpcdpceaaDoorTh
import Derived.Test.YthholdjpcdpceaaDoorSch
namespace Go.Proofs.YthholdjpcdpceaaDoor
open Go Go.Mk
theorem ddq_sDescribeTopicPartitionsRequestTopic (q : T) : ddS sch_sDescribeTopicPartitionsRequestTopic true q = .agg [.v (.string (bs (q.at_ 0).s)), ddTagMap q.u] := rfl
theorem tells_sDescribeTopicPartitionsRequestTopic (q : T) : telP sch_sDescribeTopicPartitionsRequestTopic q = .mk 0 [] false [ofOct (q.at_ 0).s] (sortU q.u) := congrArg (fun l => T.mk 0 [] false l (sortU q.u)) (cons_eq rfl (rfl))
theorem clo_sDescribeTopicPartitionsRequestTopic : CloOk Tryd.prog 26 62 144 := by
 intro w S k SE tb YE us p lv x h1 h2 h3 h4 h5 h6 h7 h8 h9
 refine c_call Tryd.func144 rfl rfl fun a hk => ?_
 have hk : Kn 14 [(0, .int .u32 (p.1 : Int)), (1, x), (2, .pointer (some ⟨tb, 0, none⟩))] a := hk
 exact tl_clo (s := 5) treeP tagP rfl rfl (by kernel_rfl) (by kernel_rfl) (by decide) (by decide) h1 h2 h3 h4 h5 h6 h7 h8 h9 hk
theorem tell_sDescribeTopicPartitionsRequestTopic : TellOk Tryd.prog 100 sch_sDescribeTopicPartitionsRequestTopic true 0 := by
 intro w0 Y b off cs q hC hR hq
 rw [tells_sDescribeTopicPartitionsRequestTopic]
 refine c_call Tryd.func100 rfl rfl fun a hk => ?_
 have hk : Kn 24 [(0, .pointer (some ⟨b, off, none⟩))] a := hk
 refine tl_start (m := 1) (su := 4) (sv := 5) treeP rowT (by decide) rfl (by decide) (by decide) (by decide) (by decide) (by decide) (by decide) hC hR hk fun a w1 w rb tb bb Y1 hb hC hR hk ht => ?_
 rw [ddq_sDescribeTopicPartitionsRequestTopic] at hR
 have hR := rep_agg_inv hR
 obtain ⟨c0, C0, hC, hR⟩ := cel_unV hC hR
 obtain ⟨xt, ct, Ct, hC, rt, hR⟩ := cel_un1 (one1_mp _ _) hC hR
 refine tl_text (s := 6) (k := 0)  treeP rfl rfl (by kernel_rfl) (by kernel_rfl) (by decide) (by decide) (by decide) fo_127_0 ts_9 is_9 iy_22 (fun _ _ _ _ _ h => h) C0 hk ht fun a w hk ht => ?_
 exact tl_end (s := 15) (fE := 83) (fS := 85) (g := 144) treeP tagP each_cP cb_83 sorted_ok cb_85 clo_sDescribeTopicPartitionsRequestTopic cb_144 rfl rfl (fun h => Bool.noConfusion h) (by decide) (by decide) (by decide) fo_127_1 Ct rt (fine_spec hq).2.2.2.2.1 (fine_spec hq).2.2.1 (fine_spec hq).2.2.2.1 (sortU_perm _) (sortU_rise (fine_spec hq).2.2.2.2.1) hb hk ht
theorem ddq_sDescribeTopicPartitionsRequestCursor (q : T) : ddS sch_sDescribeTopicPartitionsRequestCursor true q = .agg [.v (.string (bs (q.at_ 0).s)), .v (.int .i32 (IntKind.i32.wrap (q.at_ 1).n)), ddTagMap q.u] := rfl
theorem tells_sDescribeTopicPartitionsRequestCursor (q : T) : telP sch_sDescribeTopicPartitionsRequestCursor q = .mk 0 [] false [ofOct (q.at_ 0).s, ofNum (IntKind.i32.wrap (q.at_ 1).n)] (sortU q.u) := congrArg (fun l => T.mk 0 [] false l (sortU q.u)) (cons_eq rfl (cons_eq rfl (rfl)))
theorem clo_sDescribeTopicPartitionsRequestCursor : CloOk Tryd.prog 26 62 163 := by
 intro w S k SE tb YE us p lv x h1 h2 h3 h4 h5 h6 h7 h8 h9
 refine c_call Tryd.func163 rfl rfl fun a hk => ?_
 have hk : Kn 14 [(0, .int .u32 (p.1 : Int)), (1, x), (2, .pointer (some ⟨tb, 0, none⟩))] a := hk
 exact tl_clo (s := 5) treeP tagP rfl rfl (by kernel_rfl) (by kernel_rfl) (by decide) (by decide) h1 h2 h3 h4 h5 h6 h7 h8 h9 hk
theorem tell_sDescribeTopicPartitionsRequestCursor : TellOk Tryd.prog 145 sch_sDescribeTopicPartitionsRequestCursor true 0 := by
 intro w0 Y b off cs q hC hR hq
 rw [tells_sDescribeTopicPartitionsRequestCursor]
 refine c_call Tryd.func145 rfl rfl fun a hk => ?_
 have hk : Kn 33 [(0, .pointer (some ⟨b, off, none⟩))] a := hk
 refine tl_start (m := 2) (su := 4) (sv := 5) treeP rowT (by decide) rfl (by decide) (by decide) (by decide) (by decide) (by decide) (by decide) hC hR hk fun a w1 w rb tb bb Y1 hb hC hR hk ht => ?_
 rw [ddq_sDescribeTopicPartitionsRequestCursor] at hR
 have hR := rep_agg_inv hR
 obtain ⟨c0, C0, hC, hR⟩ := cel_unV hC hR
 obtain ⟨c1, C1, hC, hR⟩ := cel_unV hC hR
 obtain ⟨xt, ct, Ct, hC, rt, hR⟩ := cel_un1 (one1_mp _ _) hC hR
 refine tl_text (s := 6) (k := 0)  treeP rfl rfl (by kernel_rfl) (by kernel_rfl) (by decide) (by decide) (by decide) fo_162_0 ts_9 is_9 iy_22 (fun _ _ _ _ _ h => h) C0 hk ht fun a w hk ht => ?_
 refine tl_num (s := 15) (k := 1)  treeP rfl rfl (by kernel_rfl) (by kernel_rfl) (by decide) (by decide) (by decide) fo_162_1 ts_21 un_21 ti_2 (wrap_in_i64 .i32 (by simp)) (fun _ _ _ _ _ h => h) C1 hk ht fun a w hk ht => ?_
 exact tl_end (s := 24) (fE := 83) (fS := 85) (g := 163) treeP tagP each_cP cb_83 sorted_ok cb_85 clo_sDescribeTopicPartitionsRequestCursor cb_163 rfl rfl (fun h => Bool.noConfusion h) (by decide) (by decide) (by decide) fo_162_2 Ct rt (fine_spec hq).2.2.2.2.1 (fine_spec hq).2.2.1 (fine_spec hq).2.2.2.1 (sortU_perm _) (sortU_rise (fine_spec hq).2.2.2.2.1) hb hk ht
theorem tellPtr_sDescribeTopicPartitionsRequestCursor {w0 : World} {Y : Nat → Prop} {x : Value} {q : T} (hR : Rep w0 Y (if q.z then .v (.pointer none) else .ptr (ddS sch_sDescribeTopicPartitionsRequestCursor true q)) [x]) (hq : q.fine = true) :
  Ret Tryd.prog 101 [x] w0 fun v w' => Agr Nob w0 w' ∧ ∃ c', v = .agg c'.toArray ∧ Rep w' (fun b => b < w0.heap.size ∧ Y b) (ddT (if q.z then ofNil else telP sch_sDescribeTopicPartitionsRequestCursor q)) c' := by
 cases hz : q.z with
 | true =>
  rw [hz] at hR
  obtain rfl : x = .pointer none := rep_v_inv hR
  refine c_call Tryd.func101 rfl rfl fun a hk => ?_
  have hk : Kn 8 [(0, .pointer none)] a := hk
  have hm : Mem w0 Nob Y [] w0 := Mem.start rfl (by simp)
  refine cR0 ?_
  refine o_alloc (cs := zT) hk hm tz_26 rfl rfl fun a rb w hk hm => ?_
  refine cE0 ?_
  refine wp_seq ?_
  refine cR0 ?_
  refine oM0 hk rfl rfl fun a hk => ?_
  refine o_ptrNil hk ip_121 rfl rfl fun a hk => ?_
  refine cE0 ?_
  refine c_condT hk rfl ?_
  refine cR0 ?_
  refine o_build (r := [.int .i64 0, .slice none 0 0, .bool true, .slice none 0 0, .slice none 0 0]) hk tz_26 rfl fok_26 ⟨_, _, _, rfl, rfl, fa_26_2, rfl, rfl⟩ rfl fun a hk => ?_
  refine o_store (i := 0) (b := rb) (off := 0) (v := .agg #[.int .i64 0, .slice none 0 0, .bool true, .slice none 0 0, .slice none 0 0]) (vs := [.int .i64 0, .slice none 0 0, .bool true, .slice none 0 0, .slice none 0 0]) (cs := zT) hk hm ts_26 rfl rfl rfl rfl rfl rfl (Nat.le_refl 5) fun a w hk hm => ?_
  refine cE0 ?_
  refine wp_ret ?_
  refine cQ0 ?_
  refine b_retCell (i := 0) (cs := [.int .i64 0, .slice none 0 0, .bool true, .slice none 0 0, .slice none 0 0]) rfl ts_26 hk hm rfl rfl ⟨hm.agr, _, rfl, ?_⟩
  exact rep_T_mk (t := .mk 0 [] true [] []) (by simp [Rep, ddBs, T.s]) (by simp [Rep, T.l]) (by simp [Rep, ddTags, T.u])
 | false =>
  rw [hz] at hR
  obtain ⟨b, o, cs, hx, hC, hr0⟩ : ∃ b o cs, [x] = [Value.pointer (some ⟨b, o, none⟩)] ∧ Cel w0 Y b o cs ∧ Rep w0 Y (ddS sch_sDescribeTopicPartitionsRequestCursor true q) cs := by
   have hR2 : Rep w0 Y (.ptr (ddS sch_sDescribeTopicPartitionsRequestCursor true q)) [x] := hR
   simpa only [Rep] using hR2
  obtain rfl : x = .pointer (some ⟨b, o, none⟩) := by simpa using hx
  refine c_call Tryd.func101 rfl rfl fun a hk => ?_
  have hk : Kn 8 [(0, .pointer (some ⟨b, o, none⟩))] a := hk
  have hm : Mem w0 Nob Y [.cel b o cs, .rep (ddS sch_sDescribeTopicPartitionsRequestCursor true q) cs] w0 := Mem.start rfl (by simp only [List.forall_mem_cons, List.not_mem_nil, false_imp_iff, implies_true, and_true]; exact ⟨hC, hr0⟩)
  refine cR0 ?_
  refine o_alloc (cs := zT) hk hm tz_26 rfl rfl fun a rb w hk hm => ?_
  refine cE0 ?_
  refine wp_seq ?_
  refine cR0 ?_
  refine oM0 hk rfl rfl fun a hk => ?_
  refine o_ptrNil hk ip_121 rfl rfl fun a hk => ?_
  refine cE0 ?_
  refine c_condF hk rfl ?_
  refine wp_skip ?_
  refine cT0 ?_
  refine cR0 ?_
  refine oM0 hk rfl rfl fun a hk => ?_
  refine o_call hk cb_145 (tell_sDescribeTopicPartitionsRequestCursor (off := o) (hm.all _ (eA0 (i := 1) rfl)) (hm.rep (i := 2) rfl) hq) ⟨rfl, trivial⟩ rfl fun v w a hR hk => ?_
  obtain ⟨hp2, c2, rfl, hR3⟩ := hR
  have hm := hm.result hp2 hR3
  obtain ⟨c1, c3, c4, c5, hc2⟩ := rep_T5 (hm.rep (i := 0) rfl)
  have hcl : c2.length = 5 := by rw [hc2]; rfl
  refine o_store (i := 1) (b := rb) (off := 0) (v := .agg c2.toArray) (vs := c2) (cs := zT) hk hm ts_26 rfl rfl (by simp [cellsOf]) hcl (rep_T_one (hm.rep (i := 0) rfl)) rfl (by rw [hcl]; exact Nat.le_refl 5) fun a w hk hm => ?_
  rw [spl_whole (by rw [hcl]; rfl)] at hm
  refine cE0 ?_
  refine wp_ret ?_
  exact b_retCell (i := 1) (cs := c2) rfl (by rw [hcl]; exact ts_26) hk hm rfl rfl ⟨hm.agr, c2, rfl, hm.out (hm.rep (i := 0) rfl)⟩
theorem ddq_DescribeTopicPartitionsRequest (q : T) : ddS sch_DescribeTopicPartitionsRequest true q = .agg [if (q.at_ 0).z then .v (.slice none 0 0) else .sl true 2 ((q.at_ 0).l.map (ddS sch_sDescribeTopicPartitionsRequestTopic true)), .v (.int .i32 (IntKind.i32.wrap (q.at_ 1).n)), if (q.at_ 2).z then .v (.pointer none) else .ptr (ddS sch_sDescribeTopicPartitionsRequestCursor true (q.at_ 2)), ddTagMap q.u] := rfl
theorem tells_DescribeTopicPartitionsRequest (q : T) : telP sch_DescribeTopicPartitionsRequest q = .mk 0 [] false [.mk 0 [] (q.at_ 0).z ((lzL (q.at_ 0).z (q.at_ 0).l).map (telV 10 (-1) (telP sch_sDescribeTopicPartitionsRequestTopic))) [], ofNum (IntKind.i32.wrap (q.at_ 1).n), (if (q.at_ 2).z then ofNil else telP sch_sDescribeTopicPartitionsRequestCursor (q.at_ 2))] (sortU q.u) := congrArg (fun l => T.mk 0 [] false l (sortU q.u)) (cons_eq (tel_list _) (cons_eq rfl (cons_eq (tel_ptr (q.at_ 2) (by decide)) (rfl))))
theorem clo_DescribeTopicPartitionsRequest : CloOk Tryd.prog 26 62 102 := by
 intro w S k SE tb YE us p lv x h1 h2 h3 h4 h5 h6 h7 h8 h9
 refine c_call Tryd.func102 rfl rfl fun a hk => ?_
 have hk : Kn 14 [(0, .int .u32 (p.1 : Int)), (1, x), (2, .pointer (some ⟨tb, 0, none⟩))] a := hk
 exact tl_clo (s := 5) treeP tagP rfl rfl (by kernel_rfl) (by kernel_rfl) (by decide) (by decide) h1 h2 h3 h4 h5 h6 h7 h8 h9 hk
theorem tell_DescribeTopicPartitionsRequest : TellOk Tryd.prog 70 sch_DescribeTopicPartitionsRequest true 1 := by
 intro w0 Y b off cs q hC hR hq
 rw [tells_DescribeTopicPartitionsRequest]
 refine c_call Tryd.func70 rfl rfl fun a hk => ?_
 have hk : Kn 89 [(0, .pointer (some ⟨b, off, none⟩))] a := hk
 refine tl_start (m := 3) (su := 5) (sv := 6) treeP rowT (by decide) rfl (by decide) (by decide) (by decide) (by decide) (by decide) (by decide) hC hR hk fun a w1 w rb tb bb Y1 hb hC hR hk ht => ?_
 rw [ddq_DescribeTopicPartitionsRequest] at hR
 have hR := rep_agg_inv hR
 obtain ⟨x0, c0, C0, hC, r0, hR⟩ := cel_un1 (one1_ite (one1_v _) (one1_sl _ _ _)) hC hR
 obtain ⟨c1, C1, hC, hR⟩ := cel_unV hC hR
 obtain ⟨x2, c2, C2, hC, r2, hR⟩ := cel_un1 (one1_ite (one1_v _) (one1_ptr _)) hC hR
 obtain ⟨xt, ct, Ct, hC, rt, hR⟩ := cel_un1 (one1_mp _ _) hC hR
 obtain ⟨sp0, cap0, rfl, hz0, r0⟩ := rep_listN (G := (telV 10 (-1) (telP sch_sDescribeTopicPartitionsRequestTopic))) r0
 refine tl_null (s := 7) (k := 0)  treeP rfl rfl (by kernel_rfl) (by kernel_rfl) (by decide) (by decide) (by decide) fo_123_1 ts_120 te_120 ts_4 (fun _ _ _ _ _ h => h) C0 hk ht fun a w hk ht => ?_
 refine tl_list (s := 16) (k := 0) (iv := 4) (tz := 62) (tsl := (lzL (q.at_ 0).z (q.at_ 0).l).map (telV 10 (-1) (telP sch_sDescribeTopicPartitionsRequestTopic))) treeP tz_4 ts_4 rfl (by kernel_rfl) (by kernel_rfl) (by kernel_rfl) (by kernel_rfl) (by decide) (by decide) (by decide) (by decide) (by decide) (lz_len (fine_at hq 0)) fo_123_1 ts_120 te_120 (fun _ _ _ _ _ h => h) C0 hk ht ?_ ?_ fun a w hk ht => ?_
 ·intro Q j a w hj hQ hk ht K
  obtain ⟨b2, o2, c2, rfl, hE, hCE⟩ := list_at r0 (j := j) (by simpa using hj)
  exact tl_A_call (p := 26) (s := 16) (k := 0) rfl rfl (by kernel_rfl) (by kernel_rfl) (by kernel_rfl) (by kernel_rfl) treeP rowT (by decide) rfl (by decide) (by decide) (by decide) (by decide) hj (lz_len (fine_at hq 0)) fo_123_1 ts_120 te_120 ts_127 cb_100 (fun hm => by rw [getD_mapT hj]; exact tell_sDescribeTopicPartitionsRequestTopic (cel_in hm hCE) (rep_in hm hE) (lz_fine (fine_at hq 0) j)) hQ C0 hk ht K
 ·intro Q j a w hj hQ hk ht K
  obtain ⟨b2, o2, c2, rfl, hE, hCE⟩ := list_at r0 (j := j) (by simpa using hj)
  exact tl_B_call (p := 44) (s := 16) (k := 0) (by decide) rfl (by kernel_rfl) (by kernel_rfl) treeP rowT (by decide) rfl (by decide) (by decide) (by decide) (by decide) hj (lz_len (fine_at hq 0)) fo_123_1 ts_120 te_120 ts_127 cb_100 (fun hm => by rw [getD_mapT hj]; exact tell_sDescribeTopicPartitionsRequestTopic (cel_in hm hCE) (rep_in hm hE) (lz_fine (fine_at hq 0) j)) hQ C0 hk ht K
 rw [hz0] at ht
 refine tl_num (s := 63) (k := 1)  treeP rfl rfl (by kernel_rfl) (by kernel_rfl) (by decide) (by decide) (by decide) fo_123_2 ts_21 un_21 ti_2 (wrap_in_i64 .i32 (by simp)) (fun _ _ _ _ _ h => h) C1 hk ht fun a w hk ht => ?_
 refine tl_call (s := 72) (k := 2) (F := 101) (tr := (if (q.at_ 2).z then ofNil else telP sch_sDescribeTopicPartitionsRequestCursor (q.at_ 2))) treeP rfl rfl (by kernel_rfl) (by kernel_rfl) (by decide) (by decide) (by decide) fo_123_3 ts_121 cb_101 (fun hm => tellPtr_sDescribeTopicPartitionsRequestCursor (rep_in hm r2) (fine_at hq 2)) (fun _ _ _ _ _ h => h) C2 hk ht fun a w hk ht => ?_
 exact tl_end (s := 80) (fE := 83) (fS := 85) (g := 102) treeP tagP each_cP cb_83 sorted_ok cb_85 clo_DescribeTopicPartitionsRequest cb_102 rfl rfl (fun h => Bool.noConfusion h) (by decide) (by decide) (by decide) fo_123_4 Ct rt (fine_spec hq).2.2.2.2.1 (fine_spec hq).2.2.1 (fine_spec hq).2.2.2.1 (sortU_perm _) (sortU_rise (fine_spec hq).2.2.2.2.1) hb hk ht
end Go.Proofs.YthholdjpcdpceaaDoor
