/- Walks of functions that the laws of this seat reach. No statement of the seat stands here. -/
import Derived.Test.YthholdjpcdpceaaDoorL4
import Derived.Test.YthholdjpcdpceaaDoorRows
import Derived.Test.YthholdjpcdpceaaDoorFa
import Derived.Test.YthholdjpcdpceaaDoorTt
import Derived.Test.YthholdjpcdpceaaDoorTf
import Derived.Test.YthholdjpcdpceaaDoorTg2
import Derived.Test.YthholdjpcdpceaaDoorTh
import Derived.Test.YthholdjpcdpceaaDoorSch
namespace Go.Proofs.YthholdjpcdpceaaDoor
open Go Go.Mk
theorem ddq_sDeleteShareGroupStateRequestTopicPartition (q : T) : ddS sch_sDeleteShareGroupStateRequestTopicPartition true q = .agg [.v (.int .i32 (IntKind.i32.wrap (q.at_ 0).n)), ddTagMap q.u] := rfl
theorem tells_sDeleteShareGroupStateRequestTopicPartition (q : T) : telP sch_sDeleteShareGroupStateRequestTopicPartition q = .mk 0 [] false [ofNum (IntKind.i32.wrap (q.at_ 0).n)] (sortU q.u) := congrArg (fun l => T.mk 0 [] false l (sortU q.u)) (cons_eq rfl (rfl))
theorem clo_sDeleteShareGroupStateRequestTopicPartition : CloOk Tryd.prog 26 62 162 := by
 intro w S k SE tb YE us p lv x h1 h2 h3 h4 h5 h6 h7 h8 h9
 refine c_call Tryd.func162 rfl rfl fun a hk => ?_
 have hk : Kn 14 [(0, .int .u32 (p.1 : Int)), (1, x), (2, .pointer (some ⟨tb, 0, none⟩))] a := hk
 exact tl_clo (s := 5) treeP tagP rfl rfl (by kernel_rfl) (by kernel_rfl) (by decide) (by decide) h1 h2 h3 h4 h5 h6 h7 h8 h9 hk
theorem tell_sDeleteShareGroupStateRequestTopicPartition : TellOk Tryd.prog 140 sch_sDeleteShareGroupStateRequestTopicPartition true 0 := by
 intro w0 Y b off cs q hC hR hq
 rw [tells_sDeleteShareGroupStateRequestTopicPartition]
 refine c_call Tryd.func140 rfl rfl fun a hk => ?_
 have hk : Kn 24 [(0, .pointer (some ⟨b, off, none⟩))] a := hk
 refine tl_start (m := 1) (su := 4) (sv := 5) treeP rowT (by decide) rfl (by decide) (by decide) (by decide) (by decide) (by decide) (by decide) hC hR hk fun a w1 w rb tb bb Y1 hb hC hR hk ht => ?_
 rw [ddq_sDeleteShareGroupStateRequestTopicPartition] at hR
 have hR := rep_agg_inv hR
 obtain ⟨c0, C0, hC, hR⟩ := cel_unV hC hR
 obtain ⟨xt, ct, Ct, hC, rt, hR⟩ := cel_un1 (one1_mp _ _) hC hR
 refine tl_num (s := 6) (k := 0)  treeP rfl rfl (by kernel_rfl) (by kernel_rfl) (by decide) (by decide) (by decide) fo_158_0 ts_21 un_21 ti_2 (wrap_in_i64 .i32 (by simp)) (fun _ _ _ _ _ h => h) C0 hk ht fun a w hk ht => ?_
 exact tl_end (s := 15) (fE := 83) (fS := 85) (g := 162) treeP tagP each_cP cb_83 sorted_ok cb_85 clo_sDeleteShareGroupStateRequestTopicPartition cb_162 rfl rfl (fun h => Bool.noConfusion h) (by decide) (by decide) (by decide) fo_158_1 Ct rt (fine_spec hq).2.2.2.2.1 (fine_spec hq).2.2.1 (fine_spec hq).2.2.2.1 (sortU_perm _) (sortU_rise (fine_spec hq).2.2.2.2.1) hb hk ht
theorem ddq_sDeleteShareGroupStateRequestTopic (q : T) : ddS sch_sDeleteShareGroupStateRequestTopic true q = .agg [.agg ((sixteen (q.at_ 0).s).map ddB), if (q.at_ 1).z then .v (.slice none 0 0) else .sl true 2 ((q.at_ 1).l.map (ddS sch_sDeleteShareGroupStateRequestTopicPartition true)), ddTagMap q.u] := rfl
theorem tells_sDeleteShareGroupStateRequestTopic (q : T) : telP sch_sDeleteShareGroupStateRequestTopic q = .mk 0 [] false [ofOct (sixteen (q.at_ 0).s), .mk 0 [] (q.at_ 1).z ((lzL (q.at_ 1).z (q.at_ 1).l).map (telV 10 (-1) (telP sch_sDeleteShareGroupStateRequestTopicPartition))) []] (sortU q.u) := congrArg (fun l => T.mk 0 [] false l (sortU q.u)) (cons_eq rfl (cons_eq (tel_list _) (rfl)))
theorem clo_sDeleteShareGroupStateRequestTopic : CloOk Tryd.prog 26 62 141 := by
 intro w S k SE tb YE us p lv x h1 h2 h3 h4 h5 h6 h7 h8 h9
 refine c_call Tryd.func141 rfl rfl fun a hk => ?_
 have hk : Kn 14 [(0, .int .u32 (p.1 : Int)), (1, x), (2, .pointer (some ⟨tb, 0, none⟩))] a := hk
 exact tl_clo (s := 5) treeP tagP rfl rfl (by kernel_rfl) (by kernel_rfl) (by decide) (by decide) h1 h2 h3 h4 h5 h6 h7 h8 h9 hk
theorem tell_sDeleteShareGroupStateRequestTopic : TellOk Tryd.prog 96 sch_sDeleteShareGroupStateRequestTopic true 0 := by
 intro w0 Y b off cs q hC hR hq
 rw [tells_sDeleteShareGroupStateRequestTopic]
 refine c_call Tryd.func96 rfl rfl fun a hk => ?_
 have hk : Kn 81 [(0, .pointer (some ⟨b, off, none⟩))] a := hk
 refine tl_start (m := 2) (su := 5) (sv := 6) treeP rowT (by decide) rfl (by decide) (by decide) (by decide) (by decide) (by decide) (by decide) hC hR hk fun a w1 w rb tb bb Y1 hb hC hR hk ht => ?_
 rw [ddq_sDeleteShareGroupStateRequestTopic] at hR
 have hR := rep_agg_inv hR
 obtain ⟨c0, C0, hC, hR⟩ := cel_un16 hC hR
 obtain ⟨x1, c1, C1, hC, r1, hR⟩ := cel_un1 (one1_ite (one1_v _) (one1_sl _ _ _)) hC hR
 obtain ⟨xt, ct, Ct, hC, rt, hR⟩ := cel_un1 (one1_mp _ _) hC hR
 refine tl_uuid (s := 7) (k := 0)  treeP rfl rfl (by kernel_rfl) (by kernel_rfl) (by decide) (by decide) (by decide) fo_119_0 ar_116 ts_5 te_22 rt_22 (fun _ _ _ _ _ h => h) C0 hk ht fun a w hk ht => ?_
 obtain ⟨sp1, cap1, rfl, hz1, r1⟩ := rep_listN (G := (telV 10 (-1) (telP sch_sDeleteShareGroupStateRequestTopicPartition))) r1
 refine tl_null (s := 16) (k := 1)  treeP rfl rfl (by kernel_rfl) (by kernel_rfl) (by decide) (by decide) (by decide) fo_119_1 ts_117 te_117 ts_4 (fun _ _ _ _ _ h => h) C1 hk ht fun a w hk ht => ?_
 refine tl_list (s := 25) (k := 1) (iv := 4) (tz := 71) (tsl := (lzL (q.at_ 1).z (q.at_ 1).l).map (telV 10 (-1) (telP sch_sDeleteShareGroupStateRequestTopicPartition))) treeP tz_4 ts_4 rfl (by kernel_rfl) (by kernel_rfl) (by kernel_rfl) (by kernel_rfl) (by decide) (by decide) (by decide) (by decide) (by decide) (lz_len (fine_at hq 1)) fo_119_1 ts_117 te_117 (fun _ _ _ _ _ h => h) C1 hk ht ?_ ?_ fun a w hk ht => ?_
 ·intro Q j a w hj hQ hk ht K
  obtain ⟨b2, o2, c2, rfl, hE, hCE⟩ := list_at r1 (j := j) (by simpa using hj)
  exact tl_A_call (p := 35) (s := 25) (k := 1) rfl rfl (by kernel_rfl) (by kernel_rfl) (by kernel_rfl) (by kernel_rfl) treeP rowT (by decide) rfl (by decide) (by decide) (by decide) (by decide) hj (lz_len (fine_at hq 1)) fo_119_1 ts_117 te_117 ts_158 cb_140 (fun hm => by rw [getD_mapT hj]; exact tell_sDeleteShareGroupStateRequestTopicPartition (cel_in hm hCE) (rep_in hm hE) (lz_fine (fine_at hq 1) j)) hQ C1 hk ht K
 ·intro Q j a w hj hQ hk ht K
  obtain ⟨b2, o2, c2, rfl, hE, hCE⟩ := list_at r1 (j := j) (by simpa using hj)
  exact tl_B_call (p := 53) (s := 25) (k := 1) (by decide) rfl (by kernel_rfl) (by kernel_rfl) treeP rowT (by decide) rfl (by decide) (by decide) (by decide) (by decide) hj (lz_len (fine_at hq 1)) fo_119_1 ts_117 te_117 ts_158 cb_140 (fun hm => by rw [getD_mapT hj]; exact tell_sDeleteShareGroupStateRequestTopicPartition (cel_in hm hCE) (rep_in hm hE) (lz_fine (fine_at hq 1) j)) hQ C1 hk ht K
 rw [hz1] at ht
 exact tl_end (s := 72) (fE := 83) (fS := 85) (g := 141) treeP tagP each_cP cb_83 sorted_ok cb_85 clo_sDeleteShareGroupStateRequestTopic cb_141 rfl rfl (fun h => Bool.noConfusion h) (by decide) (by decide) (by decide) fo_119_2 Ct rt (fine_spec hq).2.2.2.2.1 (fine_spec hq).2.2.1 (fine_spec hq).2.2.2.1 (sortU_perm _) (sortU_rise (fine_spec hq).2.2.2.2.1) hb hk ht
theorem ddq_DeleteShareGroupStateRequest (q : T) : ddS sch_DeleteShareGroupStateRequest true q = .agg [.v (.string (bs (q.at_ 0).s)), if (q.at_ 1).z then .v (.slice none 0 0) else .sl true 18 ((q.at_ 1).l.map (ddS sch_sDeleteShareGroupStateRequestTopic true)), ddTagMap q.u] := rfl
theorem tells_DeleteShareGroupStateRequest (q : T) : telP sch_DeleteShareGroupStateRequest q = .mk 0 [] false [ofOct (q.at_ 0).s, .mk 0 [] (q.at_ 1).z ((lzL (q.at_ 1).z (q.at_ 1).l).map (telV 10 (-1) (telP sch_sDeleteShareGroupStateRequestTopic))) []] (sortU q.u) := congrArg (fun l => T.mk 0 [] false l (sortU q.u)) (cons_eq rfl (cons_eq (tel_list _) (rfl)))
theorem clo_DeleteShareGroupStateRequest : CloOk Tryd.prog 26 62 97 := by
 intro w S k SE tb YE us p lv x h1 h2 h3 h4 h5 h6 h7 h8 h9
 refine c_call Tryd.func97 rfl rfl fun a hk => ?_
 have hk : Kn 14 [(0, .int .u32 (p.1 : Int)), (1, x), (2, .pointer (some ⟨tb, 0, none⟩))] a := hk
 exact tl_clo (s := 5) treeP tagP rfl rfl (by kernel_rfl) (by kernel_rfl) (by decide) (by decide) h1 h2 h3 h4 h5 h6 h7 h8 h9 hk
theorem tell_DeleteShareGroupStateRequest : TellOk Tryd.prog 64 sch_DeleteShareGroupStateRequest true 1 := by
 intro w0 Y b off cs q hC hR hq
 rw [tells_DeleteShareGroupStateRequest]
 refine c_call Tryd.func64 rfl rfl fun a hk => ?_
 have hk : Kn 81 [(0, .pointer (some ⟨b, off, none⟩))] a := hk
 refine tl_start (m := 2) (su := 5) (sv := 6) treeP rowT (by decide) rfl (by decide) (by decide) (by decide) (by decide) (by decide) (by decide) hC hR hk fun a w1 w rb tb bb Y1 hb hC hR hk ht => ?_
 rw [ddq_DeleteShareGroupStateRequest] at hR
 have hR := rep_agg_inv hR
 obtain ⟨c0, C0, hC, hR⟩ := cel_unV hC hR
 obtain ⟨x1, c1, C1, hC, r1, hR⟩ := cel_un1 (one1_ite (one1_v _) (one1_sl _ _ _)) hC hR
 obtain ⟨xt, ct, Ct, hC, rt, hR⟩ := cel_un1 (one1_mp _ _) hC hR
 refine tl_text (s := 7) (k := 0)  treeP rfl rfl (by kernel_rfl) (by kernel_rfl) (by decide) (by decide) (by decide) fo_113_1 ts_9 is_9 iy_22 (fun _ _ _ _ _ h => h) C0 hk ht fun a w hk ht => ?_
 obtain ⟨sp1, cap1, rfl, hz1, r1⟩ := rep_listN (G := (telV 10 (-1) (telP sch_sDeleteShareGroupStateRequestTopic))) r1
 refine tl_null (s := 16) (k := 1)  treeP rfl rfl (by kernel_rfl) (by kernel_rfl) (by decide) (by decide) (by decide) fo_113_2 ts_111 te_111 ts_4 (fun _ _ _ _ _ h => h) C1 hk ht fun a w hk ht => ?_
 refine tl_list (s := 25) (k := 1) (iv := 4) (tz := 71) (tsl := (lzL (q.at_ 1).z (q.at_ 1).l).map (telV 10 (-1) (telP sch_sDeleteShareGroupStateRequestTopic))) treeP tz_4 ts_4 rfl (by kernel_rfl) (by kernel_rfl) (by kernel_rfl) (by kernel_rfl) (by decide) (by decide) (by decide) (by decide) (by decide) (lz_len (fine_at hq 1)) fo_113_2 ts_111 te_111 (fun _ _ _ _ _ h => h) C1 hk ht ?_ ?_ fun a w hk ht => ?_
 ·intro Q j a w hj hQ hk ht K
  obtain ⟨b2, o2, c2, rfl, hE, hCE⟩ := list_at r1 (j := j) (by simpa using hj)
  exact tl_A_call (p := 35) (s := 25) (k := 1) rfl rfl (by kernel_rfl) (by kernel_rfl) (by kernel_rfl) (by kernel_rfl) treeP rowT (by decide) rfl (by decide) (by decide) (by decide) (by decide) hj (lz_len (fine_at hq 1)) fo_113_2 ts_111 te_111 ts_119 cb_96 (fun hm => by rw [getD_mapT hj]; exact tell_sDeleteShareGroupStateRequestTopic (cel_in hm hCE) (rep_in hm hE) (lz_fine (fine_at hq 1) j)) hQ C1 hk ht K
 ·intro Q j a w hj hQ hk ht K
  obtain ⟨b2, o2, c2, rfl, hE, hCE⟩ := list_at r1 (j := j) (by simpa using hj)
  exact tl_B_call (p := 53) (s := 25) (k := 1) (by decide) rfl (by kernel_rfl) (by kernel_rfl) treeP rowT (by decide) rfl (by decide) (by decide) (by decide) (by decide) hj (lz_len (fine_at hq 1)) fo_113_2 ts_111 te_111 ts_119 cb_96 (fun hm => by rw [getD_mapT hj]; exact tell_sDeleteShareGroupStateRequestTopic (cel_in hm hCE) (rep_in hm hE) (lz_fine (fine_at hq 1) j)) hQ C1 hk ht K
 rw [hz1] at ht
 exact tl_end (s := 72) (fE := 83) (fS := 85) (g := 97) treeP tagP each_cP cb_83 sorted_ok cb_85 clo_DeleteShareGroupStateRequest cb_97 rfl rfl (fun h => Bool.noConfusion h) (by decide) (by decide) (by decide) fo_113_3 Ct rt (fine_spec hq).2.2.2.2.1 (fine_spec hq).2.2.1 (fine_spec hq).2.2.2.1 (sortU_perm _) (sortU_rise (fine_spec hq).2.2.2.2.1) hb hk ht
end Go.Proofs.YthholdjpcdpceaaDoor
