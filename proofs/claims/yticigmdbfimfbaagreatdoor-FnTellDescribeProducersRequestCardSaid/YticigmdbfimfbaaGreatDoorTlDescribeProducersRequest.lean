/- Walks of functions that the laws of this seat reach. No statement of the seat stands here. -/
import Derived.Test.YticigmdbfimfbaaGreatDoorL4
import Derived.Test.YticigmdbfimfbaaGreatDoorRows
import Derived.Test.YticigmdbfimfbaaGreatDoorFa
import Derived.Test.YticigmdbfimfbaaGreatDoorTt
import Derived.Test.YticigmdbfimfbaaGreatDoorTf
import Derived.Test.YticigmdbfimfbaaGreatDoorTg2
import Derived.Test.YticigmdbfimfbaaGreatDoorTh
import Derived.Test.YticigmdbfimfbaaGreatDoorSch
namespace Go.Proofs.YticigmdbfimfbaaGreatDoor
open Go Go.Mk
theorem ddq_sDescribeProducersRequestTopic (q : T) : ddS sch_sDescribeProducersRequestTopic true q = .agg [.v (.string (bs (q.at_ 0).s)), if (q.at_ 1).z then .v (.slice none 0 0) else .sl true 1 ((q.at_ 1).l.map (fun x : T => DD.v (.int .i32 (IntKind.i32.wrap x.n)))), ddTagMap q.u] := rfl
theorem tells_sDescribeProducersRequestTopic (q : T) : telP sch_sDescribeProducersRequestTopic q = .mk 0 [] false [ofOct (q.at_ 0).s, .mk 0 [] (q.at_ 1).z ((lzL (q.at_ 1).z (q.at_ 1).l).map (telV 3 (-1) (telP []))) []] (sortU q.u) := congrArg (fun l => T.mk 0 [] false l (sortU q.u)) (cons_eq rfl (cons_eq (tel_list _) (rfl)))
theorem clo_sDescribeProducersRequestTopic : CloOk Tryz.prog 37 68 154 := by
 intro w S k SE tb YE us p lv x h1 h2 h3 h4 h5 h6 h7 h8 h9
 refine c_call Tryz.func154 rfl rfl fun a hk => ?_
 have hk : Kn 14 [(0, .int .u32 (p.1 : Int)), (1, x), (2, .pointer (some ⟨tb, 0, none⟩))] a := hk
 exact tl_clo (s := 5) treeP tagP rfl rfl (by kernel_rfl) (by kernel_rfl) (by decide) (by decide) h1 h2 h3 h4 h5 h6 h7 h8 h9 hk
theorem tell_sDescribeProducersRequestTopic : TellOk Tryz.prog 112 sch_sDescribeProducersRequestTopic true 0 := by
 intro w0 Y b off cs q hC hR hq
 rw [tells_sDescribeProducersRequestTopic]
 refine c_call Tryz.func112 rfl rfl fun a hk => ?_
 have hk : Kn 85 [(0, .pointer (some ⟨b, off, none⟩))] a := hk
 refine tl_start (m := 2) (su := 5) (sv := 6) treeP rowT (by decide) rfl (by decide) (by decide) (by decide) (by decide) (by decide) (by decide) hC hR hk fun a w1 w rb tb bb Y1 hb hC hR hk ht => ?_
 rw [ddq_sDescribeProducersRequestTopic] at hR
 have hR := rep_agg_inv hR
 obtain ⟨c0, C0, hC, hR⟩ := cel_unV hC hR
 obtain ⟨x1, c1, C1, hC, r1, hR⟩ := cel_un1 (one1_ite (one1_v _) (one1_sl _ _ _)) hC hR
 obtain ⟨xt, ct, Ct, hC, rt, hR⟩ := cel_un1 (one1_mp _ _) hC hR
 refine tl_text (s := 7) (k := 0)  treeP rfl rfl (by kernel_rfl) (by kernel_rfl) (by decide) (by decide) (by decide) fo_126_0 ts_9 is_9 iy_22 (fun _ _ _ _ _ h => h) C0 hk ht fun a w hk ht => ?_
 obtain ⟨sp1, cap1, rfl, hz1, r1⟩ := rep_listN (G := (telV 3 (-1) (telP []))) r1
 refine tl_null (s := 16) (k := 1)  treeP rfl rfl (by kernel_rfl) (by kernel_rfl) (by decide) (by decide) (by decide) fo_126_1 ts_124 te_124 ts_4 (fun _ _ _ _ _ h => h) C1 hk ht fun a w hk ht => ?_
 refine tl_list (s := 25) (k := 1) (iv := 4) (tz := 75) (tsl := (lzL (q.at_ 1).z (q.at_ 1).l).map (telV 3 (-1) (telP []))) treeP tz_4 ts_4 rfl (by kernel_rfl) (by kernel_rfl) (by kernel_rfl) (by kernel_rfl) (by decide) (by decide) (by decide) (by decide) (by decide) (lz_len (fine_at hq 1)) fo_126_1 ts_124 te_124 (fun _ _ _ _ _ h => h) C1 hk ht ?_ ?_ fun a w hk ht => ?_
 ·intro Q j a w hj hQ hk ht K
  obtain ⟨b2, o2, c2, rfl, hE, hCE⟩ := list_at r1 (j := j) (by simpa using hj)
  exact tl_A_num (iE := fun j => IntKind.i32.wrap ((lzL (q.at_ 1).z (q.at_ 1).l).getD j T.nil).n) (p := 35) (s := 25) (k := 1) rfl rfl (by kernel_rfl) (by kernel_rfl) treeP rowT (by decide) rfl (by decide) (by decide) (by decide) (by decide) hj (lz_len (fine_at hq 1)) fo_126_1 ts_124 te_124 ts_21 ts_21 un_21 ti_2 (cel_v hE hCE) (by rw [getD_mapT hj, wrap_in_i64 .i32 (by simp)]; rfl) hQ C1 hk ht K
 ·intro Q j a w hj hQ hk ht K
  obtain ⟨b2, o2, c2, rfl, hE, hCE⟩ := list_at r1 (j := j) (by simpa using hj)
  exact tl_B_num (iE := fun j => IntKind.i32.wrap ((lzL (q.at_ 1).z (q.at_ 1).l).getD j T.nil).n) (p := 55) (s := 25) (k := 1) (by decide) rfl (by kernel_rfl) (by kernel_rfl) treeP rowT (by decide) rfl (by decide) (by decide) (by decide) (by decide) hj (lz_len (fine_at hq 1)) fo_126_1 ts_124 te_124 ts_21 ts_21 un_21 ti_2 (cel_v hE hCE) (by rw [getD_mapT hj, wrap_in_i64 .i32 (by simp)]; rfl) hQ C1 hk ht K
 rw [hz1] at ht
 exact tl_end (s := 76) (fE := 91) (fS := 93) (g := 154) treeP tagP each_cP cb_91 sorted_ok cb_93 clo_sDescribeProducersRequestTopic cb_154 rfl rfl (fun h => Bool.noConfusion h) (by decide) (by decide) (by decide) fo_126_2 Ct rt (fine_spec hq).2.2.2.2.1 (fine_spec hq).2.2.1 (fine_spec hq).2.2.2.1 (sortU_perm _) (sortU_rise (fine_spec hq).2.2.2.2.1) hb hk ht
theorem ddq_DescribeProducersRequest (q : T) : ddS sch_DescribeProducersRequest true q = .agg [if (q.at_ 0).z then .v (.slice none 0 0) else .sl true 3 ((q.at_ 0).l.map (ddS sch_sDescribeProducersRequestTopic true)), ddTagMap q.u] := rfl
theorem tells_DescribeProducersRequest (q : T) : telP sch_DescribeProducersRequest q = .mk 0 [] false [.mk 0 [] (q.at_ 0).z ((lzL (q.at_ 0).z (q.at_ 0).l).map (telV 10 (-1) (telP sch_sDescribeProducersRequestTopic))) []] (sortU q.u) := congrArg (fun l => T.mk 0 [] false l (sortU q.u)) (cons_eq (tel_list _) (rfl))
theorem clo_DescribeProducersRequest : CloOk Tryz.prog 37 68 113 := by
 intro w S k SE tb YE us p lv x h1 h2 h3 h4 h5 h6 h7 h8 h9
 refine c_call Tryz.func113 rfl rfl fun a hk => ?_
 have hk : Kn 14 [(0, .int .u32 (p.1 : Int)), (1, x), (2, .pointer (some ⟨tb, 0, none⟩))] a := hk
 exact tl_clo (s := 5) treeP tagP rfl rfl (by kernel_rfl) (by kernel_rfl) (by decide) (by decide) h1 h2 h3 h4 h5 h6 h7 h8 h9 hk
theorem tell_DescribeProducersRequest : TellOk Tryz.prog 68 sch_DescribeProducersRequest true 1 := by
 intro w0 Y b off cs q hC hR hq
 rw [tells_DescribeProducersRequest]
 refine c_call Tryz.func68 rfl rfl fun a hk => ?_
 have hk : Kn 72 [(0, .pointer (some ⟨b, off, none⟩))] a := hk
 refine tl_start (m := 1) (su := 5) (sv := 6) treeP rowT (by decide) rfl (by decide) (by decide) (by decide) (by decide) (by decide) (by decide) hC hR hk fun a w1 w rb tb bb Y1 hb hC hR hk ht => ?_
 rw [ddq_DescribeProducersRequest] at hR
 have hR := rep_agg_inv hR
 obtain ⟨x0, c0, C0, hC, r0, hR⟩ := cel_un1 (one1_ite (one1_v _) (one1_sl _ _ _)) hC hR
 obtain ⟨xt, ct, Ct, hC, rt, hR⟩ := cel_un1 (one1_mp _ _) hC hR
 obtain ⟨sp0, cap0, rfl, hz0, r0⟩ := rep_listN (G := (telV 10 (-1) (telP sch_sDescribeProducersRequestTopic))) r0
 refine tl_null (s := 7) (k := 0)  treeP rfl rfl (by kernel_rfl) (by kernel_rfl) (by decide) (by decide) (by decide) fo_121_1 ts_119 te_119 ts_4 (fun _ _ _ _ _ h => h) C0 hk ht fun a w hk ht => ?_
 refine tl_list (s := 16) (k := 0) (iv := 4) (tz := 62) (tsl := (lzL (q.at_ 0).z (q.at_ 0).l).map (telV 10 (-1) (telP sch_sDescribeProducersRequestTopic))) treeP tz_4 ts_4 rfl (by kernel_rfl) (by kernel_rfl) (by kernel_rfl) (by kernel_rfl) (by decide) (by decide) (by decide) (by decide) (by decide) (lz_len (fine_at hq 0)) fo_121_1 ts_119 te_119 (fun _ _ _ _ _ h => h) C0 hk ht ?_ ?_ fun a w hk ht => ?_
 ·intro Q j a w hj hQ hk ht K
  obtain ⟨b2, o2, c2, rfl, hE, hCE⟩ := list_at r0 (j := j) (by simpa using hj)
  exact tl_A_call (p := 26) (s := 16) (k := 0) rfl rfl (by kernel_rfl) (by kernel_rfl) (by kernel_rfl) (by kernel_rfl) treeP rowT (by decide) rfl (by decide) (by decide) (by decide) (by decide) hj (lz_len (fine_at hq 0)) fo_121_1 ts_119 te_119 ts_126 cb_112 (fun hm => by rw [getD_mapT hj]; exact tell_sDescribeProducersRequestTopic (cel_in hm hCE) (rep_in hm hE) (lz_fine (fine_at hq 0) j)) hQ C0 hk ht K
 ·intro Q j a w hj hQ hk ht K
  obtain ⟨b2, o2, c2, rfl, hE, hCE⟩ := list_at r0 (j := j) (by simpa using hj)
  exact tl_B_call (p := 44) (s := 16) (k := 0) (by decide) rfl (by kernel_rfl) (by kernel_rfl) treeP rowT (by decide) rfl (by decide) (by decide) (by decide) (by decide) hj (lz_len (fine_at hq 0)) fo_121_1 ts_119 te_119 ts_126 cb_112 (fun hm => by rw [getD_mapT hj]; exact tell_sDescribeProducersRequestTopic (cel_in hm hCE) (rep_in hm hE) (lz_fine (fine_at hq 0) j)) hQ C0 hk ht K
 rw [hz0] at ht
 exact tl_end (s := 63) (fE := 91) (fS := 93) (g := 113) treeP tagP each_cP cb_91 sorted_ok cb_93 clo_DescribeProducersRequest cb_113 rfl rfl (fun h => Bool.noConfusion h) (by decide) (by decide) (by decide) fo_121_2 Ct rt (fine_spec hq).2.2.2.2.1 (fine_spec hq).2.2.1 (fine_spec hq).2.2.2.1 (sortU_perm _) (sortU_rise (fine_spec hq).2.2.2.2.1) hb hk ht
end Go.Proofs.YticigmdbfimfbaaGreatDoor
