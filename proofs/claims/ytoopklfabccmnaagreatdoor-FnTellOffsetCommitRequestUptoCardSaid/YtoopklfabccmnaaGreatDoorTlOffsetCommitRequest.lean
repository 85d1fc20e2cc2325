/- Walks of functions that the laws of this seat reach. No statement of the seat stands here. -/
import Derived.Test.YtoopklfabccmnaaGreatDoorL4
import Derived.Test.YtoopklfabccmnaaGreatDoorRows
import Derived.Test.YtoopklfabccmnaaGreatDoorFa
import Derived.Test.YtoopklfabccmnaaGreatDoorTt
import Derived.Test.YtoopklfabccmnaaGreatDoorTf
import Derived.Test.YtoopklfabccmnaaGreatDoorTg2
import Derived.Test.YtoopklfabccmnaaGreatDoorTh
import Derived.Test.YtoopklfabccmnaaGreatDoorSch
namespace Go.Proofs.YtoopklfabccmnaaGreatDoor
open Go Go.Mk
theorem ddq_sOffsetCommitRequestTopicPartition (q : T) : ddS sch_sOffsetCommitRequestTopicPartition true q = .agg [.v (.int .i32 (IntKind.i32.wrap (q.at_ 0).n)), .v (.int .i64 (q.at_ 1).n), .v (.int .i64 (q.at_ 2).n), .v (.int .i32 (IntKind.i32.wrap (q.at_ 3).n)), if (q.at_ 4).z then .v (.pointer none) else .ptr (.v (.string (bs (q.at_ 4).s))), ddTagMap q.u] := rfl
theorem tells_sOffsetCommitRequestTopicPartition (q : T) : telP sch_sOffsetCommitRequestTopicPartition q = .mk 0 [] false [ofNum (IntKind.i32.wrap (q.at_ 0).n), ofNum (q.at_ 1).n, ofNum (q.at_ 2).n, ofNum (IntKind.i32.wrap (q.at_ 3).n), (if (q.at_ 4).z then ofNil else ofOct (q.at_ 4).s)] (sortU q.u) := congrArg (fun l => T.mk 0 [] false l (sortU q.u)) (cons_eq rfl (cons_eq rfl (cons_eq rfl (cons_eq rfl (cons_eq (tel_textN (nu := 0) (q.at_ 4) (by decide)) (rfl))))))
theorem clo_sOffsetCommitRequestTopicPartition : CloOk Tryz.prog 37 69 230 := by
 intro w S k SE tb YE us p lv x h1 h2 h3 h4 h5 h6 h7 h8 h9
 refine c_call Tryz.func230 rfl rfl fun a hk => ?_
 have hk : Kn 14 [(0, .int .u32 (p.1 : Int)), (1, x), (2, .pointer (some ⟨tb, 0, none⟩))] a := hk
 exact tl_clo (s := 5) treeP tagP rfl rfl (by kernel_rfl) (by kernel_rfl) (by decide) (by decide) h1 h2 h3 h4 h5 h6 h7 h8 h9 hk
theorem tell_sOffsetCommitRequestTopicPartition : TellOk Tryz.prog 174 sch_sOffsetCommitRequestTopicPartition true 0 := by
 intro w0 Y b off cs q hC hR hq
 rw [tells_sOffsetCommitRequestTopicPartition]
 refine c_call Tryz.func174 rfl rfl fun a hk => ?_
 have hk : Kn 57 [(0, .pointer (some ⟨b, off, none⟩))] a := hk
 refine tl_start (m := 5) (su := 4) (sv := 5) treeP rowT (by decide) rfl (by decide) (by decide) (by decide) (by decide) (by decide) (by decide) hC hR hk fun a w1 w rb tb bb Y1 hb hC hR hk ht => ?_
 rw [ddq_sOffsetCommitRequestTopicPartition] at hR
 have hR := rep_agg_inv hR
 obtain ⟨c0, C0, hC, hR⟩ := cel_unV hC hR
 obtain ⟨c1, C1, hC, hR⟩ := cel_unV hC hR
 obtain ⟨c2, C2, hC, hR⟩ := cel_unV hC hR
 obtain ⟨c3, C3, hC, hR⟩ := cel_unV hC hR
 obtain ⟨x4, c4, C4, hC, r4, hR⟩ := cel_un1 (one1_ite (one1_v _) (one1_ptr _)) hC hR
 obtain ⟨xt, ct, Ct, hC, rt, hR⟩ := cel_un1 (one1_mp _ _) hC hR
 refine tl_num (s := 6) (k := 0)  treeP rfl rfl (by kernel_rfl) (by kernel_rfl) (by decide) (by decide) (by decide) fo_200_0 ts_21 un_21 ti_2 (wrap_in_i64 .i32 (by simp)) (fun _ _ _ _ _ h => h) C0 hk ht fun a w hk ht => ?_
 refine tl_raw (s := 15) (k := 1)  treeP rfl rfl (by kernel_rfl) (by kernel_rfl) (by decide) (by decide) (by decide) fo_200_1 ts_2 (fun _ _ _ _ _ h => h) C1 hk ht fun a w hk ht => ?_
 refine tl_raw (s := 23) (k := 2)  treeP rfl rfl (by kernel_rfl) (by kernel_rfl) (by decide) (by decide) (by decide) fo_200_2 ts_2 (fun _ _ _ _ _ h => h) C2 hk ht fun a w hk ht => ?_
 refine tl_num (s := 31) (k := 3)  treeP rfl rfl (by kernel_rfl) (by kernel_rfl) (by decide) (by decide) (by decide) fo_200_3 ts_21 un_21 ti_2 (wrap_in_i64 .i32 (by simp)) (fun _ _ _ _ _ h => h) C3 hk ht fun a w hk ht => ?_
 refine tl_call (s := 40) (k := 4) (F := 106) (tr := (if (q.at_ 4).z then ofNil else ofOct (q.at_ 4).s)) treeP rfl rfl (by kernel_rfl) (by kernel_rfl) (by decide) (by decide) (by decide) fo_200_4 ts_92 cb_106 (fun hm => textTree_c (q.at_ 4).z (q.at_ 4).s (rep_in hm r4)) (fun _ _ _ _ _ h => h) C4 hk ht fun a w hk ht => ?_
 exact tl_end (s := 48) (fE := 108) (fS := 110) (g := 230) treeP tagP each_cP cb_108 sorted_ok cb_110 clo_sOffsetCommitRequestTopicPartition cb_230 rfl rfl (fun h => Bool.noConfusion h) (by decide) (by decide) (by decide) fo_200_5 Ct rt (fine_spec hq).2.2.2.2.1 (fine_spec hq).2.2.1 (fine_spec hq).2.2.2.1 (sortU_perm _) (sortU_rise (fine_spec hq).2.2.2.2.1) hb hk ht
theorem ddq_sOffsetCommitRequestTopic (q : T) : ddS sch_sOffsetCommitRequestTopic true q = .agg [.v (.string (bs (q.at_ 0).s)), .agg ((sixteen (q.at_ 1).s).map ddB), if (q.at_ 2).z then .v (.slice none 0 0) else .sl true 6 ((q.at_ 2).l.map (ddS sch_sOffsetCommitRequestTopicPartition true)), ddTagMap q.u] := rfl
theorem tells_sOffsetCommitRequestTopic (q : T) : telP sch_sOffsetCommitRequestTopic q = .mk 0 [] false [ofOct (q.at_ 0).s, ofOct (sixteen (q.at_ 1).s), .mk 0 [] (q.at_ 2).z ((lzL (q.at_ 2).z (q.at_ 2).l).map (telV 10 (-1) (telP sch_sOffsetCommitRequestTopicPartition))) []] (sortU q.u) := congrArg (fun l => T.mk 0 [] false l (sortU q.u)) (cons_eq rfl (cons_eq rfl (cons_eq (tel_list _) (rfl))))
theorem clo_sOffsetCommitRequestTopic : CloOk Tryz.prog 37 69 175 := by
 intro w S k SE tb YE us p lv x h1 h2 h3 h4 h5 h6 h7 h8 h9
 refine c_call Tryz.func175 rfl rfl fun a hk => ?_
 have hk : Kn 14 [(0, .int .u32 (p.1 : Int)), (1, x), (2, .pointer (some ⟨tb, 0, none⟩))] a := hk
 exact tl_clo (s := 5) treeP tagP rfl rfl (by kernel_rfl) (by kernel_rfl) (by decide) (by decide) h1 h2 h3 h4 h5 h6 h7 h8 h9 hk
theorem tell_sOffsetCommitRequestTopic : TellOk Tryz.prog 107 sch_sOffsetCommitRequestTopic true 0 := by
 intro w0 Y b off cs q hC hR hq
 rw [tells_sOffsetCommitRequestTopic]
 refine c_call Tryz.func107 rfl rfl fun a hk => ?_
 have hk : Kn 90 [(0, .pointer (some ⟨b, off, none⟩))] a := hk
 refine tl_start (m := 3) (su := 5) (sv := 6) treeP rowT (by decide) rfl (by decide) (by decide) (by decide) (by decide) (by decide) (by decide) hC hR hk fun a w1 w rb tb bb Y1 hb hC hR hk ht => ?_
 rw [ddq_sOffsetCommitRequestTopic] at hR
 have hR := rep_agg_inv hR
 obtain ⟨c0, C0, hC, hR⟩ := cel_unV hC hR
 obtain ⟨c1, C1, hC, hR⟩ := cel_un16 hC hR
 obtain ⟨x2, c2, C2, hC, r2, hR⟩ := cel_un1 (one1_ite (one1_v _) (one1_sl _ _ _)) hC hR
 obtain ⟨xt, ct, Ct, hC, rt, hR⟩ := cel_un1 (one1_mp _ _) hC hR
 refine tl_text (s := 7) (k := 0)  treeP rfl rfl (by kernel_rfl) (by kernel_rfl) (by decide) (by decide) (by decide) fo_106_0 ts_9 is_9 iy_22 (fun _ _ _ _ _ h => h) C0 hk ht fun a w hk ht => ?_
 refine tl_uuid (s := 16) (k := 1)  treeP rfl rfl (by kernel_rfl) (by kernel_rfl) (by decide) (by decide) (by decide) fo_106_1 ar_103 ts_5 te_22 rt_22 (fun _ _ _ _ _ h => h) C1 hk ht fun a w hk ht => ?_
 obtain ⟨sp2, cap2, rfl, hz2, r2⟩ := rep_listN (G := (telV 10 (-1) (telP sch_sOffsetCommitRequestTopicPartition))) r2
 refine tl_null (s := 25) (k := 2)  treeP rfl rfl (by kernel_rfl) (by kernel_rfl) (by decide) (by decide) (by decide) fo_106_2 ts_104 te_104 ts_4 (fun _ _ _ _ _ h => h) C2 hk ht fun a w hk ht => ?_
 refine tl_list (s := 34) (k := 2) (iv := 4) (tz := 80) (tsl := (lzL (q.at_ 2).z (q.at_ 2).l).map (telV 10 (-1) (telP sch_sOffsetCommitRequestTopicPartition))) treeP tz_4 ts_4 rfl (by kernel_rfl) (by kernel_rfl) (by kernel_rfl) (by kernel_rfl) (by decide) (by decide) (by decide) (by decide) (by decide) (lz_len (fine_at hq 2)) fo_106_2 ts_104 te_104 (fun _ _ _ _ _ h => h) C2 hk ht ?_ ?_ fun a w hk ht => ?_
 ·intro Q j a w hj hQ hk ht K
  obtain ⟨b2, o2, c2, rfl, hE, hCE⟩ := list_at r2 (j := j) (by simpa using hj)
  exact tl_A_call (p := 44) (s := 34) (k := 2) rfl rfl (by kernel_rfl) (by kernel_rfl) (by kernel_rfl) (by kernel_rfl) treeP rowT (by decide) rfl (by decide) (by decide) (by decide) (by decide) hj (lz_len (fine_at hq 2)) fo_106_2 ts_104 te_104 ts_200 cb_174 (fun hm => by rw [getD_mapT hj]; exact tell_sOffsetCommitRequestTopicPartition (cel_in hm hCE) (rep_in hm hE) (lz_fine (fine_at hq 2) j)) hQ C2 hk ht K
 ·intro Q j a w hj hQ hk ht K
  obtain ⟨b2, o2, c2, rfl, hE, hCE⟩ := list_at r2 (j := j) (by simpa using hj)
  exact tl_B_call (p := 62) (s := 34) (k := 2) (by decide) rfl (by kernel_rfl) (by kernel_rfl) treeP rowT (by decide) rfl (by decide) (by decide) (by decide) (by decide) hj (lz_len (fine_at hq 2)) fo_106_2 ts_104 te_104 ts_200 cb_174 (fun hm => by rw [getD_mapT hj]; exact tell_sOffsetCommitRequestTopicPartition (cel_in hm hCE) (rep_in hm hE) (lz_fine (fine_at hq 2) j)) hQ C2 hk ht K
 rw [hz2] at ht
 exact tl_end (s := 81) (fE := 108) (fS := 110) (g := 175) treeP tagP each_cP cb_108 sorted_ok cb_110 clo_sOffsetCommitRequestTopic cb_175 rfl rfl (fun h => Bool.noConfusion h) (by decide) (by decide) (by decide) fo_106_3 Ct rt (fine_spec hq).2.2.2.2.1 (fine_spec hq).2.2.1 (fine_spec hq).2.2.2.1 (sortU_perm _) (sortU_rise (fine_spec hq).2.2.2.2.1) hb hk ht
theorem ddq_OffsetCommitRequest (q : T) : ddS sch_OffsetCommitRequest true q = .agg [.v (.string (bs (q.at_ 0).s)), .v (.int .i32 (IntKind.i32.wrap (q.at_ 1).n)), .v (.string (bs (q.at_ 2).s)), if (q.at_ 3).z then .v (.pointer none) else .ptr (.v (.string (bs (q.at_ 3).s))), .v (.int .i64 (q.at_ 4).n), if (q.at_ 5).z then .v (.slice none 0 0) else .sl true 19 ((q.at_ 5).l.map (ddS sch_sOffsetCommitRequestTopic true)), ddTagMap q.u] := rfl
theorem tells_OffsetCommitRequest (q : T) : telP sch_OffsetCommitRequest q = .mk 0 [] false [ofOct (q.at_ 0).s, ofNum (IntKind.i32.wrap (q.at_ 1).n), ofOct (q.at_ 2).s, (if (q.at_ 3).z then ofNil else ofOct (q.at_ 3).s), ofNum (q.at_ 4).n, .mk 0 [] (q.at_ 5).z ((lzL (q.at_ 5).z (q.at_ 5).l).map (telV 10 (-1) (telP sch_sOffsetCommitRequestTopic))) []] (sortU q.u) := congrArg (fun l => T.mk 0 [] false l (sortU q.u)) (cons_eq rfl (cons_eq rfl (cons_eq rfl (cons_eq (tel_textN (nu := 7) (q.at_ 3) (by decide)) (cons_eq rfl (cons_eq (tel_list _) (rfl)))))))
theorem clo_OffsetCommitRequest : CloOk Tryz.prog 37 69 109 := by
 intro w S k SE tb YE us p lv x h1 h2 h3 h4 h5 h6 h7 h8 h9
 refine c_call Tryz.func109 rfl rfl fun a hk => ?_
 have hk : Kn 14 [(0, .int .u32 (p.1 : Int)), (1, x), (2, .pointer (some ⟨tb, 0, none⟩))] a := hk
 exact tl_clo (s := 5) treeP tagP rfl rfl (by kernel_rfl) (by kernel_rfl) (by decide) (by decide) h1 h2 h3 h4 h5 h6 h7 h8 h9 hk
theorem tell_OffsetCommitRequest : TellOk Tryz.prog 47 sch_OffsetCommitRequest true 1 := by
 intro w0 Y b off cs q hC hR hq
 rw [tells_OffsetCommitRequest]
 refine c_call Tryz.func47 rfl rfl fun a hk => ?_
 have hk : Kn 115 [(0, .pointer (some ⟨b, off, none⟩))] a := hk
 refine tl_start (m := 6) (su := 5) (sv := 6) treeP rowT (by decide) rfl (by decide) (by decide) (by decide) (by decide) (by decide) (by decide) hC hR hk fun a w1 w rb tb bb Y1 hb hC hR hk ht => ?_
 rw [ddq_OffsetCommitRequest] at hR
 have hR := rep_agg_inv hR
 obtain ⟨c0, C0, hC, hR⟩ := cel_unV hC hR
 obtain ⟨c1, C1, hC, hR⟩ := cel_unV hC hR
 obtain ⟨c2, C2, hC, hR⟩ := cel_unV hC hR
 obtain ⟨x3, c3, C3, hC, r3, hR⟩ := cel_un1 (one1_ite (one1_v _) (one1_ptr _)) hC hR
 obtain ⟨c4, C4, hC, hR⟩ := cel_unV hC hR
 obtain ⟨x5, c5, C5, hC, r5, hR⟩ := cel_un1 (one1_ite (one1_v _) (one1_sl _ _ _)) hC hR
 obtain ⟨xt, ct, Ct, hC, rt, hR⟩ := cel_un1 (one1_mp _ _) hC hR
 refine tl_text (s := 7) (k := 0)  treeP rfl rfl (by kernel_rfl) (by kernel_rfl) (by decide) (by decide) (by decide) fo_98_1 ts_9 is_9 iy_22 (fun _ _ _ _ _ h => h) C0 hk ht fun a w hk ht => ?_
 refine tl_num (s := 16) (k := 1)  treeP rfl rfl (by kernel_rfl) (by kernel_rfl) (by decide) (by decide) (by decide) fo_98_2 ts_21 un_21 ti_2 (wrap_in_i64 .i32 (by simp)) (fun _ _ _ _ _ h => h) C1 hk ht fun a w hk ht => ?_
 refine tl_text (s := 25) (k := 2)  treeP rfl rfl (by kernel_rfl) (by kernel_rfl) (by decide) (by decide) (by decide) fo_98_3 ts_9 is_9 iy_22 (fun _ _ _ _ _ h => h) C2 hk ht fun a w hk ht => ?_
 refine tl_call (s := 34) (k := 3) (F := 106) (tr := (if (q.at_ 3).z then ofNil else ofOct (q.at_ 3).s)) treeP rfl rfl (by kernel_rfl) (by kernel_rfl) (by decide) (by decide) (by decide) fo_98_4 ts_92 cb_106 (fun hm => textTree_c (q.at_ 3).z (q.at_ 3).s (rep_in hm r3)) (fun _ _ _ _ _ h => h) C3 hk ht fun a w hk ht => ?_
 refine tl_raw (s := 42) (k := 4)  treeP rfl rfl (by kernel_rfl) (by kernel_rfl) (by decide) (by decide) (by decide) fo_98_5 ts_2 (fun _ _ _ _ _ h => h) C4 hk ht fun a w hk ht => ?_
 obtain ⟨sp5, cap5, rfl, hz5, r5⟩ := rep_listN (G := (telV 10 (-1) (telP sch_sOffsetCommitRequestTopic))) r5
 refine tl_null (s := 50) (k := 5)  treeP rfl rfl (by kernel_rfl) (by kernel_rfl) (by decide) (by decide) (by decide) fo_98_6 ts_93 te_93 ts_4 (fun _ _ _ _ _ h => h) C5 hk ht fun a w hk ht => ?_
 refine tl_list (s := 59) (k := 5) (iv := 4) (tz := 105) (tsl := (lzL (q.at_ 5).z (q.at_ 5).l).map (telV 10 (-1) (telP sch_sOffsetCommitRequestTopic))) treeP tz_4 ts_4 rfl (by kernel_rfl) (by kernel_rfl) (by kernel_rfl) (by kernel_rfl) (by decide) (by decide) (by decide) (by decide) (by decide) (lz_len (fine_at hq 5)) fo_98_6 ts_93 te_93 (fun _ _ _ _ _ h => h) C5 hk ht ?_ ?_ fun a w hk ht => ?_
 ·intro Q j a w hj hQ hk ht K
  obtain ⟨b2, o2, c2, rfl, hE, hCE⟩ := list_at r5 (j := j) (by simpa using hj)
  exact tl_A_call (p := 69) (s := 59) (k := 5) rfl rfl (by kernel_rfl) (by kernel_rfl) (by kernel_rfl) (by kernel_rfl) treeP rowT (by decide) rfl (by decide) (by decide) (by decide) (by decide) hj (lz_len (fine_at hq 5)) fo_98_6 ts_93 te_93 ts_106 cb_107 (fun hm => by rw [getD_mapT hj]; exact tell_sOffsetCommitRequestTopic (cel_in hm hCE) (rep_in hm hE) (lz_fine (fine_at hq 5) j)) hQ C5 hk ht K
 ·intro Q j a w hj hQ hk ht K
  obtain ⟨b2, o2, c2, rfl, hE, hCE⟩ := list_at r5 (j := j) (by simpa using hj)
  exact tl_B_call (p := 87) (s := 59) (k := 5) (by decide) rfl (by kernel_rfl) (by kernel_rfl) treeP rowT (by decide) rfl (by decide) (by decide) (by decide) (by decide) hj (lz_len (fine_at hq 5)) fo_98_6 ts_93 te_93 ts_106 cb_107 (fun hm => by rw [getD_mapT hj]; exact tell_sOffsetCommitRequestTopic (cel_in hm hCE) (rep_in hm hE) (lz_fine (fine_at hq 5) j)) hQ C5 hk ht K
 rw [hz5] at ht
 exact tl_end (s := 106) (fE := 108) (fS := 110) (g := 109) treeP tagP each_cP cb_108 sorted_ok cb_110 clo_OffsetCommitRequest cb_109 rfl rfl (fun h => Bool.noConfusion h) (by decide) (by decide) (by decide) fo_98_7 Ct rt (fine_spec hq).2.2.2.2.1 (fine_spec hq).2.2.1 (fine_spec hq).2.2.2.1 (sortU_perm _) (sortU_rise (fine_spec hq).2.2.2.2.1) hb hk ht
end Go.Proofs.YtoopklfabccmnaaGreatDoor
