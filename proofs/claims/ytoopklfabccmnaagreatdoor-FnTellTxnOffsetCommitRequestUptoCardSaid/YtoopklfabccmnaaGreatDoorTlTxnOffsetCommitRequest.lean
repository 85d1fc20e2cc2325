/- Walks of functions that the laws of this seat reach. No statement of the seat stands here. -/
import Derived.Test.YtoopklfabccmnaaGreatDoorL4
import Derived.Test.YtoopklfabccmnaaGreatDoorRows
import Derived.Test.YtoopklfabccmnaaGreatDoorFa
import Derived.Test.YtoopklfabccmnaaGreatDoorTt
import Derived.Test.YtoopklfabccmnaaGreatDoorTf
import Derived.Test.YtoopklfabccmnaaGreatDoorTg2
import Derived.Test.YtoopklfabccmnaaGreatDoorTh
import Derived.Test.YtoopklfabccmnaaGreatDoorSch
namespace Go.Proofs.YtoopklfabccmnaaGreatDoor
open Go Go.Mk
theorem ddq_sTxnOffsetCommitRequestTopicPartition (q : T) : ddS sch_sTxnOffsetCommitRequestTopicPartition true q = .agg [.v (.int .i32 (IntKind.i32.wrap (q.at_ 0).n)), .v (.int .i64 (q.at_ 1).n), .v (.int .i32 (IntKind.i32.wrap (q.at_ 2).n)), if (q.at_ 3).z then .v (.pointer none) else .ptr (.v (.string (bs (q.at_ 3).s))), ddTagMap q.u] := rfl
theorem tells_sTxnOffsetCommitRequestTopicPartition (q : T) : telP sch_sTxnOffsetCommitRequestTopicPartition q = .mk 0 [] false [ofNum (IntKind.i32.wrap (q.at_ 0).n), ofNum (q.at_ 1).n, ofNum (IntKind.i32.wrap (q.at_ 2).n), (if (q.at_ 3).z then ofNil else ofOct (q.at_ 3).s)] (sortU q.u) := congrArg (fun l => T.mk 0 [] false l (sortU q.u)) (cons_eq rfl (cons_eq rfl (cons_eq rfl (cons_eq (tel_textN (nu := 0) (q.at_ 3) (by decide)) (rfl)))))
theorem clo_sTxnOffsetCommitRequestTopicPartition : CloOk Tryz.prog 37 69 237 := by
 intro w S k SE tb YE us p lv x h1 h2 h3 h4 h5 h6 h7 h8 h9
 refine c_call Tryz.func237 rfl rfl fun a hk => ?_
 have hk : Kn 14 [(0, .int .u32 (p.1 : Int)), (1, x), (2, .pointer (some ⟨tb, 0, none⟩))] a := hk
 exact tl_clo (s := 5) treeP tagP rfl rfl (by kernel_rfl) (by kernel_rfl) (by decide) (by decide) h1 h2 h3 h4 h5 h6 h7 h8 h9 hk
theorem tell_sTxnOffsetCommitRequestTopicPartition : TellOk Tryz.prog 183 sch_sTxnOffsetCommitRequestTopicPartition true 0 := by
 intro w0 Y b off cs q hC hR hq
 rw [tells_sTxnOffsetCommitRequestTopicPartition]
 refine c_call Tryz.func183 rfl rfl fun a hk => ?_
 have hk : Kn 49 [(0, .pointer (some ⟨b, off, none⟩))] a := hk
 refine tl_start (m := 4) (su := 4) (sv := 5) treeP rowT (by decide) rfl (by decide) (by decide) (by decide) (by decide) (by decide) (by decide) hC hR hk fun a w1 w rb tb bb Y1 hb hC hR hk ht => ?_
 rw [ddq_sTxnOffsetCommitRequestTopicPartition] at hR
 have hR := rep_agg_inv hR
 obtain ⟨c0, C0, hC, hR⟩ := cel_unV hC hR
 obtain ⟨c1, C1, hC, hR⟩ := cel_unV hC hR
 obtain ⟨c2, C2, hC, hR⟩ := cel_unV hC hR
 obtain ⟨x3, c3, C3, hC, r3, hR⟩ := cel_un1 (one1_ite (one1_v _) (one1_ptr _)) hC hR
 obtain ⟨xt, ct, Ct, hC, rt, hR⟩ := cel_un1 (one1_mp _ _) hC hR
 refine tl_num (s := 6) (k := 0)  treeP rfl rfl (by kernel_rfl) (by kernel_rfl) (by decide) (by decide) (by decide) fo_214_0 ts_21 un_21 ti_2 (wrap_in_i64 .i32 (by simp)) (fun _ _ _ _ _ h => h) C0 hk ht fun a w hk ht => ?_
 refine tl_raw (s := 15) (k := 1)  treeP rfl rfl (by kernel_rfl) (by kernel_rfl) (by decide) (by decide) (by decide) fo_214_1 ts_2 (fun _ _ _ _ _ h => h) C1 hk ht fun a w hk ht => ?_
 refine tl_num (s := 23) (k := 2)  treeP rfl rfl (by kernel_rfl) (by kernel_rfl) (by decide) (by decide) (by decide) fo_214_2 ts_21 un_21 ti_2 (wrap_in_i64 .i32 (by simp)) (fun _ _ _ _ _ h => h) C2 hk ht fun a w hk ht => ?_
 refine tl_call (s := 32) (k := 3) (F := 106) (tr := (if (q.at_ 3).z then ofNil else ofOct (q.at_ 3).s)) treeP rfl rfl (by kernel_rfl) (by kernel_rfl) (by decide) (by decide) (by decide) fo_214_3 ts_92 cb_106 (fun hm => textTree_c (q.at_ 3).z (q.at_ 3).s (rep_in hm r3)) (fun _ _ _ _ _ h => h) C3 hk ht fun a w hk ht => ?_
 exact tl_end (s := 40) (fE := 108) (fS := 110) (g := 237) treeP tagP each_cP cb_108 sorted_ok cb_110 clo_sTxnOffsetCommitRequestTopicPartition cb_237 rfl rfl (fun h => Bool.noConfusion h) (by decide) (by decide) (by decide) fo_214_4 Ct rt (fine_spec hq).2.2.2.2.1 (fine_spec hq).2.2.1 (fine_spec hq).2.2.2.1 (sortU_perm _) (sortU_rise (fine_spec hq).2.2.2.2.1) hb hk ht
theorem ddq_sTxnOffsetCommitRequestTopic (q : T) : ddS sch_sTxnOffsetCommitRequestTopic true q = .agg [.v (.string (bs (q.at_ 0).s)), .agg ((sixteen (q.at_ 1).s).map ddB), if (q.at_ 2).z then .v (.slice none 0 0) else .sl true 5 ((q.at_ 2).l.map (ddS sch_sTxnOffsetCommitRequestTopicPartition true)), ddTagMap q.u] := rfl
theorem tells_sTxnOffsetCommitRequestTopic (q : T) : telP sch_sTxnOffsetCommitRequestTopic q = .mk 0 [] false [ofOct (q.at_ 0).s, ofOct (sixteen (q.at_ 1).s), .mk 0 [] (q.at_ 2).z ((lzL (q.at_ 2).z (q.at_ 2).l).map (telV 10 (-1) (telP sch_sTxnOffsetCommitRequestTopicPartition))) []] (sortU q.u) := congrArg (fun l => T.mk 0 [] false l (sortU q.u)) (cons_eq rfl (cons_eq rfl (cons_eq (tel_list _) (rfl))))
theorem clo_sTxnOffsetCommitRequestTopic : CloOk Tryz.prog 37 69 184 := by
 intro w S k SE tb YE us p lv x h1 h2 h3 h4 h5 h6 h7 h8 h9
 refine c_call Tryz.func184 rfl rfl fun a hk => ?_
 have hk : Kn 14 [(0, .int .u32 (p.1 : Int)), (1, x), (2, .pointer (some ⟨tb, 0, none⟩))] a := hk
 exact tl_clo (s := 5) treeP tagP rfl rfl (by kernel_rfl) (by kernel_rfl) (by decide) (by decide) h1 h2 h3 h4 h5 h6 h7 h8 h9 hk
theorem tell_sTxnOffsetCommitRequestTopic : TellOk Tryz.prog 122 sch_sTxnOffsetCommitRequestTopic true 0 := by
 intro w0 Y b off cs q hC hR hq
 rw [tells_sTxnOffsetCommitRequestTopic]
 refine c_call Tryz.func122 rfl rfl fun a hk => ?_
 have hk : Kn 90 [(0, .pointer (some ⟨b, off, none⟩))] a := hk
 refine tl_start (m := 3) (su := 5) (sv := 6) treeP rowT (by decide) rfl (by decide) (by decide) (by decide) (by decide) (by decide) (by decide) hC hR hk fun a w1 w rb tb bb Y1 hb hC hR hk ht => ?_
 rw [ddq_sTxnOffsetCommitRequestTopic] at hR
 have hR := rep_agg_inv hR
 obtain ⟨c0, C0, hC, hR⟩ := cel_unV hC hR
 obtain ⟨c1, C1, hC, hR⟩ := cel_un16 hC hR
 obtain ⟨x2, c2, C2, hC, r2, hR⟩ := cel_un1 (one1_ite (one1_v _) (one1_sl _ _ _)) hC hR
 obtain ⟨xt, ct, Ct, hC, rt, hR⟩ := cel_un1 (one1_mp _ _) hC hR
 refine tl_text (s := 7) (k := 0)  treeP rfl rfl (by kernel_rfl) (by kernel_rfl) (by decide) (by decide) (by decide) fo_126_0 ts_9 is_9 iy_22 (fun _ _ _ _ _ h => h) C0 hk ht fun a w hk ht => ?_
 refine tl_uuid (s := 16) (k := 1)  treeP rfl rfl (by kernel_rfl) (by kernel_rfl) (by decide) (by decide) (by decide) fo_126_1 ar_103 ts_5 te_22 rt_22 (fun _ _ _ _ _ h => h) C1 hk ht fun a w hk ht => ?_
 obtain ⟨sp2, cap2, rfl, hz2, r2⟩ := rep_listN (G := (telV 10 (-1) (telP sch_sTxnOffsetCommitRequestTopicPartition))) r2
 refine tl_null (s := 25) (k := 2)  treeP rfl rfl (by kernel_rfl) (by kernel_rfl) (by decide) (by decide) (by decide) fo_126_2 ts_124 te_124 ts_4 (fun _ _ _ _ _ h => h) C2 hk ht fun a w hk ht => ?_
 refine tl_list (s := 34) (k := 2) (iv := 4) (tz := 80) (tsl := (lzL (q.at_ 2).z (q.at_ 2).l).map (telV 10 (-1) (telP sch_sTxnOffsetCommitRequestTopicPartition))) treeP tz_4 ts_4 rfl (by kernel_rfl) (by kernel_rfl) (by kernel_rfl) (by kernel_rfl) (by decide) (by decide) (by decide) (by decide) (by decide) (lz_len (fine_at hq 2)) fo_126_2 ts_124 te_124 (fun _ _ _ _ _ h => h) C2 hk ht ?_ ?_ fun a w hk ht => ?_
 ·intro Q j a w hj hQ hk ht K
  obtain ⟨b2, o2, c2, rfl, hE, hCE⟩ := list_at r2 (j := j) (by simpa using hj)
  exact tl_A_call (p := 44) (s := 34) (k := 2) rfl rfl (by kernel_rfl) (by kernel_rfl) (by kernel_rfl) (by kernel_rfl) treeP rowT (by decide) rfl (by decide) (by decide) (by decide) (by decide) hj (lz_len (fine_at hq 2)) fo_126_2 ts_124 te_124 ts_214 cb_183 (fun hm => by rw [getD_mapT hj]; exact tell_sTxnOffsetCommitRequestTopicPartition (cel_in hm hCE) (rep_in hm hE) (lz_fine (fine_at hq 2) j)) hQ C2 hk ht K
 ·intro Q j a w hj hQ hk ht K
  obtain ⟨b2, o2, c2, rfl, hE, hCE⟩ := list_at r2 (j := j) (by simpa using hj)
  exact tl_B_call (p := 62) (s := 34) (k := 2) (by decide) rfl (by kernel_rfl) (by kernel_rfl) treeP rowT (by decide) rfl (by decide) (by decide) (by decide) (by decide) hj (lz_len (fine_at hq 2)) fo_126_2 ts_124 te_124 ts_214 cb_183 (fun hm => by rw [getD_mapT hj]; exact tell_sTxnOffsetCommitRequestTopicPartition (cel_in hm hCE) (rep_in hm hE) (lz_fine (fine_at hq 2) j)) hQ C2 hk ht K
 rw [hz2] at ht
 exact tl_end (s := 81) (fE := 108) (fS := 110) (g := 184) treeP tagP each_cP cb_108 sorted_ok cb_110 clo_sTxnOffsetCommitRequestTopic cb_184 rfl rfl (fun h => Bool.noConfusion h) (by decide) (by decide) (by decide) fo_126_3 Ct rt (fine_spec hq).2.2.2.2.1 (fine_spec hq).2.2.1 (fine_spec hq).2.2.2.1 (sortU_perm _) (sortU_rise (fine_spec hq).2.2.2.2.1) hb hk ht
theorem ddq_TxnOffsetCommitRequest (q : T) : ddS sch_TxnOffsetCommitRequest true q = .agg [.v (.string (bs (q.at_ 0).s)), .v (.string (bs (q.at_ 1).s)), .v (.int .i64 (q.at_ 2).n), .v (.int .i16 (IntKind.i16.wrap (q.at_ 3).n)), .v (.int .i32 (IntKind.i32.wrap (q.at_ 4).n)), .v (.string (bs (q.at_ 5).s)), if (q.at_ 6).z then .v (.pointer none) else .ptr (.v (.string (bs (q.at_ 6).s))), if (q.at_ 7).z then .v (.slice none 0 0) else .sl true 19 ((q.at_ 7).l.map (ddS sch_sTxnOffsetCommitRequestTopic true)), ddTagMap q.u] := rfl
theorem tells_TxnOffsetCommitRequest (q : T) : telP sch_TxnOffsetCommitRequest q = .mk 0 [] false [ofOct (q.at_ 0).s, ofOct (q.at_ 1).s, ofNum (q.at_ 2).n, ofNum (IntKind.i16.wrap (q.at_ 3).n), ofNum (IntKind.i32.wrap (q.at_ 4).n), ofOct (q.at_ 5).s, (if (q.at_ 6).z then ofNil else ofOct (q.at_ 6).s), .mk 0 [] (q.at_ 7).z ((lzL (q.at_ 7).z (q.at_ 7).l).map (telV 10 (-1) (telP sch_sTxnOffsetCommitRequestTopic))) []] (sortU q.u) := congrArg (fun l => T.mk 0 [] false l (sortU q.u)) (cons_eq rfl (cons_eq rfl (cons_eq rfl (cons_eq rfl (cons_eq rfl (cons_eq rfl (cons_eq (tel_textN (nu := 3) (q.at_ 6) (by decide)) (cons_eq (tel_list _) (rfl)))))))))
theorem clo_TxnOffsetCommitRequest : CloOk Tryz.prog 37 69 123 := by
 intro w S k SE tb YE us p lv x h1 h2 h3 h4 h5 h6 h7 h8 h9
 refine c_call Tryz.func123 rfl rfl fun a hk => ?_
 have hk : Kn 14 [(0, .int .u32 (p.1 : Int)), (1, x), (2, .pointer (some ⟨tb, 0, none⟩))] a := hk
 exact tl_clo (s := 5) treeP tagP rfl rfl (by kernel_rfl) (by kernel_rfl) (by decide) (by decide) h1 h2 h3 h4 h5 h6 h7 h8 h9 hk
theorem tell_TxnOffsetCommitRequest : TellOk Tryz.prog 62 sch_TxnOffsetCommitRequest true 1 := by
 intro w0 Y b off cs q hC hR hq
 rw [tells_TxnOffsetCommitRequest]
 refine c_call Tryz.func62 rfl rfl fun a hk => ?_
 have hk : Kn 133 [(0, .pointer (some ⟨b, off, none⟩))] a := hk
 refine tl_start (m := 8) (su := 5) (sv := 6) treeP rowT (by decide) rfl (by decide) (by decide) (by decide) (by decide) (by decide) (by decide) hC hR hk fun a w1 w rb tb bb Y1 hb hC hR hk ht => ?_
 rw [ddq_TxnOffsetCommitRequest] at hR
 have hR := rep_agg_inv hR
 obtain ⟨c0, C0, hC, hR⟩ := cel_unV hC hR
 obtain ⟨c1, C1, hC, hR⟩ := cel_unV hC hR
 obtain ⟨c2, C2, hC, hR⟩ := cel_unV hC hR
 obtain ⟨c3, C3, hC, hR⟩ := cel_unV hC hR
 obtain ⟨c4, C4, hC, hR⟩ := cel_unV hC hR
 obtain ⟨c5, C5, hC, hR⟩ := cel_unV hC hR
 obtain ⟨x6, c6, C6, hC, r6, hR⟩ := cel_un1 (one1_ite (one1_v _) (one1_ptr _)) hC hR
 obtain ⟨x7, c7, C7, hC, r7, hR⟩ := cel_un1 (one1_ite (one1_v _) (one1_sl _ _ _)) hC hR
 obtain ⟨xt, ct, Ct, hC, rt, hR⟩ := cel_un1 (one1_mp _ _) hC hR
 refine tl_text (s := 7) (k := 0)  treeP rfl rfl (by kernel_rfl) (by kernel_rfl) (by decide) (by decide) (by decide) fo_121_1 ts_9 is_9 iy_22 (fun _ _ _ _ _ h => h) C0 hk ht fun a w hk ht => ?_
 refine tl_text (s := 16) (k := 1)  treeP rfl rfl (by kernel_rfl) (by kernel_rfl) (by decide) (by decide) (by decide) fo_121_2 ts_9 is_9 iy_22 (fun _ _ _ _ _ h => h) C1 hk ht fun a w hk ht => ?_
 refine tl_raw (s := 25) (k := 2)  treeP rfl rfl (by kernel_rfl) (by kernel_rfl) (by decide) (by decide) (by decide) fo_121_3 ts_2 (fun _ _ _ _ _ h => h) C2 hk ht fun a w hk ht => ?_
 refine tl_num (s := 33) (k := 3)  treeP rfl rfl (by kernel_rfl) (by kernel_rfl) (by decide) (by decide) (by decide) fo_121_4 ts_46 un_46 ti_2 (wrap_in_i64 .i16 (by simp)) (fun _ _ _ _ _ h => h) C3 hk ht fun a w hk ht => ?_
 refine tl_num (s := 42) (k := 4)  treeP rfl rfl (by kernel_rfl) (by kernel_rfl) (by decide) (by decide) (by decide) fo_121_5 ts_21 un_21 ti_2 (wrap_in_i64 .i32 (by simp)) (fun _ _ _ _ _ h => h) C4 hk ht fun a w hk ht => ?_
 refine tl_text (s := 51) (k := 5)  treeP rfl rfl (by kernel_rfl) (by kernel_rfl) (by decide) (by decide) (by decide) fo_121_6 ts_9 is_9 iy_22 (fun _ _ _ _ _ h => h) C5 hk ht fun a w hk ht => ?_
 refine tl_call (s := 60) (k := 6) (F := 106) (tr := (if (q.at_ 6).z then ofNil else ofOct (q.at_ 6).s)) treeP rfl rfl (by kernel_rfl) (by kernel_rfl) (by decide) (by decide) (by decide) fo_121_7 ts_92 cb_106 (fun hm => textTree_c (q.at_ 6).z (q.at_ 6).s (rep_in hm r6)) (fun _ _ _ _ _ h => h) C6 hk ht fun a w hk ht => ?_
 obtain ⟨sp7, cap7, rfl, hz7, r7⟩ := rep_listN (G := (telV 10 (-1) (telP sch_sTxnOffsetCommitRequestTopic))) r7
 refine tl_null (s := 68) (k := 7)  treeP rfl rfl (by kernel_rfl) (by kernel_rfl) (by decide) (by decide) (by decide) fo_121_8 ts_119 te_119 ts_4 (fun _ _ _ _ _ h => h) C7 hk ht fun a w hk ht => ?_
 refine tl_list (s := 77) (k := 7) (iv := 4) (tz := 123) (tsl := (lzL (q.at_ 7).z (q.at_ 7).l).map (telV 10 (-1) (telP sch_sTxnOffsetCommitRequestTopic))) treeP tz_4 ts_4 rfl (by kernel_rfl) (by kernel_rfl) (by kernel_rfl) (by kernel_rfl) (by decide) (by decide) (by decide) (by decide) (by decide) (lz_len (fine_at hq 7)) fo_121_8 ts_119 te_119 (fun _ _ _ _ _ h => h) C7 hk ht ?_ ?_ fun a w hk ht => ?_
 ·intro Q j a w hj hQ hk ht K
  obtain ⟨b2, o2, c2, rfl, hE, hCE⟩ := list_at r7 (j := j) (by simpa using hj)
  exact tl_A_call (p := 87) (s := 77) (k := 7) rfl rfl (by kernel_rfl) (by kernel_rfl) (by kernel_rfl) (by kernel_rfl) treeP rowT (by decide) rfl (by decide) (by decide) (by decide) (by decide) hj (lz_len (fine_at hq 7)) fo_121_8 ts_119 te_119 ts_126 cb_122 (fun hm => by rw [getD_mapT hj]; exact tell_sTxnOffsetCommitRequestTopic (cel_in hm hCE) (rep_in hm hE) (lz_fine (fine_at hq 7) j)) hQ C7 hk ht K
 ·intro Q j a w hj hQ hk ht K
  obtain ⟨b2, o2, c2, rfl, hE, hCE⟩ := list_at r7 (j := j) (by simpa using hj)
  exact tl_B_call (p := 105) (s := 77) (k := 7) (by decide) rfl (by kernel_rfl) (by kernel_rfl) treeP rowT (by decide) rfl (by decide) (by decide) (by decide) (by decide) hj (lz_len (fine_at hq 7)) fo_121_8 ts_119 te_119 ts_126 cb_122 (fun hm => by rw [getD_mapT hj]; exact tell_sTxnOffsetCommitRequestTopic (cel_in hm hCE) (rep_in hm hE) (lz_fine (fine_at hq 7) j)) hQ C7 hk ht K
 rw [hz7] at ht
 exact tl_end (s := 124) (fE := 108) (fS := 110) (g := 123) treeP tagP each_cP cb_108 sorted_ok cb_110 clo_TxnOffsetCommitRequest cb_123 rfl rfl (fun h => Bool.noConfusion h) (by decide) (by decide) (by decide) fo_121_9 Ct rt (fine_spec hq).2.2.2.2.1 (fine_spec hq).2.2.1 (fine_spec hq).2.2.2.1 (sortU_perm _) (sortU_rise (fine_spec hq).2.2.2.2.1) hb hk ht
end Go.Proofs.YtoopklfabccmnaaGreatDoor
