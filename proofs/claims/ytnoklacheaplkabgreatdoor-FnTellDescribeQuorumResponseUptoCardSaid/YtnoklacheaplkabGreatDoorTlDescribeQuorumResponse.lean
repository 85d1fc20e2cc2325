/- Walks of functions that the laws of this seat reach. No statement of the seat stands here. -/
import Derived.Test.YtnoklacheaplkabGreatDoorL4
import Derived.Test.YtnoklacheaplkabGreatDoorRows
import Derived.Test.YtnoklacheaplkabGreatDoorFa
import Derived.Test.YtnoklacheaplkabGreatDoorTt
import Derived.Test.YtnoklacheaplkabGreatDoorTf
import Derived.Test.YtnoklacheaplkabGreatDoorTg2
import Derived.Test.YtnoklacheaplkabGreatDoorTh
import Derived.Test.YtnoklacheaplkabGreatDoorSch
namespace Go.Proofs.YtnoklacheaplkabGreatDoor
open Go Go.Mk
theorem ddq_sDescribeQuorumResponseTopicPartitionReplicaState (q : T) : ddS sch_sDescribeQuorumResponseTopicPartitionReplicaState true q = .agg [.v (.int .i32 (IntKind.i32.wrap (q.at_ 0).n)), .agg ((sixteen (q.at_ 1).s).map ddB), .v (.int .i64 (q.at_ 2).n), .v (.int .i64 (q.at_ 3).n), .v (.int .i64 (q.at_ 4).n), ddTagMap q.u] := rfl
theorem tells_sDescribeQuorumResponseTopicPartitionReplicaState (q : T) : telP sch_sDescribeQuorumResponseTopicPartitionReplicaState q = .mk 0 [] false [ofNum (IntKind.i32.wrap (q.at_ 0).n), ofOct (sixteen (q.at_ 1).s), ofNum (q.at_ 2).n, ofNum (q.at_ 3).n, ofNum (q.at_ 4).n] (sortU q.u) := congrArg (fun l => T.mk 0 [] false l (sortU q.u)) (cons_eq rfl (cons_eq rfl (cons_eq rfl (cons_eq rfl (cons_eq rfl (rfl))))))
theorem clo_sDescribeQuorumResponseTopicPartitionReplicaState : CloOk Tryz.prog 37 69 152 := by
 intro w S k SE tb YE us p lv x h1 h2 h3 h4 h5 h6 h7 h8 h9
 refine c_call Tryz.func152 rfl rfl fun a hk => ?_
 have hk : Kn 14 [(0, .int .u32 (p.1 : Int)), (1, x), (2, .pointer (some ⟨tb, 0, none⟩))] a := hk
 exact tl_clo (s := 5) treeP tagP rfl rfl (by kernel_rfl) (by kernel_rfl) (by decide) (by decide) h1 h2 h3 h4 h5 h6 h7 h8 h9 hk
theorem tell_sDescribeQuorumResponseTopicPartitionReplicaState : TellOk Tryz.prog 126 sch_sDescribeQuorumResponseTopicPartitionReplicaState true 0 := by
 intro w0 Y b off cs q hC hR hq
 rw [tells_sDescribeQuorumResponseTopicPartitionReplicaState]
 refine c_call Tryz.func126 rfl rfl fun a hk => ?_
 have hk : Kn 57 [(0, .pointer (some ⟨b, off, none⟩))] a := hk
 refine tl_start (m := 5) (su := 4) (sv := 5) treeP rowT (by decide) rfl (by decide) (by decide) (by decide) (by decide) (by decide) (by decide) hC hR hk fun a w1 w rb tb bb Y1 hb hC hR hk ht => ?_
 rw [ddq_sDescribeQuorumResponseTopicPartitionReplicaState] at hR
 have hR := rep_agg_inv hR
 obtain ⟨c0, C0, hC, hR⟩ := cel_unV hC hR
 obtain ⟨c1, C1, hC, hR⟩ := cel_un16 hC hR
 obtain ⟨c2, C2, hC, hR⟩ := cel_unV hC hR
 obtain ⟨c3, C3, hC, hR⟩ := cel_unV hC hR
 obtain ⟨c4, C4, hC, hR⟩ := cel_unV hC hR
 obtain ⟨xt, ct, Ct, hC, rt, hR⟩ := cel_un1 (one1_mp _ _) hC hR
 refine tl_num (s := 6) (k := 0)  treeP rfl rfl (by kernel_rfl) (by kernel_rfl) (by decide) (by decide) (by decide) fo_158_0 ts_21 un_21 ti_2 (wrap_in_i64 .i32 (by simp)) (fun _ _ _ _ _ h => h) C0 hk ht fun a w hk ht => ?_
 refine tl_uuid (s := 15) (k := 1)  treeP rfl rfl (by kernel_rfl) (by kernel_rfl) (by decide) (by decide) (by decide) fo_158_1 ar_86 ts_5 te_22 rt_22 (fun _ _ _ _ _ h => h) C1 hk ht fun a w hk ht => ?_
 refine tl_raw (s := 24) (k := 2)  treeP rfl rfl (by kernel_rfl) (by kernel_rfl) (by decide) (by decide) (by decide) fo_158_2 ts_2 (fun _ _ _ _ _ h => h) C2 hk ht fun a w hk ht => ?_
 refine tl_raw (s := 32) (k := 3)  treeP rfl rfl (by kernel_rfl) (by kernel_rfl) (by decide) (by decide) (by decide) fo_158_3 ts_2 (fun _ _ _ _ _ h => h) C3 hk ht fun a w hk ht => ?_
 refine tl_raw (s := 40) (k := 4)  treeP rfl rfl (by kernel_rfl) (by kernel_rfl) (by decide) (by decide) (by decide) fo_158_4 ts_2 (fun _ _ _ _ _ h => h) C4 hk ht fun a w hk ht => ?_
 exact tl_end (s := 48) (fE := 48) (fS := 50) (g := 152) treeP tagP each_cP cb_48 sorted_ok cb_50 clo_sDescribeQuorumResponseTopicPartitionReplicaState cb_152 rfl rfl (fun h => Bool.noConfusion h) (by decide) (by decide) (by decide) fo_158_5 Ct rt (fine_spec hq).2.2.2.2.1 (fine_spec hq).2.2.1 (fine_spec hq).2.2.2.1 (sortU_perm _) (sortU_rise (fine_spec hq).2.2.2.2.1) hb hk ht
theorem ddq_sDescribeQuorumResponseTopicPartition (q : T) : ddS sch_sDescribeQuorumResponseTopicPartition true q = .agg [.v (.int .i32 (IntKind.i32.wrap (q.at_ 0).n)), .v (.int .i16 (IntKind.i16.wrap (q.at_ 1).n)), if (q.at_ 2).z then .v (.pointer none) else .ptr (.v (.string (bs (q.at_ 2).s))), .v (.int .i32 (IntKind.i32.wrap (q.at_ 3).n)), .v (.int .i32 (IntKind.i32.wrap (q.at_ 4).n)), .v (.int .i64 (q.at_ 5).n), if (q.at_ 6).z then .v (.slice none 0 0) else .sl true 21 ((q.at_ 6).l.map (ddS sch_sDescribeQuorumResponseTopicPartitionReplicaState true)), if (q.at_ 7).z then .v (.slice none 0 0) else .sl true 21 ((q.at_ 7).l.map (ddS sch_sDescribeQuorumResponseTopicPartitionReplicaState true)), ddTagMap q.u] := rfl
theorem tells_sDescribeQuorumResponseTopicPartition (q : T) : telP sch_sDescribeQuorumResponseTopicPartition q = .mk 0 [] false [ofNum (IntKind.i32.wrap (q.at_ 0).n), ofNum (IntKind.i16.wrap (q.at_ 1).n), (if (q.at_ 2).z then ofNil else ofOct (q.at_ 2).s), ofNum (IntKind.i32.wrap (q.at_ 3).n), ofNum (IntKind.i32.wrap (q.at_ 4).n), ofNum (q.at_ 5).n, .mk 0 [] (q.at_ 6).z ((lzL (q.at_ 6).z (q.at_ 6).l).map (telV 10 (-1) (telP sch_sDescribeQuorumResponseTopicPartitionReplicaState))) [], .mk 0 [] (q.at_ 7).z ((lzL (q.at_ 7).z (q.at_ 7).l).map (telV 10 (-1) (telP sch_sDescribeQuorumResponseTopicPartitionReplicaState))) []] (sortU q.u) := congrArg (fun l => T.mk 0 [] false l (sortU q.u)) (cons_eq rfl (cons_eq rfl (cons_eq (tel_textN (nu := 2) (q.at_ 2) (by decide)) (cons_eq rfl (cons_eq rfl (cons_eq rfl (cons_eq (tel_list _) (cons_eq (tel_list _) (rfl)))))))))
theorem clo_sDescribeQuorumResponseTopicPartition : CloOk Tryz.prog 37 69 127 := by
 intro w S k SE tb YE us p lv x h1 h2 h3 h4 h5 h6 h7 h8 h9
 refine c_call Tryz.func127 rfl rfl fun a hk => ?_
 have hk : Kn 14 [(0, .int .u32 (p.1 : Int)), (1, x), (2, .pointer (some ⟨tb, 0, none⟩))] a := hk
 exact tl_clo (s := 5) treeP tagP rfl rfl (by kernel_rfl) (by kernel_rfl) (by decide) (by decide) h1 h2 h3 h4 h5 h6 h7 h8 h9 hk
theorem tell_sDescribeQuorumResponseTopicPartition : TellOk Tryz.prog 106 sch_sDescribeQuorumResponseTopicPartition true 0 := by
 intro w0 Y b off cs q hC hR hq
 rw [tells_sDescribeQuorumResponseTopicPartition]
 refine c_call Tryz.func106 rfl rfl fun a hk => ?_
 have hk : Kn 181 [(0, .pointer (some ⟨b, off, none⟩))] a := hk
 refine tl_start (m := 8) (su := 6) (sv := 7) treeP rowT (by decide) rfl (by decide) (by decide) (by decide) (by decide) (by decide) (by decide) hC hR hk fun a w1 w rb tb bb Y1 hb hC hR hk ht => ?_
 rw [ddq_sDescribeQuorumResponseTopicPartition] at hR
 have hR := rep_agg_inv hR
 obtain ⟨c0, C0, hC, hR⟩ := cel_unV hC hR
 obtain ⟨c1, C1, hC, hR⟩ := cel_unV hC hR
 obtain ⟨x2, c2, C2, hC, r2, hR⟩ := cel_un1 (one1_ite (one1_v _) (one1_ptr _)) hC hR
 obtain ⟨c3, C3, hC, hR⟩ := cel_unV hC hR
 obtain ⟨c4, C4, hC, hR⟩ := cel_unV hC hR
 obtain ⟨c5, C5, hC, hR⟩ := cel_unV hC hR
 obtain ⟨x6, c6, C6, hC, r6, hR⟩ := cel_un1 (one1_ite (one1_v _) (one1_sl _ _ _)) hC hR
 obtain ⟨x7, c7, C7, hC, r7, hR⟩ := cel_un1 (one1_ite (one1_v _) (one1_sl _ _ _)) hC hR
 obtain ⟨xt, ct, Ct, hC, rt, hR⟩ := cel_un1 (one1_mp _ _) hC hR
 refine tl_num (s := 8) (k := 0)  treeP rfl rfl (by kernel_rfl) (by kernel_rfl) (by decide) (by decide) (by decide) fo_155_0 ts_21 un_21 ti_2 (wrap_in_i64 .i32 (by simp)) (fun _ _ _ _ _ h => h) C0 hk ht fun a w hk ht => ?_
 refine tl_num (s := 17) (k := 1)  treeP rfl rfl (by kernel_rfl) (by kernel_rfl) (by decide) (by decide) (by decide) fo_155_1 ts_46 un_46 ti_2 (wrap_in_i64 .i16 (by simp)) (fun _ _ _ _ _ h => h) C1 hk ht fun a w hk ht => ?_
 refine tl_call (s := 26) (k := 2) (F := 45) (tr := (if (q.at_ 2).z then ofNil else ofOct (q.at_ 2).s)) treeP rfl rfl (by kernel_rfl) (by kernel_rfl) (by decide) (by decide) (by decide) fo_155_2 ts_74 cb_45 (fun hm => textTree_c (q.at_ 2).z (q.at_ 2).s (rep_in hm r2)) (fun _ _ _ _ _ h => h) C2 hk ht fun a w hk ht => ?_
 refine tl_num (s := 34) (k := 3)  treeP rfl rfl (by kernel_rfl) (by kernel_rfl) (by decide) (by decide) (by decide) fo_155_3 ts_21 un_21 ti_2 (wrap_in_i64 .i32 (by simp)) (fun _ _ _ _ _ h => h) C3 hk ht fun a w hk ht => ?_
 refine tl_num (s := 43) (k := 4)  treeP rfl rfl (by kernel_rfl) (by kernel_rfl) (by decide) (by decide) (by decide) fo_155_4 ts_21 un_21 ti_2 (wrap_in_i64 .i32 (by simp)) (fun _ _ _ _ _ h => h) C4 hk ht fun a w hk ht => ?_
 refine tl_raw (s := 52) (k := 5)  treeP rfl rfl (by kernel_rfl) (by kernel_rfl) (by decide) (by decide) (by decide) fo_155_5 ts_2 (fun _ _ _ _ _ h => h) C5 hk ht fun a w hk ht => ?_
 obtain ⟨sp6, cap6, rfl, hz6, r6⟩ := rep_listN (G := (telV 10 (-1) (telP sch_sDescribeQuorumResponseTopicPartitionReplicaState))) r6
 refine tl_null (s := 60) (k := 6)  treeP rfl rfl (by kernel_rfl) (by kernel_rfl) (by decide) (by decide) (by decide) fo_155_6 ts_153 te_153 ts_4 (fun _ _ _ _ _ h => h) C6 hk ht fun a w hk ht => ?_
 refine tl_list (s := 69) (k := 6) (iv := 4) (tz := 115) (tsl := (lzL (q.at_ 6).z (q.at_ 6).l).map (telV 10 (-1) (telP sch_sDescribeQuorumResponseTopicPartitionReplicaState))) treeP tz_4 ts_4 rfl (by kernel_rfl) (by kernel_rfl) (by kernel_rfl) (by kernel_rfl) (by decide) (by decide) (by decide) (by decide) (by decide) (lz_len (fine_at hq 6)) fo_155_6 ts_153 te_153 (fun _ _ _ _ _ h => h) C6 hk ht ?_ ?_ fun a w hk ht => ?_
 ·intro Q j a w hj hQ hk ht K
  obtain ⟨b2, o2, c2, rfl, hE, hCE⟩ := list_at r6 (j := j) (by simpa using hj)
  exact tl_A_call (p := 79) (s := 69) (k := 6) rfl rfl (by kernel_rfl) (by kernel_rfl) (by kernel_rfl) (by kernel_rfl) treeP rowT (by decide) rfl (by decide) (by decide) (by decide) (by decide) hj (lz_len (fine_at hq 6)) fo_155_6 ts_153 te_153 ts_158 cb_126 (fun hm => by rw [getD_mapT hj]; exact tell_sDescribeQuorumResponseTopicPartitionReplicaState (cel_in hm hCE) (rep_in hm hE) (lz_fine (fine_at hq 6) j)) hQ C6 hk ht K
 ·intro Q j a w hj hQ hk ht K
  obtain ⟨b2, o2, c2, rfl, hE, hCE⟩ := list_at r6 (j := j) (by simpa using hj)
  exact tl_B_call (p := 97) (s := 69) (k := 6) (by decide) rfl (by kernel_rfl) (by kernel_rfl) treeP rowT (by decide) rfl (by decide) (by decide) (by decide) (by decide) hj (lz_len (fine_at hq 6)) fo_155_6 ts_153 te_153 ts_158 cb_126 (fun hm => by rw [getD_mapT hj]; exact tell_sDescribeQuorumResponseTopicPartitionReplicaState (cel_in hm hCE) (rep_in hm hE) (lz_fine (fine_at hq 6) j)) hQ C6 hk ht K
 rw [hz6] at ht
 obtain ⟨sp7, cap7, rfl, hz7, r7⟩ := rep_listN (G := (telV 10 (-1) (telP sch_sDescribeQuorumResponseTopicPartitionReplicaState))) r7
 refine tl_null (s := 116) (k := 7)  treeP rfl rfl (by kernel_rfl) (by kernel_rfl) (by decide) (by decide) (by decide) fo_155_7 ts_153 te_153 ts_4 (fun _ _ _ _ _ h => h) C7 hk ht fun a w hk ht => ?_
 refine tl_list (s := 125) (k := 7) (iv := 5) (tz := 171) (tsl := (lzL (q.at_ 7).z (q.at_ 7).l).map (telV 10 (-1) (telP sch_sDescribeQuorumResponseTopicPartitionReplicaState))) treeP tz_4 ts_4 rfl (by kernel_rfl) (by kernel_rfl) (by kernel_rfl) (by kernel_rfl) (by decide) (by decide) (by decide) (by decide) (by decide) (lz_len (fine_at hq 7)) fo_155_7 ts_153 te_153 (fun _ _ _ _ _ h => h) C7 hk ht ?_ ?_ fun a w hk ht => ?_
 ·intro Q j a w hj hQ hk ht K
  obtain ⟨b2, o2, c2, rfl, hE, hCE⟩ := list_at r7 (j := j) (by simpa using hj)
  exact tl_A_call (p := 135) (s := 125) (k := 7) rfl rfl (by kernel_rfl) (by kernel_rfl) (by kernel_rfl) (by kernel_rfl) treeP rowT (by decide) rfl (by decide) (by decide) (by decide) (by decide) hj (lz_len (fine_at hq 7)) fo_155_7 ts_153 te_153 ts_158 cb_126 (fun hm => by rw [getD_mapT hj]; exact tell_sDescribeQuorumResponseTopicPartitionReplicaState (cel_in hm hCE) (rep_in hm hE) (lz_fine (fine_at hq 7) j)) hQ C7 hk ht K
 ·intro Q j a w hj hQ hk ht K
  obtain ⟨b2, o2, c2, rfl, hE, hCE⟩ := list_at r7 (j := j) (by simpa using hj)
  exact tl_B_call (p := 153) (s := 125) (k := 7) (by decide) rfl (by kernel_rfl) (by kernel_rfl) treeP rowT (by decide) rfl (by decide) (by decide) (by decide) (by decide) hj (lz_len (fine_at hq 7)) fo_155_7 ts_153 te_153 ts_158 cb_126 (fun hm => by rw [getD_mapT hj]; exact tell_sDescribeQuorumResponseTopicPartitionReplicaState (cel_in hm hCE) (rep_in hm hE) (lz_fine (fine_at hq 7) j)) hQ C7 hk ht K
 rw [hz7] at ht
 exact tl_end (s := 172) (fE := 48) (fS := 50) (g := 127) treeP tagP each_cP cb_48 sorted_ok cb_50 clo_sDescribeQuorumResponseTopicPartition cb_127 rfl rfl (fun h => Bool.noConfusion h) (by decide) (by decide) (by decide) fo_155_8 Ct rt (fine_spec hq).2.2.2.2.1 (fine_spec hq).2.2.1 (fine_spec hq).2.2.2.1 (sortU_perm _) (sortU_rise (fine_spec hq).2.2.2.2.1) hb hk ht
theorem ddq_sDescribeQuorumResponseTopic (q : T) : ddS sch_sDescribeQuorumResponseTopic true q = .agg [.v (.string (bs (q.at_ 0).s)), if (q.at_ 1).z then .v (.slice none 0 0) else .sl true 9 ((q.at_ 1).l.map (ddS sch_sDescribeQuorumResponseTopicPartition true)), ddTagMap q.u] := rfl
theorem tells_sDescribeQuorumResponseTopic (q : T) : telP sch_sDescribeQuorumResponseTopic q = .mk 0 [] false [ofOct (q.at_ 0).s, .mk 0 [] (q.at_ 1).z ((lzL (q.at_ 1).z (q.at_ 1).l).map (telV 10 (-1) (telP sch_sDescribeQuorumResponseTopicPartition))) []] (sortU q.u) := congrArg (fun l => T.mk 0 [] false l (sortU q.u)) (cons_eq rfl (cons_eq (tel_list _) (rfl)))
theorem clo_sDescribeQuorumResponseTopic : CloOk Tryz.prog 37 69 107 := by
 intro w S k SE tb YE us p lv x h1 h2 h3 h4 h5 h6 h7 h8 h9
 refine c_call Tryz.func107 rfl rfl fun a hk => ?_
 have hk : Kn 14 [(0, .int .u32 (p.1 : Int)), (1, x), (2, .pointer (some ⟨tb, 0, none⟩))] a := hk
 exact tl_clo (s := 5) treeP tagP rfl rfl (by kernel_rfl) (by kernel_rfl) (by decide) (by decide) h1 h2 h3 h4 h5 h6 h7 h8 h9 hk
theorem tell_sDescribeQuorumResponseTopic : TellOk Tryz.prog 63 sch_sDescribeQuorumResponseTopic true 0 := by
 intro w0 Y b off cs q hC hR hq
 rw [tells_sDescribeQuorumResponseTopic]
 refine c_call Tryz.func63 rfl rfl fun a hk => ?_
 have hk : Kn 81 [(0, .pointer (some ⟨b, off, none⟩))] a := hk
 refine tl_start (m := 2) (su := 5) (sv := 6) treeP rowT (by decide) rfl (by decide) (by decide) (by decide) (by decide) (by decide) (by decide) hC hR hk fun a w1 w rb tb bb Y1 hb hC hR hk ht => ?_
 rw [ddq_sDescribeQuorumResponseTopic] at hR
 have hR := rep_agg_inv hR
 obtain ⟨c0, C0, hC, hR⟩ := cel_unV hC hR
 obtain ⟨x1, c1, C1, hC, r1, hR⟩ := cel_un1 (one1_ite (one1_v _) (one1_sl _ _ _)) hC hR
 obtain ⟨xt, ct, Ct, hC, rt, hR⟩ := cel_un1 (one1_mp _ _) hC hR
 refine tl_text (s := 7) (k := 0)  treeP rfl rfl (by kernel_rfl) (by kernel_rfl) (by decide) (by decide) (by decide) fo_114_0 ts_9 is_9 iy_22 (fun _ _ _ _ _ h => h) C0 hk ht fun a w hk ht => ?_
 obtain ⟨sp1, cap1, rfl, hz1, r1⟩ := rep_listN (G := (telV 10 (-1) (telP sch_sDescribeQuorumResponseTopicPartition))) r1
 refine tl_null (s := 16) (k := 1)  treeP rfl rfl (by kernel_rfl) (by kernel_rfl) (by decide) (by decide) (by decide) fo_114_1 ts_112 te_112 ts_4 (fun _ _ _ _ _ h => h) C1 hk ht fun a w hk ht => ?_
 refine tl_list (s := 25) (k := 1) (iv := 4) (tz := 71) (tsl := (lzL (q.at_ 1).z (q.at_ 1).l).map (telV 10 (-1) (telP sch_sDescribeQuorumResponseTopicPartition))) treeP tz_4 ts_4 rfl (by kernel_rfl) (by kernel_rfl) (by kernel_rfl) (by kernel_rfl) (by decide) (by decide) (by decide) (by decide) (by decide) (lz_len (fine_at hq 1)) fo_114_1 ts_112 te_112 (fun _ _ _ _ _ h => h) C1 hk ht ?_ ?_ fun a w hk ht => ?_
 ·intro Q j a w hj hQ hk ht K
  obtain ⟨b2, o2, c2, rfl, hE, hCE⟩ := list_at r1 (j := j) (by simpa using hj)
  exact tl_A_call (p := 35) (s := 25) (k := 1) rfl rfl (by kernel_rfl) (by kernel_rfl) (by kernel_rfl) (by kernel_rfl) treeP rowT (by decide) rfl (by decide) (by decide) (by decide) (by decide) hj (lz_len (fine_at hq 1)) fo_114_1 ts_112 te_112 ts_155 cb_106 (fun hm => by rw [getD_mapT hj]; exact tell_sDescribeQuorumResponseTopicPartition (cel_in hm hCE) (rep_in hm hE) (lz_fine (fine_at hq 1) j)) hQ C1 hk ht K
 ·intro Q j a w hj hQ hk ht K
  obtain ⟨b2, o2, c2, rfl, hE, hCE⟩ := list_at r1 (j := j) (by simpa using hj)
  exact tl_B_call (p := 53) (s := 25) (k := 1) (by decide) rfl (by kernel_rfl) (by kernel_rfl) treeP rowT (by decide) rfl (by decide) (by decide) (by decide) (by decide) hj (lz_len (fine_at hq 1)) fo_114_1 ts_112 te_112 ts_155 cb_106 (fun hm => by rw [getD_mapT hj]; exact tell_sDescribeQuorumResponseTopicPartition (cel_in hm hCE) (rep_in hm hE) (lz_fine (fine_at hq 1) j)) hQ C1 hk ht K
 rw [hz1] at ht
 exact tl_end (s := 72) (fE := 48) (fS := 50) (g := 107) treeP tagP each_cP cb_48 sorted_ok cb_50 clo_sDescribeQuorumResponseTopic cb_107 rfl rfl (fun h => Bool.noConfusion h) (by decide) (by decide) (by decide) fo_114_2 Ct rt (fine_spec hq).2.2.2.2.1 (fine_spec hq).2.2.1 (fine_spec hq).2.2.2.1 (sortU_perm _) (sortU_rise (fine_spec hq).2.2.2.2.1) hb hk ht
theorem ddq_sDescribeQuorumResponseNodeListener (q : T) : ddS sch_sDescribeQuorumResponseNodeListener true q = .agg [.v (.string (bs (q.at_ 0).s)), .v (.string (bs (q.at_ 1).s)), .v (.int .u16 (IntKind.u16.wrap (q.at_ 2).n)), ddTagMap q.u] := rfl
theorem tells_sDescribeQuorumResponseNodeListener (q : T) : telP sch_sDescribeQuorumResponseNodeListener q = .mk 0 [] false [ofOct (q.at_ 0).s, ofOct (q.at_ 1).s, ofNum (IntKind.u16.wrap (q.at_ 2).n)] (sortU q.u) := congrArg (fun l => T.mk 0 [] false l (sortU q.u)) (cons_eq rfl (cons_eq rfl (cons_eq rfl (rfl))))
theorem clo_sDescribeQuorumResponseNodeListener : CloOk Tryz.prog 37 69 128 := by
 intro w S k SE tb YE us p lv x h1 h2 h3 h4 h5 h6 h7 h8 h9
 refine c_call Tryz.func128 rfl rfl fun a hk => ?_
 have hk : Kn 14 [(0, .int .u32 (p.1 : Int)), (1, x), (2, .pointer (some ⟨tb, 0, none⟩))] a := hk
 exact tl_clo (s := 5) treeP tagP rfl rfl (by kernel_rfl) (by kernel_rfl) (by decide) (by decide) h1 h2 h3 h4 h5 h6 h7 h8 h9 hk
theorem tell_sDescribeQuorumResponseNodeListener : TellOk Tryz.prog 108 sch_sDescribeQuorumResponseNodeListener true 0 := by
 intro w0 Y b off cs q hC hR hq
 rw [tells_sDescribeQuorumResponseNodeListener]
 refine c_call Tryz.func108 rfl rfl fun a hk => ?_
 have hk : Kn 42 [(0, .pointer (some ⟨b, off, none⟩))] a := hk
 refine tl_start (m := 3) (su := 4) (sv := 5) treeP rowT (by decide) rfl (by decide) (by decide) (by decide) (by decide) (by decide) (by decide) hC hR hk fun a w1 w rb tb bb Y1 hb hC hR hk ht => ?_
 rw [ddq_sDescribeQuorumResponseNodeListener] at hR
 have hR := rep_agg_inv hR
 obtain ⟨c0, C0, hC, hR⟩ := cel_unV hC hR
 obtain ⟨c1, C1, hC, hR⟩ := cel_unV hC hR
 obtain ⟨c2, C2, hC, hR⟩ := cel_unV hC hR
 obtain ⟨xt, ct, Ct, hC, rt, hR⟩ := cel_un1 (one1_mp _ _) hC hR
 refine tl_text (s := 6) (k := 0)  treeP rfl rfl (by kernel_rfl) (by kernel_rfl) (by decide) (by decide) (by decide) fo_161_0 ts_9 is_9 iy_22 (fun _ _ _ _ _ h => h) C0 hk ht fun a w hk ht => ?_
 refine tl_text (s := 15) (k := 1)  treeP rfl rfl (by kernel_rfl) (by kernel_rfl) (by decide) (by decide) (by decide) fo_161_1 ts_9 is_9 iy_22 (fun _ _ _ _ _ h => h) C1 hk ht fun a w hk ht => ?_
 refine tl_num (s := 24) (k := 2)  treeP rfl rfl (by kernel_rfl) (by kernel_rfl) (by decide) (by decide) (by decide) fo_161_2 ts_151 un_151 ti_2 (wrap_in_i64 .u16 (by simp)) (fun _ _ _ _ _ h => h) C2 hk ht fun a w hk ht => ?_
 exact tl_end (s := 33) (fE := 48) (fS := 50) (g := 128) treeP tagP each_cP cb_48 sorted_ok cb_50 clo_sDescribeQuorumResponseNodeListener cb_128 rfl rfl (fun h => Bool.noConfusion h) (by decide) (by decide) (by decide) fo_161_3 Ct rt (fine_spec hq).2.2.2.2.1 (fine_spec hq).2.2.1 (fine_spec hq).2.2.2.1 (sortU_perm _) (sortU_rise (fine_spec hq).2.2.2.2.1) hb hk ht
theorem ddq_sDescribeQuorumResponseNode (q : T) : ddS sch_sDescribeQuorumResponseNode true q = .agg [.v (.int .i32 (IntKind.i32.wrap (q.at_ 0).n)), if (q.at_ 1).z then .v (.slice none 0 0) else .sl true 4 ((q.at_ 1).l.map (ddS sch_sDescribeQuorumResponseNodeListener true)), ddTagMap q.u] := rfl
theorem tells_sDescribeQuorumResponseNode (q : T) : telP sch_sDescribeQuorumResponseNode q = .mk 0 [] false [ofNum (IntKind.i32.wrap (q.at_ 0).n), .mk 0 [] (q.at_ 1).z ((lzL (q.at_ 1).z (q.at_ 1).l).map (telV 10 (-1) (telP sch_sDescribeQuorumResponseNodeListener))) []] (sortU q.u) := congrArg (fun l => T.mk 0 [] false l (sortU q.u)) (cons_eq rfl (cons_eq (tel_list _) (rfl)))
theorem clo_sDescribeQuorumResponseNode : CloOk Tryz.prog 37 69 109 := by
 intro w S k SE tb YE us p lv x h1 h2 h3 h4 h5 h6 h7 h8 h9
 refine c_call Tryz.func109 rfl rfl fun a hk => ?_
 have hk : Kn 14 [(0, .int .u32 (p.1 : Int)), (1, x), (2, .pointer (some ⟨tb, 0, none⟩))] a := hk
 exact tl_clo (s := 5) treeP tagP rfl rfl (by kernel_rfl) (by kernel_rfl) (by decide) (by decide) h1 h2 h3 h4 h5 h6 h7 h8 h9 hk
theorem tell_sDescribeQuorumResponseNode : TellOk Tryz.prog 64 sch_sDescribeQuorumResponseNode true 0 := by
 intro w0 Y b off cs q hC hR hq
 rw [tells_sDescribeQuorumResponseNode]
 refine c_call Tryz.func64 rfl rfl fun a hk => ?_
 have hk : Kn 81 [(0, .pointer (some ⟨b, off, none⟩))] a := hk
 refine tl_start (m := 2) (su := 5) (sv := 6) treeP rowT (by decide) rfl (by decide) (by decide) (by decide) (by decide) (by decide) (by decide) hC hR hk fun a w1 w rb tb bb Y1 hb hC hR hk ht => ?_
 rw [ddq_sDescribeQuorumResponseNode] at hR
 have hR := rep_agg_inv hR
 obtain ⟨c0, C0, hC, hR⟩ := cel_unV hC hR
 obtain ⟨x1, c1, C1, hC, r1, hR⟩ := cel_un1 (one1_ite (one1_v _) (one1_sl _ _ _)) hC hR
 obtain ⟨xt, ct, Ct, hC, rt, hR⟩ := cel_un1 (one1_mp _ _) hC hR
 refine tl_num (s := 7) (k := 0)  treeP rfl rfl (by kernel_rfl) (by kernel_rfl) (by decide) (by decide) (by decide) fo_119_0 ts_21 un_21 ti_2 (wrap_in_i64 .i32 (by simp)) (fun _ _ _ _ _ h => h) C0 hk ht fun a w hk ht => ?_
 obtain ⟨sp1, cap1, rfl, hz1, r1⟩ := rep_listN (G := (telV 10 (-1) (telP sch_sDescribeQuorumResponseNodeListener))) r1
 refine tl_null (s := 16) (k := 1)  treeP rfl rfl (by kernel_rfl) (by kernel_rfl) (by decide) (by decide) (by decide) fo_119_1 ts_117 te_117 ts_4 (fun _ _ _ _ _ h => h) C1 hk ht fun a w hk ht => ?_
 refine tl_list (s := 25) (k := 1) (iv := 4) (tz := 71) (tsl := (lzL (q.at_ 1).z (q.at_ 1).l).map (telV 10 (-1) (telP sch_sDescribeQuorumResponseNodeListener))) treeP tz_4 ts_4 rfl (by kernel_rfl) (by kernel_rfl) (by kernel_rfl) (by kernel_rfl) (by decide) (by decide) (by decide) (by decide) (by decide) (lz_len (fine_at hq 1)) fo_119_1 ts_117 te_117 (fun _ _ _ _ _ h => h) C1 hk ht ?_ ?_ fun a w hk ht => ?_
 ·intro Q j a w hj hQ hk ht K
  obtain ⟨b2, o2, c2, rfl, hE, hCE⟩ := list_at r1 (j := j) (by simpa using hj)
  exact tl_A_call (p := 35) (s := 25) (k := 1) rfl rfl (by kernel_rfl) (by kernel_rfl) (by kernel_rfl) (by kernel_rfl) treeP rowT (by decide) rfl (by decide) (by decide) (by decide) (by decide) hj (lz_len (fine_at hq 1)) fo_119_1 ts_117 te_117 ts_161 cb_108 (fun hm => by rw [getD_mapT hj]; exact tell_sDescribeQuorumResponseNodeListener (cel_in hm hCE) (rep_in hm hE) (lz_fine (fine_at hq 1) j)) hQ C1 hk ht K
 ·intro Q j a w hj hQ hk ht K
  obtain ⟨b2, o2, c2, rfl, hE, hCE⟩ := list_at r1 (j := j) (by simpa using hj)
  exact tl_B_call (p := 53) (s := 25) (k := 1) (by decide) rfl (by kernel_rfl) (by kernel_rfl) treeP rowT (by decide) rfl (by decide) (by decide) (by decide) (by decide) hj (lz_len (fine_at hq 1)) fo_119_1 ts_117 te_117 ts_161 cb_108 (fun hm => by rw [getD_mapT hj]; exact tell_sDescribeQuorumResponseNodeListener (cel_in hm hCE) (rep_in hm hE) (lz_fine (fine_at hq 1) j)) hQ C1 hk ht K
 rw [hz1] at ht
 exact tl_end (s := 72) (fE := 48) (fS := 50) (g := 109) treeP tagP each_cP cb_48 sorted_ok cb_50 clo_sDescribeQuorumResponseNode cb_109 rfl rfl (fun h => Bool.noConfusion h) (by decide) (by decide) (by decide) fo_119_2 Ct rt (fine_spec hq).2.2.2.2.1 (fine_spec hq).2.2.1 (fine_spec hq).2.2.2.1 (sortU_perm _) (sortU_rise (fine_spec hq).2.2.2.2.1) hb hk ht
theorem ddq_DescribeQuorumResponse (q : T) : ddS sch_DescribeQuorumResponse true q = .agg [.v (.int .i16 (IntKind.i16.wrap (q.at_ 0).n)), if (q.at_ 1).z then .v (.pointer none) else .ptr (.v (.string (bs (q.at_ 1).s))), if (q.at_ 2).z then .v (.slice none 0 0) else .sl true 3 ((q.at_ 2).l.map (ddS sch_sDescribeQuorumResponseTopic true)), if (q.at_ 3).z then .v (.slice none 0 0) else .sl true 3 ((q.at_ 3).l.map (ddS sch_sDescribeQuorumResponseNode true)), ddTagMap q.u] := rfl
theorem tells_DescribeQuorumResponse (q : T) : telP sch_DescribeQuorumResponse q = .mk 0 [] false [ofNum (IntKind.i16.wrap (q.at_ 0).n), (if (q.at_ 1).z then ofNil else ofOct (q.at_ 1).s), .mk 0 [] (q.at_ 2).z ((lzL (q.at_ 2).z (q.at_ 2).l).map (telV 10 (-1) (telP sch_sDescribeQuorumResponseTopic))) [], .mk 0 [] (q.at_ 3).z ((lzL (q.at_ 3).z (q.at_ 3).l).map (telV 10 (-1) (telP sch_sDescribeQuorumResponseNode))) []] (sortU q.u) := congrArg (fun l => T.mk 0 [] false l (sortU q.u)) (cons_eq rfl (cons_eq (tel_textN (nu := 2) (q.at_ 1) (by decide)) (cons_eq (tel_list _) (cons_eq (tel_list _) (rfl)))))
theorem clo_DescribeQuorumResponse : CloOk Tryz.prog 37 69 65 := by
 intro w S k SE tb YE us p lv x h1 h2 h3 h4 h5 h6 h7 h8 h9
 refine c_call Tryz.func65 rfl rfl fun a hk => ?_
 have hk : Kn 14 [(0, .int .u32 (p.1 : Int)), (1, x), (2, .pointer (some ⟨tb, 0, none⟩))] a := hk
 exact tl_clo (s := 5) treeP tagP rfl rfl (by kernel_rfl) (by kernel_rfl) (by decide) (by decide) h1 h2 h3 h4 h5 h6 h7 h8 h9 hk
theorem tell_DescribeQuorumResponse : TellOk Tryz.prog 40 sch_DescribeQuorumResponse true 1 := by
 intro w0 Y b off cs q hC hR hq
 rw [tells_DescribeQuorumResponse]
 refine c_call Tryz.func40 rfl rfl fun a hk => ?_
 have hk : Kn 146 [(0, .pointer (some ⟨b, off, none⟩))] a := hk
 refine tl_start (m := 4) (su := 6) (sv := 7) treeP rowT (by decide) rfl (by decide) (by decide) (by decide) (by decide) (by decide) (by decide) hC hR hk fun a w1 w rb tb bb Y1 hb hC hR hk ht => ?_
 rw [ddq_DescribeQuorumResponse] at hR
 have hR := rep_agg_inv hR
 obtain ⟨c0, C0, hC, hR⟩ := cel_unV hC hR
 obtain ⟨x1, c1, C1, hC, r1, hR⟩ := cel_un1 (one1_ite (one1_v _) (one1_ptr _)) hC hR
 obtain ⟨x2, c2, C2, hC, r2, hR⟩ := cel_un1 (one1_ite (one1_v _) (one1_sl _ _ _)) hC hR
 obtain ⟨x3, c3, C3, hC, r3, hR⟩ := cel_un1 (one1_ite (one1_v _) (one1_sl _ _ _)) hC hR
 obtain ⟨xt, ct, Ct, hC, rt, hR⟩ := cel_un1 (one1_mp _ _) hC hR
 refine tl_num (s := 8) (k := 0)  treeP rfl rfl (by kernel_rfl) (by kernel_rfl) (by decide) (by decide) (by decide) fo_109_1 ts_46 un_46 ti_2 (wrap_in_i64 .i16 (by simp)) (fun _ _ _ _ _ h => h) C0 hk ht fun a w hk ht => ?_
 refine tl_call (s := 17) (k := 1) (F := 45) (tr := (if (q.at_ 1).z then ofNil else ofOct (q.at_ 1).s)) treeP rfl rfl (by kernel_rfl) (by kernel_rfl) (by decide) (by decide) (by decide) fo_109_2 ts_74 cb_45 (fun hm => textTree_c (q.at_ 1).z (q.at_ 1).s (rep_in hm r1)) (fun _ _ _ _ _ h => h) C1 hk ht fun a w hk ht => ?_
 obtain ⟨sp2, cap2, rfl, hz2, r2⟩ := rep_listN (G := (telV 10 (-1) (telP sch_sDescribeQuorumResponseTopic))) r2
 refine tl_null (s := 25) (k := 2)  treeP rfl rfl (by kernel_rfl) (by kernel_rfl) (by decide) (by decide) (by decide) fo_109_3 ts_106 te_106 ts_4 (fun _ _ _ _ _ h => h) C2 hk ht fun a w hk ht => ?_
 refine tl_list (s := 34) (k := 2) (iv := 4) (tz := 80) (tsl := (lzL (q.at_ 2).z (q.at_ 2).l).map (telV 10 (-1) (telP sch_sDescribeQuorumResponseTopic))) treeP tz_4 ts_4 rfl (by kernel_rfl) (by kernel_rfl) (by kernel_rfl) (by kernel_rfl) (by decide) (by decide) (by decide) (by decide) (by decide) (lz_len (fine_at hq 2)) fo_109_3 ts_106 te_106 (fun _ _ _ _ _ h => h) C2 hk ht ?_ ?_ fun a w hk ht => ?_
 ·intro Q j a w hj hQ hk ht K
  obtain ⟨b2, o2, c2, rfl, hE, hCE⟩ := list_at r2 (j := j) (by simpa using hj)
  exact tl_A_call (p := 44) (s := 34) (k := 2) rfl rfl (by kernel_rfl) (by kernel_rfl) (by kernel_rfl) (by kernel_rfl) treeP rowT (by decide) rfl (by decide) (by decide) (by decide) (by decide) hj (lz_len (fine_at hq 2)) fo_109_3 ts_106 te_106 ts_114 cb_63 (fun hm => by rw [getD_mapT hj]; exact tell_sDescribeQuorumResponseTopic (cel_in hm hCE) (rep_in hm hE) (lz_fine (fine_at hq 2) j)) hQ C2 hk ht K
 ·intro Q j a w hj hQ hk ht K
  obtain ⟨b2, o2, c2, rfl, hE, hCE⟩ := list_at r2 (j := j) (by simpa using hj)
  exact tl_B_call (p := 62) (s := 34) (k := 2) (by decide) rfl (by kernel_rfl) (by kernel_rfl) treeP rowT (by decide) rfl (by decide) (by decide) (by decide) (by decide) hj (lz_len (fine_at hq 2)) fo_109_3 ts_106 te_106 ts_114 cb_63 (fun hm => by rw [getD_mapT hj]; exact tell_sDescribeQuorumResponseTopic (cel_in hm hCE) (rep_in hm hE) (lz_fine (fine_at hq 2) j)) hQ C2 hk ht K
 rw [hz2] at ht
 obtain ⟨sp3, cap3, rfl, hz3, r3⟩ := rep_listN (G := (telV 10 (-1) (telP sch_sDescribeQuorumResponseNode))) r3
 refine tl_null (s := 81) (k := 3)  treeP rfl rfl (by kernel_rfl) (by kernel_rfl) (by decide) (by decide) (by decide) fo_109_4 ts_107 te_107 ts_4 (fun _ _ _ _ _ h => h) C3 hk ht fun a w hk ht => ?_
 refine tl_list (s := 90) (k := 3) (iv := 5) (tz := 136) (tsl := (lzL (q.at_ 3).z (q.at_ 3).l).map (telV 10 (-1) (telP sch_sDescribeQuorumResponseNode))) treeP tz_4 ts_4 rfl (by kernel_rfl) (by kernel_rfl) (by kernel_rfl) (by kernel_rfl) (by decide) (by decide) (by decide) (by decide) (by decide) (lz_len (fine_at hq 3)) fo_109_4 ts_107 te_107 (fun _ _ _ _ _ h => h) C3 hk ht ?_ ?_ fun a w hk ht => ?_
 ·intro Q j a w hj hQ hk ht K
  obtain ⟨b2, o2, c2, rfl, hE, hCE⟩ := list_at r3 (j := j) (by simpa using hj)
  exact tl_A_call (p := 100) (s := 90) (k := 3) rfl rfl (by kernel_rfl) (by kernel_rfl) (by kernel_rfl) (by kernel_rfl) treeP rowT (by decide) rfl (by decide) (by decide) (by decide) (by decide) hj (lz_len (fine_at hq 3)) fo_109_4 ts_107 te_107 ts_119 cb_64 (fun hm => by rw [getD_mapT hj]; exact tell_sDescribeQuorumResponseNode (cel_in hm hCE) (rep_in hm hE) (lz_fine (fine_at hq 3) j)) hQ C3 hk ht K
 ·intro Q j a w hj hQ hk ht K
  obtain ⟨b2, o2, c2, rfl, hE, hCE⟩ := list_at r3 (j := j) (by simpa using hj)
  exact tl_B_call (p := 118) (s := 90) (k := 3) (by decide) rfl (by kernel_rfl) (by kernel_rfl) treeP rowT (by decide) rfl (by decide) (by decide) (by decide) (by decide) hj (lz_len (fine_at hq 3)) fo_109_4 ts_107 te_107 ts_119 cb_64 (fun hm => by rw [getD_mapT hj]; exact tell_sDescribeQuorumResponseNode (cel_in hm hCE) (rep_in hm hE) (lz_fine (fine_at hq 3) j)) hQ C3 hk ht K
 rw [hz3] at ht
 exact tl_end (s := 137) (fE := 48) (fS := 50) (g := 65) treeP tagP each_cP cb_48 sorted_ok cb_50 clo_DescribeQuorumResponse cb_65 rfl rfl (fun h => Bool.noConfusion h) (by decide) (by decide) (by decide) fo_109_5 Ct rt (fine_spec hq).2.2.2.2.1 (fine_spec hq).2.2.1 (fine_spec hq).2.2.2.1 (sortU_perm _) (sortU_rise (fine_spec hq).2.2.2.2.1) hb hk ht
end Go.Proofs.YtnoklacheaplkabGreatDoor
