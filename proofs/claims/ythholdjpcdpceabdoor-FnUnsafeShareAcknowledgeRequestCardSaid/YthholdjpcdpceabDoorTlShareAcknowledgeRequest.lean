/- Walks of functions that the laws of this seat reach. No statement of the seat stands here. -/
import Derived.Test.YthholdjpcdpceabDoorL3
import Derived.Test.YthholdjpcdpceabDoorRows
import Derived.Test.YthholdjpcdpceabDoorFa
import Derived.Test.YthholdjpcdpceabDoorTt
import Derived.Test.YthholdjpcdpceabDoorTf
import Derived.Test.YthholdjpcdpceabDoorTg2
import Derived.Test.YthholdjpcdpceabDoorTh
import Derived.Test.YthholdjpcdpceabDoorSch
namespace Go.Proofs.YthholdjpcdpceabDoor
open Go Go.Mk
theorem ddq_sShareAcknowledgeRequestTopicPartitionAcknowledgementBatch (q : T) : ddS sch_sShareAcknowledgeRequestTopicPartitionAcknowledgementBatch true q = .agg [.v (.int .i64 (q.at_ 0).n), .v (.int .i64 (q.at_ 1).n), if (q.at_ 2).z then .v (.slice none 0 0) else .sl true 1 ((q.at_ 2).l.map (fun x : T => DD.v (.int .i8 (IntKind.i8.wrap x.n)))), ddTagMap q.u] := rfl
theorem tells_sShareAcknowledgeRequestTopicPartitionAcknowledgementBatch (q : T) : telP sch_sShareAcknowledgeRequestTopicPartitionAcknowledgementBatch q = .mk 0 [] false [ofNum (q.at_ 0).n, ofNum (q.at_ 1).n, .mk 0 [] (q.at_ 2).z ((lzL (q.at_ 2).z (q.at_ 2).l).map (telV 1 (-1) (telP []))) []] (sortU q.u) := congrArg (fun l => T.mk 0 [] false l (sortU q.u)) (cons_eq rfl (cons_eq rfl (cons_eq (tel_list _) (rfl))))
theorem clo_sShareAcknowledgeRequestTopicPartitionAcknowledgementBatch : CloOk Tryd.prog 27 51 161 := by
 intro w S k SE tb YE us p lv x h1 h2 h3 h4 h5 h6 h7 h8 h9
 refine c_call Tryd.func161 rfl rfl fun a hk => ?_
 have hk : Kn 14 [(0, .int .u32 (p.1 : Int)), (1, x), (2, .pointer (some ⟨tb, 0, none⟩))] a := hk
 exact tl_clo (s := 5) treeP tagP rfl rfl (by kernel_rfl) (by kernel_rfl) (by decide) (by decide) h1 h2 h3 h4 h5 h6 h7 h8 h9 hk
theorem tell_sShareAcknowledgeRequestTopicPartitionAcknowledgementBatch : TellOk Tryd.prog 137 sch_sShareAcknowledgeRequestTopicPartitionAcknowledgementBatch true 0 := by
 intro w0 Y b off cs q hC hR hq
 rw [tells_sShareAcknowledgeRequestTopicPartitionAcknowledgementBatch]
 refine c_call Tryd.func137 rfl rfl fun a hk => ?_
 have hk : Kn 92 [(0, .pointer (some ⟨b, off, none⟩))] a := hk
 refine tl_start (m := 3) (su := 5) (sv := 6) treeP rowT (by decide) rfl (by decide) (by decide) (by decide) (by decide) (by decide) (by decide) hC hR hk fun a w1 w rb tb bb Y1 hb hC hR hk ht => ?_
 rw [ddq_sShareAcknowledgeRequestTopicPartitionAcknowledgementBatch] at hR
 have hR := rep_agg_inv hR
 obtain ⟨c0, C0, hC, hR⟩ := cel_unV hC hR
 obtain ⟨c1, C1, hC, hR⟩ := cel_unV hC hR
 obtain ⟨x2, c2, C2, hC, r2, hR⟩ := cel_un1 (one1_ite (one1_v _) (one1_sl _ _ _)) hC hR
 obtain ⟨xt, ct, Ct, hC, rt, hR⟩ := cel_un1 (one1_mp _ _) hC hR
 refine tl_raw (s := 7) (k := 0)  treeP rfl rfl (by kernel_rfl) (by kernel_rfl) (by decide) (by decide) (by decide) fo_151_0 ts_2 (fun _ _ _ _ _ h => h) C0 hk ht fun a w hk ht => ?_
 refine tl_raw (s := 15) (k := 1)  treeP rfl rfl (by kernel_rfl) (by kernel_rfl) (by decide) (by decide) (by decide) fo_151_1 ts_2 (fun _ _ _ _ _ h => h) C1 hk ht fun a w hk ht => ?_
 obtain ⟨sp2, cap2, rfl, hz2, r2⟩ := rep_listN (G := (telV 1 (-1) (telP []))) r2
 refine tl_null (s := 23) (k := 2)  treeP rfl rfl (by kernel_rfl) (by kernel_rfl) (by decide) (by decide) (by decide) fo_151_2 ts_149 te_149 ts_4 (fun _ _ _ _ _ h => h) C2 hk ht fun a w hk ht => ?_
 refine tl_list (s := 32) (k := 2) (iv := 4) (tz := 82) (tsl := (lzL (q.at_ 2).z (q.at_ 2).l).map (telV 1 (-1) (telP []))) treeP tz_4 ts_4 rfl (by kernel_rfl) (by kernel_rfl) (by kernel_rfl) (by kernel_rfl) (by decide) (by decide) (by decide) (by decide) (by decide) (lz_len (fine_at hq 2)) fo_151_2 ts_149 te_149 (fun _ _ _ _ _ h => h) C2 hk ht ?_ ?_ fun a w hk ht => ?_
 ·intro Q j a w hj hQ hk ht K
  obtain ⟨b2, o2, c2, rfl, hE, hCE⟩ := list_at r2 (j := j) (by simpa using hj)
  exact tl_A_num (iE := fun j => IntKind.i8.wrap ((lzL (q.at_ 2).z (q.at_ 2).l).getD j T.nil).n) (p := 42) (s := 32) (k := 2) rfl rfl (by kernel_rfl) (by kernel_rfl) treeP rowT (by decide) rfl (by decide) (by decide) (by decide) (by decide) hj (lz_len (fine_at hq 2)) fo_151_2 ts_149 te_149 ts_135 ts_135 un_135 ti_2 (cel_v hE hCE) (by rw [getD_mapT hj, wrap_in_i64 .i8 (by simp)]; rfl) hQ C2 hk ht K
 ·intro Q j a w hj hQ hk ht K
  obtain ⟨b2, o2, c2, rfl, hE, hCE⟩ := list_at r2 (j := j) (by simpa using hj)
  exact tl_B_num (iE := fun j => IntKind.i8.wrap ((lzL (q.at_ 2).z (q.at_ 2).l).getD j T.nil).n) (p := 62) (s := 32) (k := 2) (by decide) rfl (by kernel_rfl) (by kernel_rfl) treeP rowT (by decide) rfl (by decide) (by decide) (by decide) (by decide) hj (lz_len (fine_at hq 2)) fo_151_2 ts_149 te_149 ts_135 ts_135 un_135 ti_2 (cel_v hE hCE) (by rw [getD_mapT hj, wrap_in_i64 .i8 (by simp)]; rfl) hQ C2 hk ht K
 rw [hz2] at ht
 exact tl_end (s := 83) (fE := 61) (fS := 63) (g := 161) treeP tagP each_cP cb_61 sorted_ok cb_63 clo_sShareAcknowledgeRequestTopicPartitionAcknowledgementBatch cb_161 rfl rfl (fun h => Bool.noConfusion h) (by decide) (by decide) (by decide) fo_151_3 Ct rt (fine_spec hq).2.2.2.2.1 (fine_spec hq).2.2.1 (fine_spec hq).2.2.2.1 (sortU_perm _) (sortU_rise (fine_spec hq).2.2.2.2.1) hb hk ht
theorem ddq_sShareAcknowledgeRequestTopicPartition (q : T) : ddS sch_sShareAcknowledgeRequestTopicPartition true q = .agg [.v (.int .i32 (IntKind.i32.wrap (q.at_ 0).n)), if (q.at_ 1).z then .v (.slice none 0 0) else .sl true 4 ((q.at_ 1).l.map (ddS sch_sShareAcknowledgeRequestTopicPartitionAcknowledgementBatch true)), ddTagMap q.u] := rfl
theorem tells_sShareAcknowledgeRequestTopicPartition (q : T) : telP sch_sShareAcknowledgeRequestTopicPartition q = .mk 0 [] false [ofNum (IntKind.i32.wrap (q.at_ 0).n), .mk 0 [] (q.at_ 1).z ((lzL (q.at_ 1).z (q.at_ 1).l).map (telV 10 (-1) (telP sch_sShareAcknowledgeRequestTopicPartitionAcknowledgementBatch))) []] (sortU q.u) := congrArg (fun l => T.mk 0 [] false l (sortU q.u)) (cons_eq rfl (cons_eq (tel_list _) (rfl)))
theorem clo_sShareAcknowledgeRequestTopicPartition : CloOk Tryd.prog 27 51 138 := by
 intro w S k SE tb YE us p lv x h1 h2 h3 h4 h5 h6 h7 h8 h9
 refine c_call Tryd.func138 rfl rfl fun a hk => ?_
 have hk : Kn 14 [(0, .int .u32 (p.1 : Int)), (1, x), (2, .pointer (some ⟨tb, 0, none⟩))] a := hk
 exact tl_clo (s := 5) treeP tagP rfl rfl (by kernel_rfl) (by kernel_rfl) (by decide) (by decide) h1 h2 h3 h4 h5 h6 h7 h8 h9 hk
theorem tell_sShareAcknowledgeRequestTopicPartition : TellOk Tryd.prog 121 sch_sShareAcknowledgeRequestTopicPartition true 0 := by
 intro w0 Y b off cs q hC hR hq
 rw [tells_sShareAcknowledgeRequestTopicPartition]
 refine c_call Tryd.func121 rfl rfl fun a hk => ?_
 have hk : Kn 81 [(0, .pointer (some ⟨b, off, none⟩))] a := hk
 refine tl_start (m := 2) (su := 5) (sv := 6) treeP rowT (by decide) rfl (by decide) (by decide) (by decide) (by decide) (by decide) (by decide) hC hR hk fun a w1 w rb tb bb Y1 hb hC hR hk ht => ?_
 rw [ddq_sShareAcknowledgeRequestTopicPartition] at hR
 have hR := rep_agg_inv hR
 obtain ⟨c0, C0, hC, hR⟩ := cel_unV hC hR
 obtain ⟨x1, c1, C1, hC, r1, hR⟩ := cel_un1 (one1_ite (one1_v _) (one1_sl _ _ _)) hC hR
 obtain ⟨xt, ct, Ct, hC, rt, hR⟩ := cel_un1 (one1_mp _ _) hC hR
 refine tl_num (s := 7) (k := 0)  treeP rfl rfl (by kernel_rfl) (by kernel_rfl) (by decide) (by decide) (by decide) fo_147_0 ts_21 un_21 ti_2 (wrap_in_i64 .i32 (by simp)) (fun _ _ _ _ _ h => h) C0 hk ht fun a w hk ht => ?_
 obtain ⟨sp1, cap1, rfl, hz1, r1⟩ := rep_listN (G := (telV 10 (-1) (telP sch_sShareAcknowledgeRequestTopicPartitionAcknowledgementBatch))) r1
 refine tl_null (s := 16) (k := 1)  treeP rfl rfl (by kernel_rfl) (by kernel_rfl) (by decide) (by decide) (by decide) fo_147_1 ts_145 te_145 ts_4 (fun _ _ _ _ _ h => h) C1 hk ht fun a w hk ht => ?_
 refine tl_list (s := 25) (k := 1) (iv := 4) (tz := 71) (tsl := (lzL (q.at_ 1).z (q.at_ 1).l).map (telV 10 (-1) (telP sch_sShareAcknowledgeRequestTopicPartitionAcknowledgementBatch))) treeP tz_4 ts_4 rfl (by kernel_rfl) (by kernel_rfl) (by kernel_rfl) (by kernel_rfl) (by decide) (by decide) (by decide) (by decide) (by decide) (lz_len (fine_at hq 1)) fo_147_1 ts_145 te_145 (fun _ _ _ _ _ h => h) C1 hk ht ?_ ?_ fun a w hk ht => ?_
 ·intro Q j a w hj hQ hk ht K
  obtain ⟨b2, o2, c2, rfl, hE, hCE⟩ := list_at r1 (j := j) (by simpa using hj)
  exact tl_A_call (p := 35) (s := 25) (k := 1) rfl rfl (by kernel_rfl) (by kernel_rfl) (by kernel_rfl) (by kernel_rfl) treeP rowT (by decide) rfl (by decide) (by decide) (by decide) (by decide) hj (lz_len (fine_at hq 1)) fo_147_1 ts_145 te_145 ts_151 cb_137 (fun hm => by rw [getD_mapT hj]; exact tell_sShareAcknowledgeRequestTopicPartitionAcknowledgementBatch (cel_in hm hCE) (rep_in hm hE) (lz_fine (fine_at hq 1) j)) hQ C1 hk ht K
 ·intro Q j a w hj hQ hk ht K
  obtain ⟨b2, o2, c2, rfl, hE, hCE⟩ := list_at r1 (j := j) (by simpa using hj)
  exact tl_B_call (p := 53) (s := 25) (k := 1) (by decide) rfl (by kernel_rfl) (by kernel_rfl) treeP rowT (by decide) rfl (by decide) (by decide) (by decide) (by decide) hj (lz_len (fine_at hq 1)) fo_147_1 ts_145 te_145 ts_151 cb_137 (fun hm => by rw [getD_mapT hj]; exact tell_sShareAcknowledgeRequestTopicPartitionAcknowledgementBatch (cel_in hm hCE) (rep_in hm hE) (lz_fine (fine_at hq 1) j)) hQ C1 hk ht K
 rw [hz1] at ht
 exact tl_end (s := 72) (fE := 61) (fS := 63) (g := 138) treeP tagP each_cP cb_61 sorted_ok cb_63 clo_sShareAcknowledgeRequestTopicPartition cb_138 rfl rfl (fun h => Bool.noConfusion h) (by decide) (by decide) (by decide) fo_147_2 Ct rt (fine_spec hq).2.2.2.2.1 (fine_spec hq).2.2.1 (fine_spec hq).2.2.2.1 (sortU_perm _) (sortU_rise (fine_spec hq).2.2.2.2.1) hb hk ht
theorem ddq_sShareAcknowledgeRequestTopic (q : T) : ddS sch_sShareAcknowledgeRequestTopic true q = .agg [.agg ((sixteen (q.at_ 0).s).map ddB), if (q.at_ 1).z then .v (.slice none 0 0) else .sl true 3 ((q.at_ 1).l.map (ddS sch_sShareAcknowledgeRequestTopicPartition true)), ddTagMap q.u] := rfl
theorem tells_sShareAcknowledgeRequestTopic (q : T) : telP sch_sShareAcknowledgeRequestTopic q = .mk 0 [] false [ofOct (sixteen (q.at_ 0).s), .mk 0 [] (q.at_ 1).z ((lzL (q.at_ 1).z (q.at_ 1).l).map (telV 10 (-1) (telP sch_sShareAcknowledgeRequestTopicPartition))) []] (sortU q.u) := congrArg (fun l => T.mk 0 [] false l (sortU q.u)) (cons_eq rfl (cons_eq (tel_list _) (rfl)))
theorem clo_sShareAcknowledgeRequestTopic : CloOk Tryd.prog 27 51 122 := by
 intro w S k SE tb YE us p lv x h1 h2 h3 h4 h5 h6 h7 h8 h9
 refine c_call Tryd.func122 rfl rfl fun a hk => ?_
 have hk : Kn 14 [(0, .int .u32 (p.1 : Int)), (1, x), (2, .pointer (some ⟨tb, 0, none⟩))] a := hk
 exact tl_clo (s := 5) treeP tagP rfl rfl (by kernel_rfl) (by kernel_rfl) (by decide) (by decide) h1 h2 h3 h4 h5 h6 h7 h8 h9 hk
theorem tell_sShareAcknowledgeRequestTopic : TellOk Tryd.prog 81 sch_sShareAcknowledgeRequestTopic true 0 := by
 intro w0 Y b off cs q hC hR hq
 rw [tells_sShareAcknowledgeRequestTopic]
 refine c_call Tryd.func81 rfl rfl fun a hk => ?_
 have hk : Kn 81 [(0, .pointer (some ⟨b, off, none⟩))] a := hk
 refine tl_start (m := 2) (su := 5) (sv := 6) treeP rowT (by decide) rfl (by decide) (by decide) (by decide) (by decide) (by decide) (by decide) hC hR hk fun a w1 w rb tb bb Y1 hb hC hR hk ht => ?_
 rw [ddq_sShareAcknowledgeRequestTopic] at hR
 have hR := rep_agg_inv hR
 obtain ⟨c0, C0, hC, hR⟩ := cel_un16 hC hR
 obtain ⟨x1, c1, C1, hC, r1, hR⟩ := cel_un1 (one1_ite (one1_v _) (one1_sl _ _ _)) hC hR
 obtain ⟨xt, ct, Ct, hC, rt, hR⟩ := cel_un1 (one1_mp _ _) hC hR
 refine tl_uuid (s := 7) (k := 0)  treeP rfl rfl (by kernel_rfl) (by kernel_rfl) (by decide) (by decide) (by decide) fo_118_0 ar_78 ts_5 te_22 rt_22 (fun _ _ _ _ _ h => h) C0 hk ht fun a w hk ht => ?_
 obtain ⟨sp1, cap1, rfl, hz1, r1⟩ := rep_listN (G := (telV 10 (-1) (telP sch_sShareAcknowledgeRequestTopicPartition))) r1
 refine tl_null (s := 16) (k := 1)  treeP rfl rfl (by kernel_rfl) (by kernel_rfl) (by decide) (by decide) (by decide) fo_118_1 ts_116 te_116 ts_4 (fun _ _ _ _ _ h => h) C1 hk ht fun a w hk ht => ?_
 refine tl_list (s := 25) (k := 1) (iv := 4) (tz := 71) (tsl := (lzL (q.at_ 1).z (q.at_ 1).l).map (telV 10 (-1) (telP sch_sShareAcknowledgeRequestTopicPartition))) treeP tz_4 ts_4 rfl (by kernel_rfl) (by kernel_rfl) (by kernel_rfl) (by kernel_rfl) (by decide) (by decide) (by decide) (by decide) (by decide) (lz_len (fine_at hq 1)) fo_118_1 ts_116 te_116 (fun _ _ _ _ _ h => h) C1 hk ht ?_ ?_ fun a w hk ht => ?_
 ·intro Q j a w hj hQ hk ht K
  obtain ⟨b2, o2, c2, rfl, hE, hCE⟩ := list_at r1 (j := j) (by simpa using hj)
  exact tl_A_call (p := 35) (s := 25) (k := 1) rfl rfl (by kernel_rfl) (by kernel_rfl) (by kernel_rfl) (by kernel_rfl) treeP rowT (by decide) rfl (by decide) (by decide) (by decide) (by decide) hj (lz_len (fine_at hq 1)) fo_118_1 ts_116 te_116 ts_147 cb_121 (fun hm => by rw [getD_mapT hj]; exact tell_sShareAcknowledgeRequestTopicPartition (cel_in hm hCE) (rep_in hm hE) (lz_fine (fine_at hq 1) j)) hQ C1 hk ht K
 ·intro Q j a w hj hQ hk ht K
  obtain ⟨b2, o2, c2, rfl, hE, hCE⟩ := list_at r1 (j := j) (by simpa using hj)
  exact tl_B_call (p := 53) (s := 25) (k := 1) (by decide) rfl (by kernel_rfl) (by kernel_rfl) treeP rowT (by decide) rfl (by decide) (by decide) (by decide) (by decide) hj (lz_len (fine_at hq 1)) fo_118_1 ts_116 te_116 ts_147 cb_121 (fun hm => by rw [getD_mapT hj]; exact tell_sShareAcknowledgeRequestTopicPartition (cel_in hm hCE) (rep_in hm hE) (lz_fine (fine_at hq 1) j)) hQ C1 hk ht K
 rw [hz1] at ht
 exact tl_end (s := 72) (fE := 61) (fS := 63) (g := 122) treeP tagP each_cP cb_61 sorted_ok cb_63 clo_sShareAcknowledgeRequestTopic cb_122 rfl rfl (fun h => Bool.noConfusion h) (by decide) (by decide) (by decide) fo_118_2 Ct rt (fine_spec hq).2.2.2.2.1 (fine_spec hq).2.2.1 (fine_spec hq).2.2.2.1 (sortU_perm _) (sortU_rise (fine_spec hq).2.2.2.2.1) hb hk ht
theorem ddq_ShareAcknowledgeRequest (q : T) : ddS sch_ShareAcknowledgeRequest true q = .agg [if (q.at_ 0).z then .v (.pointer none) else .ptr (.v (.string (bs (q.at_ 0).s))), if (q.at_ 1).z then .v (.pointer none) else .ptr (.v (.string (bs (q.at_ 1).s))), .v (.int .i32 (IntKind.i32.wrap (q.at_ 2).n)), .v (.bool ((q.at_ 3).n % 2 == 1)), if (q.at_ 4).z then .v (.slice none 0 0) else .sl true 18 ((q.at_ 4).l.map (ddS sch_sShareAcknowledgeRequestTopic true)), ddTagMap q.u] := rfl
theorem tells_ShareAcknowledgeRequest (q : T) : telP sch_ShareAcknowledgeRequest q = .mk 0 [] false [(if (q.at_ 0).z then ofNil else ofOct (q.at_ 0).s), (if (q.at_ 1).z then ofNil else ofOct (q.at_ 1).s), ofNum (IntKind.i32.wrap (q.at_ 2).n), ofNum (if ((q.at_ 3).n % 2 == 1) then 1 else 0), .mk 0 [] (q.at_ 4).z ((lzL (q.at_ 4).z (q.at_ 4).l).map (telV 10 (-1) (telP sch_sShareAcknowledgeRequestTopic))) []] (sortU q.u) := congrArg (fun l => T.mk 0 [] false l (sortU q.u)) (cons_eq (tel_textN (nu := 0) (q.at_ 0) (by decide)) (cons_eq (tel_textN (nu := 0) (q.at_ 1) (by decide)) (cons_eq rfl (cons_eq (tel_bool (q.at_ 3)) (cons_eq (tel_list _) (rfl))))))
theorem clo_ShareAcknowledgeRequest : CloOk Tryd.prog 27 51 82 := by
 intro w S k SE tb YE us p lv x h1 h2 h3 h4 h5 h6 h7 h8 h9
 refine c_call Tryd.func82 rfl rfl fun a hk => ?_
 have hk : Kn 14 [(0, .int .u32 (p.1 : Int)), (1, x), (2, .pointer (some ⟨tb, 0, none⟩))] a := hk
 exact tl_clo (s := 5) treeP tagP rfl rfl (by kernel_rfl) (by kernel_rfl) (by decide) (by decide) h1 h2 h3 h4 h5 h6 h7 h8 h9 hk
theorem tell_ShareAcknowledgeRequest : TellOk Tryd.prog 55 sch_ShareAcknowledgeRequest true 1 := by
 intro w0 Y b off cs q hC hR hq
 rw [tells_ShareAcknowledgeRequest]
 refine c_call Tryd.func55 rfl rfl fun a hk => ?_
 have hk : Kn 105 [(0, .pointer (some ⟨b, off, none⟩))] a := hk
 refine tl_start (m := 5) (su := 5) (sv := 6) treeP rowT (by decide) rfl (by decide) (by decide) (by decide) (by decide) (by decide) (by decide) hC hR hk fun a w1 w rb tb bb Y1 hb hC hR hk ht => ?_
 rw [ddq_ShareAcknowledgeRequest] at hR
 have hR := rep_agg_inv hR
 obtain ⟨x0, c0, C0, hC, r0, hR⟩ := cel_un1 (one1_ite (one1_v _) (one1_ptr _)) hC hR
 obtain ⟨x1, c1, C1, hC, r1, hR⟩ := cel_un1 (one1_ite (one1_v _) (one1_ptr _)) hC hR
 obtain ⟨c2, C2, hC, hR⟩ := cel_unV hC hR
 obtain ⟨c3, C3, hC, hR⟩ := cel_unV hC hR
 obtain ⟨x4, c4, C4, hC, r4, hR⟩ := cel_un1 (one1_ite (one1_v _) (one1_sl _ _ _)) hC hR
 obtain ⟨xt, ct, Ct, hC, rt, hR⟩ := cel_un1 (one1_mp _ _) hC hR
 refine tl_call (s := 7) (k := 0) (F := 66) (tr := (if (q.at_ 0).z then ofNil else ofOct (q.at_ 0).s)) treeP rfl rfl (by kernel_rfl) (by kernel_rfl) (by decide) (by decide) (by decide) fo_113_1 ts_84 cb_66 (fun hm => textTree_c (q.at_ 0).z (q.at_ 0).s (rep_in hm r0)) (fun _ _ _ _ _ h => h) C0 hk ht fun a w hk ht => ?_
 refine tl_call (s := 15) (k := 1) (F := 66) (tr := (if (q.at_ 1).z then ofNil else ofOct (q.at_ 1).s)) treeP rfl rfl (by kernel_rfl) (by kernel_rfl) (by decide) (by decide) (by decide) fo_113_2 ts_84 cb_66 (fun hm => textTree_c (q.at_ 1).z (q.at_ 1).s (rep_in hm r1)) (fun _ _ _ _ _ h => h) C1 hk ht fun a w hk ht => ?_
 refine tl_num (s := 23) (k := 2)  treeP rfl rfl (by kernel_rfl) (by kernel_rfl) (by decide) (by decide) (by decide) fo_113_3 ts_21 un_21 ti_2 (wrap_in_i64 .i32 (by simp)) (fun _ _ _ _ _ h => h) C2 hk ht fun a w hk ht => ?_
 refine tl_call (s := 32) (k := 3) (F := 68) (tr := ofNum (if ((q.at_ 3).n % 2 == 1) then 1 else 0)) treeP rfl rfl (by kernel_rfl) (by kernel_rfl) (by decide) (by decide) (by decide) fo_113_4 ts_4 cb_68 (fun _ => boolTree_c _) (fun _ _ _ _ _ h => h) C3 hk ht fun a w hk ht => ?_
 obtain ⟨sp4, cap4, rfl, hz4, r4⟩ := rep_listN (G := (telV 10 (-1) (telP sch_sShareAcknowledgeRequestTopic))) r4
 refine tl_null (s := 40) (k := 4)  treeP rfl rfl (by kernel_rfl) (by kernel_rfl) (by decide) (by decide) (by decide) fo_113_5 ts_111 te_111 ts_4 (fun _ _ _ _ _ h => h) C4 hk ht fun a w hk ht => ?_
 refine tl_list (s := 49) (k := 4) (iv := 4) (tz := 95) (tsl := (lzL (q.at_ 4).z (q.at_ 4).l).map (telV 10 (-1) (telP sch_sShareAcknowledgeRequestTopic))) treeP tz_4 ts_4 rfl (by kernel_rfl) (by kernel_rfl) (by kernel_rfl) (by kernel_rfl) (by decide) (by decide) (by decide) (by decide) (by decide) (lz_len (fine_at hq 4)) fo_113_5 ts_111 te_111 (fun _ _ _ _ _ h => h) C4 hk ht ?_ ?_ fun a w hk ht => ?_
 ·intro Q j a w hj hQ hk ht K
  obtain ⟨b2, o2, c2, rfl, hE, hCE⟩ := list_at r4 (j := j) (by simpa using hj)
  exact tl_A_call (p := 59) (s := 49) (k := 4) rfl rfl (by kernel_rfl) (by kernel_rfl) (by kernel_rfl) (by kernel_rfl) treeP rowT (by decide) rfl (by decide) (by decide) (by decide) (by decide) hj (lz_len (fine_at hq 4)) fo_113_5 ts_111 te_111 ts_118 cb_81 (fun hm => by rw [getD_mapT hj]; exact tell_sShareAcknowledgeRequestTopic (cel_in hm hCE) (rep_in hm hE) (lz_fine (fine_at hq 4) j)) hQ C4 hk ht K
 ·intro Q j a w hj hQ hk ht K
  obtain ⟨b2, o2, c2, rfl, hE, hCE⟩ := list_at r4 (j := j) (by simpa using hj)
  exact tl_B_call (p := 77) (s := 49) (k := 4) (by decide) rfl (by kernel_rfl) (by kernel_rfl) treeP rowT (by decide) rfl (by decide) (by decide) (by decide) (by decide) hj (lz_len (fine_at hq 4)) fo_113_5 ts_111 te_111 ts_118 cb_81 (fun hm => by rw [getD_mapT hj]; exact tell_sShareAcknowledgeRequestTopic (cel_in hm hCE) (rep_in hm hE) (lz_fine (fine_at hq 4) j)) hQ C4 hk ht K
 rw [hz4] at ht
 exact tl_end (s := 96) (fE := 61) (fS := 63) (g := 82) treeP tagP each_cP cb_61 sorted_ok cb_63 clo_ShareAcknowledgeRequest cb_82 rfl rfl (fun h => Bool.noConfusion h) (by decide) (by decide) (by decide) fo_113_6 Ct rt (fine_spec hq).2.2.2.2.1 (fine_spec hq).2.2.1 (fine_spec hq).2.2.2.1 (sortU_perm _) (sortU_rise (fine_spec hq).2.2.2.2.1) hb hk ht
end Go.Proofs.YthholdjpcdpceabDoor
