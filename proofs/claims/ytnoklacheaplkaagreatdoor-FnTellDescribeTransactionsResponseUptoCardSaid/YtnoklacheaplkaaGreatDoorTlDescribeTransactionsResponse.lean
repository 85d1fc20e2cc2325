/- Walks of functions that the laws of this seat reach. No statement of the seat stands here. -/
import Derived.Test.YtnoklacheaplkaaGreatDoorL4
import Derived.Test.YtnoklacheaplkaaGreatDoorRows
import Derived.Test.YtnoklacheaplkaaGreatDoorFa
import Derived.Test.YtnoklacheaplkaaGreatDoorTt
import Derived.Test.YtnoklacheaplkaaGreatDoorTf
import Derived.Test.YtnoklacheaplkaaGreatDoorTg2
import Derived.Test.YtnoklacheaplkaaGreatDoorTh
import Derived.Test.YtnoklacheaplkaaGreatDoorSch
namespace Go.Proofs.YtnoklacheaplkaaGreatDoor
open Go Go.Mk
theorem ddq_sDescribeTransactionsResponseTransactionStateTopic (q : T) : ddS sch_sDescribeTransactionsResponseTransactionStateTopic true q = .agg [.v (.string (bs (q.at_ 0).s)), if (q.at_ 1).z then .v (.slice none 0 0) else .sl true 1 ((q.at_ 1).l.map (fun x : T => DD.v (.int .i32 (IntKind.i32.wrap x.n)))), ddTagMap q.u] := rfl
theorem tells_sDescribeTransactionsResponseTransactionStateTopic (q : T) : telP sch_sDescribeTransactionsResponseTransactionStateTopic q = .mk 0 [] false [ofOct (q.at_ 0).s, .mk 0 [] (q.at_ 1).z ((lzL (q.at_ 1).z (q.at_ 1).l).map (telV 3 (-1) (telP []))) []] (sortU q.u) := congrArg (fun l => T.mk 0 [] false l (sortU q.u)) (cons_eq rfl (cons_eq (tel_list _) (rfl)))
theorem clo_sDescribeTransactionsResponseTransactionStateTopic : CloOk Tryz.prog 37 69 294 := by
 intro w S k SE tb YE us p lv x h1 h2 h3 h4 h5 h6 h7 h8 h9
 refine c_call Tryz.func294 rfl rfl fun a hk => ?_
 have hk : Kn 14 [(0, .int .u32 (p.1 : Int)), (1, x), (2, .pointer (some ⟨tb, 0, none⟩))] a := hk
 exact tl_clo (s := 5) treeP tagP rfl rfl (by kernel_rfl) (by kernel_rfl) (by decide) (by decide) h1 h2 h3 h4 h5 h6 h7 h8 h9 hk
theorem tell_sDescribeTransactionsResponseTransactionStateTopic : TellOk Tryz.prog 245 sch_sDescribeTransactionsResponseTransactionStateTopic true 0 := by
 intro w0 Y b off cs q hC hR hq
 rw [tells_sDescribeTransactionsResponseTransactionStateTopic]
 refine c_call Tryz.func245 rfl rfl fun a hk => ?_
 have hk : Kn 85 [(0, .pointer (some ⟨b, off, none⟩))] a := hk
 refine tl_start (m := 2) (su := 5) (sv := 6) treeP rowT (by decide) rfl (by decide) (by decide) (by decide) (by decide) (by decide) (by decide) hC hR hk fun a w1 w rb tb bb Y1 hb hC hR hk ht => ?_
 rw [ddq_sDescribeTransactionsResponseTransactionStateTopic] at hR
 have hR := rep_agg_inv hR
 obtain ⟨c0, C0, hC, hR⟩ := cel_unV hC hR
 obtain ⟨x1, c1, C1, hC, r1, hR⟩ := cel_un1 (one1_ite (one1_v _) (one1_sl _ _ _)) hC hR
 obtain ⟨xt, ct, Ct, hC, rt, hR⟩ := cel_un1 (one1_mp _ _) hC hR
 refine tl_text (s := 7) (k := 0)  treeP rfl rfl (by kernel_rfl) (by kernel_rfl) (by decide) (by decide) (by decide) fo_252_0 ts_9 is_9 iy_22 (fun _ _ _ _ _ h => h) C0 hk ht fun a w hk ht => ?_
 obtain ⟨sp1, cap1, rfl, hz1, r1⟩ := rep_listN (G := (telV 3 (-1) (telP []))) r1
 refine tl_null (s := 16) (k := 1)  treeP rfl rfl (by kernel_rfl) (by kernel_rfl) (by decide) (by decide) (by decide) fo_252_1 ts_250 te_250 ts_4 (fun _ _ _ _ _ h => h) C1 hk ht fun a w hk ht => ?_
 refine tl_list (s := 25) (k := 1) (iv := 4) (tz := 75) (tsl := (lzL (q.at_ 1).z (q.at_ 1).l).map (telV 3 (-1) (telP []))) treeP tz_4 ts_4 rfl (by kernel_rfl) (by kernel_rfl) (by kernel_rfl) (by kernel_rfl) (by decide) (by decide) (by decide) (by decide) (by decide) (lz_len (fine_at hq 1)) fo_252_1 ts_250 te_250 (fun _ _ _ _ _ h => h) C1 hk ht ?_ ?_ fun a w hk ht => ?_
 ·intro Q j a w hj hQ hk ht K
  obtain ⟨b2, o2, c2, rfl, hE, hCE⟩ := list_at r1 (j := j) (by simpa using hj)
  exact tl_A_num (iE := fun j => IntKind.i32.wrap ((lzL (q.at_ 1).z (q.at_ 1).l).getD j T.nil).n) (p := 35) (s := 25) (k := 1) rfl rfl (by kernel_rfl) (by kernel_rfl) treeP rowT (by decide) rfl (by decide) (by decide) (by decide) (by decide) hj (lz_len (fine_at hq 1)) fo_252_1 ts_250 te_250 ts_21 ts_21 un_21 ti_2 (cel_v hE hCE) (by rw [getD_mapT hj, wrap_in_i64 .i32 (by simp)]; rfl) hQ C1 hk ht K
 ·intro Q j a w hj hQ hk ht K
  obtain ⟨b2, o2, c2, rfl, hE, hCE⟩ := list_at r1 (j := j) (by simpa using hj)
  exact tl_B_num (iE := fun j => IntKind.i32.wrap ((lzL (q.at_ 1).z (q.at_ 1).l).getD j T.nil).n) (p := 55) (s := 25) (k := 1) (by decide) rfl (by kernel_rfl) (by kernel_rfl) treeP rowT (by decide) rfl (by decide) (by decide) (by decide) (by decide) hj (lz_len (fine_at hq 1)) fo_252_1 ts_250 te_250 ts_21 ts_21 un_21 ti_2 (cel_v hE hCE) (by rw [getD_mapT hj, wrap_in_i64 .i32 (by simp)]; rfl) hQ C1 hk ht K
 rw [hz1] at ht
 exact tl_end (s := 76) (fE := 145) (fS := 147) (g := 294) treeP tagP each_cP cb_145 sorted_ok cb_147 clo_sDescribeTransactionsResponseTransactionStateTopic cb_294 rfl rfl (fun h => Bool.noConfusion h) (by decide) (by decide) (by decide) fo_252_2 Ct rt (fine_spec hq).2.2.2.2.1 (fine_spec hq).2.2.1 (fine_spec hq).2.2.2.1 (sortU_perm _) (sortU_rise (fine_spec hq).2.2.2.2.1) hb hk ht
theorem ddq_sDescribeTransactionsResponseTransactionState (q : T) : ddS sch_sDescribeTransactionsResponseTransactionState true q = .agg [.v (.int .i16 (IntKind.i16.wrap (q.at_ 0).n)), .v (.string (bs (q.at_ 1).s)), .v (.string (bs (q.at_ 2).s)), .v (.int .i32 (IntKind.i32.wrap (q.at_ 3).n)), .v (.int .i64 (q.at_ 4).n), .v (.int .i64 (q.at_ 5).n), .v (.int .i16 (IntKind.i16.wrap (q.at_ 6).n)), if (q.at_ 7).z then .v (.slice none 0 0) else .sl true 3 ((q.at_ 7).l.map (ddS sch_sDescribeTransactionsResponseTransactionStateTopic true)), ddTagMap q.u] := rfl
theorem tells_sDescribeTransactionsResponseTransactionState (q : T) : telP sch_sDescribeTransactionsResponseTransactionState q = .mk 0 [] false [ofNum (IntKind.i16.wrap (q.at_ 0).n), ofOct (q.at_ 1).s, ofOct (q.at_ 2).s, ofNum (IntKind.i32.wrap (q.at_ 3).n), ofNum (q.at_ 4).n, ofNum (q.at_ 5).n, ofNum (IntKind.i16.wrap (q.at_ 6).n), .mk 0 [] (q.at_ 7).z ((lzL (q.at_ 7).z (q.at_ 7).l).map (telV 10 (-1) (telP sch_sDescribeTransactionsResponseTransactionStateTopic))) []] (sortU q.u) := congrArg (fun l => T.mk 0 [] false l (sortU q.u)) (cons_eq rfl (cons_eq rfl (cons_eq rfl (cons_eq rfl (cons_eq rfl (cons_eq rfl (cons_eq rfl (cons_eq (tel_list _) (rfl)))))))))
theorem clo_sDescribeTransactionsResponseTransactionState : CloOk Tryz.prog 37 69 246 := by
 intro w S k SE tb YE us p lv x h1 h2 h3 h4 h5 h6 h7 h8 h9
 refine c_call Tryz.func246 rfl rfl fun a hk => ?_
 have hk : Kn 14 [(0, .int .u32 (p.1 : Int)), (1, x), (2, .pointer (some ⟨tb, 0, none⟩))] a := hk
 exact tl_clo (s := 5) treeP tagP rfl rfl (by kernel_rfl) (by kernel_rfl) (by decide) (by decide) h1 h2 h3 h4 h5 h6 h7 h8 h9 hk
theorem tell_sDescribeTransactionsResponseTransactionState : TellOk Tryz.prog 172 sch_sDescribeTransactionsResponseTransactionState true 0 := by
 intro w0 Y b off cs q hC hR hq
 rw [tells_sDescribeTransactionsResponseTransactionState]
 refine c_call Tryz.func172 rfl rfl fun a hk => ?_
 have hk : Kn 133 [(0, .pointer (some ⟨b, off, none⟩))] a := hk
 refine tl_start (m := 8) (su := 5) (sv := 6) treeP rowT (by decide) rfl (by decide) (by decide) (by decide) (by decide) (by decide) (by decide) hC hR hk fun a w1 w rb tb bb Y1 hb hC hR hk ht => ?_
 rw [ddq_sDescribeTransactionsResponseTransactionState] at hR
 have hR := rep_agg_inv hR
 obtain ⟨c0, C0, hC, hR⟩ := cel_unV hC hR
 obtain ⟨c1, C1, hC, hR⟩ := cel_unV hC hR
 obtain ⟨c2, C2, hC, hR⟩ := cel_unV hC hR
 obtain ⟨c3, C3, hC, hR⟩ := cel_unV hC hR
 obtain ⟨c4, C4, hC, hR⟩ := cel_unV hC hR
 obtain ⟨c5, C5, hC, hR⟩ := cel_unV hC hR
 obtain ⟨c6, C6, hC, hR⟩ := cel_unV hC hR
 obtain ⟨x7, c7, C7, hC, r7, hR⟩ := cel_un1 (one1_ite (one1_v _) (one1_sl _ _ _)) hC hR
 obtain ⟨xt, ct, Ct, hC, rt, hR⟩ := cel_un1 (one1_mp _ _) hC hR
 refine tl_num (s := 7) (k := 0)  treeP rfl rfl (by kernel_rfl) (by kernel_rfl) (by decide) (by decide) (by decide) fo_162_0 ts_46 un_46 ti_2 (wrap_in_i64 .i16 (by simp)) (fun _ _ _ _ _ h => h) C0 hk ht fun a w hk ht => ?_
 refine tl_text (s := 16) (k := 1)  treeP rfl rfl (by kernel_rfl) (by kernel_rfl) (by decide) (by decide) (by decide) fo_162_1 ts_9 is_9 iy_22 (fun _ _ _ _ _ h => h) C1 hk ht fun a w hk ht => ?_
 refine tl_text (s := 25) (k := 2)  treeP rfl rfl (by kernel_rfl) (by kernel_rfl) (by decide) (by decide) (by decide) fo_162_2 ts_9 is_9 iy_22 (fun _ _ _ _ _ h => h) C2 hk ht fun a w hk ht => ?_
 refine tl_num (s := 34) (k := 3)  treeP rfl rfl (by kernel_rfl) (by kernel_rfl) (by decide) (by decide) (by decide) fo_162_3 ts_21 un_21 ti_2 (wrap_in_i64 .i32 (by simp)) (fun _ _ _ _ _ h => h) C3 hk ht fun a w hk ht => ?_
 refine tl_raw (s := 43) (k := 4)  treeP rfl rfl (by kernel_rfl) (by kernel_rfl) (by decide) (by decide) (by decide) fo_162_4 ts_2 (fun _ _ _ _ _ h => h) C4 hk ht fun a w hk ht => ?_
 refine tl_raw (s := 51) (k := 5)  treeP rfl rfl (by kernel_rfl) (by kernel_rfl) (by decide) (by decide) (by decide) fo_162_5 ts_2 (fun _ _ _ _ _ h => h) C5 hk ht fun a w hk ht => ?_
 refine tl_num (s := 59) (k := 6)  treeP rfl rfl (by kernel_rfl) (by kernel_rfl) (by decide) (by decide) (by decide) fo_162_6 ts_46 un_46 ti_2 (wrap_in_i64 .i16 (by simp)) (fun _ _ _ _ _ h => h) C6 hk ht fun a w hk ht => ?_
 obtain ⟨sp7, cap7, rfl, hz7, r7⟩ := rep_listN (G := (telV 10 (-1) (telP sch_sDescribeTransactionsResponseTransactionStateTopic))) r7
 refine tl_null (s := 68) (k := 7)  treeP rfl rfl (by kernel_rfl) (by kernel_rfl) (by decide) (by decide) (by decide) fo_162_7 ts_160 te_160 ts_4 (fun _ _ _ _ _ h => h) C7 hk ht fun a w hk ht => ?_
 refine tl_list (s := 77) (k := 7) (iv := 4) (tz := 123) (tsl := (lzL (q.at_ 7).z (q.at_ 7).l).map (telV 10 (-1) (telP sch_sDescribeTransactionsResponseTransactionStateTopic))) treeP tz_4 ts_4 rfl (by kernel_rfl) (by kernel_rfl) (by kernel_rfl) (by kernel_rfl) (by decide) (by decide) (by decide) (by decide) (by decide) (lz_len (fine_at hq 7)) fo_162_7 ts_160 te_160 (fun _ _ _ _ _ h => h) C7 hk ht ?_ ?_ fun a w hk ht => ?_
 ·intro Q j a w hj hQ hk ht K
  obtain ⟨b2, o2, c2, rfl, hE, hCE⟩ := list_at r7 (j := j) (by simpa using hj)
  exact tl_A_call (p := 87) (s := 77) (k := 7) rfl rfl (by kernel_rfl) (by kernel_rfl) (by kernel_rfl) (by kernel_rfl) treeP rowT (by decide) rfl (by decide) (by decide) (by decide) (by decide) hj (lz_len (fine_at hq 7)) fo_162_7 ts_160 te_160 ts_252 cb_245 (fun hm => by rw [getD_mapT hj]; exact tell_sDescribeTransactionsResponseTransactionStateTopic (cel_in hm hCE) (rep_in hm hE) (lz_fine (fine_at hq 7) j)) hQ C7 hk ht K
 ·intro Q j a w hj hQ hk ht K
  obtain ⟨b2, o2, c2, rfl, hE, hCE⟩ := list_at r7 (j := j) (by simpa using hj)
  exact tl_B_call (p := 105) (s := 77) (k := 7) (by decide) rfl (by kernel_rfl) (by kernel_rfl) treeP rowT (by decide) rfl (by decide) (by decide) (by decide) (by decide) hj (lz_len (fine_at hq 7)) fo_162_7 ts_160 te_160 ts_252 cb_245 (fun hm => by rw [getD_mapT hj]; exact tell_sDescribeTransactionsResponseTransactionStateTopic (cel_in hm hCE) (rep_in hm hE) (lz_fine (fine_at hq 7) j)) hQ C7 hk ht K
 rw [hz7] at ht
 exact tl_end (s := 124) (fE := 145) (fS := 147) (g := 246) treeP tagP each_cP cb_145 sorted_ok cb_147 clo_sDescribeTransactionsResponseTransactionState cb_246 rfl rfl (fun h => Bool.noConfusion h) (by decide) (by decide) (by decide) fo_162_8 Ct rt (fine_spec hq).2.2.2.2.1 (fine_spec hq).2.2.1 (fine_spec hq).2.2.2.1 (sortU_perm _) (sortU_rise (fine_spec hq).2.2.2.2.1) hb hk ht
theorem ddq_DescribeTransactionsResponse (q : T) : ddS sch_DescribeTransactionsResponse true q = .agg [.v (.int .i32 (IntKind.i32.wrap (q.at_ 0).n)), if (q.at_ 1).z then .v (.slice none 0 0) else .sl true 9 ((q.at_ 1).l.map (ddS sch_sDescribeTransactionsResponseTransactionState true)), ddTagMap q.u] := rfl
theorem tells_DescribeTransactionsResponse (q : T) : telP sch_DescribeTransactionsResponse q = .mk 0 [] false [ofNum (IntKind.i32.wrap (q.at_ 0).n), .mk 0 [] (q.at_ 1).z ((lzL (q.at_ 1).z (q.at_ 1).l).map (telV 10 (-1) (telP sch_sDescribeTransactionsResponseTransactionState))) []] (sortU q.u) := congrArg (fun l => T.mk 0 [] false l (sortU q.u)) (cons_eq rfl (cons_eq (tel_list _) (rfl)))
theorem clo_DescribeTransactionsResponse : CloOk Tryz.prog 37 69 173 := by
 intro w S k SE tb YE us p lv x h1 h2 h3 h4 h5 h6 h7 h8 h9
 refine c_call Tryz.func173 rfl rfl fun a hk => ?_
 have hk : Kn 14 [(0, .int .u32 (p.1 : Int)), (1, x), (2, .pointer (some ⟨tb, 0, none⟩))] a := hk
 exact tl_clo (s := 5) treeP tagP rfl rfl (by kernel_rfl) (by kernel_rfl) (by decide) (by decide) h1 h2 h3 h4 h5 h6 h7 h8 h9 hk
theorem tell_DescribeTransactionsResponse : TellOk Tryz.prog 96 sch_DescribeTransactionsResponse true 1 := by
 intro w0 Y b off cs q hC hR hq
 rw [tells_DescribeTransactionsResponse]
 refine c_call Tryz.func96 rfl rfl fun a hk => ?_
 have hk : Kn 81 [(0, .pointer (some ⟨b, off, none⟩))] a := hk
 refine tl_start (m := 2) (su := 5) (sv := 6) treeP rowT (by decide) rfl (by decide) (by decide) (by decide) (by decide) (by decide) (by decide) hC hR hk fun a w1 w rb tb bb Y1 hb hC hR hk ht => ?_
 rw [ddq_DescribeTransactionsResponse] at hR
 have hR := rep_agg_inv hR
 obtain ⟨c0, C0, hC, hR⟩ := cel_unV hC hR
 obtain ⟨x1, c1, C1, hC, r1, hR⟩ := cel_un1 (one1_ite (one1_v _) (one1_sl _ _ _)) hC hR
 obtain ⟨xt, ct, Ct, hC, rt, hR⟩ := cel_un1 (one1_mp _ _) hC hR
 refine tl_num (s := 7) (k := 0)  treeP rfl rfl (by kernel_rfl) (by kernel_rfl) (by decide) (by decide) (by decide) fo_157_1 ts_21 un_21 ti_2 (wrap_in_i64 .i32 (by simp)) (fun _ _ _ _ _ h => h) C0 hk ht fun a w hk ht => ?_
 obtain ⟨sp1, cap1, rfl, hz1, r1⟩ := rep_listN (G := (telV 10 (-1) (telP sch_sDescribeTransactionsResponseTransactionState))) r1
 refine tl_null (s := 16) (k := 1)  treeP rfl rfl (by kernel_rfl) (by kernel_rfl) (by decide) (by decide) (by decide) fo_157_2 ts_155 te_155 ts_4 (fun _ _ _ _ _ h => h) C1 hk ht fun a w hk ht => ?_
 refine tl_list (s := 25) (k := 1) (iv := 4) (tz := 71) (tsl := (lzL (q.at_ 1).z (q.at_ 1).l).map (telV 10 (-1) (telP sch_sDescribeTransactionsResponseTransactionState))) treeP tz_4 ts_4 rfl (by kernel_rfl) (by kernel_rfl) (by kernel_rfl) (by kernel_rfl) (by decide) (by decide) (by decide) (by decide) (by decide) (lz_len (fine_at hq 1)) fo_157_2 ts_155 te_155 (fun _ _ _ _ _ h => h) C1 hk ht ?_ ?_ fun a w hk ht => ?_
 ·intro Q j a w hj hQ hk ht K
  obtain ⟨b2, o2, c2, rfl, hE, hCE⟩ := list_at r1 (j := j) (by simpa using hj)
  exact tl_A_call (p := 35) (s := 25) (k := 1) rfl rfl (by kernel_rfl) (by kernel_rfl) (by kernel_rfl) (by kernel_rfl) treeP rowT (by decide) rfl (by decide) (by decide) (by decide) (by decide) hj (lz_len (fine_at hq 1)) fo_157_2 ts_155 te_155 ts_162 cb_172 (fun hm => by rw [getD_mapT hj]; exact tell_sDescribeTransactionsResponseTransactionState (cel_in hm hCE) (rep_in hm hE) (lz_fine (fine_at hq 1) j)) hQ C1 hk ht K
 ·intro Q j a w hj hQ hk ht K
  obtain ⟨b2, o2, c2, rfl, hE, hCE⟩ := list_at r1 (j := j) (by simpa using hj)
  exact tl_B_call (p := 53) (s := 25) (k := 1) (by decide) rfl (by kernel_rfl) (by kernel_rfl) treeP rowT (by decide) rfl (by decide) (by decide) (by decide) (by decide) hj (lz_len (fine_at hq 1)) fo_157_2 ts_155 te_155 ts_162 cb_172 (fun hm => by rw [getD_mapT hj]; exact tell_sDescribeTransactionsResponseTransactionState (cel_in hm hCE) (rep_in hm hE) (lz_fine (fine_at hq 1) j)) hQ C1 hk ht K
 rw [hz1] at ht
 exact tl_end (s := 72) (fE := 145) (fS := 147) (g := 173) treeP tagP each_cP cb_145 sorted_ok cb_147 clo_DescribeTransactionsResponse cb_173 rfl rfl (fun h => Bool.noConfusion h) (by decide) (by decide) (by decide) fo_157_3 Ct rt (fine_spec hq).2.2.2.2.1 (fine_spec hq).2.2.1 (fine_spec hq).2.2.2.1 (sortU_perm _) (sortU_rise (fine_spec hq).2.2.2.2.1) hb hk ht
end Go.Proofs.YtnoklacheaplkaaGreatDoor
