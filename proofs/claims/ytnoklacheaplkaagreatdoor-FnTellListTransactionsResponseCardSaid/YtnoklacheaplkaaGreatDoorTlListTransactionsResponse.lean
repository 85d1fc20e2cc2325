/- Walks of functions that the laws of this seat reach. No statement of the seat stands here. -/
import Derived.Test.YtnoklacheaplkaaGreatDoorL4
import Derived.Test.YtnoklacheaplkaaGreatDoorRows
import Derived.Test.YtnoklacheaplkaaGreatDoorFa
import Derived.Test.YtnoklacheaplkaaGreatDoorTt
import Derived.Test.YtnoklacheaplkaaGreatDoorTf
import Derived.Test.YtnoklacheaplkaaGreatDoorTg2
import Derived.Test.YtnoklacheaplkaaGreatDoorTh
import Derived.Test.YtnoklacheaplkaaGreatDoorSch
namespace Go.Proofs.YtnoklacheaplkaaGreatDoor
open Go Go.Mk
theorem ddq_sListTransactionsResponseTransactionState (q : T) : ddS sch_sListTransactionsResponseTransactionState true q = .agg [.v (.string (bs (q.at_ 0).s)), .v (.int .i64 (q.at_ 1).n), .v (.string (bs (q.at_ 2).s)), ddTagMap q.u] := rfl
theorem tells_sListTransactionsResponseTransactionState (q : T) : telP sch_sListTransactionsResponseTransactionState q = .mk 0 [] false [ofOct (q.at_ 0).s, ofNum (q.at_ 1).n, ofOct (q.at_ 2).s] (sortU q.u) := congrArg (fun l => T.mk 0 [] false l (sortU q.u)) (cons_eq rfl (cons_eq rfl (cons_eq rfl (rfl))))
theorem clo_sListTransactionsResponseTransactionState : CloOk Tryz.prog 37 69 236 := by
 intro w S k SE tb YE us p lv x h1 h2 h3 h4 h5 h6 h7 h8 h9
 refine c_call Tryz.func236 rfl rfl fun a hk => ?_
 have hk : Kn 14 [(0, .int .u32 (p.1 : Int)), (1, x), (2, .pointer (some ⟨tb, 0, none⟩))] a := hk
 exact tl_clo (s := 5) treeP tagP rfl rfl (by kernel_rfl) (by kernel_rfl) (by decide) (by decide) h1 h2 h3 h4 h5 h6 h7 h8 h9 hk
theorem tell_sListTransactionsResponseTransactionState : TellOk Tryz.prog 158 sch_sListTransactionsResponseTransactionState true 0 := by
 intro w0 Y b off cs q hC hR hq
 rw [tells_sListTransactionsResponseTransactionState]
 refine c_call Tryz.func158 rfl rfl fun a hk => ?_
 have hk : Kn 41 [(0, .pointer (some ⟨b, off, none⟩))] a := hk
 refine tl_start (m := 3) (su := 4) (sv := 5) treeP rowT (by decide) rfl (by decide) (by decide) (by decide) (by decide) (by decide) (by decide) hC hR hk fun a w1 w rb tb bb Y1 hb hC hR hk ht => ?_
 rw [ddq_sListTransactionsResponseTransactionState] at hR
 have hR := rep_agg_inv hR
 obtain ⟨c0, C0, hC, hR⟩ := cel_unV hC hR
 obtain ⟨c1, C1, hC, hR⟩ := cel_unV hC hR
 obtain ⟨c2, C2, hC, hR⟩ := cel_unV hC hR
 obtain ⟨xt, ct, Ct, hC, rt, hR⟩ := cel_un1 (one1_mp _ _) hC hR
 refine tl_text (s := 6) (k := 0)  treeP rfl rfl (by kernel_rfl) (by kernel_rfl) (by decide) (by decide) (by decide) fo_137_0 ts_9 is_9 iy_22 (fun _ _ _ _ _ h => h) C0 hk ht fun a w hk ht => ?_
 refine tl_raw (s := 15) (k := 1)  treeP rfl rfl (by kernel_rfl) (by kernel_rfl) (by decide) (by decide) (by decide) fo_137_1 ts_2 (fun _ _ _ _ _ h => h) C1 hk ht fun a w hk ht => ?_
 refine tl_text (s := 23) (k := 2)  treeP rfl rfl (by kernel_rfl) (by kernel_rfl) (by decide) (by decide) (by decide) fo_137_2 ts_9 is_9 iy_22 (fun _ _ _ _ _ h => h) C2 hk ht fun a w hk ht => ?_
 exact tl_end (s := 32) (fE := 145) (fS := 147) (g := 236) treeP tagP each_cP cb_145 sorted_ok cb_147 clo_sListTransactionsResponseTransactionState cb_236 rfl rfl (fun h => Bool.noConfusion h) (by decide) (by decide) (by decide) fo_137_3 Ct rt (fine_spec hq).2.2.2.2.1 (fine_spec hq).2.2.1 (fine_spec hq).2.2.2.1 (sortU_perm _) (sortU_rise (fine_spec hq).2.2.2.2.1) hb hk ht
theorem ddq_ListTransactionsResponse (q : T) : ddS sch_ListTransactionsResponse true q = .agg [.v (.int .i32 (IntKind.i32.wrap (q.at_ 0).n)), .v (.int .i16 (IntKind.i16.wrap (q.at_ 1).n)), if (q.at_ 2).z then .v (.slice none 0 0) else .sl true 1 ((q.at_ 2).l.map (fun x : T => DD.v (.string (bs x.s)))), if (q.at_ 3).z then .v (.slice none 0 0) else .sl true 4 ((q.at_ 3).l.map (ddS sch_sListTransactionsResponseTransactionState true)), ddTagMap q.u] := rfl
theorem tells_ListTransactionsResponse (q : T) : telP sch_ListTransactionsResponse q = .mk 0 [] false [ofNum (IntKind.i32.wrap (q.at_ 0).n), ofNum (IntKind.i16.wrap (q.at_ 1).n), .mk 0 [] (q.at_ 2).z ((lzL (q.at_ 2).z (q.at_ 2).l).map (telV 8 (-1) (telP []))) [], .mk 0 [] (q.at_ 3).z ((lzL (q.at_ 3).z (q.at_ 3).l).map (telV 10 (-1) (telP sch_sListTransactionsResponseTransactionState))) []] (sortU q.u) := congrArg (fun l => T.mk 0 [] false l (sortU q.u)) (cons_eq rfl (cons_eq rfl (cons_eq (tel_list _) (cons_eq (tel_list _) (rfl)))))
theorem clo_ListTransactionsResponse : CloOk Tryz.prog 37 69 159 := by
 intro w S k SE tb YE us p lv x h1 h2 h3 h4 h5 h6 h7 h8 h9
 refine c_call Tryz.func159 rfl rfl fun a hk => ?_
 have hk : Kn 14 [(0, .int .u32 (p.1 : Int)), (1, x), (2, .pointer (some ⟨tb, 0, none⟩))] a := hk
 exact tl_clo (s := 5) treeP tagP rfl rfl (by kernel_rfl) (by kernel_rfl) (by decide) (by decide) h1 h2 h3 h4 h5 h6 h7 h8 h9 hk
theorem tell_ListTransactionsResponse : TellOk Tryz.prog 78 sch_ListTransactionsResponse true 1 := by
 intro w0 Y b off cs q hC hR hq
 rw [tells_ListTransactionsResponse]
 refine c_call Tryz.func78 rfl rfl fun a hk => ?_
 have hk : Kn 151 [(0, .pointer (some ⟨b, off, none⟩))] a := hk
 refine tl_start (m := 4) (su := 6) (sv := 7) treeP rowT (by decide) rfl (by decide) (by decide) (by decide) (by decide) (by decide) (by decide) hC hR hk fun a w1 w rb tb bb Y1 hb hC hR hk ht => ?_
 rw [ddq_ListTransactionsResponse] at hR
 have hR := rep_agg_inv hR
 obtain ⟨c0, C0, hC, hR⟩ := cel_unV hC hR
 obtain ⟨c1, C1, hC, hR⟩ := cel_unV hC hR
 obtain ⟨x2, c2, C2, hC, r2, hR⟩ := cel_un1 (one1_ite (one1_v _) (one1_sl _ _ _)) hC hR
 obtain ⟨x3, c3, C3, hC, r3, hR⟩ := cel_un1 (one1_ite (one1_v _) (one1_sl _ _ _)) hC hR
 obtain ⟨xt, ct, Ct, hC, rt, hR⟩ := cel_un1 (one1_mp _ _) hC hR
 refine tl_num (s := 8) (k := 0)  treeP rfl rfl (by kernel_rfl) (by kernel_rfl) (by decide) (by decide) (by decide) fo_133_1 ts_21 un_21 ti_2 (wrap_in_i64 .i32 (by simp)) (fun _ _ _ _ _ h => h) C0 hk ht fun a w hk ht => ?_
 refine tl_num (s := 17) (k := 1)  treeP rfl rfl (by kernel_rfl) (by kernel_rfl) (by decide) (by decide) (by decide) fo_133_2 ts_46 un_46 ti_2 (wrap_in_i64 .i16 (by simp)) (fun _ _ _ _ _ h => h) C1 hk ht fun a w hk ht => ?_
 obtain ⟨sp2, cap2, rfl, hz2, r2⟩ := rep_listN (G := (telV 8 (-1) (telP []))) r2
 refine tl_null (s := 26) (k := 2)  treeP rfl rfl (by kernel_rfl) (by kernel_rfl) (by decide) (by decide) (by decide) fo_133_3 ts_130 te_130 ts_4 (fun _ _ _ _ _ h => h) C2 hk ht fun a w hk ht => ?_
 refine tl_list (s := 35) (k := 2) (iv := 4) (tz := 85) (tsl := (lzL (q.at_ 2).z (q.at_ 2).l).map (telV 8 (-1) (telP []))) treeP tz_4 ts_4 rfl (by kernel_rfl) (by kernel_rfl) (by kernel_rfl) (by kernel_rfl) (by decide) (by decide) (by decide) (by decide) (by decide) (lz_len (fine_at hq 2)) fo_133_3 ts_130 te_130 (fun _ _ _ _ _ h => h) C2 hk ht ?_ ?_ fun a w hk ht => ?_
 ·intro Q j a w hj hQ hk ht K
  obtain ⟨b2, o2, c2, rfl, hE, hCE⟩ := list_at r2 (j := j) (by simpa using hj)
  exact tl_A_text (zE := fun j => ((lzL (q.at_ 2).z (q.at_ 2).l).getD j T.nil).s) (p := 45) (s := 35) (k := 2) rfl rfl (by kernel_rfl) (by kernel_rfl) (by kernel_rfl) (by kernel_rfl) (by kernel_rfl) treeP rowT (by decide) rfl (by decide) (by decide) (by decide) (by decide) hj (lz_len (fine_at hq 2)) fo_133_3 ts_130 te_130 ts_9 ts_9 is_9 iy_22 (cel_v hE hCE) (by rw [getD_mapT hj]; rfl) hQ C2 hk ht K
 ·intro Q j a w hj hQ hk ht K
  obtain ⟨b2, o2, c2, rfl, hE, hCE⟩ := list_at r2 (j := j) (by simpa using hj)
  exact tl_B_text (zE := fun j => ((lzL (q.at_ 2).z (q.at_ 2).l).getD j T.nil).s) (p := 65) (s := 35) (k := 2) (by decide) rfl (by kernel_rfl) (by kernel_rfl) treeP rowT (by decide) rfl (by decide) (by decide) (by decide) (by decide) hj (lz_len (fine_at hq 2)) fo_133_3 ts_130 te_130 ts_9 ts_9 is_9 iy_22 (cel_v hE hCE) (by rw [getD_mapT hj]; rfl) hQ C2 hk ht K
 rw [hz2] at ht
 obtain ⟨sp3, cap3, rfl, hz3, r3⟩ := rep_listN (G := (telV 10 (-1) (telP sch_sListTransactionsResponseTransactionState))) r3
 refine tl_null (s := 86) (k := 3)  treeP rfl rfl (by kernel_rfl) (by kernel_rfl) (by decide) (by decide) (by decide) fo_133_4 ts_131 te_131 ts_4 (fun _ _ _ _ _ h => h) C3 hk ht fun a w hk ht => ?_
 refine tl_list (s := 95) (k := 3) (iv := 5) (tz := 141) (tsl := (lzL (q.at_ 3).z (q.at_ 3).l).map (telV 10 (-1) (telP sch_sListTransactionsResponseTransactionState))) treeP tz_4 ts_4 rfl (by kernel_rfl) (by kernel_rfl) (by kernel_rfl) (by kernel_rfl) (by decide) (by decide) (by decide) (by decide) (by decide) (lz_len (fine_at hq 3)) fo_133_4 ts_131 te_131 (fun _ _ _ _ _ h => h) C3 hk ht ?_ ?_ fun a w hk ht => ?_
 ·intro Q j a w hj hQ hk ht K
  obtain ⟨b2, o2, c2, rfl, hE, hCE⟩ := list_at r3 (j := j) (by simpa using hj)
  exact tl_A_call (p := 105) (s := 95) (k := 3) rfl rfl (by kernel_rfl) (by kernel_rfl) (by kernel_rfl) (by kernel_rfl) treeP rowT (by decide) rfl (by decide) (by decide) (by decide) (by decide) hj (lz_len (fine_at hq 3)) fo_133_4 ts_131 te_131 ts_137 cb_158 (fun hm => by rw [getD_mapT hj]; exact tell_sListTransactionsResponseTransactionState (cel_in hm hCE) (rep_in hm hE) (lz_fine (fine_at hq 3) j)) hQ C3 hk ht K
 ·intro Q j a w hj hQ hk ht K
  obtain ⟨b2, o2, c2, rfl, hE, hCE⟩ := list_at r3 (j := j) (by simpa using hj)
  exact tl_B_call (p := 123) (s := 95) (k := 3) (by decide) rfl (by kernel_rfl) (by kernel_rfl) treeP rowT (by decide) rfl (by decide) (by decide) (by decide) (by decide) hj (lz_len (fine_at hq 3)) fo_133_4 ts_131 te_131 ts_137 cb_158 (fun hm => by rw [getD_mapT hj]; exact tell_sListTransactionsResponseTransactionState (cel_in hm hCE) (rep_in hm hE) (lz_fine (fine_at hq 3) j)) hQ C3 hk ht K
 rw [hz3] at ht
 exact tl_end (s := 142) (fE := 145) (fS := 147) (g := 159) treeP tagP each_cP cb_145 sorted_ok cb_147 clo_ListTransactionsResponse cb_159 rfl rfl (fun h => Bool.noConfusion h) (by decide) (by decide) (by decide) fo_133_5 Ct rt (fine_spec hq).2.2.2.2.1 (fine_spec hq).2.2.1 (fine_spec hq).2.2.2.1 (sortU_perm _) (sortU_rise (fine_spec hq).2.2.2.2.1) hb hk ht
end Go.Proofs.YtnoklacheaplkaaGreatDoor
