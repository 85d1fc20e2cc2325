/- Walks of functions that the laws of this seat reach. No statement of the seat stands here. -/
import Derived.Test.YtoopklfabccmnaaGreatDoorL4
import Derived.Test.YtoopklfabccmnaaGreatDoorRows
import Derived.Test.YtoopklfabccmnaaGreatDoorFa
import Derived.Test.YtoopklfabccmnaaGreatDoorTt
import Derived.Test.YtoopklfabccmnaaGreatDoorTf
import Derived.Test.YtoopklfabccmnaaGreatDoorTg2
import Derived.Test.YtoopklfabccmnaaGreatDoorTh
import Derived.Test.YtoopklfabccmnaaGreatDoorSch
namespace Go.Proofs.YtoopklfabccmnaaGreatDoor
open Go Go.Mk
theorem ddq_sDeleteTopicsResponseTopic (q : T) : ddS sch_sDeleteTopicsResponseTopic true q = .agg [if (q.at_ 0).z then .v (.pointer none) else .ptr (.v (.string (bs (q.at_ 0).s))), .agg ((sixteen (q.at_ 1).s).map ddB), .v (.int .i16 (IntKind.i16.wrap (q.at_ 2).n)), if (q.at_ 3).z then .v (.pointer none) else .ptr (.v (.string (bs (q.at_ 3).s))), ddTagMap q.u] := rfl
theorem tells_sDeleteTopicsResponseTopic (q : T) : telP sch_sDeleteTopicsResponseTopic q = .mk 0 [] false [(if (q.at_ 0).z then ofNil else ofOct (q.at_ 0).s), ofOct (sixteen (q.at_ 1).s), ofNum (IntKind.i16.wrap (q.at_ 2).n), (if (q.at_ 3).z then ofNil else ofOct (q.at_ 3).s)] (sortU q.u) := congrArg (fun l => T.mk 0 [] false l (sortU q.u)) (cons_eq (tel_textN (nu := 6) (q.at_ 0) (by decide)) (cons_eq rfl (cons_eq rfl (cons_eq (tel_textN (nu := 5) (q.at_ 3) (by decide)) (rfl)))))
theorem clo_sDeleteTopicsResponseTopic : CloOk Tryz.prog 37 69 186 := by
 intro w S k SE tb YE us p lv x h1 h2 h3 h4 h5 h6 h7 h8 h9
 refine c_call Tryz.func186 rfl rfl fun a hk => ?_
 have hk : Kn 14 [(0, .int .u32 (p.1 : Int)), (1, x), (2, .pointer (some ⟨tb, 0, none⟩))] a := hk
 exact tl_clo (s := 5) treeP tagP rfl rfl (by kernel_rfl) (by kernel_rfl) (by decide) (by decide) h1 h2 h3 h4 h5 h6 h7 h8 h9 hk
theorem tell_sDeleteTopicsResponseTopic : TellOk Tryz.prog 126 sch_sDeleteTopicsResponseTopic true 0 := by
 intro w0 Y b off cs q hC hR hq
 rw [tells_sDeleteTopicsResponseTopic]
 refine c_call Tryz.func126 rfl rfl fun a hk => ?_
 have hk : Kn 49 [(0, .pointer (some ⟨b, off, none⟩))] a := hk
 refine tl_start (m := 4) (su := 4) (sv := 5) treeP rowT (by decide) rfl (by decide) (by decide) (by decide) (by decide) (by decide) (by decide) hC hR hk fun a w1 w rb tb bb Y1 hb hC hR hk ht => ?_
 rw [ddq_sDeleteTopicsResponseTopic] at hR
 have hR := rep_agg_inv hR
 obtain ⟨x0, c0, C0, hC, r0, hR⟩ := cel_un1 (one1_ite (one1_v _) (one1_ptr _)) hC hR
 obtain ⟨c1, C1, hC, hR⟩ := cel_un16 hC hR
 obtain ⟨c2, C2, hC, hR⟩ := cel_unV hC hR
 obtain ⟨x3, c3, C3, hC, r3, hR⟩ := cel_un1 (one1_ite (one1_v _) (one1_ptr _)) hC hR
 obtain ⟨xt, ct, Ct, hC, rt, hR⟩ := cel_un1 (one1_mp _ _) hC hR
 refine tl_call (s := 6) (k := 0) (F := 106) (tr := (if (q.at_ 0).z then ofNil else ofOct (q.at_ 0).s)) treeP rfl rfl (by kernel_rfl) (by kernel_rfl) (by decide) (by decide) (by decide) fo_133_0 ts_92 cb_106 (fun hm => textTree_c (q.at_ 0).z (q.at_ 0).s (rep_in hm r0)) (fun _ _ _ _ _ h => h) C0 hk ht fun a w hk ht => ?_
 refine tl_uuid (s := 14) (k := 1)  treeP rfl rfl (by kernel_rfl) (by kernel_rfl) (by decide) (by decide) (by decide) fo_133_1 ar_103 ts_5 te_22 rt_22 (fun _ _ _ _ _ h => h) C1 hk ht fun a w hk ht => ?_
 refine tl_num (s := 23) (k := 2)  treeP rfl rfl (by kernel_rfl) (by kernel_rfl) (by decide) (by decide) (by decide) fo_133_2 ts_46 un_46 ti_2 (wrap_in_i64 .i16 (by simp)) (fun _ _ _ _ _ h => h) C2 hk ht fun a w hk ht => ?_
 refine tl_call (s := 32) (k := 3) (F := 106) (tr := (if (q.at_ 3).z then ofNil else ofOct (q.at_ 3).s)) treeP rfl rfl (by kernel_rfl) (by kernel_rfl) (by decide) (by decide) (by decide) fo_133_3 ts_92 cb_106 (fun hm => textTree_c (q.at_ 3).z (q.at_ 3).s (rep_in hm r3)) (fun _ _ _ _ _ h => h) C3 hk ht fun a w hk ht => ?_
 exact tl_end (s := 40) (fE := 108) (fS := 110) (g := 186) treeP tagP each_cP cb_108 sorted_ok cb_110 clo_sDeleteTopicsResponseTopic cb_186 rfl rfl (fun h => Bool.noConfusion h) (by decide) (by decide) (by decide) fo_133_4 Ct rt (fine_spec hq).2.2.2.2.1 (fine_spec hq).2.2.1 (fine_spec hq).2.2.2.1 (sortU_perm _) (sortU_rise (fine_spec hq).2.2.2.2.1) hb hk ht
theorem ddq_DeleteTopicsResponse (q : T) : ddS sch_DeleteTopicsResponse true q = .agg [.v (.int .i32 (IntKind.i32.wrap (q.at_ 0).n)), if (q.at_ 1).z then .v (.slice none 0 0) else .sl true 20 ((q.at_ 1).l.map (ddS sch_sDeleteTopicsResponseTopic true)), ddTagMap q.u] := rfl
theorem tells_DeleteTopicsResponse (q : T) : telP sch_DeleteTopicsResponse q = .mk 0 [] false [ofNum (IntKind.i32.wrap (q.at_ 0).n), .mk 0 [] (q.at_ 1).z ((lzL (q.at_ 1).z (q.at_ 1).l).map (telV 10 (-1) (telP sch_sDeleteTopicsResponseTopic))) []] (sortU q.u) := congrArg (fun l => T.mk 0 [] false l (sortU q.u)) (cons_eq rfl (cons_eq (tel_list _) (rfl)))
theorem clo_DeleteTopicsResponse : CloOk Tryz.prog 37 69 127 := by
 intro w S k SE tb YE us p lv x h1 h2 h3 h4 h5 h6 h7 h8 h9
 refine c_call Tryz.func127 rfl rfl fun a hk => ?_
 have hk : Kn 14 [(0, .int .u32 (p.1 : Int)), (1, x), (2, .pointer (some ⟨tb, 0, none⟩))] a := hk
 exact tl_clo (s := 5) treeP tagP rfl rfl (by kernel_rfl) (by kernel_rfl) (by decide) (by decide) h1 h2 h3 h4 h5 h6 h7 h8 h9 hk
theorem tell_DeleteTopicsResponse : TellOk Tryz.prog 68 sch_DeleteTopicsResponse true 1 := by
 intro w0 Y b off cs q hC hR hq
 rw [tells_DeleteTopicsResponse]
 refine c_call Tryz.func68 rfl rfl fun a hk => ?_
 have hk : Kn 81 [(0, .pointer (some ⟨b, off, none⟩))] a := hk
 refine tl_start (m := 2) (su := 5) (sv := 6) treeP rowT (by decide) rfl (by decide) (by decide) (by decide) (by decide) (by decide) (by decide) hC hR hk fun a w1 w rb tb bb Y1 hb hC hR hk ht => ?_
 rw [ddq_DeleteTopicsResponse] at hR
 have hR := rep_agg_inv hR
 obtain ⟨c0, C0, hC, hR⟩ := cel_unV hC hR
 obtain ⟨x1, c1, C1, hC, r1, hR⟩ := cel_un1 (one1_ite (one1_v _) (one1_sl _ _ _)) hC hR
 obtain ⟨xt, ct, Ct, hC, rt, hR⟩ := cel_un1 (one1_mp _ _) hC hR
 refine tl_num (s := 7) (k := 0)  treeP rfl rfl (by kernel_rfl) (by kernel_rfl) (by decide) (by decide) (by decide) fo_129_1 ts_21 un_21 ti_2 (wrap_in_i64 .i32 (by simp)) (fun _ _ _ _ _ h => h) C0 hk ht fun a w hk ht => ?_
 obtain ⟨sp1, cap1, rfl, hz1, r1⟩ := rep_listN (G := (telV 10 (-1) (telP sch_sDeleteTopicsResponseTopic))) r1
 refine tl_null (s := 16) (k := 1)  treeP rfl rfl (by kernel_rfl) (by kernel_rfl) (by decide) (by decide) (by decide) fo_129_2 ts_127 te_127 ts_4 (fun _ _ _ _ _ h => h) C1 hk ht fun a w hk ht => ?_
 refine tl_list (s := 25) (k := 1) (iv := 4) (tz := 71) (tsl := (lzL (q.at_ 1).z (q.at_ 1).l).map (telV 10 (-1) (telP sch_sDeleteTopicsResponseTopic))) treeP tz_4 ts_4 rfl (by kernel_rfl) (by kernel_rfl) (by kernel_rfl) (by kernel_rfl) (by decide) (by decide) (by decide) (by decide) (by decide) (lz_len (fine_at hq 1)) fo_129_2 ts_127 te_127 (fun _ _ _ _ _ h => h) C1 hk ht ?_ ?_ fun a w hk ht => ?_
 ·intro Q j a w hj hQ hk ht K
  obtain ⟨b2, o2, c2, rfl, hE, hCE⟩ := list_at r1 (j := j) (by simpa using hj)
  exact tl_A_call (p := 35) (s := 25) (k := 1) rfl rfl (by kernel_rfl) (by kernel_rfl) (by kernel_rfl) (by kernel_rfl) treeP rowT (by decide) rfl (by decide) (by decide) (by decide) (by decide) hj (lz_len (fine_at hq 1)) fo_129_2 ts_127 te_127 ts_133 cb_126 (fun hm => by rw [getD_mapT hj]; exact tell_sDeleteTopicsResponseTopic (cel_in hm hCE) (rep_in hm hE) (lz_fine (fine_at hq 1) j)) hQ C1 hk ht K
 ·intro Q j a w hj hQ hk ht K
  obtain ⟨b2, o2, c2, rfl, hE, hCE⟩ := list_at r1 (j := j) (by simpa using hj)
  exact tl_B_call (p := 53) (s := 25) (k := 1) (by decide) rfl (by kernel_rfl) (by kernel_rfl) treeP rowT (by decide) rfl (by decide) (by decide) (by decide) (by decide) hj (lz_len (fine_at hq 1)) fo_129_2 ts_127 te_127 ts_133 cb_126 (fun hm => by rw [getD_mapT hj]; exact tell_sDeleteTopicsResponseTopic (cel_in hm hCE) (rep_in hm hE) (lz_fine (fine_at hq 1) j)) hQ C1 hk ht K
 rw [hz1] at ht
 exact tl_end (s := 72) (fE := 108) (fS := 110) (g := 127) treeP tagP each_cP cb_108 sorted_ok cb_110 clo_DeleteTopicsResponse cb_127 rfl rfl (fun h => Bool.noConfusion h) (by decide) (by decide) (by decide) fo_129_3 Ct rt (fine_spec hq).2.2.2.2.1 (fine_spec hq).2.2.1 (fine_spec hq).2.2.2.1 (sortU_perm _) (sortU_rise (fine_spec hq).2.2.2.2.1) hb hk ht
end Go.Proofs.YtoopklfabccmnaaGreatDoor
