/- Walks of functions that the laws of this seat reach. No statement of the seat stands here. -/
import Derived.Test.YthholdjpcdpceaaDoorL4
import Derived.Test.YthholdjpcdpceaaDoorRows
import Derived.Test.YthholdjpcdpceaaDoorFa
import Derived.Test.YthholdjpcdpceaaDoorTt
import Derived.Test.YthholdjpcdpceaaDoorTf
import Derived.Test.YthholdjpcdpceaaDoorTg2
import Derived.Test.YthholdjpcdpceaaDoorTh
import Derived.Test.YthholdjpcdpceaaDoorSch
namespace Go.Proofs.YthholdjpcdpceaaDoor
open Go Go.Mk
theorem ddq_sElectLeadersRequestTopic (q : T) : ddS sch_sElectLeadersRequestTopic true q = .agg [.v (.string (bs (q.at_ 0).s)), if (q.at_ 1).z then .v (.slice none 0 0) else .sl true 1 ((q.at_ 1).l.map (fun x : T => DD.v (.int .i32 (IntKind.i32.wrap x.n)))), ddTagMap q.u] := rfl
theorem tells_sElectLeadersRequestTopic (q : T) : telP sch_sElectLeadersRequestTopic q = .mk 0 [] false [ofOct (q.at_ 0).s, .mk 0 [] (q.at_ 1).z ((lzL (q.at_ 1).z (q.at_ 1).l).map (telV 3 (-1) (telP []))) []] (sortU q.u) := congrArg (fun l => T.mk 0 [] false l (sortU q.u)) (cons_eq rfl (cons_eq (tel_list _) (rfl)))
theorem clo_sElectLeadersRequestTopic : CloOk Tryd.prog 26 62 136 := by
 intro w S k SE tb YE us p lv x h1 h2 h3 h4 h5 h6 h7 h8 h9
 refine c_call Tryd.func136 rfl rfl fun a hk => ?_
 have hk : Kn 14 [(0, .int .u32 (p.1 : Int)), (1, x), (2, .pointer (some ⟨tb, 0, none⟩))] a := hk
 exact tl_clo (s := 5) treeP tagP rfl rfl (by kernel_rfl) (by kernel_rfl) (by decide) (by decide) h1 h2 h3 h4 h5 h6 h7 h8 h9 hk
theorem tell_sElectLeadersRequestTopic : TellOk Tryd.prog 92 sch_sElectLeadersRequestTopic true 0 := by
 intro w0 Y b off cs q hC hR hq
 rw [tells_sElectLeadersRequestTopic]
 refine c_call Tryd.func92 rfl rfl fun a hk => ?_
 have hk : Kn 85 [(0, .pointer (some ⟨b, off, none⟩))] a := hk
 refine tl_start (m := 2) (su := 5) (sv := 6) treeP rowT (by decide) rfl (by decide) (by decide) (by decide) (by decide) (by decide) (by decide) hC hR hk fun a w1 w rb tb bb Y1 hb hC hR hk ht => ?_
 rw [ddq_sElectLeadersRequestTopic] at hR
 have hR := rep_agg_inv hR
 obtain ⟨c0, C0, hC, hR⟩ := cel_unV hC hR
 obtain ⟨x1, c1, C1, hC, r1, hR⟩ := cel_un1 (one1_ite (one1_v _) (one1_sl _ _ _)) hC hR
 obtain ⟨xt, ct, Ct, hC, rt, hR⟩ := cel_un1 (one1_mp _ _) hC hR
 refine tl_text (s := 7) (k := 0)  treeP rfl rfl (by kernel_rfl) (by kernel_rfl) (by decide) (by decide) (by decide) fo_110_0 ts_9 is_9 iy_22 (fun _ _ _ _ _ h => h) C0 hk ht fun a w hk ht => ?_
 obtain ⟨sp1, cap1, rfl, hz1, r1⟩ := rep_listN (G := (telV 3 (-1) (telP []))) r1
 refine tl_null (s := 16) (k := 1)  treeP rfl rfl (by kernel_rfl) (by kernel_rfl) (by decide) (by decide) (by decide) fo_110_1 ts_108 te_108 ts_4 (fun _ _ _ _ _ h => h) C1 hk ht fun a w hk ht => ?_
 refine tl_list (s := 25) (k := 1) (iv := 4) (tz := 75) (tsl := (lzL (q.at_ 1).z (q.at_ 1).l).map (telV 3 (-1) (telP []))) treeP tz_4 ts_4 rfl (by kernel_rfl) (by kernel_rfl) (by kernel_rfl) (by kernel_rfl) (by decide) (by decide) (by decide) (by decide) (by decide) (lz_len (fine_at hq 1)) fo_110_1 ts_108 te_108 (fun _ _ _ _ _ h => h) C1 hk ht ?_ ?_ fun a w hk ht => ?_
 ·intro Q j a w hj hQ hk ht K
  obtain ⟨b2, o2, c2, rfl, hE, hCE⟩ := list_at r1 (j := j) (by simpa using hj)
  exact tl_A_num (iE := fun j => IntKind.i32.wrap ((lzL (q.at_ 1).z (q.at_ 1).l).getD j T.nil).n) (p := 35) (s := 25) (k := 1) rfl rfl (by kernel_rfl) (by kernel_rfl) treeP rowT (by decide) rfl (by decide) (by decide) (by decide) (by decide) hj (lz_len (fine_at hq 1)) fo_110_1 ts_108 te_108 ts_21 ts_21 un_21 ti_2 (cel_v hE hCE) (by rw [getD_mapT hj, wrap_in_i64 .i32 (by simp)]; rfl) hQ C1 hk ht K
 ·intro Q j a w hj hQ hk ht K
  obtain ⟨b2, o2, c2, rfl, hE, hCE⟩ := list_at r1 (j := j) (by simpa using hj)
  exact tl_B_num (iE := fun j => IntKind.i32.wrap ((lzL (q.at_ 1).z (q.at_ 1).l).getD j T.nil).n) (p := 55) (s := 25) (k := 1) (by decide) rfl (by kernel_rfl) (by kernel_rfl) treeP rowT (by decide) rfl (by decide) (by decide) (by decide) (by decide) hj (lz_len (fine_at hq 1)) fo_110_1 ts_108 te_108 ts_21 ts_21 un_21 ti_2 (cel_v hE hCE) (by rw [getD_mapT hj, wrap_in_i64 .i32 (by simp)]; rfl) hQ C1 hk ht K
 rw [hz1] at ht
 exact tl_end (s := 76) (fE := 83) (fS := 85) (g := 136) treeP tagP each_cP cb_83 sorted_ok cb_85 clo_sElectLeadersRequestTopic cb_136 rfl rfl (fun h => Bool.noConfusion h) (by decide) (by decide) (by decide) fo_110_2 Ct rt (fine_spec hq).2.2.2.2.1 (fine_spec hq).2.2.1 (fine_spec hq).2.2.2.1 (sortU_perm _) (sortU_rise (fine_spec hq).2.2.2.2.1) hb hk ht
theorem ddq_ElectLeadersRequest (q : T) : ddS sch_ElectLeadersRequest true q = .agg [.v (.int .i8 (IntKind.i8.wrap (q.at_ 0).n)), if (q.at_ 1).z then .v (.slice none 0 0) else .sl true 3 ((q.at_ 1).l.map (ddS sch_sElectLeadersRequestTopic true)), .v (.int .i32 (IntKind.i32.wrap (q.at_ 2).n)), ddTagMap q.u] := rfl
theorem tells_ElectLeadersRequest (q : T) : telP sch_ElectLeadersRequest q = .mk 0 [] false [ofNum (IntKind.i8.wrap (q.at_ 0).n), .mk 0 [] (q.at_ 1).z ((lzL (q.at_ 1).z (q.at_ 1).l).map (telV 10 (-1) (telP sch_sElectLeadersRequestTopic))) [], ofNum (IntKind.i32.wrap (q.at_ 2).n)] (sortU q.u) := congrArg (fun l => T.mk 0 [] false l (sortU q.u)) (cons_eq rfl (cons_eq (tel_list _) (cons_eq rfl (rfl))))
theorem clo_ElectLeadersRequest : CloOk Tryd.prog 26 62 93 := by
 intro w S k SE tb YE us p lv x h1 h2 h3 h4 h5 h6 h7 h8 h9
 refine c_call Tryd.func93 rfl rfl fun a hk => ?_
 have hk : Kn 14 [(0, .int .u32 (p.1 : Int)), (1, x), (2, .pointer (some ⟨tb, 0, none⟩))] a := hk
 exact tl_clo (s := 5) treeP tagP rfl rfl (by kernel_rfl) (by kernel_rfl) (by decide) (by decide) h1 h2 h3 h4 h5 h6 h7 h8 h9 hk
theorem tell_ElectLeadersRequest : TellOk Tryd.prog 58 sch_ElectLeadersRequest true 1 := by
 intro w0 Y b off cs q hC hR hq
 rw [tells_ElectLeadersRequest]
 refine c_call Tryd.func58 rfl rfl fun a hk => ?_
 have hk : Kn 90 [(0, .pointer (some ⟨b, off, none⟩))] a := hk
 refine tl_start (m := 3) (su := 5) (sv := 6) treeP rowT (by decide) rfl (by decide) (by decide) (by decide) (by decide) (by decide) (by decide) hC hR hk fun a w1 w rb tb bb Y1 hb hC hR hk ht => ?_
 rw [ddq_ElectLeadersRequest] at hR
 have hR := rep_agg_inv hR
 obtain ⟨c0, C0, hC, hR⟩ := cel_unV hC hR
 obtain ⟨x1, c1, C1, hC, r1, hR⟩ := cel_un1 (one1_ite (one1_v _) (one1_sl _ _ _)) hC hR
 obtain ⟨c2, C2, hC, hR⟩ := cel_unV hC hR
 obtain ⟨xt, ct, Ct, hC, rt, hR⟩ := cel_un1 (one1_mp _ _) hC hR
 refine tl_num (s := 7) (k := 0)  treeP rfl rfl (by kernel_rfl) (by kernel_rfl) (by decide) (by decide) (by decide) fo_105_1 ts_102 un_102 ti_2 (wrap_in_i64 .i8 (by simp)) (fun _ _ _ _ _ h => h) C0 hk ht fun a w hk ht => ?_
 obtain ⟨sp1, cap1, rfl, hz1, r1⟩ := rep_listN (G := (telV 10 (-1) (telP sch_sElectLeadersRequestTopic))) r1
 refine tl_null (s := 16) (k := 1)  treeP rfl rfl (by kernel_rfl) (by kernel_rfl) (by decide) (by decide) (by decide) fo_105_2 ts_103 te_103 ts_4 (fun _ _ _ _ _ h => h) C1 hk ht fun a w hk ht => ?_
 refine tl_list (s := 25) (k := 1) (iv := 4) (tz := 71) (tsl := (lzL (q.at_ 1).z (q.at_ 1).l).map (telV 10 (-1) (telP sch_sElectLeadersRequestTopic))) treeP tz_4 ts_4 rfl (by kernel_rfl) (by kernel_rfl) (by kernel_rfl) (by kernel_rfl) (by decide) (by decide) (by decide) (by decide) (by decide) (lz_len (fine_at hq 1)) fo_105_2 ts_103 te_103 (fun _ _ _ _ _ h => h) C1 hk ht ?_ ?_ fun a w hk ht => ?_
 ·intro Q j a w hj hQ hk ht K
  obtain ⟨b2, o2, c2, rfl, hE, hCE⟩ := list_at r1 (j := j) (by simpa using hj)
  exact tl_A_call (p := 35) (s := 25) (k := 1) rfl rfl (by kernel_rfl) (by kernel_rfl) (by kernel_rfl) (by kernel_rfl) treeP rowT (by decide) rfl (by decide) (by decide) (by decide) (by decide) hj (lz_len (fine_at hq 1)) fo_105_2 ts_103 te_103 ts_110 cb_92 (fun hm => by rw [getD_mapT hj]; exact tell_sElectLeadersRequestTopic (cel_in hm hCE) (rep_in hm hE) (lz_fine (fine_at hq 1) j)) hQ C1 hk ht K
 ·intro Q j a w hj hQ hk ht K
  obtain ⟨b2, o2, c2, rfl, hE, hCE⟩ := list_at r1 (j := j) (by simpa using hj)
  exact tl_B_call (p := 53) (s := 25) (k := 1) (by decide) rfl (by kernel_rfl) (by kernel_rfl) treeP rowT (by decide) rfl (by decide) (by decide) (by decide) (by decide) hj (lz_len (fine_at hq 1)) fo_105_2 ts_103 te_103 ts_110 cb_92 (fun hm => by rw [getD_mapT hj]; exact tell_sElectLeadersRequestTopic (cel_in hm hCE) (rep_in hm hE) (lz_fine (fine_at hq 1) j)) hQ C1 hk ht K
 rw [hz1] at ht
 refine tl_num (s := 72) (k := 2)  treeP rfl rfl (by kernel_rfl) (by kernel_rfl) (by decide) (by decide) (by decide) fo_105_3 ts_21 un_21 ti_2 (wrap_in_i64 .i32 (by simp)) (fun _ _ _ _ _ h => h) C2 hk ht fun a w hk ht => ?_
 exact tl_end (s := 81) (fE := 83) (fS := 85) (g := 93) treeP tagP each_cP cb_83 sorted_ok cb_85 clo_ElectLeadersRequest cb_93 rfl rfl (fun h => Bool.noConfusion h) (by decide) (by decide) (by decide) fo_105_4 Ct rt (fine_spec hq).2.2.2.2.1 (fine_spec hq).2.2.1 (fine_spec hq).2.2.2.1 (sortU_perm _) (sortU_rise (fine_spec hq).2.2.2.2.1) hb hk ht
end Go.Proofs.YthholdjpcdpceaaDoor
