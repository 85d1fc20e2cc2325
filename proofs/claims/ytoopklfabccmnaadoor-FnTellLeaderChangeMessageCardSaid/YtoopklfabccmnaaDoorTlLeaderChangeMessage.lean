/- Walks of functions that the laws of this seat reach. No statement of the seat stands here. -/
import Derived.Test.YtoopklfabccmnaaDoorL4
import Derived.Test.YtoopklfabccmnaaDoorRows
import Derived.Test.YtoopklfabccmnaaDoorFa
import Derived.Test.YtoopklfabccmnaaDoorTt
import Derived.Test.YtoopklfabccmnaaDoorTf
import Derived.Test.YtoopklfabccmnaaDoorTg2
import Derived.Test.YtoopklfabccmnaaDoorTh
import Derived.Test.YtoopklfabccmnaaDoorSch
namespace Go.Proofs.YtoopklfabccmnaaDoor
open Go Go.Mk
theorem ddq_sLeaderChangeMessageVoter (q : T) : ddS sch_sLeaderChangeMessageVoter true q = .agg [.v (.int .i32 (IntKind.i32.wrap (q.at_ 0).n)), .agg ((sixteen (q.at_ 1).s).map ddB), ddTagMap q.u] := rfl
theorem tells_sLeaderChangeMessageVoter (q : T) : telP sch_sLeaderChangeMessageVoter q = .mk 0 [] false [ofNum (IntKind.i32.wrap (q.at_ 0).n), ofOct (sixteen (q.at_ 1).s)] (sortU q.u) := congrArg (fun l => T.mk 0 [] false l (sortU q.u)) (cons_eq rfl (cons_eq rfl (rfl)))
theorem clo_sLeaderChangeMessageVoter : CloOk Tryd.prog 35 71 48 := by
 intro w S k SE tb YE us p lv x h1 h2 h3 h4 h5 h6 h7 h8 h9
 refine c_call Tryd.func48 rfl rfl fun a hk => ?_
 have hk : Kn 14 [(0, .int .u32 (p.1 : Int)), (1, x), (2, .pointer (some ⟨tb, 0, none⟩))] a := hk
 exact tl_clo (s := 5) treeP tagP rfl rfl (by kernel_rfl) (by kernel_rfl) (by decide) (by decide) h1 h2 h3 h4 h5 h6 h7 h8 h9 hk
theorem tell_sLeaderChangeMessageVoter : TellOk Tryd.prog 29 sch_sLeaderChangeMessageVoter true 0 := by
 intro w0 Y b off cs q hC hR hq
 rw [tells_sLeaderChangeMessageVoter]
 refine c_call Tryd.func29 rfl rfl fun a hk => ?_
 have hk : Kn 33 [(0, .pointer (some ⟨b, off, none⟩))] a := hk
 refine tl_start (m := 2) (su := 4) (sv := 5) treeP rowT (by decide) rfl (by decide) (by decide) (by decide) (by decide) (by decide) (by decide) hC hR hk fun a w1 w rb tb bb Y1 hb hC hR hk ht => ?_
 rw [ddq_sLeaderChangeMessageVoter] at hR
 have hR := rep_agg_inv hR
 obtain ⟨c0, C0, hC, hR⟩ := cel_unV hC hR
 obtain ⟨c1, C1, hC, hR⟩ := cel_un16 hC hR
 obtain ⟨xt, ct, Ct, hC, rt, hR⟩ := cel_un1 (one1_mp _ _) hC hR
 refine tl_num (s := 6) (k := 0)  treeP rfl rfl (by kernel_rfl) (by kernel_rfl) (by decide) (by decide) (by decide) fo_78_0 ts_21 un_21 ti_2 (wrap_in_i64 .i32 (by simp)) (fun _ _ _ _ _ h => h) C0 hk ht fun a w hk ht => ?_
 refine tl_uuid (s := 15) (k := 1)  treeP rfl rfl (by kernel_rfl) (by kernel_rfl) (by decide) (by decide) (by decide) fo_78_1 ar_76 ts_5 te_22 rt_22 (fun _ _ _ _ _ h => h) C1 hk ht fun a w hk ht => ?_
 exact tl_end (s := 24) (fE := 30) (fS := 32) (g := 48) treeP tagP each_cP cb_30 sorted_ok cb_32 clo_sLeaderChangeMessageVoter cb_48 rfl rfl (fun h => Bool.noConfusion h) (by decide) (by decide) (by decide) fo_78_2 Ct rt (fine_spec hq).2.2.2.2.1 (fine_spec hq).2.2.1 (fine_spec hq).2.2.2.1 (sortU_perm _) (sortU_rise (fine_spec hq).2.2.2.2.1) hb hk ht
theorem ddq_LeaderChangeMessage (q : T) : ddS sch_LeaderChangeMessage true q = .agg [.v (.int .i32 (IntKind.i32.wrap (q.at_ 0).n)), if (q.at_ 1).z then .v (.slice none 0 0) else .sl true 18 ((q.at_ 1).l.map (ddS sch_sLeaderChangeMessageVoter true)), if (q.at_ 2).z then .v (.slice none 0 0) else .sl true 18 ((q.at_ 2).l.map (ddS sch_sLeaderChangeMessageVoter true)), ddTagMap q.u] := rfl
theorem tells_LeaderChangeMessage (q : T) : telP sch_LeaderChangeMessage q = .mk 0 [] false [ofNum (IntKind.i32.wrap (q.at_ 0).n), .mk 0 [] (q.at_ 1).z ((lzL (q.at_ 1).z (q.at_ 1).l).map (telV 10 (-1) (telP sch_sLeaderChangeMessageVoter))) [], .mk 0 [] (q.at_ 2).z ((lzL (q.at_ 2).z (q.at_ 2).l).map (telV 10 (-1) (telP sch_sLeaderChangeMessageVoter))) []] (sortU q.u) := congrArg (fun l => T.mk 0 [] false l (sortU q.u)) (cons_eq rfl (cons_eq (tel_list _) (cons_eq (tel_list _) (rfl))))
theorem clo_LeaderChangeMessage : CloOk Tryd.prog 35 71 31 := by
 intro w S k SE tb YE us p lv x h1 h2 h3 h4 h5 h6 h7 h8 h9
 refine c_call Tryd.func31 rfl rfl fun a hk => ?_
 have hk : Kn 14 [(0, .int .u32 (p.1 : Int)), (1, x), (2, .pointer (some ⟨tb, 0, none⟩))] a := hk
 exact tl_clo (s := 5) treeP tagP rfl rfl (by kernel_rfl) (by kernel_rfl) (by decide) (by decide) h1 h2 h3 h4 h5 h6 h7 h8 h9 hk
theorem tell_LeaderChangeMessage : TellOk Tryd.prog 15 sch_LeaderChangeMessage true 1 := by
 intro w0 Y b off cs q hC hR hq
 rw [tells_LeaderChangeMessage]
 refine c_call Tryd.func15 rfl rfl fun a hk => ?_
 have hk : Kn 138 [(0, .pointer (some ⟨b, off, none⟩))] a := hk
 refine tl_start (m := 3) (su := 6) (sv := 7) treeP rowT (by decide) rfl (by decide) (by decide) (by decide) (by decide) (by decide) (by decide) hC hR hk fun a w1 w rb tb bb Y1 hb hC hR hk ht => ?_
 rw [ddq_LeaderChangeMessage] at hR
 have hR := rep_agg_inv hR
 obtain ⟨c0, C0, hC, hR⟩ := cel_unV hC hR
 obtain ⟨x1, c1, C1, hC, r1, hR⟩ := cel_un1 (one1_ite (one1_v _) (one1_sl _ _ _)) hC hR
 obtain ⟨x2, c2, C2, hC, r2, hR⟩ := cel_un1 (one1_ite (one1_v _) (one1_sl _ _ _)) hC hR
 obtain ⟨xt, ct, Ct, hC, rt, hR⟩ := cel_un1 (one1_mp _ _) hC hR
 refine tl_num (s := 8) (k := 0)  treeP rfl rfl (by kernel_rfl) (by kernel_rfl) (by decide) (by decide) (by decide) fo_53_1 ts_21 un_21 ti_2 (wrap_in_i64 .i32 (by simp)) (fun _ _ _ _ _ h => h) C0 hk ht fun a w hk ht => ?_
 obtain ⟨sp1, cap1, rfl, hz1, r1⟩ := rep_listN (G := (telV 10 (-1) (telP sch_sLeaderChangeMessageVoter))) r1
 refine tl_null (s := 17) (k := 1)  treeP rfl rfl (by kernel_rfl) (by kernel_rfl) (by decide) (by decide) (by decide) fo_53_2 ts_48 te_48 ts_4 (fun _ _ _ _ _ h => h) C1 hk ht fun a w hk ht => ?_
 refine tl_list (s := 26) (k := 1) (iv := 4) (tz := 72) (tsl := (lzL (q.at_ 1).z (q.at_ 1).l).map (telV 10 (-1) (telP sch_sLeaderChangeMessageVoter))) treeP tz_4 ts_4 rfl (by kernel_rfl) (by kernel_rfl) (by kernel_rfl) (by kernel_rfl) (by decide) (by decide) (by decide) (by decide) (by decide) (lz_len (fine_at hq 1)) fo_53_2 ts_48 te_48 (fun _ _ _ _ _ h => h) C1 hk ht ?_ ?_ fun a w hk ht => ?_
 ·intro Q j a w hj hQ hk ht K
  obtain ⟨b2, o2, c2, rfl, hE, hCE⟩ := list_at r1 (j := j) (by simpa using hj)
  exact tl_A_call (p := 36) (s := 26) (k := 1) rfl rfl (by kernel_rfl) (by kernel_rfl) (by kernel_rfl) (by kernel_rfl) treeP rowT (by decide) rfl (by decide) (by decide) (by decide) (by decide) hj (lz_len (fine_at hq 1)) fo_53_2 ts_48 te_48 ts_78 cb_29 (fun hm => by rw [getD_mapT hj]; exact tell_sLeaderChangeMessageVoter (cel_in hm hCE) (rep_in hm hE) (lz_fine (fine_at hq 1) j)) hQ C1 hk ht K
 ·intro Q j a w hj hQ hk ht K
  obtain ⟨b2, o2, c2, rfl, hE, hCE⟩ := list_at r1 (j := j) (by simpa using hj)
  exact tl_B_call (p := 54) (s := 26) (k := 1) (by decide) rfl (by kernel_rfl) (by kernel_rfl) treeP rowT (by decide) rfl (by decide) (by decide) (by decide) (by decide) hj (lz_len (fine_at hq 1)) fo_53_2 ts_48 te_48 ts_78 cb_29 (fun hm => by rw [getD_mapT hj]; exact tell_sLeaderChangeMessageVoter (cel_in hm hCE) (rep_in hm hE) (lz_fine (fine_at hq 1) j)) hQ C1 hk ht K
 rw [hz1] at ht
 obtain ⟨sp2, cap2, rfl, hz2, r2⟩ := rep_listN (G := (telV 10 (-1) (telP sch_sLeaderChangeMessageVoter))) r2
 refine tl_null (s := 73) (k := 2)  treeP rfl rfl (by kernel_rfl) (by kernel_rfl) (by decide) (by decide) (by decide) fo_53_3 ts_48 te_48 ts_4 (fun _ _ _ _ _ h => h) C2 hk ht fun a w hk ht => ?_
 refine tl_list (s := 82) (k := 2) (iv := 5) (tz := 128) (tsl := (lzL (q.at_ 2).z (q.at_ 2).l).map (telV 10 (-1) (telP sch_sLeaderChangeMessageVoter))) treeP tz_4 ts_4 rfl (by kernel_rfl) (by kernel_rfl) (by kernel_rfl) (by kernel_rfl) (by decide) (by decide) (by decide) (by decide) (by decide) (lz_len (fine_at hq 2)) fo_53_3 ts_48 te_48 (fun _ _ _ _ _ h => h) C2 hk ht ?_ ?_ fun a w hk ht => ?_
 ·intro Q j a w hj hQ hk ht K
  obtain ⟨b2, o2, c2, rfl, hE, hCE⟩ := list_at r2 (j := j) (by simpa using hj)
  exact tl_A_call (p := 92) (s := 82) (k := 2) rfl rfl (by kernel_rfl) (by kernel_rfl) (by kernel_rfl) (by kernel_rfl) treeP rowT (by decide) rfl (by decide) (by decide) (by decide) (by decide) hj (lz_len (fine_at hq 2)) fo_53_3 ts_48 te_48 ts_78 cb_29 (fun hm => by rw [getD_mapT hj]; exact tell_sLeaderChangeMessageVoter (cel_in hm hCE) (rep_in hm hE) (lz_fine (fine_at hq 2) j)) hQ C2 hk ht K
 ·intro Q j a w hj hQ hk ht K
  obtain ⟨b2, o2, c2, rfl, hE, hCE⟩ := list_at r2 (j := j) (by simpa using hj)
  exact tl_B_call (p := 110) (s := 82) (k := 2) (by decide) rfl (by kernel_rfl) (by kernel_rfl) treeP rowT (by decide) rfl (by decide) (by decide) (by decide) (by decide) hj (lz_len (fine_at hq 2)) fo_53_3 ts_48 te_48 ts_78 cb_29 (fun hm => by rw [getD_mapT hj]; exact tell_sLeaderChangeMessageVoter (cel_in hm hCE) (rep_in hm hE) (lz_fine (fine_at hq 2) j)) hQ C2 hk ht K
 rw [hz2] at ht
 exact tl_end (s := 129) (fE := 30) (fS := 32) (g := 31) treeP tagP each_cP cb_30 sorted_ok cb_32 clo_LeaderChangeMessage cb_31 rfl rfl (fun h => Bool.noConfusion h) (by decide) (by decide) (by decide) fo_53_4 Ct rt (fine_spec hq).2.2.2.2.1 (fine_spec hq).2.2.1 (fine_spec hq).2.2.2.1 (sortU_perm _) (sortU_rise (fine_spec hq).2.2.2.2.1) hb hk ht
end Go.Proofs.YtoopklfabccmnaaDoor
