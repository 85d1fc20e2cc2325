/- Walks of functions that the laws of this seat reach. No statement of the seat stands here. -/
import Derived.Test.YticigmdbfimfbaaGreatDoorL4
import Derived.Test.YticigmdbfimfbaaGreatDoorRows
import Derived.Test.YticigmdbfimfbaaGreatDoorFa
import Derived.Test.YticigmdbfimfbaaGreatDoorTt
import Derived.Test.YticigmdbfimfbaaGreatDoorTf
import Derived.Test.YticigmdbfimfbaaGreatDoorTg2
import Derived.Test.YticigmdbfimfbaaGreatDoorTh
import Derived.Test.YticigmdbfimfbaaGreatDoorSch
namespace Go.Proofs.YticigmdbfimfbaaGreatDoor
open Go Go.Mk
theorem ddq_sUpdateFeaturesRequestFeatureUpdate (q : T) : ddS sch_sUpdateFeaturesRequestFeatureUpdate true q = .agg [.v (.string (bs (q.at_ 0).s)), .v (.int .i16 (IntKind.i16.wrap (q.at_ 1).n)), .v (.bool ((q.at_ 2).n % 2 == 1)), .v (.int .i8 (IntKind.i8.wrap (q.at_ 3).n)), ddTagMap q.u] := rfl
theorem tells_sUpdateFeaturesRequestFeatureUpdate (q : T) : telP sch_sUpdateFeaturesRequestFeatureUpdate q = .mk 0 [] false [ofOct (q.at_ 0).s, ofNum (IntKind.i16.wrap (q.at_ 1).n), ofNum (if ((q.at_ 2).n % 2 == 1) then 1 else 0), ofNum (IntKind.i8.wrap (q.at_ 3).n)] (sortU q.u) := congrArg (fun l => T.mk 0 [] false l (sortU q.u)) (cons_eq rfl (cons_eq rfl (cons_eq (tel_bool (q.at_ 2)) (cons_eq rfl (rfl)))))
theorem clo_sUpdateFeaturesRequestFeatureUpdate : CloOk Tryz.prog 37 68 158 := by
 intro w S k SE tb YE us p lv x h1 h2 h3 h4 h5 h6 h7 h8 h9
 refine c_call Tryz.func158 rfl rfl fun a hk => ?_
 have hk : Kn 14 [(0, .int .u32 (p.1 : Int)), (1, x), (2, .pointer (some ⟨tb, 0, none⟩))] a := hk
 exact tl_clo (s := 5) treeP tagP rfl rfl (by kernel_rfl) (by kernel_rfl) (by decide) (by decide) h1 h2 h3 h4 h5 h6 h7 h8 h9 hk
theorem tell_sUpdateFeaturesRequestFeatureUpdate : TellOk Tryz.prog 116 sch_sUpdateFeaturesRequestFeatureUpdate true 0 := by
 intro w0 Y b off cs q hC hR hq
 rw [tells_sUpdateFeaturesRequestFeatureUpdate]
 refine c_call Tryz.func116 rfl rfl fun a hk => ?_
 have hk : Kn 50 [(0, .pointer (some ⟨b, off, none⟩))] a := hk
 refine tl_start (m := 4) (su := 4) (sv := 5) treeP rowT (by decide) rfl (by decide) (by decide) (by decide) (by decide) (by decide) (by decide) hC hR hk fun a w1 w rb tb bb Y1 hb hC hR hk ht => ?_
 rw [ddq_sUpdateFeaturesRequestFeatureUpdate] at hR
 have hR := rep_agg_inv hR
 obtain ⟨c0, C0, hC, hR⟩ := cel_unV hC hR
 obtain ⟨c1, C1, hC, hR⟩ := cel_unV hC hR
 obtain ⟨c2, C2, hC, hR⟩ := cel_unV hC hR
 obtain ⟨c3, C3, hC, hR⟩ := cel_unV hC hR
 obtain ⟨xt, ct, Ct, hC, rt, hR⟩ := cel_un1 (one1_mp _ _) hC hR
 refine tl_text (s := 6) (k := 0)  treeP rfl rfl (by kernel_rfl) (by kernel_rfl) (by decide) (by decide) (by decide) fo_134_0 ts_9 is_9 iy_22 (fun _ _ _ _ _ h => h) C0 hk ht fun a w hk ht => ?_
 refine tl_num (s := 15) (k := 1)  treeP rfl rfl (by kernel_rfl) (by kernel_rfl) (by decide) (by decide) (by decide) fo_134_1 ts_46 un_46 ti_2 (wrap_in_i64 .i16 (by simp)) (fun _ _ _ _ _ h => h) C1 hk ht fun a w hk ht => ?_
 refine tl_call (s := 24) (k := 2) (F := 117) (tr := ofNum (if ((q.at_ 2).n % 2 == 1) then 1 else 0)) treeP rfl rfl (by kernel_rfl) (by kernel_rfl) (by decide) (by decide) (by decide) fo_134_2 ts_4 cb_117 (fun _ => boolTree_c _) (fun _ _ _ _ _ h => h) C2 hk ht fun a w hk ht => ?_
 refine tl_num (s := 32) (k := 3)  treeP rfl rfl (by kernel_rfl) (by kernel_rfl) (by decide) (by decide) (by decide) fo_134_3 ts_132 un_132 ti_2 (wrap_in_i64 .i8 (by simp)) (fun _ _ _ _ _ h => h) C3 hk ht fun a w hk ht => ?_
 exact tl_end (s := 41) (fE := 91) (fS := 93) (g := 158) treeP tagP each_cP cb_91 sorted_ok cb_93 clo_sUpdateFeaturesRequestFeatureUpdate cb_158 rfl rfl (fun h => Bool.noConfusion h) (by decide) (by decide) (by decide) fo_134_4 Ct rt (fine_spec hq).2.2.2.2.1 (fine_spec hq).2.2.1 (fine_spec hq).2.2.2.1 (sortU_perm _) (sortU_rise (fine_spec hq).2.2.2.2.1) hb hk ht
theorem ddq_UpdateFeaturesRequest (q : T) : ddS sch_UpdateFeaturesRequest true q = .agg [.v (.int .i32 (IntKind.i32.wrap (q.at_ 0).n)), if (q.at_ 1).z then .v (.slice none 0 0) else .sl true 5 ((q.at_ 1).l.map (ddS sch_sUpdateFeaturesRequestFeatureUpdate true)), .v (.bool ((q.at_ 2).n % 2 == 1)), ddTagMap q.u] := rfl
theorem tells_UpdateFeaturesRequest (q : T) : telP sch_UpdateFeaturesRequest q = .mk 0 [] false [ofNum (IntKind.i32.wrap (q.at_ 0).n), .mk 0 [] (q.at_ 1).z ((lzL (q.at_ 1).z (q.at_ 1).l).map (telV 10 (-1) (telP sch_sUpdateFeaturesRequestFeatureUpdate))) [], ofNum (if ((q.at_ 2).n % 2 == 1) then 1 else 0)] (sortU q.u) := congrArg (fun l => T.mk 0 [] false l (sortU q.u)) (cons_eq rfl (cons_eq (tel_list _) (cons_eq (tel_bool (q.at_ 2)) (rfl))))
theorem clo_UpdateFeaturesRequest : CloOk Tryz.prog 37 68 118 := by
 intro w S k SE tb YE us p lv x h1 h2 h3 h4 h5 h6 h7 h8 h9
 refine c_call Tryz.func118 rfl rfl fun a hk => ?_
 have hk : Kn 14 [(0, .int .u32 (p.1 : Int)), (1, x), (2, .pointer (some ⟨tb, 0, none⟩))] a := hk
 exact tl_clo (s := 5) treeP tagP rfl rfl (by kernel_rfl) (by kernel_rfl) (by decide) (by decide) h1 h2 h3 h4 h5 h6 h7 h8 h9 hk
theorem tell_UpdateFeaturesRequest : TellOk Tryz.prog 74 sch_UpdateFeaturesRequest true 1 := by
 intro w0 Y b off cs q hC hR hq
 rw [tells_UpdateFeaturesRequest]
 refine c_call Tryz.func74 rfl rfl fun a hk => ?_
 have hk : Kn 89 [(0, .pointer (some ⟨b, off, none⟩))] a := hk
 refine tl_start (m := 3) (su := 5) (sv := 6) treeP rowT (by decide) rfl (by decide) (by decide) (by decide) (by decide) (by decide) (by decide) hC hR hk fun a w1 w rb tb bb Y1 hb hC hR hk ht => ?_
 rw [ddq_UpdateFeaturesRequest] at hR
 have hR := rep_agg_inv hR
 obtain ⟨c0, C0, hC, hR⟩ := cel_unV hC hR
 obtain ⟨x1, c1, C1, hC, r1, hR⟩ := cel_un1 (one1_ite (one1_v _) (one1_sl _ _ _)) hC hR
 obtain ⟨c2, C2, hC, hR⟩ := cel_unV hC hR
 obtain ⟨xt, ct, Ct, hC, rt, hR⟩ := cel_un1 (one1_mp _ _) hC hR
 refine tl_num (s := 7) (k := 0)  treeP rfl rfl (by kernel_rfl) (by kernel_rfl) (by decide) (by decide) (by decide) fo_129_1 ts_21 un_21 ti_2 (wrap_in_i64 .i32 (by simp)) (fun _ _ _ _ _ h => h) C0 hk ht fun a w hk ht => ?_
 obtain ⟨sp1, cap1, rfl, hz1, r1⟩ := rep_listN (G := (telV 10 (-1) (telP sch_sUpdateFeaturesRequestFeatureUpdate))) r1
 refine tl_null (s := 16) (k := 1)  treeP rfl rfl (by kernel_rfl) (by kernel_rfl) (by decide) (by decide) (by decide) fo_129_2 ts_127 te_127 ts_4 (fun _ _ _ _ _ h => h) C1 hk ht fun a w hk ht => ?_
 refine tl_list (s := 25) (k := 1) (iv := 4) (tz := 71) (tsl := (lzL (q.at_ 1).z (q.at_ 1).l).map (telV 10 (-1) (telP sch_sUpdateFeaturesRequestFeatureUpdate))) treeP tz_4 ts_4 rfl (by kernel_rfl) (by kernel_rfl) (by kernel_rfl) (by kernel_rfl) (by decide) (by decide) (by decide) (by decide) (by decide) (lz_len (fine_at hq 1)) fo_129_2 ts_127 te_127 (fun _ _ _ _ _ h => h) C1 hk ht ?_ ?_ fun a w hk ht => ?_
 ·intro Q j a w hj hQ hk ht K
  obtain ⟨b2, o2, c2, rfl, hE, hCE⟩ := list_at r1 (j := j) (by simpa using hj)
  exact tl_A_call (p := 35) (s := 25) (k := 1) rfl rfl (by kernel_rfl) (by kernel_rfl) (by kernel_rfl) (by kernel_rfl) treeP rowT (by decide) rfl (by decide) (by decide) (by decide) (by decide) hj (lz_len (fine_at hq 1)) fo_129_2 ts_127 te_127 ts_134 cb_116 (fun hm => by rw [getD_mapT hj]; exact tell_sUpdateFeaturesRequestFeatureUpdate (cel_in hm hCE) (rep_in hm hE) (lz_fine (fine_at hq 1) j)) hQ C1 hk ht K
 ·intro Q j a w hj hQ hk ht K
  obtain ⟨b2, o2, c2, rfl, hE, hCE⟩ := list_at r1 (j := j) (by simpa using hj)
  exact tl_B_call (p := 53) (s := 25) (k := 1) (by decide) rfl (by kernel_rfl) (by kernel_rfl) treeP rowT (by decide) rfl (by decide) (by decide) (by decide) (by decide) hj (lz_len (fine_at hq 1)) fo_129_2 ts_127 te_127 ts_134 cb_116 (fun hm => by rw [getD_mapT hj]; exact tell_sUpdateFeaturesRequestFeatureUpdate (cel_in hm hCE) (rep_in hm hE) (lz_fine (fine_at hq 1) j)) hQ C1 hk ht K
 rw [hz1] at ht
 refine tl_call (s := 72) (k := 2) (F := 117) (tr := ofNum (if ((q.at_ 2).n % 2 == 1) then 1 else 0)) treeP rfl rfl (by kernel_rfl) (by kernel_rfl) (by decide) (by decide) (by decide) fo_129_3 ts_4 cb_117 (fun _ => boolTree_c _) (fun _ _ _ _ _ h => h) C2 hk ht fun a w hk ht => ?_
 exact tl_end (s := 80) (fE := 91) (fS := 93) (g := 118) treeP tagP each_cP cb_91 sorted_ok cb_93 clo_UpdateFeaturesRequest cb_118 rfl rfl (fun h => Bool.noConfusion h) (by decide) (by decide) (by decide) fo_129_4 Ct rt (fine_spec hq).2.2.2.2.1 (fine_spec hq).2.2.1 (fine_spec hq).2.2.2.1 (sortU_perm _) (sortU_rise (fine_spec hq).2.2.2.2.1) hb hk ht
end Go.Proofs.YticigmdbfimfbaaGreatDoor
