/- Walks of functions that the laws of this seat reach. No statement of the seat stands here. -/
import Derived.Test.YthholdjpcdpceabDoorL3
import Derived.Test.YthholdjpcdpceabDoorRows
import Derived.Test.YthholdjpcdpceabDoorFa
import Derived.Test.YthholdjpcdpceabDoorTt
import Derived.Test.YthholdjpcdpceabDoorTf
import Derived.Test.YthholdjpcdpceabDoorTg2
import Derived.Test.YthholdjpcdpceabDoorTh
import Derived.Test.YthholdjpcdpceabDoorSch
namespace Go.Proofs.YthholdjpcdpceabDoor
open Go Go.Mk
theorem ddq_sControllerRegistrationRequestListener (q : T) : ddS sch_sControllerRegistrationRequestListener true q = .agg [.v (.string (bs (q.at_ 0).s)), .v (.string (bs (q.at_ 1).s)), .v (.int .u16 (IntKind.u16.wrap (q.at_ 2).n)), .v (.int .i16 (IntKind.i16.wrap (q.at_ 3).n)), ddTagMap q.u] := rfl
theorem tells_sControllerRegistrationRequestListener (q : T) : telP sch_sControllerRegistrationRequestListener q = .mk 0 [] false [ofOct (q.at_ 0).s, ofOct (q.at_ 1).s, ofNum (IntKind.u16.wrap (q.at_ 2).n), ofNum (IntKind.i16.wrap (q.at_ 3).n)] (sortU q.u) := congrArg (fun l => T.mk 0 [] false l (sortU q.u)) (cons_eq rfl (cons_eq rfl (cons_eq rfl (cons_eq rfl (rfl)))))
theorem clo_sControllerRegistrationRequestListener : CloOk Tryd.prog 27 51 115 := by
 intro w S k SE tb YE us p lv x h1 h2 h3 h4 h5 h6 h7 h8 h9
 refine c_call Tryd.func115 rfl rfl fun a hk => ?_
 have hk : Kn 14 [(0, .int .u32 (p.1 : Int)), (1, x), (2, .pointer (some ⟨tb, 0, none⟩))] a := hk
 exact tl_clo (s := 5) treeP tagP rfl rfl (by kernel_rfl) (by kernel_rfl) (by decide) (by decide) h1 h2 h3 h4 h5 h6 h7 h8 h9 hk
theorem tell_sControllerRegistrationRequestListener : TellOk Tryd.prog 76 sch_sControllerRegistrationRequestListener true 0 := by
 intro w0 Y b off cs q hC hR hq
 rw [tells_sControllerRegistrationRequestListener]
 refine c_call Tryd.func76 rfl rfl fun a hk => ?_
 have hk : Kn 51 [(0, .pointer (some ⟨b, off, none⟩))] a := hk
 refine tl_start (m := 4) (su := 4) (sv := 5) treeP rowT (by decide) rfl (by decide) (by decide) (by decide) (by decide) (by decide) (by decide) hC hR hk fun a w1 w rb tb bb Y1 hb hC hR hk ht => ?_
 rw [ddq_sControllerRegistrationRequestListener] at hR
 have hR := rep_agg_inv hR
 obtain ⟨c0, C0, hC, hR⟩ := cel_unV hC hR
 obtain ⟨c1, C1, hC, hR⟩ := cel_unV hC hR
 obtain ⟨c2, C2, hC, hR⟩ := cel_unV hC hR
 obtain ⟨c3, C3, hC, hR⟩ := cel_unV hC hR
 obtain ⟨xt, ct, Ct, hC, rt, hR⟩ := cel_un1 (one1_mp _ _) hC hR
 refine tl_text (s := 6) (k := 0)  treeP rfl rfl (by kernel_rfl) (by kernel_rfl) (by decide) (by decide) (by decide) fo_106_0 ts_9 is_9 iy_22 (fun _ _ _ _ _ h => h) C0 hk ht fun a w hk ht => ?_
 refine tl_text (s := 15) (k := 1)  treeP rfl rfl (by kernel_rfl) (by kernel_rfl) (by decide) (by decide) (by decide) fo_106_1 ts_9 is_9 iy_22 (fun _ _ _ _ _ h => h) C1 hk ht fun a w hk ht => ?_
 refine tl_num (s := 24) (k := 2)  treeP rfl rfl (by kernel_rfl) (by kernel_rfl) (by decide) (by decide) (by decide) fo_106_2 ts_91 un_91 ti_2 (wrap_in_i64 .u16 (by simp)) (fun _ _ _ _ _ h => h) C2 hk ht fun a w hk ht => ?_
 refine tl_num (s := 33) (k := 3)  treeP rfl rfl (by kernel_rfl) (by kernel_rfl) (by decide) (by decide) (by decide) fo_106_3 ts_38 un_38 ti_2 (wrap_in_i64 .i16 (by simp)) (fun _ _ _ _ _ h => h) C3 hk ht fun a w hk ht => ?_
 exact tl_end (s := 42) (fE := 61) (fS := 63) (g := 115) treeP tagP each_cP cb_61 sorted_ok cb_63 clo_sControllerRegistrationRequestListener cb_115 rfl rfl (fun h => Bool.noConfusion h) (by decide) (by decide) (by decide) fo_106_4 Ct rt (fine_spec hq).2.2.2.2.1 (fine_spec hq).2.2.1 (fine_spec hq).2.2.2.1 (sortU_perm _) (sortU_rise (fine_spec hq).2.2.2.2.1) hb hk ht
theorem ddq_sControllerRegistrationRequestFeature (q : T) : ddS sch_sControllerRegistrationRequestFeature true q = .agg [.v (.string (bs (q.at_ 0).s)), .v (.int .i16 (IntKind.i16.wrap (q.at_ 1).n)), .v (.int .i16 (IntKind.i16.wrap (q.at_ 2).n)), ddTagMap q.u] := rfl
theorem tells_sControllerRegistrationRequestFeature (q : T) : telP sch_sControllerRegistrationRequestFeature q = .mk 0 [] false [ofOct (q.at_ 0).s, ofNum (IntKind.i16.wrap (q.at_ 1).n), ofNum (IntKind.i16.wrap (q.at_ 2).n)] (sortU q.u) := congrArg (fun l => T.mk 0 [] false l (sortU q.u)) (cons_eq rfl (cons_eq rfl (cons_eq rfl (rfl))))
theorem clo_sControllerRegistrationRequestFeature : CloOk Tryd.prog 27 51 116 := by
 intro w S k SE tb YE us p lv x h1 h2 h3 h4 h5 h6 h7 h8 h9
 refine c_call Tryd.func116 rfl rfl fun a hk => ?_
 have hk : Kn 14 [(0, .int .u32 (p.1 : Int)), (1, x), (2, .pointer (some ⟨tb, 0, none⟩))] a := hk
 exact tl_clo (s := 5) treeP tagP rfl rfl (by kernel_rfl) (by kernel_rfl) (by decide) (by decide) h1 h2 h3 h4 h5 h6 h7 h8 h9 hk
theorem tell_sControllerRegistrationRequestFeature : TellOk Tryd.prog 77 sch_sControllerRegistrationRequestFeature true 0 := by
 intro w0 Y b off cs q hC hR hq
 rw [tells_sControllerRegistrationRequestFeature]
 refine c_call Tryd.func77 rfl rfl fun a hk => ?_
 have hk : Kn 42 [(0, .pointer (some ⟨b, off, none⟩))] a := hk
 refine tl_start (m := 3) (su := 4) (sv := 5) treeP rowT (by decide) rfl (by decide) (by decide) (by decide) (by decide) (by decide) (by decide) hC hR hk fun a w1 w rb tb bb Y1 hb hC hR hk ht => ?_
 rw [ddq_sControllerRegistrationRequestFeature] at hR
 have hR := rep_agg_inv hR
 obtain ⟨c0, C0, hC, hR⟩ := cel_unV hC hR
 obtain ⟨c1, C1, hC, hR⟩ := cel_unV hC hR
 obtain ⟨c2, C2, hC, hR⟩ := cel_unV hC hR
 obtain ⟨xt, ct, Ct, hC, rt, hR⟩ := cel_un1 (one1_mp _ _) hC hR
 refine tl_text (s := 6) (k := 0)  treeP rfl rfl (by kernel_rfl) (by kernel_rfl) (by decide) (by decide) (by decide) fo_110_0 ts_9 is_9 iy_22 (fun _ _ _ _ _ h => h) C0 hk ht fun a w hk ht => ?_
 refine tl_num (s := 15) (k := 1)  treeP rfl rfl (by kernel_rfl) (by kernel_rfl) (by decide) (by decide) (by decide) fo_110_1 ts_38 un_38 ti_2 (wrap_in_i64 .i16 (by simp)) (fun _ _ _ _ _ h => h) C1 hk ht fun a w hk ht => ?_
 refine tl_num (s := 24) (k := 2)  treeP rfl rfl (by kernel_rfl) (by kernel_rfl) (by decide) (by decide) (by decide) fo_110_2 ts_38 un_38 ti_2 (wrap_in_i64 .i16 (by simp)) (fun _ _ _ _ _ h => h) C2 hk ht fun a w hk ht => ?_
 exact tl_end (s := 33) (fE := 61) (fS := 63) (g := 116) treeP tagP each_cP cb_61 sorted_ok cb_63 clo_sControllerRegistrationRequestFeature cb_116 rfl rfl (fun h => Bool.noConfusion h) (by decide) (by decide) (by decide) fo_110_3 Ct rt (fine_spec hq).2.2.2.2.1 (fine_spec hq).2.2.1 (fine_spec hq).2.2.2.1 (sortU_perm _) (sortU_rise (fine_spec hq).2.2.2.2.1) hb hk ht
theorem ddq_ControllerRegistrationRequest (q : T) : ddS sch_ControllerRegistrationRequest true q = .agg [.v (.int .i32 (IntKind.i32.wrap (q.at_ 0).n)), .agg ((sixteen (q.at_ 1).s).map ddB), .v (.bool ((q.at_ 2).n % 2 == 1)), if (q.at_ 3).z then .v (.slice none 0 0) else .sl true 5 ((q.at_ 3).l.map (ddS sch_sControllerRegistrationRequestListener true)), if (q.at_ 4).z then .v (.slice none 0 0) else .sl true 4 ((q.at_ 4).l.map (ddS sch_sControllerRegistrationRequestFeature true)), ddTagMap q.u] := rfl
theorem tells_ControllerRegistrationRequest (q : T) : telP sch_ControllerRegistrationRequest q = .mk 0 [] false [ofNum (IntKind.i32.wrap (q.at_ 0).n), ofOct (sixteen (q.at_ 1).s), ofNum (if ((q.at_ 2).n % 2 == 1) then 1 else 0), .mk 0 [] (q.at_ 3).z ((lzL (q.at_ 3).z (q.at_ 3).l).map (telV 10 (-1) (telP sch_sControllerRegistrationRequestListener))) [], .mk 0 [] (q.at_ 4).z ((lzL (q.at_ 4).z (q.at_ 4).l).map (telV 10 (-1) (telP sch_sControllerRegistrationRequestFeature))) []] (sortU q.u) := congrArg (fun l => T.mk 0 [] false l (sortU q.u)) (cons_eq rfl (cons_eq rfl (cons_eq (tel_bool (q.at_ 2)) (cons_eq (tel_list _) (cons_eq (tel_list _) (rfl))))))
theorem clo_ControllerRegistrationRequest : CloOk Tryd.prog 27 51 78 := by
 intro w S k SE tb YE us p lv x h1 h2 h3 h4 h5 h6 h7 h8 h9
 refine c_call Tryd.func78 rfl rfl fun a hk => ?_
 have hk : Kn 14 [(0, .int .u32 (p.1 : Int)), (1, x), (2, .pointer (some ⟨tb, 0, none⟩))] a := hk
 exact tl_clo (s := 5) treeP tagP rfl rfl (by kernel_rfl) (by kernel_rfl) (by decide) (by decide) h1 h2 h3 h4 h5 h6 h7 h8 h9 hk
theorem tell_ControllerRegistrationRequest : TellOk Tryd.prog 49 sch_ControllerRegistrationRequest true 1 := by
 intro w0 Y b off cs q hC hR hq
 rw [tells_ControllerRegistrationRequest]
 refine c_call Tryd.func49 rfl rfl fun a hk => ?_
 have hk : Kn 155 [(0, .pointer (some ⟨b, off, none⟩))] a := hk
 refine tl_start (m := 5) (su := 6) (sv := 7) treeP rowT (by decide) rfl (by decide) (by decide) (by decide) (by decide) (by decide) (by decide) hC hR hk fun a w1 w rb tb bb Y1 hb hC hR hk ht => ?_
 rw [ddq_ControllerRegistrationRequest] at hR
 have hR := rep_agg_inv hR
 obtain ⟨c0, C0, hC, hR⟩ := cel_unV hC hR
 obtain ⟨c1, C1, hC, hR⟩ := cel_un16 hC hR
 obtain ⟨c2, C2, hC, hR⟩ := cel_unV hC hR
 obtain ⟨x3, c3, C3, hC, r3, hR⟩ := cel_un1 (one1_ite (one1_v _) (one1_sl _ _ _)) hC hR
 obtain ⟨x4, c4, C4, hC, r4, hR⟩ := cel_un1 (one1_ite (one1_v _) (one1_sl _ _ _)) hC hR
 obtain ⟨xt, ct, Ct, hC, rt, hR⟩ := cel_un1 (one1_mp _ _) hC hR
 refine tl_num (s := 8) (k := 0)  treeP rfl rfl (by kernel_rfl) (by kernel_rfl) (by decide) (by decide) (by decide) fo_102_1 ts_21 un_21 ti_2 (wrap_in_i64 .i32 (by simp)) (fun _ _ _ _ _ h => h) C0 hk ht fun a w hk ht => ?_
 refine tl_uuid (s := 17) (k := 1)  treeP rfl rfl (by kernel_rfl) (by kernel_rfl) (by decide) (by decide) (by decide) fo_102_2 ar_78 ts_5 te_22 rt_22 (fun _ _ _ _ _ h => h) C1 hk ht fun a w hk ht => ?_
 refine tl_call (s := 26) (k := 2) (F := 68) (tr := ofNum (if ((q.at_ 2).n % 2 == 1) then 1 else 0)) treeP rfl rfl (by kernel_rfl) (by kernel_rfl) (by decide) (by decide) (by decide) fo_102_3 ts_4 cb_68 (fun _ => boolTree_c _) (fun _ _ _ _ _ h => h) C2 hk ht fun a w hk ht => ?_
 obtain ⟨sp3, cap3, rfl, hz3, r3⟩ := rep_listN (G := (telV 10 (-1) (telP sch_sControllerRegistrationRequestListener))) r3
 refine tl_null (s := 34) (k := 3)  treeP rfl rfl (by kernel_rfl) (by kernel_rfl) (by decide) (by decide) (by decide) fo_102_4 ts_99 te_99 ts_4 (fun _ _ _ _ _ h => h) C3 hk ht fun a w hk ht => ?_
 refine tl_list (s := 43) (k := 3) (iv := 4) (tz := 89) (tsl := (lzL (q.at_ 3).z (q.at_ 3).l).map (telV 10 (-1) (telP sch_sControllerRegistrationRequestListener))) treeP tz_4 ts_4 rfl (by kernel_rfl) (by kernel_rfl) (by kernel_rfl) (by kernel_rfl) (by decide) (by decide) (by decide) (by decide) (by decide) (lz_len (fine_at hq 3)) fo_102_4 ts_99 te_99 (fun _ _ _ _ _ h => h) C3 hk ht ?_ ?_ fun a w hk ht => ?_
 ·intro Q j a w hj hQ hk ht K
  obtain ⟨b2, o2, c2, rfl, hE, hCE⟩ := list_at r3 (j := j) (by simpa using hj)
  exact tl_A_call (p := 53) (s := 43) (k := 3) rfl rfl (by kernel_rfl) (by kernel_rfl) (by kernel_rfl) (by kernel_rfl) treeP rowT (by decide) rfl (by decide) (by decide) (by decide) (by decide) hj (lz_len (fine_at hq 3)) fo_102_4 ts_99 te_99 ts_106 cb_76 (fun hm => by rw [getD_mapT hj]; exact tell_sControllerRegistrationRequestListener (cel_in hm hCE) (rep_in hm hE) (lz_fine (fine_at hq 3) j)) hQ C3 hk ht K
 ·intro Q j a w hj hQ hk ht K
  obtain ⟨b2, o2, c2, rfl, hE, hCE⟩ := list_at r3 (j := j) (by simpa using hj)
  exact tl_B_call (p := 71) (s := 43) (k := 3) (by decide) rfl (by kernel_rfl) (by kernel_rfl) treeP rowT (by decide) rfl (by decide) (by decide) (by decide) (by decide) hj (lz_len (fine_at hq 3)) fo_102_4 ts_99 te_99 ts_106 cb_76 (fun hm => by rw [getD_mapT hj]; exact tell_sControllerRegistrationRequestListener (cel_in hm hCE) (rep_in hm hE) (lz_fine (fine_at hq 3) j)) hQ C3 hk ht K
 rw [hz3] at ht
 obtain ⟨sp4, cap4, rfl, hz4, r4⟩ := rep_listN (G := (telV 10 (-1) (telP sch_sControllerRegistrationRequestFeature))) r4
 refine tl_null (s := 90) (k := 4)  treeP rfl rfl (by kernel_rfl) (by kernel_rfl) (by decide) (by decide) (by decide) fo_102_5 ts_100 te_100 ts_4 (fun _ _ _ _ _ h => h) C4 hk ht fun a w hk ht => ?_
 refine tl_list (s := 99) (k := 4) (iv := 5) (tz := 145) (tsl := (lzL (q.at_ 4).z (q.at_ 4).l).map (telV 10 (-1) (telP sch_sControllerRegistrationRequestFeature))) treeP tz_4 ts_4 rfl (by kernel_rfl) (by kernel_rfl) (by kernel_rfl) (by kernel_rfl) (by decide) (by decide) (by decide) (by decide) (by decide) (lz_len (fine_at hq 4)) fo_102_5 ts_100 te_100 (fun _ _ _ _ _ h => h) C4 hk ht ?_ ?_ fun a w hk ht => ?_
 ·intro Q j a w hj hQ hk ht K
  obtain ⟨b2, o2, c2, rfl, hE, hCE⟩ := list_at r4 (j := j) (by simpa using hj)
  exact tl_A_call (p := 109) (s := 99) (k := 4) rfl rfl (by kernel_rfl) (by kernel_rfl) (by kernel_rfl) (by kernel_rfl) treeP rowT (by decide) rfl (by decide) (by decide) (by decide) (by decide) hj (lz_len (fine_at hq 4)) fo_102_5 ts_100 te_100 ts_110 cb_77 (fun hm => by rw [getD_mapT hj]; exact tell_sControllerRegistrationRequestFeature (cel_in hm hCE) (rep_in hm hE) (lz_fine (fine_at hq 4) j)) hQ C4 hk ht K
 ·intro Q j a w hj hQ hk ht K
  obtain ⟨b2, o2, c2, rfl, hE, hCE⟩ := list_at r4 (j := j) (by simpa using hj)
  exact tl_B_call (p := 127) (s := 99) (k := 4) (by decide) rfl (by kernel_rfl) (by kernel_rfl) treeP rowT (by decide) rfl (by decide) (by decide) (by decide) (by decide) hj (lz_len (fine_at hq 4)) fo_102_5 ts_100 te_100 ts_110 cb_77 (fun hm => by rw [getD_mapT hj]; exact tell_sControllerRegistrationRequestFeature (cel_in hm hCE) (rep_in hm hE) (lz_fine (fine_at hq 4) j)) hQ C4 hk ht K
 rw [hz4] at ht
 exact tl_end (s := 146) (fE := 61) (fS := 63) (g := 78) treeP tagP each_cP cb_61 sorted_ok cb_63 clo_ControllerRegistrationRequest cb_78 rfl rfl (fun h => Bool.noConfusion h) (by decide) (by decide) (by decide) fo_102_6 Ct rt (fine_spec hq).2.2.2.2.1 (fine_spec hq).2.2.1 (fine_spec hq).2.2.2.1 (sortU_perm _) (sortU_rise (fine_spec hq).2.2.2.2.1) hb hk ht
end Go.Proofs.YthholdjpcdpceabDoor
