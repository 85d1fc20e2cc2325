/- Walks of functions that the laws of this seat reach. No statement of the seat stands here. -/
import Derived.Test.YtnoklacheaplkaaGreatDoorL4
import Derived.Test.YtnoklacheaplkaaGreatDoorRows
import Derived.Test.YtnoklacheaplkaaGreatDoorFa
import Derived.Test.YtnoklacheaplkaaGreatDoorTt
import Derived.Test.YtnoklacheaplkaaGreatDoorTf
import Derived.Test.YtnoklacheaplkaaGreatDoorTg2
import Derived.Test.YtnoklacheaplkaaGreatDoorTh
import Derived.Test.YtnoklacheaplkaaGreatDoorSch
namespace Go.Proofs.YtnoklacheaplkaaGreatDoor
open Go Go.Mk
theorem ddq_sAlterConfigsRequestResourceConfig (q : T) : ddS sch_sAlterConfigsRequestResourceConfig true q = .agg [.v (.string (bs (q.at_ 0).s)), if (q.at_ 1).z then .v (.pointer none) else .ptr (.v (.string (bs (q.at_ 1).s))), ddTagMap q.u] := rfl
theorem tells_sAlterConfigsRequestResourceConfig (q : T) : telP sch_sAlterConfigsRequestResourceConfig q = .mk 0 [] false [ofOct (q.at_ 0).s, (if (q.at_ 1).z then ofNil else ofOct (q.at_ 1).s)] (sortU q.u) := congrArg (fun l => T.mk 0 [] false l (sortU q.u)) (cons_eq rfl (cons_eq (tel_textN (nu := 0) (q.at_ 1) (by decide)) (rfl)))
theorem clo_sAlterConfigsRequestResourceConfig : CloOk Tryz.prog 37 69 298 := by
 intro w S k SE tb YE us p lv x h1 h2 h3 h4 h5 h6 h7 h8 h9
 refine c_call Tryz.func298 rfl rfl fun a hk => ?_
 have hk : Kn 14 [(0, .int .u32 (p.1 : Int)), (1, x), (2, .pointer (some ⟨tb, 0, none⟩))] a := hk
 exact tl_clo (s := 5) treeP tagP rfl rfl (by kernel_rfl) (by kernel_rfl) (by decide) (by decide) h1 h2 h3 h4 h5 h6 h7 h8 h9 hk
theorem tell_sAlterConfigsRequestResourceConfig : TellOk Tryz.prog 265 sch_sAlterConfigsRequestResourceConfig true 0 := by
 intro w0 Y b off cs q hC hR hq
 rw [tells_sAlterConfigsRequestResourceConfig]
 refine c_call Tryz.func265 rfl rfl fun a hk => ?_
 have hk : Kn 32 [(0, .pointer (some ⟨b, off, none⟩))] a := hk
 refine tl_start (m := 2) (su := 4) (sv := 5) treeP rowT (by decide) rfl (by decide) (by decide) (by decide) (by decide) (by decide) (by decide) hC hR hk fun a w1 w rb tb bb Y1 hb hC hR hk ht => ?_
 rw [ddq_sAlterConfigsRequestResourceConfig] at hR
 have hR := rep_agg_inv hR
 obtain ⟨c0, C0, hC, hR⟩ := cel_unV hC hR
 obtain ⟨x1, c1, C1, hC, r1, hR⟩ := cel_un1 (one1_ite (one1_v _) (one1_ptr _)) hC hR
 obtain ⟨xt, ct, Ct, hC, rt, hR⟩ := cel_un1 (one1_mp _ _) hC hR
 refine tl_text (s := 6) (k := 0)  treeP rfl rfl (by kernel_rfl) (by kernel_rfl) (by decide) (by decide) (by decide) fo_266_0 ts_9 is_9 iy_22 (fun _ _ _ _ _ h => h) C0 hk ht fun a w hk ht => ?_
 refine tl_call (s := 15) (k := 1) (F := 194) (tr := (if (q.at_ 1).z then ofNil else ofOct (q.at_ 1).s)) treeP rfl rfl (by kernel_rfl) (by kernel_rfl) (by decide) (by decide) (by decide) fo_266_1 ts_113 cb_194 (fun hm => textTree_c (q.at_ 1).z (q.at_ 1).s (rep_in hm r1)) (fun _ _ _ _ _ h => h) C1 hk ht fun a w hk ht => ?_
 exact tl_end (s := 23) (fE := 145) (fS := 147) (g := 298) treeP tagP each_cP cb_145 sorted_ok cb_147 clo_sAlterConfigsRequestResourceConfig cb_298 rfl rfl (fun h => Bool.noConfusion h) (by decide) (by decide) (by decide) fo_266_2 Ct rt (fine_spec hq).2.2.2.2.1 (fine_spec hq).2.2.1 (fine_spec hq).2.2.2.1 (sortU_perm _) (sortU_rise (fine_spec hq).2.2.2.2.1) hb hk ht
theorem ddq_sAlterConfigsRequestResource (q : T) : ddS sch_sAlterConfigsRequestResource true q = .agg [.v (.int .i8 (IntKind.i8.wrap (q.at_ 0).n)), .v (.string (bs (q.at_ 1).s)), if (q.at_ 2).z then .v (.slice none 0 0) else .sl true 3 ((q.at_ 2).l.map (ddS sch_sAlterConfigsRequestResourceConfig true)), ddTagMap q.u] := rfl
theorem tells_sAlterConfigsRequestResource (q : T) : telP sch_sAlterConfigsRequestResource q = .mk 0 [] false [ofNum (IntKind.i8.wrap (q.at_ 0).n), ofOct (q.at_ 1).s, .mk 0 [] (q.at_ 2).z ((lzL (q.at_ 2).z (q.at_ 2).l).map (telV 10 (-1) (telP sch_sAlterConfigsRequestResourceConfig))) []] (sortU q.u) := congrArg (fun l => T.mk 0 [] false l (sortU q.u)) (cons_eq rfl (cons_eq rfl (cons_eq (tel_list _) (rfl))))
theorem clo_sAlterConfigsRequestResource : CloOk Tryz.prog 37 69 266 := by
 intro w S k SE tb YE us p lv x h1 h2 h3 h4 h5 h6 h7 h8 h9
 refine c_call Tryz.func266 rfl rfl fun a hk => ?_
 have hk : Kn 14 [(0, .int .u32 (p.1 : Int)), (1, x), (2, .pointer (some ⟨tb, 0, none⟩))] a := hk
 exact tl_clo (s := 5) treeP tagP rfl rfl (by kernel_rfl) (by kernel_rfl) (by decide) (by decide) h1 h2 h3 h4 h5 h6 h7 h8 h9 hk
theorem tell_sAlterConfigsRequestResource : TellOk Tryz.prog 189 sch_sAlterConfigsRequestResource true 0 := by
 intro w0 Y b off cs q hC hR hq
 rw [tells_sAlterConfigsRequestResource]
 refine c_call Tryz.func189 rfl rfl fun a hk => ?_
 have hk : Kn 90 [(0, .pointer (some ⟨b, off, none⟩))] a := hk
 refine tl_start (m := 3) (su := 5) (sv := 6) treeP rowT (by decide) rfl (by decide) (by decide) (by decide) (by decide) (by decide) (by decide) hC hR hk fun a w1 w rb tb bb Y1 hb hC hR hk ht => ?_
 rw [ddq_sAlterConfigsRequestResource] at hR
 have hR := rep_agg_inv hR
 obtain ⟨c0, C0, hC, hR⟩ := cel_unV hC hR
 obtain ⟨c1, C1, hC, hR⟩ := cel_unV hC hR
 obtain ⟨x2, c2, C2, hC, r2, hR⟩ := cel_un1 (one1_ite (one1_v _) (one1_sl _ _ _)) hC hR
 obtain ⟨xt, ct, Ct, hC, rt, hR⟩ := cel_un1 (one1_mp _ _) hC hR
 refine tl_num (s := 7) (k := 0)  treeP rfl rfl (by kernel_rfl) (by kernel_rfl) (by decide) (by decide) (by decide) fo_196_0 ts_115 un_115 ti_2 (wrap_in_i64 .i8 (by simp)) (fun _ _ _ _ _ h => h) C0 hk ht fun a w hk ht => ?_
 refine tl_text (s := 16) (k := 1)  treeP rfl rfl (by kernel_rfl) (by kernel_rfl) (by decide) (by decide) (by decide) fo_196_1 ts_9 is_9 iy_22 (fun _ _ _ _ _ h => h) C1 hk ht fun a w hk ht => ?_
 obtain ⟨sp2, cap2, rfl, hz2, r2⟩ := rep_listN (G := (telV 10 (-1) (telP sch_sAlterConfigsRequestResourceConfig))) r2
 refine tl_null (s := 25) (k := 2)  treeP rfl rfl (by kernel_rfl) (by kernel_rfl) (by decide) (by decide) (by decide) fo_196_2 ts_194 te_194 ts_4 (fun _ _ _ _ _ h => h) C2 hk ht fun a w hk ht => ?_
 refine tl_list (s := 34) (k := 2) (iv := 4) (tz := 80) (tsl := (lzL (q.at_ 2).z (q.at_ 2).l).map (telV 10 (-1) (telP sch_sAlterConfigsRequestResourceConfig))) treeP tz_4 ts_4 rfl (by kernel_rfl) (by kernel_rfl) (by kernel_rfl) (by kernel_rfl) (by decide) (by decide) (by decide) (by decide) (by decide) (lz_len (fine_at hq 2)) fo_196_2 ts_194 te_194 (fun _ _ _ _ _ h => h) C2 hk ht ?_ ?_ fun a w hk ht => ?_
 ·intro Q j a w hj hQ hk ht K
  obtain ⟨b2, o2, c2, rfl, hE, hCE⟩ := list_at r2 (j := j) (by simpa using hj)
  exact tl_A_call (p := 44) (s := 34) (k := 2) rfl rfl (by kernel_rfl) (by kernel_rfl) (by kernel_rfl) (by kernel_rfl) treeP rowT (by decide) rfl (by decide) (by decide) (by decide) (by decide) hj (lz_len (fine_at hq 2)) fo_196_2 ts_194 te_194 ts_266 cb_265 (fun hm => by rw [getD_mapT hj]; exact tell_sAlterConfigsRequestResourceConfig (cel_in hm hCE) (rep_in hm hE) (lz_fine (fine_at hq 2) j)) hQ C2 hk ht K
 ·intro Q j a w hj hQ hk ht K
  obtain ⟨b2, o2, c2, rfl, hE, hCE⟩ := list_at r2 (j := j) (by simpa using hj)
  exact tl_B_call (p := 62) (s := 34) (k := 2) (by decide) rfl (by kernel_rfl) (by kernel_rfl) treeP rowT (by decide) rfl (by decide) (by decide) (by decide) (by decide) hj (lz_len (fine_at hq 2)) fo_196_2 ts_194 te_194 ts_266 cb_265 (fun hm => by rw [getD_mapT hj]; exact tell_sAlterConfigsRequestResourceConfig (cel_in hm hCE) (rep_in hm hE) (lz_fine (fine_at hq 2) j)) hQ C2 hk ht K
 rw [hz2] at ht
 exact tl_end (s := 81) (fE := 145) (fS := 147) (g := 266) treeP tagP each_cP cb_145 sorted_ok cb_147 clo_sAlterConfigsRequestResource cb_266 rfl rfl (fun h => Bool.noConfusion h) (by decide) (by decide) (by decide) fo_196_3 Ct rt (fine_spec hq).2.2.2.2.1 (fine_spec hq).2.2.1 (fine_spec hq).2.2.2.1 (sortU_perm _) (sortU_rise (fine_spec hq).2.2.2.2.1) hb hk ht
theorem ddq_AlterConfigsRequest (q : T) : ddS sch_AlterConfigsRequest true q = .agg [if (q.at_ 0).z then .v (.slice none 0 0) else .sl true 4 ((q.at_ 0).l.map (ddS sch_sAlterConfigsRequestResource true)), .v (.bool ((q.at_ 1).n % 2 == 1)), ddTagMap q.u] := rfl
theorem tells_AlterConfigsRequest (q : T) : telP sch_AlterConfigsRequest q = .mk 0 [] false [.mk 0 [] (q.at_ 0).z ((lzL (q.at_ 0).z (q.at_ 0).l).map (telV 10 (-1) (telP sch_sAlterConfigsRequestResource))) [], ofNum (if ((q.at_ 1).n % 2 == 1) then 1 else 0)] (sortU q.u) := congrArg (fun l => T.mk 0 [] false l (sortU q.u)) (cons_eq (tel_list _) (cons_eq (tel_bool (q.at_ 1)) (rfl)))
theorem clo_AlterConfigsRequest : CloOk Tryz.prog 37 69 190 := by
 intro w S k SE tb YE us p lv x h1 h2 h3 h4 h5 h6 h7 h8 h9
 refine c_call Tryz.func190 rfl rfl fun a hk => ?_
 have hk : Kn 14 [(0, .int .u32 (p.1 : Int)), (1, x), (2, .pointer (some ⟨tb, 0, none⟩))] a := hk
 exact tl_clo (s := 5) treeP tagP rfl rfl (by kernel_rfl) (by kernel_rfl) (by decide) (by decide) h1 h2 h3 h4 h5 h6 h7 h8 h9 hk
theorem tell_AlterConfigsRequest : TellOk Tryz.prog 116 sch_AlterConfigsRequest true 1 := by
 intro w0 Y b off cs q hC hR hq
 rw [tells_AlterConfigsRequest]
 refine c_call Tryz.func116 rfl rfl fun a hk => ?_
 have hk : Kn 80 [(0, .pointer (some ⟨b, off, none⟩))] a := hk
 refine tl_start (m := 2) (su := 5) (sv := 6) treeP rowT (by decide) rfl (by decide) (by decide) (by decide) (by decide) (by decide) (by decide) hC hR hk fun a w1 w rb tb bb Y1 hb hC hR hk ht => ?_
 rw [ddq_AlterConfigsRequest] at hR
 have hR := rep_agg_inv hR
 obtain ⟨x0, c0, C0, hC, r0, hR⟩ := cel_un1 (one1_ite (one1_v _) (one1_sl _ _ _)) hC hR
 obtain ⟨c1, C1, hC, hR⟩ := cel_unV hC hR
 obtain ⟨xt, ct, Ct, hC, rt, hR⟩ := cel_un1 (one1_mp _ _) hC hR
 obtain ⟨sp0, cap0, rfl, hz0, r0⟩ := rep_listN (G := (telV 10 (-1) (telP sch_sAlterConfigsRequestResource))) r0
 refine tl_null (s := 7) (k := 0)  treeP rfl rfl (by kernel_rfl) (by kernel_rfl) (by decide) (by decide) (by decide) fo_191_1 ts_189 te_189 ts_4 (fun _ _ _ _ _ h => h) C0 hk ht fun a w hk ht => ?_
 refine tl_list (s := 16) (k := 0) (iv := 4) (tz := 62) (tsl := (lzL (q.at_ 0).z (q.at_ 0).l).map (telV 10 (-1) (telP sch_sAlterConfigsRequestResource))) treeP tz_4 ts_4 rfl (by kernel_rfl) (by kernel_rfl) (by kernel_rfl) (by kernel_rfl) (by decide) (by decide) (by decide) (by decide) (by decide) (lz_len (fine_at hq 0)) fo_191_1 ts_189 te_189 (fun _ _ _ _ _ h => h) C0 hk ht ?_ ?_ fun a w hk ht => ?_
 ·intro Q j a w hj hQ hk ht K
  obtain ⟨b2, o2, c2, rfl, hE, hCE⟩ := list_at r0 (j := j) (by simpa using hj)
  exact tl_A_call (p := 26) (s := 16) (k := 0) rfl rfl (by kernel_rfl) (by kernel_rfl) (by kernel_rfl) (by kernel_rfl) treeP rowT (by decide) rfl (by decide) (by decide) (by decide) (by decide) hj (lz_len (fine_at hq 0)) fo_191_1 ts_189 te_189 ts_196 cb_189 (fun hm => by rw [getD_mapT hj]; exact tell_sAlterConfigsRequestResource (cel_in hm hCE) (rep_in hm hE) (lz_fine (fine_at hq 0) j)) hQ C0 hk ht K
 ·intro Q j a w hj hQ hk ht K
  obtain ⟨b2, o2, c2, rfl, hE, hCE⟩ := list_at r0 (j := j) (by simpa using hj)
  exact tl_B_call (p := 44) (s := 16) (k := 0) (by decide) rfl (by kernel_rfl) (by kernel_rfl) treeP rowT (by decide) rfl (by decide) (by decide) (by decide) (by decide) hj (lz_len (fine_at hq 0)) fo_191_1 ts_189 te_189 ts_196 cb_189 (fun hm => by rw [getD_mapT hj]; exact tell_sAlterConfigsRequestResource (cel_in hm hCE) (rep_in hm hE) (lz_fine (fine_at hq 0) j)) hQ C0 hk ht K
 rw [hz0] at ht
 refine tl_call (s := 63) (k := 1) (F := 167) (tr := ofNum (if ((q.at_ 1).n % 2 == 1) then 1 else 0)) treeP rfl rfl (by kernel_rfl) (by kernel_rfl) (by decide) (by decide) (by decide) fo_191_2 ts_4 cb_167 (fun _ => boolTree_c _) (fun _ _ _ _ _ h => h) C1 hk ht fun a w hk ht => ?_
 exact tl_end (s := 71) (fE := 145) (fS := 147) (g := 190) treeP tagP each_cP cb_145 sorted_ok cb_147 clo_AlterConfigsRequest cb_190 rfl rfl (fun h => Bool.noConfusion h) (by decide) (by decide) (by decide) fo_191_3 Ct rt (fine_spec hq).2.2.2.2.1 (fine_spec hq).2.2.1 (fine_spec hq).2.2.2.1 (sortU_perm _) (sortU_rise (fine_spec hq).2.2.2.2.1) hb hk ht
end Go.Proofs.YtnoklacheaplkaaGreatDoor
