/- Walks of functions that the laws of this seat reach. No statement of the seat stands here. -/
import Derived.Test.YthholdjpcdpceaaDoorL4
import Derived.Test.YthholdjpcdpceaaDoorRows
import Derived.Test.YthholdjpcdpceaaDoorFa
import Derived.Test.YthholdjpcdpceaaDoorTt
import Derived.Test.YthholdjpcdpceaaDoorTf
import Derived.Test.YthholdjpcdpceaaDoorTg2
import Derived.Test.YthholdjpcdpceaaDoorTh
import Derived.Test.YthholdjpcdpceaaDoorSch
namespace Go.Proofs.YthholdjpcdpceaaDoor
open Go Go.Mk
theorem ddq_ShareGroupHeartbeatRequest (q : T) : ddS sch_ShareGroupHeartbeatRequest true q = .agg [.v (.string (bs (q.at_ 0).s)), .v (.string (bs (q.at_ 1).s)), .v (.int .i32 (IntKind.i32.wrap (q.at_ 2).n)), if (q.at_ 3).z then .v (.pointer none) else .ptr (.v (.string (bs (q.at_ 3).s))), if (q.at_ 4).z then .v (.slice none 0 0) else .sl true 1 ((q.at_ 4).l.map (fun x : T => DD.v (.string (bs x.s)))), ddTagMap q.u] := rfl
theorem tells_ShareGroupHeartbeatRequest (q : T) : telP sch_ShareGroupHeartbeatRequest q = .mk 0 [] false [ofOct (q.at_ 0).s, ofOct (q.at_ 1).s, ofNum (IntKind.i32.wrap (q.at_ 2).n), (if (q.at_ 3).z then ofNil else ofOct (q.at_ 3).s), .mk 0 [] (q.at_ 4).z ((lzL (q.at_ 4).z (q.at_ 4).l).map (telV 8 (-1) (telP []))) []] (sortU q.u) := congrArg (fun l => T.mk 0 [] false l (sortU q.u)) (cons_eq rfl (cons_eq rfl (cons_eq rfl (cons_eq (tel_textN (nu := 0) (q.at_ 3) (by decide)) (cons_eq (tel_list _) (rfl))))))
theorem clo_ShareGroupHeartbeatRequest : CloOk Tryd.prog 26 62 106 := by
 intro w S k SE tb YE us p lv x h1 h2 h3 h4 h5 h6 h7 h8 h9
 refine c_call Tryd.func106 rfl rfl fun a hk => ?_
 have hk : Kn 14 [(0, .int .u32 (p.1 : Int)), (1, x), (2, .pointer (some ⟨tb, 0, none⟩))] a := hk
 exact tl_clo (s := 5) treeP tagP rfl rfl (by kernel_rfl) (by kernel_rfl) (by decide) (by decide) h1 h2 h3 h4 h5 h6 h7 h8 h9 hk
theorem tell_ShareGroupHeartbeatRequest : TellOk Tryd.prog 76 sch_ShareGroupHeartbeatRequest true 1 := by
 intro w0 Y b off cs q hC hR hq
 rw [tells_ShareGroupHeartbeatRequest]
 refine c_call Tryd.func76 rfl rfl fun a hk => ?_
 have hk : Kn 111 [(0, .pointer (some ⟨b, off, none⟩))] a := hk
 refine tl_start (m := 5) (su := 5) (sv := 6) treeP rowT (by decide) rfl (by decide) (by decide) (by decide) (by decide) (by decide) (by decide) hC hR hk fun a w1 w rb tb bb Y1 hb hC hR hk ht => ?_
 rw [ddq_ShareGroupHeartbeatRequest] at hR
 have hR := rep_agg_inv hR
 obtain ⟨c0, C0, hC, hR⟩ := cel_unV hC hR
 obtain ⟨c1, C1, hC, hR⟩ := cel_unV hC hR
 obtain ⟨c2, C2, hC, hR⟩ := cel_unV hC hR
 obtain ⟨x3, c3, C3, hC, r3, hR⟩ := cel_un1 (one1_ite (one1_v _) (one1_ptr _)) hC hR
 obtain ⟨x4, c4, C4, hC, r4, hR⟩ := cel_un1 (one1_ite (one1_v _) (one1_sl _ _ _)) hC hR
 obtain ⟨xt, ct, Ct, hC, rt, hR⟩ := cel_un1 (one1_mp _ _) hC hR
 refine tl_text (s := 7) (k := 0)  treeP rfl rfl (by kernel_rfl) (by kernel_rfl) (by decide) (by decide) (by decide) fo_130_1 ts_9 is_9 iy_22 (fun _ _ _ _ _ h => h) C0 hk ht fun a w hk ht => ?_
 refine tl_text (s := 16) (k := 1)  treeP rfl rfl (by kernel_rfl) (by kernel_rfl) (by decide) (by decide) (by decide) fo_130_2 ts_9 is_9 iy_22 (fun _ _ _ _ _ h => h) C1 hk ht fun a w hk ht => ?_
 refine tl_num (s := 25) (k := 2)  treeP rfl rfl (by kernel_rfl) (by kernel_rfl) (by decide) (by decide) (by decide) fo_130_3 ts_21 un_21 ti_2 (wrap_in_i64 .i32 (by simp)) (fun _ _ _ _ _ h => h) C2 hk ht fun a w hk ht => ?_
 refine tl_call (s := 34) (k := 3) (F := 105) (tr := (if (q.at_ 3).z then ofNil else ofOct (q.at_ 3).s)) treeP rfl rfl (by kernel_rfl) (by kernel_rfl) (by decide) (by decide) (by decide) fo_130_4 ts_99 cb_105 (fun hm => textTree_c (q.at_ 3).z (q.at_ 3).s (rep_in hm r3)) (fun _ _ _ _ _ h => h) C3 hk ht fun a w hk ht => ?_
 obtain ⟨sp4, cap4, rfl, hz4, r4⟩ := rep_listN (G := (telV 8 (-1) (telP []))) r4
 refine tl_null (s := 42) (k := 4)  treeP rfl rfl (by kernel_rfl) (by kernel_rfl) (by decide) (by decide) (by decide) fo_130_5 ts_85 te_85 ts_4 (fun _ _ _ _ _ h => h) C4 hk ht fun a w hk ht => ?_
 refine tl_list (s := 51) (k := 4) (iv := 4) (tz := 101) (tsl := (lzL (q.at_ 4).z (q.at_ 4).l).map (telV 8 (-1) (telP []))) treeP tz_4 ts_4 rfl (by kernel_rfl) (by kernel_rfl) (by kernel_rfl) (by kernel_rfl) (by decide) (by decide) (by decide) (by decide) (by decide) (lz_len (fine_at hq 4)) fo_130_5 ts_85 te_85 (fun _ _ _ _ _ h => h) C4 hk ht ?_ ?_ fun a w hk ht => ?_
 ·intro Q j a w hj hQ hk ht K
  obtain ⟨b2, o2, c2, rfl, hE, hCE⟩ := list_at r4 (j := j) (by simpa using hj)
  exact tl_A_text (zE := fun j => ((lzL (q.at_ 4).z (q.at_ 4).l).getD j T.nil).s) (p := 61) (s := 51) (k := 4) rfl rfl (by kernel_rfl) (by kernel_rfl) (by kernel_rfl) (by kernel_rfl) (by kernel_rfl) treeP rowT (by decide) rfl (by decide) (by decide) (by decide) (by decide) hj (lz_len (fine_at hq 4)) fo_130_5 ts_85 te_85 ts_9 ts_9 is_9 iy_22 (cel_v hE hCE) (by rw [getD_mapT hj]; rfl) hQ C4 hk ht K
 ·intro Q j a w hj hQ hk ht K
  obtain ⟨b2, o2, c2, rfl, hE, hCE⟩ := list_at r4 (j := j) (by simpa using hj)
  exact tl_B_text (zE := fun j => ((lzL (q.at_ 4).z (q.at_ 4).l).getD j T.nil).s) (p := 81) (s := 51) (k := 4) (by decide) rfl (by kernel_rfl) (by kernel_rfl) treeP rowT (by decide) rfl (by decide) (by decide) (by decide) (by decide) hj (lz_len (fine_at hq 4)) fo_130_5 ts_85 te_85 ts_9 ts_9 is_9 iy_22 (cel_v hE hCE) (by rw [getD_mapT hj]; rfl) hQ C4 hk ht K
 rw [hz4] at ht
 exact tl_end (s := 102) (fE := 83) (fS := 85) (g := 106) treeP tagP each_cP cb_83 sorted_ok cb_85 clo_ShareGroupHeartbeatRequest cb_106 rfl rfl (fun h => Bool.noConfusion h) (by decide) (by decide) (by decide) fo_130_6 Ct rt (fine_spec hq).2.2.2.2.1 (fine_spec hq).2.2.1 (fine_spec hq).2.2.2.1 (sortU_perm _) (sortU_rise (fine_spec hq).2.2.2.2.1) hb hk ht
end Go.Proofs.YthholdjpcdpceaaDoor
