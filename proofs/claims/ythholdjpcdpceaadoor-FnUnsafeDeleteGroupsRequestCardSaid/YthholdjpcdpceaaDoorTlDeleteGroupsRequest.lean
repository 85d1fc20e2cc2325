/- Walks of functions that the laws of this seat reach. No statement of the seat stands here. -/
import Derived.Test.YthholdjpcdpceaaDoorL4
import Derived.Test.YthholdjpcdpceaaDoorRows
import Derived.Test.YthholdjpcdpceaaDoorFa
import Derived.Test.YthholdjpcdpceaaDoorTt
import Derived.Test.YthholdjpcdpceaaDoorTf
import Derived.Test.YthholdjpcdpceaaDoorTg2
import Derived.Test.YthholdjpcdpceaaDoorTh
import Derived.Test.YthholdjpcdpceaaDoorSch
namespace Go.Proofs.YthholdjpcdpceaaDoor
open Go Go.Mk
theorem ddq_DeleteGroupsRequest (q : T) : ddS sch_DeleteGroupsRequest true q = .agg [if (q.at_ 0).z then .v (.slice none 0 0) else .sl true 1 ((q.at_ 0).l.map (fun x : T => DD.v (.string (bs x.s)))), ddTagMap q.u] := rfl
theorem tells_DeleteGroupsRequest (q : T) : telP sch_DeleteGroupsRequest q = .mk 0 [] false [.mk 0 [] (q.at_ 0).z ((lzL (q.at_ 0).z (q.at_ 0).l).map (telV 8 (-1) (telP []))) []] (sortU q.u) := congrArg (fun l => T.mk 0 [] false l (sortU q.u)) (cons_eq (tel_list _) (rfl))
theorem clo_DeleteGroupsRequest : CloOk Tryd.prog 26 62 84 := by
 intro w S k SE tb YE us p lv x h1 h2 h3 h4 h5 h6 h7 h8 h9
 refine c_call Tryd.func84 rfl rfl fun a hk => ?_
 have hk : Kn 14 [(0, .int .u32 (p.1 : Int)), (1, x), (2, .pointer (some ⟨tb, 0, none⟩))] a := hk
 exact tl_clo (s := 5) treeP tagP rfl rfl (by kernel_rfl) (by kernel_rfl) (by decide) (by decide) h1 h2 h3 h4 h5 h6 h7 h8 h9 hk
theorem tell_DeleteGroupsRequest : TellOk Tryd.prog 46 sch_DeleteGroupsRequest true 1 := by
 intro w0 Y b off cs q hC hR hq
 rw [tells_DeleteGroupsRequest]
 refine c_call Tryd.func46 rfl rfl fun a hk => ?_
 have hk : Kn 76 [(0, .pointer (some ⟨b, off, none⟩))] a := hk
 refine tl_start (m := 1) (su := 5) (sv := 6) treeP rowT (by decide) rfl (by decide) (by decide) (by decide) (by decide) (by decide) (by decide) hC hR hk fun a w1 w rb tb bb Y1 hb hC hR hk ht => ?_
 rw [ddq_DeleteGroupsRequest] at hR
 have hR := rep_agg_inv hR
 obtain ⟨x0, c0, C0, hC, r0, hR⟩ := cel_un1 (one1_ite (one1_v _) (one1_sl _ _ _)) hC hR
 obtain ⟨xt, ct, Ct, hC, rt, hR⟩ := cel_un1 (one1_mp _ _) hC hR
 obtain ⟨sp0, cap0, rfl, hz0, r0⟩ := rep_listN (G := (telV 8 (-1) (telP []))) r0
 refine tl_null (s := 7) (k := 0)  treeP rfl rfl (by kernel_rfl) (by kernel_rfl) (by decide) (by decide) (by decide) fo_90_1 ts_85 te_85 ts_4 (fun _ _ _ _ _ h => h) C0 hk ht fun a w hk ht => ?_
 refine tl_list (s := 16) (k := 0) (iv := 4) (tz := 66) (tsl := (lzL (q.at_ 0).z (q.at_ 0).l).map (telV 8 (-1) (telP []))) treeP tz_4 ts_4 rfl (by kernel_rfl) (by kernel_rfl) (by kernel_rfl) (by kernel_rfl) (by decide) (by decide) (by decide) (by decide) (by decide) (lz_len (fine_at hq 0)) fo_90_1 ts_85 te_85 (fun _ _ _ _ _ h => h) C0 hk ht ?_ ?_ fun a w hk ht => ?_
 ·intro Q j a w hj hQ hk ht K
  obtain ⟨b2, o2, c2, rfl, hE, hCE⟩ := list_at r0 (j := j) (by simpa using hj)
  exact tl_A_text (zE := fun j => ((lzL (q.at_ 0).z (q.at_ 0).l).getD j T.nil).s) (p := 26) (s := 16) (k := 0) rfl rfl (by kernel_rfl) (by kernel_rfl) (by kernel_rfl) (by kernel_rfl) (by kernel_rfl) treeP rowT (by decide) rfl (by decide) (by decide) (by decide) (by decide) hj (lz_len (fine_at hq 0)) fo_90_1 ts_85 te_85 ts_9 ts_9 is_9 iy_22 (cel_v hE hCE) (by rw [getD_mapT hj]; rfl) hQ C0 hk ht K
 ·intro Q j a w hj hQ hk ht K
  obtain ⟨b2, o2, c2, rfl, hE, hCE⟩ := list_at r0 (j := j) (by simpa using hj)
  exact tl_B_text (zE := fun j => ((lzL (q.at_ 0).z (q.at_ 0).l).getD j T.nil).s) (p := 46) (s := 16) (k := 0) (by decide) rfl (by kernel_rfl) (by kernel_rfl) treeP rowT (by decide) rfl (by decide) (by decide) (by decide) (by decide) hj (lz_len (fine_at hq 0)) fo_90_1 ts_85 te_85 ts_9 ts_9 is_9 iy_22 (cel_v hE hCE) (by rw [getD_mapT hj]; rfl) hQ C0 hk ht K
 rw [hz0] at ht
 exact tl_end (s := 67) (fE := 83) (fS := 85) (g := 84) treeP tagP each_cP cb_83 sorted_ok cb_85 clo_DeleteGroupsRequest cb_84 rfl rfl (fun h => Bool.noConfusion h) (by decide) (by decide) (by decide) fo_90_2 Ct rt (fine_spec hq).2.2.2.2.1 (fine_spec hq).2.2.1 (fine_spec hq).2.2.2.1 (sortU_perm _) (sortU_rise (fine_spec hq).2.2.2.2.1) hb hk ht
end Go.Proofs.YthholdjpcdpceaaDoor
