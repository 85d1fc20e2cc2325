/- Walks of functions that the laws of this seat reach. No statement of the seat stands here. -/
import Derived.Test.YthholdjpcdpceabDoorL3
import Derived.Test.YthholdjpcdpceabDoorRows
import Derived.Test.YthholdjpcdpceabDoorFa
import Derived.Test.YthholdjpcdpceabDoorTt
import Derived.Test.YthholdjpcdpceabDoorTf
import Derived.Test.YthholdjpcdpceabDoorTg2
import Derived.Test.YthholdjpcdpceabDoorTh
import Derived.Test.YthholdjpcdpceabDoorSch
namespace Go.Proofs.YthholdjpcdpceabDoor
open Go Go.Mk
theorem ddq_sAddRaftVoterRequestListener (q : T) : ddS sch_sAddRaftVoterRequestListener true q = .agg [.v (.string (bs (q.at_ 0).s)), .v (.string (bs (q.at_ 1).s)), .v (.int .u16 (IntKind.u16.wrap (q.at_ 2).n)), ddTagMap q.u] := rfl
theorem tells_sAddRaftVoterRequestListener (q : T) : telP sch_sAddRaftVoterRequestListener q = .mk 0 [] false [ofOct (q.at_ 0).s, ofOct (q.at_ 1).s, ofNum (IntKind.u16.wrap (q.at_ 2).n)] (sortU q.u) := congrArg (fun l => T.mk 0 [] false l (sortU q.u)) (cons_eq rfl (cons_eq rfl (cons_eq rfl (rfl))))
theorem clo_sAddRaftVoterRequestListener : CloOk Tryd.prog 27 51 108 := by
 intro w S k SE tb YE us p lv x h1 h2 h3 h4 h5 h6 h7 h8 h9
 refine c_call Tryd.func108 rfl rfl fun a hk => ?_
 have hk : Kn 14 [(0, .int .u32 (p.1 : Int)), (1, x), (2, .pointer (some ⟨tb, 0, none⟩))] a := hk
 exact tl_clo (s := 5) treeP tagP rfl rfl (by kernel_rfl) (by kernel_rfl) (by decide) (by decide) h1 h2 h3 h4 h5 h6 h7 h8 h9 hk
theorem tell_sAddRaftVoterRequestListener : TellOk Tryd.prog 67 sch_sAddRaftVoterRequestListener true 0 := by
 intro w0 Y b off cs q hC hR hq
 rw [tells_sAddRaftVoterRequestListener]
 refine c_call Tryd.func67 rfl rfl fun a hk => ?_
 have hk : Kn 42 [(0, .pointer (some ⟨b, off, none⟩))] a := hk
 refine tl_start (m := 3) (su := 4) (sv := 5) treeP rowT (by decide) rfl (by decide) (by decide) (by decide) (by decide) (by decide) (by decide) hC hR hk fun a w1 w rb tb bb Y1 hb hC hR hk ht => ?_
 rw [ddq_sAddRaftVoterRequestListener] at hR
 have hR := rep_agg_inv hR
 obtain ⟨c0, C0, hC, hR⟩ := cel_unV hC hR
 obtain ⟨c1, C1, hC, hR⟩ := cel_unV hC hR
 obtain ⟨c2, C2, hC, hR⟩ := cel_unV hC hR
 obtain ⟨xt, ct, Ct, hC, rt, hR⟩ := cel_un1 (one1_mp _ _) hC hR
 refine tl_text (s := 6) (k := 0)  treeP rfl rfl (by kernel_rfl) (by kernel_rfl) (by decide) (by decide) (by decide) fo_93_0 ts_9 is_9 iy_22 (fun _ _ _ _ _ h => h) C0 hk ht fun a w hk ht => ?_
 refine tl_text (s := 15) (k := 1)  treeP rfl rfl (by kernel_rfl) (by kernel_rfl) (by decide) (by decide) (by decide) fo_93_1 ts_9 is_9 iy_22 (fun _ _ _ _ _ h => h) C1 hk ht fun a w hk ht => ?_
 refine tl_num (s := 24) (k := 2)  treeP rfl rfl (by kernel_rfl) (by kernel_rfl) (by decide) (by decide) (by decide) fo_93_2 ts_91 un_91 ti_2 (wrap_in_i64 .u16 (by simp)) (fun _ _ _ _ _ h => h) C2 hk ht fun a w hk ht => ?_
 exact tl_end (s := 33) (fE := 61) (fS := 63) (g := 108) treeP tagP each_cP cb_61 sorted_ok cb_63 clo_sAddRaftVoterRequestListener cb_108 rfl rfl (fun h => Bool.noConfusion h) (by decide) (by decide) (by decide) fo_93_3 Ct rt (fine_spec hq).2.2.2.2.1 (fine_spec hq).2.2.1 (fine_spec hq).2.2.2.1 (sortU_perm _) (sortU_rise (fine_spec hq).2.2.2.2.1) hb hk ht
theorem ddq_AddRaftVoterRequest (q : T) : ddS sch_AddRaftVoterRequest true q = .agg [if (q.at_ 0).z then .v (.pointer none) else .ptr (.v (.string (bs (q.at_ 0).s))), .v (.int .i32 (IntKind.i32.wrap (q.at_ 1).n)), .v (.int .i32 (IntKind.i32.wrap (q.at_ 2).n)), .agg ((sixteen (q.at_ 3).s).map ddB), if (q.at_ 4).z then .v (.slice none 0 0) else .sl true 4 ((q.at_ 4).l.map (ddS sch_sAddRaftVoterRequestListener true)), .v (.bool ((q.at_ 5).n % 2 == 1)), ddTagMap q.u] := rfl
theorem tells_AddRaftVoterRequest (q : T) : telP sch_AddRaftVoterRequest q = .mk 0 [] false [(if (q.at_ 0).z then ofNil else ofOct (q.at_ 0).s), ofNum (IntKind.i32.wrap (q.at_ 1).n), ofNum (IntKind.i32.wrap (q.at_ 2).n), ofOct (sixteen (q.at_ 3).s), .mk 0 [] (q.at_ 4).z ((lzL (q.at_ 4).z (q.at_ 4).l).map (telV 10 (-1) (telP sch_sAddRaftVoterRequestListener))) [], ofNum (if ((q.at_ 5).n % 2 == 1) then 1 else 0)] (sortU q.u) := congrArg (fun l => T.mk 0 [] false l (sortU q.u)) (cons_eq (tel_textN (nu := 0) (q.at_ 0) (by decide)) (cons_eq rfl (cons_eq rfl (cons_eq rfl (cons_eq (tel_list _) (cons_eq (tel_bool (q.at_ 5)) (rfl)))))))
theorem clo_AddRaftVoterRequest : CloOk Tryd.prog 27 51 69 := by
 intro w S k SE tb YE us p lv x h1 h2 h3 h4 h5 h6 h7 h8 h9
 refine c_call Tryd.func69 rfl rfl fun a hk => ?_
 have hk : Kn 14 [(0, .int .u32 (p.1 : Int)), (1, x), (2, .pointer (some ⟨tb, 0, none⟩))] a := hk
 exact tl_clo (s := 5) treeP tagP rfl rfl (by kernel_rfl) (by kernel_rfl) (by decide) (by decide) h1 h2 h3 h4 h5 h6 h7 h8 h9 hk
theorem tell_AddRaftVoterRequest : TellOk Tryd.prog 37 sch_AddRaftVoterRequest true 1 := by
 intro w0 Y b off cs q hC hR hq
 rw [tells_AddRaftVoterRequest]
 refine c_call Tryd.func37 rfl rfl fun a hk => ?_
 have hk : Kn 115 [(0, .pointer (some ⟨b, off, none⟩))] a := hk
 refine tl_start (m := 6) (su := 5) (sv := 6) treeP rowT (by decide) rfl (by decide) (by decide) (by decide) (by decide) (by decide) (by decide) hC hR hk fun a w1 w rb tb bb Y1 hb hC hR hk ht => ?_
 rw [ddq_AddRaftVoterRequest] at hR
 have hR := rep_agg_inv hR
 obtain ⟨x0, c0, C0, hC, r0, hR⟩ := cel_un1 (one1_ite (one1_v _) (one1_ptr _)) hC hR
 obtain ⟨c1, C1, hC, hR⟩ := cel_unV hC hR
 obtain ⟨c2, C2, hC, hR⟩ := cel_unV hC hR
 obtain ⟨c3, C3, hC, hR⟩ := cel_un16 hC hR
 obtain ⟨x4, c4, C4, hC, r4, hR⟩ := cel_un1 (one1_ite (one1_v _) (one1_sl _ _ _)) hC hR
 obtain ⟨c5, C5, hC, hR⟩ := cel_unV hC hR
 obtain ⟨xt, ct, Ct, hC, rt, hR⟩ := cel_un1 (one1_mp _ _) hC hR
 refine tl_call (s := 7) (k := 0) (F := 66) (tr := (if (q.at_ 0).z then ofNil else ofOct (q.at_ 0).s)) treeP rfl rfl (by kernel_rfl) (by kernel_rfl) (by decide) (by decide) (by decide) fo_87_1 ts_84 cb_66 (fun hm => textTree_c (q.at_ 0).z (q.at_ 0).s (rep_in hm r0)) (fun _ _ _ _ _ h => h) C0 hk ht fun a w hk ht => ?_
 refine tl_num (s := 15) (k := 1)  treeP rfl rfl (by kernel_rfl) (by kernel_rfl) (by decide) (by decide) (by decide) fo_87_2 ts_21 un_21 ti_2 (wrap_in_i64 .i32 (by simp)) (fun _ _ _ _ _ h => h) C1 hk ht fun a w hk ht => ?_
 refine tl_num (s := 24) (k := 2)  treeP rfl rfl (by kernel_rfl) (by kernel_rfl) (by decide) (by decide) (by decide) fo_87_3 ts_21 un_21 ti_2 (wrap_in_i64 .i32 (by simp)) (fun _ _ _ _ _ h => h) C2 hk ht fun a w hk ht => ?_
 refine tl_uuid (s := 33) (k := 3)  treeP rfl rfl (by kernel_rfl) (by kernel_rfl) (by decide) (by decide) (by decide) fo_87_4 ar_78 ts_5 te_22 rt_22 (fun _ _ _ _ _ h => h) C3 hk ht fun a w hk ht => ?_
 obtain ⟨sp4, cap4, rfl, hz4, r4⟩ := rep_listN (G := (telV 10 (-1) (telP sch_sAddRaftVoterRequestListener))) r4
 refine tl_null (s := 42) (k := 4)  treeP rfl rfl (by kernel_rfl) (by kernel_rfl) (by decide) (by decide) (by decide) fo_87_5 ts_85 te_85 ts_4 (fun _ _ _ _ _ h => h) C4 hk ht fun a w hk ht => ?_
 refine tl_list (s := 51) (k := 4) (iv := 4) (tz := 97) (tsl := (lzL (q.at_ 4).z (q.at_ 4).l).map (telV 10 (-1) (telP sch_sAddRaftVoterRequestListener))) treeP tz_4 ts_4 rfl (by kernel_rfl) (by kernel_rfl) (by kernel_rfl) (by kernel_rfl) (by decide) (by decide) (by decide) (by decide) (by decide) (lz_len (fine_at hq 4)) fo_87_5 ts_85 te_85 (fun _ _ _ _ _ h => h) C4 hk ht ?_ ?_ fun a w hk ht => ?_
 ·intro Q j a w hj hQ hk ht K
  obtain ⟨b2, o2, c2, rfl, hE, hCE⟩ := list_at r4 (j := j) (by simpa using hj)
  exact tl_A_call (p := 61) (s := 51) (k := 4) rfl rfl (by kernel_rfl) (by kernel_rfl) (by kernel_rfl) (by kernel_rfl) treeP rowT (by decide) rfl (by decide) (by decide) (by decide) (by decide) hj (lz_len (fine_at hq 4)) fo_87_5 ts_85 te_85 ts_93 cb_67 (fun hm => by rw [getD_mapT hj]; exact tell_sAddRaftVoterRequestListener (cel_in hm hCE) (rep_in hm hE) (lz_fine (fine_at hq 4) j)) hQ C4 hk ht K
 ·intro Q j a w hj hQ hk ht K
  obtain ⟨b2, o2, c2, rfl, hE, hCE⟩ := list_at r4 (j := j) (by simpa using hj)
  exact tl_B_call (p := 79) (s := 51) (k := 4) (by decide) rfl (by kernel_rfl) (by kernel_rfl) treeP rowT (by decide) rfl (by decide) (by decide) (by decide) (by decide) hj (lz_len (fine_at hq 4)) fo_87_5 ts_85 te_85 ts_93 cb_67 (fun hm => by rw [getD_mapT hj]; exact tell_sAddRaftVoterRequestListener (cel_in hm hCE) (rep_in hm hE) (lz_fine (fine_at hq 4) j)) hQ C4 hk ht K
 rw [hz4] at ht
 refine tl_call (s := 98) (k := 5) (F := 68) (tr := ofNum (if ((q.at_ 5).n % 2 == 1) then 1 else 0)) treeP rfl rfl (by kernel_rfl) (by kernel_rfl) (by decide) (by decide) (by decide) fo_87_6 ts_4 cb_68 (fun _ => boolTree_c _) (fun _ _ _ _ _ h => h) C5 hk ht fun a w hk ht => ?_
 exact tl_end (s := 106) (fE := 61) (fS := 63) (g := 69) treeP tagP each_cP cb_61 sorted_ok cb_63 clo_AddRaftVoterRequest cb_69 rfl rfl (fun h => Bool.noConfusion h) (by decide) (by decide) (by decide) fo_87_7 Ct rt (fine_spec hq).2.2.2.2.1 (fine_spec hq).2.2.1 (fine_spec hq).2.2.2.1 (sortU_perm _) (sortU_rise (fine_spec hq).2.2.2.2.1) hb hk ht
end Go.Proofs.YthholdjpcdpceabDoor
