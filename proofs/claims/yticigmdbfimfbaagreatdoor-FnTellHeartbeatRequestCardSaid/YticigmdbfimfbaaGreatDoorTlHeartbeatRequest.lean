/- Walks of functions that the laws of this seat reach. No statement of the seat stands here. -/
import Derived.Test.YticigmdbfimfbaaGreatDoorL4
import Derived.Test.YticigmdbfimfbaaGreatDoorRows
import Derived.Test.YticigmdbfimfbaaGreatDoorFa
import Derived.Test.YticigmdbfimfbaaGreatDoorTt
import Derived.Test.YticigmdbfimfbaaGreatDoorTf
import Derived.Test.YticigmdbfimfbaaGreatDoorTg2
import Derived.Test.YticigmdbfimfbaaGreatDoorTh
import Derived.Test.YticigmdbfimfbaaGreatDoorSch
namespace Go.Proofs.YticigmdbfimfbaaGreatDoor
open Go Go.Mk
theorem ddq_HeartbeatRequest (q : T) : ddS sch_HeartbeatRequest true q = .agg [.v (.string (bs (q.at_ 0).s)), .v (.int .i32 (IntKind.i32.wrap (q.at_ 1).n)), .v (.string (bs (q.at_ 2).s)), if (q.at_ 3).z then .v (.pointer none) else .ptr (.v (.string (bs (q.at_ 3).s))), ddTagMap q.u] := rfl
theorem tells_HeartbeatRequest (q : T) : telP sch_HeartbeatRequest q = .mk 0 [] false [ofOct (q.at_ 0).s, ofNum (IntKind.i32.wrap (q.at_ 1).n), ofOct (q.at_ 2).s, (if (q.at_ 3).z then ofNil else ofOct (q.at_ 3).s)] (sortU q.u) := congrArg (fun l => T.mk 0 [] false l (sortU q.u)) (cons_eq rfl (cons_eq rfl (cons_eq rfl (cons_eq (tel_textN (nu := 3) (q.at_ 3) (by decide)) (rfl)))))
theorem clo_HeartbeatRequest : CloOk Tryz.prog 37 68 92 := by
 intro w S k SE tb YE us p lv x h1 h2 h3 h4 h5 h6 h7 h8 h9
 refine c_call Tryz.func92 rfl rfl fun a hk => ?_
 have hk : Kn 14 [(0, .int .u32 (p.1 : Int)), (1, x), (2, .pointer (some ⟨tb, 0, none⟩))] a := hk
 exact tl_clo (s := 5) treeP tagP rfl rfl (by kernel_rfl) (by kernel_rfl) (by decide) (by decide) h1 h2 h3 h4 h5 h6 h7 h8 h9 hk
theorem tell_HeartbeatRequest : TellOk Tryz.prog 42 sch_HeartbeatRequest true 1 := by
 intro w0 Y b off cs q hC hR hq
 rw [tells_HeartbeatRequest]
 refine c_call Tryz.func42 rfl rfl fun a hk => ?_
 have hk : Kn 50 [(0, .pointer (some ⟨b, off, none⟩))] a := hk
 refine tl_start (m := 4) (su := 4) (sv := 5) treeP rowT (by decide) rfl (by decide) (by decide) (by decide) (by decide) (by decide) (by decide) hC hR hk fun a w1 w rb tb bb Y1 hb hC hR hk ht => ?_
 rw [ddq_HeartbeatRequest] at hR
 have hR := rep_agg_inv hR
 obtain ⟨c0, C0, hC, hR⟩ := cel_unV hC hR
 obtain ⟨c1, C1, hC, hR⟩ := cel_unV hC hR
 obtain ⟨c2, C2, hC, hR⟩ := cel_unV hC hR
 obtain ⟨x3, c3, C3, hC, r3, hR⟩ := cel_un1 (one1_ite (one1_v _) (one1_ptr _)) hC hR
 obtain ⟨xt, ct, Ct, hC, rt, hR⟩ := cel_un1 (one1_mp _ _) hC hR
 refine tl_text (s := 6) (k := 0)  treeP rfl rfl (by kernel_rfl) (by kernel_rfl) (by decide) (by decide) (by decide) fo_94_1 ts_9 is_9 iy_22 (fun _ _ _ _ _ h => h) C0 hk ht fun a w hk ht => ?_
 refine tl_num (s := 15) (k := 1)  treeP rfl rfl (by kernel_rfl) (by kernel_rfl) (by decide) (by decide) (by decide) fo_94_2 ts_21 un_21 ti_2 (wrap_in_i64 .i32 (by simp)) (fun _ _ _ _ _ h => h) C1 hk ht fun a w hk ht => ?_
 refine tl_text (s := 24) (k := 2)  treeP rfl rfl (by kernel_rfl) (by kernel_rfl) (by decide) (by decide) (by decide) fo_94_3 ts_9 is_9 iy_22 (fun _ _ _ _ _ h => h) C2 hk ht fun a w hk ht => ?_
 refine tl_call (s := 33) (k := 3) (F := 90) (tr := (if (q.at_ 3).z then ofNil else ofOct (q.at_ 3).s)) treeP rfl rfl (by kernel_rfl) (by kernel_rfl) (by decide) (by decide) (by decide) fo_94_4 ts_89 cb_90 (fun hm => textTree_c (q.at_ 3).z (q.at_ 3).s (rep_in hm r3)) (fun _ _ _ _ _ h => h) C3 hk ht fun a w hk ht => ?_
 exact tl_end (s := 41) (fE := 91) (fS := 93) (g := 92) treeP tagP each_cP cb_91 sorted_ok cb_93 clo_HeartbeatRequest cb_92 rfl rfl (fun h => Bool.noConfusion h) (by decide) (by decide) (by decide) fo_94_5 Ct rt (fine_spec hq).2.2.2.2.1 (fine_spec hq).2.2.1 (fine_spec hq).2.2.2.1 (sortU_perm _) (sortU_rise (fine_spec hq).2.2.2.2.1) hb hk ht
end Go.Proofs.YticigmdbfimfbaaGreatDoor
