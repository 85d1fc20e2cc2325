/- Walks of functions that the laws of this seat reach. No statement of the seat stands here. -/
import Derived.Test.YticigmdbfimfbaaDoorL3
import Derived.Test.YticigmdbfimfbaaDoorRows
import Derived.Test.YticigmdbfimfbaaDoorFa
import Derived.Test.YticigmdbfimfbaaDoorTt
import Derived.Test.YticigmdbfimfbaaDoorTf
import Derived.Test.YticigmdbfimfbaaDoorTg2
import Derived.Test.YticigmdbfimfbaaDoorTh
import Derived.Test.YticigmdbfimfbaaDoorSch
namespace Go.Proofs.YticigmdbfimfbaaDoor
open Go Go.Mk
theorem ddq_ExpireDelegationTokenResponse (q : T) : ddS sch_ExpireDelegationTokenResponse true q = .agg [.v (.int .i16 (IntKind.i16.wrap (q.at_ 0).n)), .v (.int .i64 (q.at_ 1).n), .v (.int .i32 (IntKind.i32.wrap (q.at_ 2).n)), ddTagMap q.u] := rfl
theorem tells_ExpireDelegationTokenResponse (q : T) : telP sch_ExpireDelegationTokenResponse q = .mk 0 [] false [ofNum (IntKind.i16.wrap (q.at_ 0).n), ofNum (q.at_ 1).n, ofNum (IntKind.i32.wrap (q.at_ 2).n)] (sortU q.u) := congrArg (fun l => T.mk 0 [] false l (sortU q.u)) (cons_eq rfl (cons_eq rfl (cons_eq rfl (rfl))))
theorem clo_ExpireDelegationTokenResponse : CloOk Tryd.prog 37 69 79 := by
 intro w S k SE tb YE us p lv x h1 h2 h3 h4 h5 h6 h7 h8 h9
 refine c_call Tryd.func79 rfl rfl fun a hk => ?_
 have hk : Kn 14 [(0, .int .u32 (p.1 : Int)), (1, x), (2, .pointer (some ⟨tb, 0, none⟩))] a := hk
 exact tl_clo (s := 5) treeP tagP rfl rfl (by kernel_rfl) (by kernel_rfl) (by decide) (by decide) h1 h2 h3 h4 h5 h6 h7 h8 h9 hk
theorem tell_ExpireDelegationTokenResponse : TellOk Tryd.prog 48 sch_ExpireDelegationTokenResponse true 1 := by
 intro w0 Y b off cs q hC hR hq
 rw [tells_ExpireDelegationTokenResponse]
 refine c_call Tryd.func48 rfl rfl fun a hk => ?_
 have hk : Kn 41 [(0, .pointer (some ⟨b, off, none⟩))] a := hk
 refine tl_start (m := 3) (su := 4) (sv := 5) treeP rowT (by decide) rfl (by decide) (by decide) (by decide) (by decide) (by decide) (by decide) hC hR hk fun a w1 w rb tb bb Y1 hb hC hR hk ht => ?_
 rw [ddq_ExpireDelegationTokenResponse] at hR
 have hR := rep_agg_inv hR
 obtain ⟨c0, C0, hC, hR⟩ := cel_unV hC hR
 obtain ⟨c1, C1, hC, hR⟩ := cel_unV hC hR
 obtain ⟨c2, C2, hC, hR⟩ := cel_unV hC hR
 obtain ⟨xt, ct, Ct, hC, rt, hR⟩ := cel_un1 (one1_mp _ _) hC hR
 refine tl_num (s := 6) (k := 0)  treeP rfl rfl (by kernel_rfl) (by kernel_rfl) (by decide) (by decide) (by decide) fo_106_1 ts_47 un_47 ti_2 (wrap_in_i64 .i16 (by simp)) (fun _ _ _ _ _ h => h) C0 hk ht fun a w hk ht => ?_
 refine tl_raw (s := 15) (k := 1)  treeP rfl rfl (by kernel_rfl) (by kernel_rfl) (by decide) (by decide) (by decide) fo_106_2 ts_2 (fun _ _ _ _ _ h => h) C1 hk ht fun a w hk ht => ?_
 refine tl_num (s := 23) (k := 2)  treeP rfl rfl (by kernel_rfl) (by kernel_rfl) (by decide) (by decide) (by decide) fo_106_3 ts_21 un_21 ti_2 (wrap_in_i64 .i32 (by simp)) (fun _ _ _ _ _ h => h) C2 hk ht fun a w hk ht => ?_
 exact tl_end (s := 32) (fE := 67) (fS := 69) (g := 79) treeP tagP each_cP cb_67 sorted_ok cb_69 clo_ExpireDelegationTokenResponse cb_79 rfl rfl (fun h => Bool.noConfusion h) (by decide) (by decide) (by decide) fo_106_4 Ct rt (fine_spec hq).2.2.2.2.1 (fine_spec hq).2.2.1 (fine_spec hq).2.2.2.1 (sortU_perm _) (sortU_rise (fine_spec hq).2.2.2.2.1) hb hk ht
end Go.Proofs.YticigmdbfimfbaaDoor
