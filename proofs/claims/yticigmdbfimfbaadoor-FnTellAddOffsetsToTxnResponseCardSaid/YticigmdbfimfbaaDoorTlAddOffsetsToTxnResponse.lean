/- Walks of functions that the laws of this seat reach. No statement of the seat stands here. -/
import Derived.Test.YticigmdbfimfbaaDoorL3
import Derived.Test.YticigmdbfimfbaaDoorRows
import Derived.Test.YticigmdbfimfbaaDoorFa
import Derived.Test.YticigmdbfimfbaaDoorTt
import Derived.Test.YticigmdbfimfbaaDoorTf
import Derived.Test.YticigmdbfimfbaaDoorTg2
import Derived.Test.YticigmdbfimfbaaDoorTh
import Derived.Test.YticigmdbfimfbaaDoorSch
namespace Go.Proofs.YticigmdbfimfbaaDoor
open Go Go.Mk
theorem ddq_AddOffsetsToTxnResponse (q : T) : ddS sch_AddOffsetsToTxnResponse true q = .agg [.v (.int .i32 (IntKind.i32.wrap (q.at_ 0).n)), .v (.int .i16 (IntKind.i16.wrap (q.at_ 1).n)), ddTagMap q.u] := rfl
theorem tells_AddOffsetsToTxnResponse (q : T) : telP sch_AddOffsetsToTxnResponse q = .mk 0 [] false [ofNum (IntKind.i32.wrap (q.at_ 0).n), ofNum (IntKind.i16.wrap (q.at_ 1).n)] (sortU q.u) := congrArg (fun l => T.mk 0 [] false l (sortU q.u)) (cons_eq rfl (cons_eq rfl (rfl)))
theorem clo_AddOffsetsToTxnResponse : CloOk Tryd.prog 37 69 68 := by
 intro w S k SE tb YE us p lv x h1 h2 h3 h4 h5 h6 h7 h8 h9
 refine c_call Tryd.func68 rfl rfl fun a hk => ?_
 have hk : Kn 14 [(0, .int .u32 (p.1 : Int)), (1, x), (2, .pointer (some ⟨tb, 0, none⟩))] a := hk
 exact tl_clo (s := 5) treeP tagP rfl rfl (by kernel_rfl) (by kernel_rfl) (by decide) (by decide) h1 h2 h3 h4 h5 h6 h7 h8 h9 hk
theorem tell_AddOffsetsToTxnResponse : TellOk Tryd.prog 34 sch_AddOffsetsToTxnResponse true 1 := by
 intro w0 Y b off cs q hC hR hq
 rw [tells_AddOffsetsToTxnResponse]
 refine c_call Tryd.func34 rfl rfl fun a hk => ?_
 have hk : Kn 33 [(0, .pointer (some ⟨b, off, none⟩))] a := hk
 refine tl_start (m := 2) (su := 4) (sv := 5) treeP rowT (by decide) rfl (by decide) (by decide) (by decide) (by decide) (by decide) (by decide) hC hR hk fun a w1 w rb tb bb Y1 hb hC hR hk ht => ?_
 rw [ddq_AddOffsetsToTxnResponse] at hR
 have hR := rep_agg_inv hR
 obtain ⟨c0, C0, hC, hR⟩ := cel_unV hC hR
 obtain ⟨c1, C1, hC, hR⟩ := cel_unV hC hR
 obtain ⟨xt, ct, Ct, hC, rt, hR⟩ := cel_un1 (one1_mp _ _) hC hR
 refine tl_num (s := 6) (k := 0)  treeP rfl rfl (by kernel_rfl) (by kernel_rfl) (by decide) (by decide) (by decide) fo_92_1 ts_21 un_21 ti_2 (wrap_in_i64 .i32 (by simp)) (fun _ _ _ _ _ h => h) C0 hk ht fun a w hk ht => ?_
 refine tl_num (s := 15) (k := 1)  treeP rfl rfl (by kernel_rfl) (by kernel_rfl) (by decide) (by decide) (by decide) fo_92_2 ts_47 un_47 ti_2 (wrap_in_i64 .i16 (by simp)) (fun _ _ _ _ _ h => h) C1 hk ht fun a w hk ht => ?_
 exact tl_end (s := 24) (fE := 67) (fS := 69) (g := 68) treeP tagP each_cP cb_67 sorted_ok cb_69 clo_AddOffsetsToTxnResponse cb_68 rfl rfl (fun h => Bool.noConfusion h) (by decide) (by decide) (by decide) fo_92_3 Ct rt (fine_spec hq).2.2.2.2.1 (fine_spec hq).2.2.1 (fine_spec hq).2.2.2.1 (sortU_perm _) (sortU_rise (fine_spec hq).2.2.2.2.1) hb hk ht
end Go.Proofs.YticigmdbfimfbaaDoor
