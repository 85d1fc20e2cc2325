/- Walks of functions that the laws of this seat reach. No statement of the seat stands here. -/
import Derived.Test.YticigmdbfimfbaaDoorL3
import Derived.Test.YticigmdbfimfbaaDoorRows
import Derived.Test.YticigmdbfimfbaaDoorFa
import Derived.Test.YticigmdbfimfbaaDoorTt
import Derived.Test.YticigmdbfimfbaaDoorTf
import Derived.Test.YticigmdbfimfbaaDoorTg2
import Derived.Test.YticigmdbfimfbaaDoorTh
import Derived.Test.YticigmdbfimfbaaDoorSch
namespace Go.Proofs.YticigmdbfimfbaaDoor
open Go Go.Mk
theorem ddq_EnvelopeRequest (q : T) : ddS sch_EnvelopeRequest true q = .agg [if (q.at_ 0).z then .v (.slice none 0 0) else .sl true 1 ((q.at_ 0).s.map ddB), if (q.at_ 1).z then .v (.slice none 0 0) else .sl true 1 ((q.at_ 1).s.map ddB), if (q.at_ 2).z then .v (.slice none 0 0) else .sl true 1 ((q.at_ 2).s.map ddB), ddTagMap q.u] := rfl
theorem tells_EnvelopeRequest (q : T) : telP sch_EnvelopeRequest q = .mk 0 [] false [.mk 0 (if (q.at_ 0).z then [] else (q.at_ 0).s) (q.at_ 0).z [] [], .mk 0 (if (q.at_ 1).z then [] else (q.at_ 1).s) (q.at_ 1).z [] [], .mk 0 (if (q.at_ 2).z then [] else (q.at_ 2).s) (q.at_ 2).z [] []] (sortU q.u) := congrArg (fun l => T.mk 0 [] false l (sortU q.u)) (cons_eq rfl (cons_eq rfl (cons_eq rfl (rfl))))
theorem clo_EnvelopeRequest : CloOk Tryd.prog 37 69 86 := by
 intro w S k SE tb YE us p lv x h1 h2 h3 h4 h5 h6 h7 h8 h9
 refine c_call Tryd.func86 rfl rfl fun a hk => ?_
 have hk : Kn 14 [(0, .int .u32 (p.1 : Int)), (1, x), (2, .pointer (some ⟨tb, 0, none⟩))] a := hk
 exact tl_clo (s := 5) treeP tagP rfl rfl (by kernel_rfl) (by kernel_rfl) (by decide) (by decide) h1 h2 h3 h4 h5 h6 h7 h8 h9 hk
theorem tell_EnvelopeRequest : TellOk Tryd.prog 58 sch_EnvelopeRequest true 1 := by
 intro w0 Y b off cs q hC hR hq
 rw [tells_EnvelopeRequest]
 refine c_call Tryd.func58 rfl rfl fun a hk => ?_
 have hk : Kn 39 [(0, .pointer (some ⟨b, off, none⟩))] a := hk
 refine tl_start (m := 3) (su := 4) (sv := 5) treeP rowT (by decide) rfl (by decide) (by decide) (by decide) (by decide) (by decide) (by decide) hC hR hk fun a w1 w rb tb bb Y1 hb hC hR hk ht => ?_
 rw [ddq_EnvelopeRequest] at hR
 have hR := rep_agg_inv hR
 obtain ⟨x0, c0, C0, hC, r0, hR⟩ := cel_un1 (one1_ite (one1_v _) (one1_sl _ _ _)) hC hR
 obtain ⟨x1, c1, C1, hC, r1, hR⟩ := cel_un1 (one1_ite (one1_v _) (one1_sl _ _ _)) hC hR
 obtain ⟨x2, c2, C2, hC, r2, hR⟩ := cel_un1 (one1_ite (one1_v _) (one1_sl _ _ _)) hC hR
 obtain ⟨xt, ct, Ct, hC, rt, hR⟩ := cel_un1 (one1_mp _ _) hC hR
 refine tl_call (s := 6) (k := 0) (F := 82) (tr := .mk 0 (if (q.at_ 0).z then [] else (q.at_ 0).s) (q.at_ 0).z [] []) treeP rfl rfl (by kernel_rfl) (by kernel_rfl) (by decide) (by decide) (by decide) fo_111_1 ts_22 cb_82 (fun hm => octetsTree_c (q.at_ 0).z (if (q.at_ 0).z then [] else (q.at_ 0).s) (fun h => by rw [h]; rfl) (oct_room (fine_at hq 0)) (rep_in hm (oct_open r0))) (fun _ _ _ _ _ h => h) C0 hk ht fun a w hk ht => ?_
 refine tl_call (s := 14) (k := 1) (F := 82) (tr := .mk 0 (if (q.at_ 1).z then [] else (q.at_ 1).s) (q.at_ 1).z [] []) treeP rfl rfl (by kernel_rfl) (by kernel_rfl) (by decide) (by decide) (by decide) fo_111_2 ts_22 cb_82 (fun hm => octetsTree_c (q.at_ 1).z (if (q.at_ 1).z then [] else (q.at_ 1).s) (fun h => by rw [h]; rfl) (oct_room (fine_at hq 1)) (rep_in hm (oct_open r1))) (fun _ _ _ _ _ h => h) C1 hk ht fun a w hk ht => ?_
 refine tl_call (s := 22) (k := 2) (F := 82) (tr := .mk 0 (if (q.at_ 2).z then [] else (q.at_ 2).s) (q.at_ 2).z [] []) treeP rfl rfl (by kernel_rfl) (by kernel_rfl) (by decide) (by decide) (by decide) fo_111_3 ts_22 cb_82 (fun hm => octetsTree_c (q.at_ 2).z (if (q.at_ 2).z then [] else (q.at_ 2).s) (fun h => by rw [h]; rfl) (oct_room (fine_at hq 2)) (rep_in hm (oct_open r2))) (fun _ _ _ _ _ h => h) C2 hk ht fun a w hk ht => ?_
 exact tl_end (s := 30) (fE := 67) (fS := 69) (g := 86) treeP tagP each_cP cb_67 sorted_ok cb_69 clo_EnvelopeRequest cb_86 rfl rfl (fun h => Bool.noConfusion h) (by decide) (by decide) (by decide) fo_111_4 Ct rt (fine_spec hq).2.2.2.2.1 (fine_spec hq).2.2.1 (fine_spec hq).2.2.2.1 (sortU_perm _) (sortU_rise (fine_spec hq).2.2.2.2.1) hb hk ht
end Go.Proofs.YticigmdbfimfbaaDoor
