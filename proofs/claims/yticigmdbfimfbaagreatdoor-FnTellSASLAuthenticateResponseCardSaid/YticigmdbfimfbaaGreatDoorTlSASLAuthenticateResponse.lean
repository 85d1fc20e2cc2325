/- Walks of functions that the laws of this seat reach. No statement of the seat stands here. -/
import Derived.Test.YticigmdbfimfbaaGreatDoorL4
import Derived.Test.YticigmdbfimfbaaGreatDoorRows
import Derived.Test.YticigmdbfimfbaaGreatDoorFa
import Derived.Test.YticigmdbfimfbaaGreatDoorTt
import Derived.Test.YticigmdbfimfbaaGreatDoorTf
import Derived.Test.YticigmdbfimfbaaGreatDoorTg2
import Derived.Test.YticigmdbfimfbaaGreatDoorTh
import Derived.Test.YticigmdbfimfbaaGreatDoorSch
namespace Go.Proofs.YticigmdbfimfbaaGreatDoor
open Go Go.Mk
theorem ddq_SASLAuthenticateResponse (q : T) : ddS sch_SASLAuthenticateResponse true q = .agg [.v (.int .i16 (IntKind.i16.wrap (q.at_ 0).n)), if (q.at_ 1).z then .v (.pointer none) else .ptr (.v (.string (bs (q.at_ 1).s))), if (q.at_ 2).z then .v (.slice none 0 0) else .sl true 1 ((q.at_ 2).s.map ddB), .v (.int .i64 (q.at_ 3).n), ddTagMap q.u] := rfl
theorem tells_SASLAuthenticateResponse (q : T) : telP sch_SASLAuthenticateResponse q = .mk 0 [] false [ofNum (IntKind.i16.wrap (q.at_ 0).n), (if (q.at_ 1).z then ofNil else ofOct (q.at_ 1).s), .mk 0 (if (q.at_ 2).z then [] else (q.at_ 2).s) (q.at_ 2).z [] [], ofNum (q.at_ 3).n] (sortU q.u) := congrArg (fun l => T.mk 0 [] false l (sortU q.u)) (cons_eq rfl (cons_eq (tel_textN (nu := 0) (q.at_ 1) (by decide)) (cons_eq rfl (cons_eq rfl (rfl)))))
theorem clo_SASLAuthenticateResponse : CloOk Tryz.prog 37 68 109 := by
 intro w S k SE tb YE us p lv x h1 h2 h3 h4 h5 h6 h7 h8 h9
 refine c_call Tryz.func109 rfl rfl fun a hk => ?_
 have hk : Kn 14 [(0, .int .u32 (p.1 : Int)), (1, x), (2, .pointer (some ⟨tb, 0, none⟩))] a := hk
 exact tl_clo (s := 5) treeP tagP rfl rfl (by kernel_rfl) (by kernel_rfl) (by decide) (by decide) h1 h2 h3 h4 h5 h6 h7 h8 h9 hk
theorem tell_SASLAuthenticateResponse : TellOk Tryz.prog 62 sch_SASLAuthenticateResponse true 1 := by
 intro w0 Y b off cs q hC hR hq
 rw [tells_SASLAuthenticateResponse]
 refine c_call Tryz.func62 rfl rfl fun a hk => ?_
 have hk : Kn 48 [(0, .pointer (some ⟨b, off, none⟩))] a := hk
 refine tl_start (m := 4) (su := 4) (sv := 5) treeP rowT (by decide) rfl (by decide) (by decide) (by decide) (by decide) (by decide) (by decide) hC hR hk fun a w1 w rb tb bb Y1 hb hC hR hk ht => ?_
 rw [ddq_SASLAuthenticateResponse] at hR
 have hR := rep_agg_inv hR
 obtain ⟨c0, C0, hC, hR⟩ := cel_unV hC hR
 obtain ⟨x1, c1, C1, hC, r1, hR⟩ := cel_un1 (one1_ite (one1_v _) (one1_ptr _)) hC hR
 obtain ⟨x2, c2, C2, hC, r2, hR⟩ := cel_un1 (one1_ite (one1_v _) (one1_sl _ _ _)) hC hR
 obtain ⟨c3, C3, hC, hR⟩ := cel_unV hC hR
 obtain ⟨xt, ct, Ct, hC, rt, hR⟩ := cel_un1 (one1_mp _ _) hC hR
 refine tl_num (s := 6) (k := 0)  treeP rfl rfl (by kernel_rfl) (by kernel_rfl) (by decide) (by decide) (by decide) fo_117_1 ts_46 un_46 ti_2 (wrap_in_i64 .i16 (by simp)) (fun _ _ _ _ _ h => h) C0 hk ht fun a w hk ht => ?_
 refine tl_call (s := 15) (k := 1) (F := 90) (tr := (if (q.at_ 1).z then ofNil else ofOct (q.at_ 1).s)) treeP rfl rfl (by kernel_rfl) (by kernel_rfl) (by decide) (by decide) (by decide) fo_117_2 ts_89 cb_90 (fun hm => textTree_c (q.at_ 1).z (q.at_ 1).s (rep_in hm r1)) (fun _ _ _ _ _ h => h) C1 hk ht fun a w hk ht => ?_
 refine tl_call (s := 23) (k := 2) (F := 108) (tr := .mk 0 (if (q.at_ 2).z then [] else (q.at_ 2).s) (q.at_ 2).z [] []) treeP rfl rfl (by kernel_rfl) (by kernel_rfl) (by decide) (by decide) (by decide) fo_117_3 ts_22 cb_108 (fun hm => octetsTree_c (q.at_ 2).z (if (q.at_ 2).z then [] else (q.at_ 2).s) (fun h => by rw [h]; rfl) (oct_room (fine_at hq 2)) (rep_in hm (oct_open r2))) (fun _ _ _ _ _ h => h) C2 hk ht fun a w hk ht => ?_
 refine tl_raw (s := 31) (k := 3)  treeP rfl rfl (by kernel_rfl) (by kernel_rfl) (by decide) (by decide) (by decide) fo_117_4 ts_2 (fun _ _ _ _ _ h => h) C3 hk ht fun a w hk ht => ?_
 exact tl_end (s := 39) (fE := 91) (fS := 93) (g := 109) treeP tagP each_cP cb_91 sorted_ok cb_93 clo_SASLAuthenticateResponse cb_109 rfl rfl (fun h => Bool.noConfusion h) (by decide) (by decide) (by decide) fo_117_5 Ct rt (fine_spec hq).2.2.2.2.1 (fine_spec hq).2.2.1 (fine_spec hq).2.2.2.1 (sortU_perm _) (sortU_rise (fine_spec hq).2.2.2.2.1) hb hk ht
end Go.Proofs.YticigmdbfimfbaaGreatDoor
