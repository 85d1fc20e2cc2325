/- Walks of functions that the laws of this seat reach. No statement of the seat stands here. -/
import Derived.Test.YticigmdbfimfbaaGreatDoorL4
import Derived.Test.YticigmdbfimfbaaGreatDoorRows
import Derived.Test.YticigmdbfimfbaaGreatDoorFa
import Derived.Test.YticigmdbfimfbaaGreatDoorTt
import Derived.Test.YticigmdbfimfbaaGreatDoorTf
import Derived.Test.YticigmdbfimfbaaGreatDoorTg2
import Derived.Test.YticigmdbfimfbaaGreatDoorTh
import Derived.Test.YticigmdbfimfbaaGreatDoorSch
namespace Go.Proofs.YticigmdbfimfbaaGreatDoor
open Go Go.Mk
theorem ddq_sDeleteRecordsResponseTopicPartition (q : T) : ddS sch_sDeleteRecordsResponseTopicPartition true q = .agg [.v (.int .i32 (IntKind.i32.wrap (q.at_ 0).n)), .v (.int .i64 (q.at_ 1).n), .v (.int .i16 (IntKind.i16.wrap (q.at_ 2).n)), ddTagMap q.u] := rfl
theorem tells_sDeleteRecordsResponseTopicPartition (q : T) : telP sch_sDeleteRecordsResponseTopicPartition q = .mk 0 [] false [ofNum (IntKind.i32.wrap (q.at_ 0).n), ofNum (q.at_ 1).n, ofNum (IntKind.i16.wrap (q.at_ 2).n)] (sortU q.u) := congrArg (fun l => T.mk 0 [] false l (sortU q.u)) (cons_eq rfl (cons_eq rfl (cons_eq rfl (rfl))))
theorem clo_sDeleteRecordsResponseTopicPartition : CloOk Tryz.prog 37 68 180 := by
 intro w S k SE tb YE us p lv x h1 h2 h3 h4 h5 h6 h7 h8 h9
 refine c_call Tryz.func180 rfl rfl fun a hk => ?_
 have hk : Kn 14 [(0, .int .u32 (p.1 : Int)), (1, x), (2, .pointer (some ⟨tb, 0, none⟩))] a := hk
 exact tl_clo (s := 5) treeP tagP rfl rfl (by kernel_rfl) (by kernel_rfl) (by decide) (by decide) h1 h2 h3 h4 h5 h6 h7 h8 h9 hk
theorem tell_sDeleteRecordsResponseTopicPartition : TellOk Tryz.prog 165 sch_sDeleteRecordsResponseTopicPartition true 0 := by
 intro w0 Y b off cs q hC hR hq
 rw [tells_sDeleteRecordsResponseTopicPartition]
 refine c_call Tryz.func165 rfl rfl fun a hk => ?_
 have hk : Kn 41 [(0, .pointer (some ⟨b, off, none⟩))] a := hk
 refine tl_start (m := 3) (su := 4) (sv := 5) treeP rowT (by decide) rfl (by decide) (by decide) (by decide) (by decide) (by decide) (by decide) hC hR hk fun a w1 w rb tb bb Y1 hb hC hR hk ht => ?_
 rw [ddq_sDeleteRecordsResponseTopicPartition] at hR
 have hR := rep_agg_inv hR
 obtain ⟨c0, C0, hC, hR⟩ := cel_unV hC hR
 obtain ⟨c1, C1, hC, hR⟩ := cel_unV hC hR
 obtain ⟨c2, C2, hC, hR⟩ := cel_unV hC hR
 obtain ⟨xt, ct, Ct, hC, rt, hR⟩ := cel_un1 (one1_mp _ _) hC hR
 refine tl_num (s := 6) (k := 0)  treeP rfl rfl (by kernel_rfl) (by kernel_rfl) (by decide) (by decide) (by decide) fo_178_0 ts_21 un_21 ti_2 (wrap_in_i64 .i32 (by simp)) (fun _ _ _ _ _ h => h) C0 hk ht fun a w hk ht => ?_
 refine tl_raw (s := 15) (k := 1)  treeP rfl rfl (by kernel_rfl) (by kernel_rfl) (by decide) (by decide) (by decide) fo_178_1 ts_2 (fun _ _ _ _ _ h => h) C1 hk ht fun a w hk ht => ?_
 refine tl_num (s := 23) (k := 2)  treeP rfl rfl (by kernel_rfl) (by kernel_rfl) (by decide) (by decide) (by decide) fo_178_2 ts_46 un_46 ti_2 (wrap_in_i64 .i16 (by simp)) (fun _ _ _ _ _ h => h) C2 hk ht fun a w hk ht => ?_
 exact tl_end (s := 32) (fE := 91) (fS := 93) (g := 180) treeP tagP each_cP cb_91 sorted_ok cb_93 clo_sDeleteRecordsResponseTopicPartition cb_180 rfl rfl (fun h => Bool.noConfusion h) (by decide) (by decide) (by decide) fo_178_3 Ct rt (fine_spec hq).2.2.2.2.1 (fine_spec hq).2.2.1 (fine_spec hq).2.2.2.1 (sortU_perm _) (sortU_rise (fine_spec hq).2.2.2.2.1) hb hk ht
theorem ddq_sDeleteRecordsResponseTopic (q : T) : ddS sch_sDeleteRecordsResponseTopic true q = .agg [.v (.string (bs (q.at_ 0).s)), if (q.at_ 1).z then .v (.slice none 0 0) else .sl true 4 ((q.at_ 1).l.map (ddS sch_sDeleteRecordsResponseTopicPartition true)), ddTagMap q.u] := rfl
theorem tells_sDeleteRecordsResponseTopic (q : T) : telP sch_sDeleteRecordsResponseTopic q = .mk 0 [] false [ofOct (q.at_ 0).s, .mk 0 [] (q.at_ 1).z ((lzL (q.at_ 1).z (q.at_ 1).l).map (telV 10 (-1) (telP sch_sDeleteRecordsResponseTopicPartition))) []] (sortU q.u) := congrArg (fun l => T.mk 0 [] false l (sortU q.u)) (cons_eq rfl (cons_eq (tel_list _) (rfl)))
theorem clo_sDeleteRecordsResponseTopic : CloOk Tryz.prog 37 68 166 := by
 intro w S k SE tb YE us p lv x h1 h2 h3 h4 h5 h6 h7 h8 h9
 refine c_call Tryz.func166 rfl rfl fun a hk => ?_
 have hk : Kn 14 [(0, .int .u32 (p.1 : Int)), (1, x), (2, .pointer (some ⟨tb, 0, none⟩))] a := hk
 exact tl_clo (s := 5) treeP tagP rfl rfl (by kernel_rfl) (by kernel_rfl) (by decide) (by decide) h1 h2 h3 h4 h5 h6 h7 h8 h9 hk
theorem tell_sDeleteRecordsResponseTopic : TellOk Tryz.prog 127 sch_sDeleteRecordsResponseTopic true 0 := by
 intro w0 Y b off cs q hC hR hq
 rw [tells_sDeleteRecordsResponseTopic]
 refine c_call Tryz.func127 rfl rfl fun a hk => ?_
 have hk : Kn 81 [(0, .pointer (some ⟨b, off, none⟩))] a := hk
 refine tl_start (m := 2) (su := 5) (sv := 6) treeP rowT (by decide) rfl (by decide) (by decide) (by decide) (by decide) (by decide) (by decide) hC hR hk fun a w1 w rb tb bb Y1 hb hC hR hk ht => ?_
 rw [ddq_sDeleteRecordsResponseTopic] at hR
 have hR := rep_agg_inv hR
 obtain ⟨c0, C0, hC, hR⟩ := cel_unV hC hR
 obtain ⟨x1, c1, C1, hC, r1, hR⟩ := cel_un1 (one1_ite (one1_v _) (one1_sl _ _ _)) hC hR
 obtain ⟨xt, ct, Ct, hC, rt, hR⟩ := cel_un1 (one1_mp _ _) hC hR
 refine tl_text (s := 7) (k := 0)  treeP rfl rfl (by kernel_rfl) (by kernel_rfl) (by decide) (by decide) (by decide) fo_151_0 ts_9 is_9 iy_22 (fun _ _ _ _ _ h => h) C0 hk ht fun a w hk ht => ?_
 obtain ⟨sp1, cap1, rfl, hz1, r1⟩ := rep_listN (G := (telV 10 (-1) (telP sch_sDeleteRecordsResponseTopicPartition))) r1
 refine tl_null (s := 16) (k := 1)  treeP rfl rfl (by kernel_rfl) (by kernel_rfl) (by decide) (by decide) (by decide) fo_151_1 ts_149 te_149 ts_4 (fun _ _ _ _ _ h => h) C1 hk ht fun a w hk ht => ?_
 refine tl_list (s := 25) (k := 1) (iv := 4) (tz := 71) (tsl := (lzL (q.at_ 1).z (q.at_ 1).l).map (telV 10 (-1) (telP sch_sDeleteRecordsResponseTopicPartition))) treeP tz_4 ts_4 rfl (by kernel_rfl) (by kernel_rfl) (by kernel_rfl) (by kernel_rfl) (by decide) (by decide) (by decide) (by decide) (by decide) (lz_len (fine_at hq 1)) fo_151_1 ts_149 te_149 (fun _ _ _ _ _ h => h) C1 hk ht ?_ ?_ fun a w hk ht => ?_
 ·intro Q j a w hj hQ hk ht K
  obtain ⟨b2, o2, c2, rfl, hE, hCE⟩ := list_at r1 (j := j) (by simpa using hj)
  exact tl_A_call (p := 35) (s := 25) (k := 1) rfl rfl (by kernel_rfl) (by kernel_rfl) (by kernel_rfl) (by kernel_rfl) treeP rowT (by decide) rfl (by decide) (by decide) (by decide) (by decide) hj (lz_len (fine_at hq 1)) fo_151_1 ts_149 te_149 ts_178 cb_165 (fun hm => by rw [getD_mapT hj]; exact tell_sDeleteRecordsResponseTopicPartition (cel_in hm hCE) (rep_in hm hE) (lz_fine (fine_at hq 1) j)) hQ C1 hk ht K
 ·intro Q j a w hj hQ hk ht K
  obtain ⟨b2, o2, c2, rfl, hE, hCE⟩ := list_at r1 (j := j) (by simpa using hj)
  exact tl_B_call (p := 53) (s := 25) (k := 1) (by decide) rfl (by kernel_rfl) (by kernel_rfl) treeP rowT (by decide) rfl (by decide) (by decide) (by decide) (by decide) hj (lz_len (fine_at hq 1)) fo_151_1 ts_149 te_149 ts_178 cb_165 (fun hm => by rw [getD_mapT hj]; exact tell_sDeleteRecordsResponseTopicPartition (cel_in hm hCE) (rep_in hm hE) (lz_fine (fine_at hq 1) j)) hQ C1 hk ht K
 rw [hz1] at ht
 exact tl_end (s := 72) (fE := 91) (fS := 93) (g := 166) treeP tagP each_cP cb_91 sorted_ok cb_93 clo_sDeleteRecordsResponseTopic cb_166 rfl rfl (fun h => Bool.noConfusion h) (by decide) (by decide) (by decide) fo_151_2 Ct rt (fine_spec hq).2.2.2.2.1 (fine_spec hq).2.2.1 (fine_spec hq).2.2.2.1 (sortU_perm _) (sortU_rise (fine_spec hq).2.2.2.2.1) hb hk ht
theorem ddq_DeleteRecordsResponse (q : T) : ddS sch_DeleteRecordsResponse true q = .agg [.v (.int .i32 (IntKind.i32.wrap (q.at_ 0).n)), if (q.at_ 1).z then .v (.slice none 0 0) else .sl true 3 ((q.at_ 1).l.map (ddS sch_sDeleteRecordsResponseTopic true)), ddTagMap q.u] := rfl
theorem tells_DeleteRecordsResponse (q : T) : telP sch_DeleteRecordsResponse q = .mk 0 [] false [ofNum (IntKind.i32.wrap (q.at_ 0).n), .mk 0 [] (q.at_ 1).z ((lzL (q.at_ 1).z (q.at_ 1).l).map (telV 10 (-1) (telP sch_sDeleteRecordsResponseTopic))) []] (sortU q.u) := congrArg (fun l => T.mk 0 [] false l (sortU q.u)) (cons_eq rfl (cons_eq (tel_list _) (rfl)))
theorem clo_DeleteRecordsResponse : CloOk Tryz.prog 37 68 128 := by
 intro w S k SE tb YE us p lv x h1 h2 h3 h4 h5 h6 h7 h8 h9
 refine c_call Tryz.func128 rfl rfl fun a hk => ?_
 have hk : Kn 14 [(0, .int .u32 (p.1 : Int)), (1, x), (2, .pointer (some ⟨tb, 0, none⟩))] a := hk
 exact tl_clo (s := 5) treeP tagP rfl rfl (by kernel_rfl) (by kernel_rfl) (by decide) (by decide) h1 h2 h3 h4 h5 h6 h7 h8 h9 hk
theorem tell_DeleteRecordsResponse : TellOk Tryz.prog 86 sch_DeleteRecordsResponse true 1 := by
 intro w0 Y b off cs q hC hR hq
 rw [tells_DeleteRecordsResponse]
 refine c_call Tryz.func86 rfl rfl fun a hk => ?_
 have hk : Kn 81 [(0, .pointer (some ⟨b, off, none⟩))] a := hk
 refine tl_start (m := 2) (su := 5) (sv := 6) treeP rowT (by decide) rfl (by decide) (by decide) (by decide) (by decide) (by decide) (by decide) hC hR hk fun a w1 w rb tb bb Y1 hb hC hR hk ht => ?_
 rw [ddq_DeleteRecordsResponse] at hR
 have hR := rep_agg_inv hR
 obtain ⟨c0, C0, hC, hR⟩ := cel_unV hC hR
 obtain ⟨x1, c1, C1, hC, r1, hR⟩ := cel_un1 (one1_ite (one1_v _) (one1_sl _ _ _)) hC hR
 obtain ⟨xt, ct, Ct, hC, rt, hR⟩ := cel_un1 (one1_mp _ _) hC hR
 refine tl_num (s := 7) (k := 0)  treeP rfl rfl (by kernel_rfl) (by kernel_rfl) (by decide) (by decide) (by decide) fo_146_1 ts_21 un_21 ti_2 (wrap_in_i64 .i32 (by simp)) (fun _ _ _ _ _ h => h) C0 hk ht fun a w hk ht => ?_
 obtain ⟨sp1, cap1, rfl, hz1, r1⟩ := rep_listN (G := (telV 10 (-1) (telP sch_sDeleteRecordsResponseTopic))) r1
 refine tl_null (s := 16) (k := 1)  treeP rfl rfl (by kernel_rfl) (by kernel_rfl) (by decide) (by decide) (by decide) fo_146_2 ts_144 te_144 ts_4 (fun _ _ _ _ _ h => h) C1 hk ht fun a w hk ht => ?_
 refine tl_list (s := 25) (k := 1) (iv := 4) (tz := 71) (tsl := (lzL (q.at_ 1).z (q.at_ 1).l).map (telV 10 (-1) (telP sch_sDeleteRecordsResponseTopic))) treeP tz_4 ts_4 rfl (by kernel_rfl) (by kernel_rfl) (by kernel_rfl) (by kernel_rfl) (by decide) (by decide) (by decide) (by decide) (by decide) (lz_len (fine_at hq 1)) fo_146_2 ts_144 te_144 (fun _ _ _ _ _ h => h) C1 hk ht ?_ ?_ fun a w hk ht => ?_
 ·intro Q j a w hj hQ hk ht K
  obtain ⟨b2, o2, c2, rfl, hE, hCE⟩ := list_at r1 (j := j) (by simpa using hj)
  exact tl_A_call (p := 35) (s := 25) (k := 1) rfl rfl (by kernel_rfl) (by kernel_rfl) (by kernel_rfl) (by kernel_rfl) treeP rowT (by decide) rfl (by decide) (by decide) (by decide) (by decide) hj (lz_len (fine_at hq 1)) fo_146_2 ts_144 te_144 ts_151 cb_127 (fun hm => by rw [getD_mapT hj]; exact tell_sDeleteRecordsResponseTopic (cel_in hm hCE) (rep_in hm hE) (lz_fine (fine_at hq 1) j)) hQ C1 hk ht K
 ·intro Q j a w hj hQ hk ht K
  obtain ⟨b2, o2, c2, rfl, hE, hCE⟩ := list_at r1 (j := j) (by simpa using hj)
  exact tl_B_call (p := 53) (s := 25) (k := 1) (by decide) rfl (by kernel_rfl) (by kernel_rfl) treeP rowT (by decide) rfl (by decide) (by decide) (by decide) (by decide) hj (lz_len (fine_at hq 1)) fo_146_2 ts_144 te_144 ts_151 cb_127 (fun hm => by rw [getD_mapT hj]; exact tell_sDeleteRecordsResponseTopic (cel_in hm hCE) (rep_in hm hE) (lz_fine (fine_at hq 1) j)) hQ C1 hk ht K
 rw [hz1] at ht
 exact tl_end (s := 72) (fE := 91) (fS := 93) (g := 128) treeP tagP each_cP cb_91 sorted_ok cb_93 clo_DeleteRecordsResponse cb_128 rfl rfl (fun h => Bool.noConfusion h) (by decide) (by decide) (by decide) fo_146_3 Ct rt (fine_spec hq).2.2.2.2.1 (fine_spec hq).2.2.1 (fine_spec hq).2.2.2.1 (sortU_perm _) (sortU_rise (fine_spec hq).2.2.2.2.1) hb hk ht
end Go.Proofs.YticigmdbfimfbaaGreatDoor
