/- Walks of functions that the laws of this seat reach. No statement of the seat stands here. -/
import Derived.Test.YthholdjpcdpceabDoorL4
import Derived.Test.YthholdjpcdpceabDoorRows
import Derived.Test.YthholdjpcdpceabDoorFa
import Derived.Test.YthholdjpcdpceabDoorTt
import Derived.Test.YthholdjpcdpceabDoorTf
import Derived.Test.YthholdjpcdpceabDoorTg2
import Derived.Test.YthholdjpcdpceabDoorTh
import Derived.Test.YthholdjpcdpceabDoorSch
namespace Go.Proofs.YthholdjpcdpceabDoor
open Go Go.Mk
theorem ddq_sConsumerGroupHeartbeatResponseAssignmentTopic (q : T) : ddS sch_sConsumerGroupHeartbeatResponseAssignmentTopic true q = .agg [.agg ((sixteen (q.at_ 0).s).map ddB), if (q.at_ 1).z then .v (.slice none 0 0) else .sl true 1 ((q.at_ 1).l.map (fun x : T => DD.v (.int .i32 (IntKind.i32.wrap x.n)))), ddTagMap q.u] := rfl
theorem tells_sConsumerGroupHeartbeatResponseAssignmentTopic (q : T) : telP sch_sConsumerGroupHeartbeatResponseAssignmentTopic q = .mk 0 [] false [ofOct (sixteen (q.at_ 0).s), .mk 0 [] (q.at_ 1).z ((lzL (q.at_ 1).z (q.at_ 1).l).map (telV 3 (-1) (telP []))) []] (sortU q.u) := congrArg (fun l => T.mk 0 [] false l (sortU q.u)) (cons_eq rfl (cons_eq (tel_list _) (rfl)))
theorem clo_sConsumerGroupHeartbeatResponseAssignmentTopic : CloOk Tryd.prog 27 51 159 := by
 intro w S k SE tb YE us p lv x h1 h2 h3 h4 h5 h6 h7 h8 h9
 refine c_call Tryd.func159 rfl rfl fun a hk => ?_
 have hk : Kn 14 [(0, .int .u32 (p.1 : Int)), (1, x), (2, .pointer (some ⟨tb, 0, none⟩))] a := hk
 exact tl_clo (s := 5) treeP tagP rfl rfl (by kernel_rfl) (by kernel_rfl) (by decide) (by decide) h1 h2 h3 h4 h5 h6 h7 h8 h9 hk
theorem tell_sConsumerGroupHeartbeatResponseAssignmentTopic : TellOk Tryd.prog 134 sch_sConsumerGroupHeartbeatResponseAssignmentTopic true 0 := by
 intro w0 Y b off cs q hC hR hq
 rw [tells_sConsumerGroupHeartbeatResponseAssignmentTopic]
 refine c_call Tryd.func134 rfl rfl fun a hk => ?_
 have hk : Kn 85 [(0, .pointer (some ⟨b, off, none⟩))] a := hk
 refine tl_start (m := 2) (su := 5) (sv := 6) treeP rowT (by decide) rfl (by decide) (by decide) (by decide) (by decide) (by decide) (by decide) hC hR hk fun a w1 w rb tb bb Y1 hb hC hR hk ht => ?_
 rw [ddq_sConsumerGroupHeartbeatResponseAssignmentTopic] at hR
 have hR := rep_agg_inv hR
 obtain ⟨c0, C0, hC, hR⟩ := cel_un16 hC hR
 obtain ⟨x1, c1, C1, hC, r1, hR⟩ := cel_un1 (one1_ite (one1_v _) (one1_sl _ _ _)) hC hR
 obtain ⟨xt, ct, Ct, hC, rt, hR⟩ := cel_un1 (one1_mp _ _) hC hR
 refine tl_uuid (s := 7) (k := 0)  treeP rfl rfl (by kernel_rfl) (by kernel_rfl) (by decide) (by decide) (by decide) fo_143_0 ar_78 ts_5 te_22 rt_22 (fun _ _ _ _ _ h => h) C0 hk ht fun a w hk ht => ?_
 obtain ⟨sp1, cap1, rfl, hz1, r1⟩ := rep_listN (G := (telV 3 (-1) (telP []))) r1
 refine tl_null (s := 16) (k := 1)  treeP rfl rfl (by kernel_rfl) (by kernel_rfl) (by decide) (by decide) (by decide) fo_143_1 ts_141 te_141 ts_4 (fun _ _ _ _ _ h => h) C1 hk ht fun a w hk ht => ?_
 refine tl_list (s := 25) (k := 1) (iv := 4) (tz := 75) (tsl := (lzL (q.at_ 1).z (q.at_ 1).l).map (telV 3 (-1) (telP []))) treeP tz_4 ts_4 rfl (by kernel_rfl) (by kernel_rfl) (by kernel_rfl) (by kernel_rfl) (by decide) (by decide) (by decide) (by decide) (by decide) (lz_len (fine_at hq 1)) fo_143_1 ts_141 te_141 (fun _ _ _ _ _ h => h) C1 hk ht ?_ ?_ fun a w hk ht => ?_
 ·intro Q j a w hj hQ hk ht K
  obtain ⟨b2, o2, c2, rfl, hE, hCE⟩ := list_at r1 (j := j) (by simpa using hj)
  exact tl_A_num (iE := fun j => IntKind.i32.wrap ((lzL (q.at_ 1).z (q.at_ 1).l).getD j T.nil).n) (p := 35) (s := 25) (k := 1) rfl rfl (by kernel_rfl) (by kernel_rfl) treeP rowT (by decide) rfl (by decide) (by decide) (by decide) (by decide) hj (lz_len (fine_at hq 1)) fo_143_1 ts_141 te_141 ts_21 ts_21 un_21 ti_2 (cel_v hE hCE) (by rw [getD_mapT hj, wrap_in_i64 .i32 (by simp)]; rfl) hQ C1 hk ht K
 ·intro Q j a w hj hQ hk ht K
  obtain ⟨b2, o2, c2, rfl, hE, hCE⟩ := list_at r1 (j := j) (by simpa using hj)
  exact tl_B_num (iE := fun j => IntKind.i32.wrap ((lzL (q.at_ 1).z (q.at_ 1).l).getD j T.nil).n) (p := 55) (s := 25) (k := 1) (by decide) rfl (by kernel_rfl) (by kernel_rfl) treeP rowT (by decide) rfl (by decide) (by decide) (by decide) (by decide) hj (lz_len (fine_at hq 1)) fo_143_1 ts_141 te_141 ts_21 ts_21 un_21 ti_2 (cel_v hE hCE) (by rw [getD_mapT hj, wrap_in_i64 .i32 (by simp)]; rfl) hQ C1 hk ht K
 rw [hz1] at ht
 exact tl_end (s := 76) (fE := 61) (fS := 63) (g := 159) treeP tagP each_cP cb_61 sorted_ok cb_63 clo_sConsumerGroupHeartbeatResponseAssignmentTopic cb_159 rfl rfl (fun h => Bool.noConfusion h) (by decide) (by decide) (by decide) fo_143_2 Ct rt (fine_spec hq).2.2.2.2.1 (fine_spec hq).2.2.1 (fine_spec hq).2.2.2.1 (sortU_perm _) (sortU_rise (fine_spec hq).2.2.2.2.1) hb hk ht
theorem ddq_sConsumerGroupHeartbeatResponseAssignment (q : T) : ddS sch_sConsumerGroupHeartbeatResponseAssignment true q = .agg [if (q.at_ 0).z then .v (.slice none 0 0) else .sl true 18 ((q.at_ 0).l.map (ddS sch_sConsumerGroupHeartbeatResponseAssignmentTopic true)), ddTagMap q.u] := rfl
theorem tells_sConsumerGroupHeartbeatResponseAssignment (q : T) : telP sch_sConsumerGroupHeartbeatResponseAssignment q = .mk 0 [] false [.mk 0 [] (q.at_ 0).z ((lzL (q.at_ 0).z (q.at_ 0).l).map (telV 10 (-1) (telP sch_sConsumerGroupHeartbeatResponseAssignmentTopic))) []] (sortU q.u) := congrArg (fun l => T.mk 0 [] false l (sortU q.u)) (cons_eq (tel_list _) (rfl))
theorem clo_sConsumerGroupHeartbeatResponseAssignment : CloOk Tryd.prog 27 51 135 := by
 intro w S k SE tb YE us p lv x h1 h2 h3 h4 h5 h6 h7 h8 h9
 refine c_call Tryd.func135 rfl rfl fun a hk => ?_
 have hk : Kn 14 [(0, .int .u32 (p.1 : Int)), (1, x), (2, .pointer (some ⟨tb, 0, none⟩))] a := hk
 exact tl_clo (s := 5) treeP tagP rfl rfl (by kernel_rfl) (by kernel_rfl) (by decide) (by decide) h1 h2 h3 h4 h5 h6 h7 h8 h9 hk
theorem tell_sConsumerGroupHeartbeatResponseAssignment : TellOk Tryd.prog 112 sch_sConsumerGroupHeartbeatResponseAssignment true 0 := by
 intro w0 Y b off cs q hC hR hq
 rw [tells_sConsumerGroupHeartbeatResponseAssignment]
 refine c_call Tryd.func112 rfl rfl fun a hk => ?_
 have hk : Kn 72 [(0, .pointer (some ⟨b, off, none⟩))] a := hk
 refine tl_start (m := 1) (su := 5) (sv := 6) treeP rowT (by decide) rfl (by decide) (by decide) (by decide) (by decide) (by decide) (by decide) hC hR hk fun a w1 w rb tb bb Y1 hb hC hR hk ht => ?_
 rw [ddq_sConsumerGroupHeartbeatResponseAssignment] at hR
 have hR := rep_agg_inv hR
 obtain ⟨x0, c0, C0, hC, r0, hR⟩ := cel_un1 (one1_ite (one1_v _) (one1_sl _ _ _)) hC hR
 obtain ⟨xt, ct, Ct, hC, rt, hR⟩ := cel_un1 (one1_mp _ _) hC hR
 obtain ⟨sp0, cap0, rfl, hz0, r0⟩ := rep_listN (G := (telV 10 (-1) (telP sch_sConsumerGroupHeartbeatResponseAssignmentTopic))) r0
 refine tl_null (s := 7) (k := 0)  treeP rfl rfl (by kernel_rfl) (by kernel_rfl) (by decide) (by decide) (by decide) fo_139_0 ts_137 te_137 ts_4 (fun _ _ _ _ _ h => h) C0 hk ht fun a w hk ht => ?_
 refine tl_list (s := 16) (k := 0) (iv := 4) (tz := 62) (tsl := (lzL (q.at_ 0).z (q.at_ 0).l).map (telV 10 (-1) (telP sch_sConsumerGroupHeartbeatResponseAssignmentTopic))) treeP tz_4 ts_4 rfl (by kernel_rfl) (by kernel_rfl) (by kernel_rfl) (by kernel_rfl) (by decide) (by decide) (by decide) (by decide) (by decide) (lz_len (fine_at hq 0)) fo_139_0 ts_137 te_137 (fun _ _ _ _ _ h => h) C0 hk ht ?_ ?_ fun a w hk ht => ?_
 ·intro Q j a w hj hQ hk ht K
  obtain ⟨b2, o2, c2, rfl, hE, hCE⟩ := list_at r0 (j := j) (by simpa using hj)
  exact tl_A_call (p := 26) (s := 16) (k := 0) rfl rfl (by kernel_rfl) (by kernel_rfl) (by kernel_rfl) (by kernel_rfl) treeP rowT (by decide) rfl (by decide) (by decide) (by decide) (by decide) hj (lz_len (fine_at hq 0)) fo_139_0 ts_137 te_137 ts_143 cb_134 (fun hm => by rw [getD_mapT hj]; exact tell_sConsumerGroupHeartbeatResponseAssignmentTopic (cel_in hm hCE) (rep_in hm hE) (lz_fine (fine_at hq 0) j)) hQ C0 hk ht K
 ·intro Q j a w hj hQ hk ht K
  obtain ⟨b2, o2, c2, rfl, hE, hCE⟩ := list_at r0 (j := j) (by simpa using hj)
  exact tl_B_call (p := 44) (s := 16) (k := 0) (by decide) rfl (by kernel_rfl) (by kernel_rfl) treeP rowT (by decide) rfl (by decide) (by decide) (by decide) (by decide) hj (lz_len (fine_at hq 0)) fo_139_0 ts_137 te_137 ts_143 cb_134 (fun hm => by rw [getD_mapT hj]; exact tell_sConsumerGroupHeartbeatResponseAssignmentTopic (cel_in hm hCE) (rep_in hm hE) (lz_fine (fine_at hq 0) j)) hQ C0 hk ht K
 rw [hz0] at ht
 exact tl_end (s := 63) (fE := 61) (fS := 63) (g := 135) treeP tagP each_cP cb_61 sorted_ok cb_63 clo_sConsumerGroupHeartbeatResponseAssignment cb_135 rfl rfl (fun h => Bool.noConfusion h) (by decide) (by decide) (by decide) fo_139_1 Ct rt (fine_spec hq).2.2.2.2.1 (fine_spec hq).2.2.1 (fine_spec hq).2.2.2.1 (sortU_perm _) (sortU_rise (fine_spec hq).2.2.2.2.1) hb hk ht
theorem tellPtr_sConsumerGroupHeartbeatResponseAssignment {w0 : World} {Y : Nat → Prop} {x : Value} {q : T} (hR : Rep w0 Y (if q.z then .v (.pointer none) else .ptr (ddS sch_sConsumerGroupHeartbeatResponseAssignment true q)) [x]) (hq : q.fine = true) :
  Ret Tryd.prog 72 [x] w0 fun v w' => Agr Nob w0 w' ∧ ∃ c', v = .agg c'.toArray ∧ Rep w' (fun b => b < w0.heap.size ∧ Y b) (ddT (if q.z then ofNil else telP sch_sConsumerGroupHeartbeatResponseAssignment q)) c' := by
 cases hz : q.z with
 | true =>
  rw [hz] at hR
  obtain rfl : x = .pointer none := rep_v_inv hR
  refine c_call Tryd.func72 rfl rfl fun a hk => ?_
  have hk : Kn 8 [(0, .pointer none)] a := hk
  have hm : Mem w0 Nob Y [] w0 := Mem.start rfl (by simp)
  refine cR0 ?_
  refine o_alloc (cs := zT) hk hm tz_27 rfl rfl fun a rb w hk hm => ?_
  refine cE0 ?_
  refine wp_seq ?_
  refine cR0 ?_
  refine oM0 hk rfl rfl fun a hk => ?_
  refine o_ptrNil hk ip_95 rfl rfl fun a hk => ?_
  refine cE0 ?_
  refine c_condT hk rfl ?_
  refine cR0 ?_
  refine o_build (r := [.int .i64 0, .slice none 0 0, .bool true, .slice none 0 0, .slice none 0 0]) hk tz_27 rfl fok_27 ⟨_, _, _, rfl, rfl, fa_27_2, rfl, rfl⟩ rfl fun a hk => ?_
  refine o_store (i := 0) (b := rb) (off := 0) (v := .agg #[.int .i64 0, .slice none 0 0, .bool true, .slice none 0 0, .slice none 0 0]) (vs := [.int .i64 0, .slice none 0 0, .bool true, .slice none 0 0, .slice none 0 0]) (cs := zT) hk hm ts_27 rfl rfl rfl rfl rfl rfl (Nat.le_refl 5) fun a w hk hm => ?_
  refine cE0 ?_
  refine wp_ret ?_
  refine cQ0 ?_
  refine b_retCell (i := 0) (cs := [.int .i64 0, .slice none 0 0, .bool true, .slice none 0 0, .slice none 0 0]) rfl ts_27 hk hm rfl rfl ⟨hm.agr, _, rfl, ?_⟩
  exact rep_T_mk (t := .mk 0 [] true [] []) (by simp [Rep, ddBs, T.s]) (by simp [Rep, T.l]) (by simp [Rep, ddTags, T.u])
 | false =>
  rw [hz] at hR
  obtain ⟨b, o, cs, hx, hC, hr0⟩ : ∃ b o cs, [x] = [Value.pointer (some ⟨b, o, none⟩)] ∧ Cel w0 Y b o cs ∧ Rep w0 Y (ddS sch_sConsumerGroupHeartbeatResponseAssignment true q) cs := by
   have hR2 : Rep w0 Y (.ptr (ddS sch_sConsumerGroupHeartbeatResponseAssignment true q)) [x] := hR
   simpa only [Rep] using hR2
  obtain rfl : x = .pointer (some ⟨b, o, none⟩) := by simpa using hx
  refine c_call Tryd.func72 rfl rfl fun a hk => ?_
  have hk : Kn 8 [(0, .pointer (some ⟨b, o, none⟩))] a := hk
  have hm : Mem w0 Nob Y [.cel b o cs, .rep (ddS sch_sConsumerGroupHeartbeatResponseAssignment true q) cs] w0 := Mem.start rfl (by simp only [List.forall_mem_cons, List.not_mem_nil, false_imp_iff, implies_true, and_true]; exact ⟨hC, hr0⟩)
  refine cR0 ?_
  refine o_alloc (cs := zT) hk hm tz_27 rfl rfl fun a rb w hk hm => ?_
  refine cE0 ?_
  refine wp_seq ?_
  refine cR0 ?_
  refine oM0 hk rfl rfl fun a hk => ?_
  refine o_ptrNil hk ip_95 rfl rfl fun a hk => ?_
  refine cE0 ?_
  refine c_condF hk rfl ?_
  refine wp_skip ?_
  refine cT0 ?_
  refine cR0 ?_
  refine oM0 hk rfl rfl fun a hk => ?_
  refine o_call hk cb_112 (tell_sConsumerGroupHeartbeatResponseAssignment (off := o) (hm.all _ (eA0 (i := 1) rfl)) (hm.rep (i := 2) rfl) hq) ⟨rfl, trivial⟩ rfl fun v w a hR hk => ?_
  obtain ⟨hp2, c2, rfl, hR3⟩ := hR
  have hm := hm.result hp2 hR3
  obtain ⟨c1, c3, c4, c5, hc2⟩ := rep_T5 (hm.rep (i := 0) rfl)
  have hcl : c2.length = 5 := by rw [hc2]; rfl
  refine o_store (i := 1) (b := rb) (off := 0) (v := .agg c2.toArray) (vs := c2) (cs := zT) hk hm ts_27 rfl rfl (by simp [cellsOf]) hcl (rep_T_one (hm.rep (i := 0) rfl)) rfl (by rw [hcl]; exact Nat.le_refl 5) fun a w hk hm => ?_
  rw [spl_whole (by rw [hcl]; rfl)] at hm
  refine cE0 ?_
  refine wp_ret ?_
  exact b_retCell (i := 1) (cs := c2) rfl (by rw [hcl]; exact ts_27) hk hm rfl rfl ⟨hm.agr, c2, rfl, hm.out (hm.rep (i := 0) rfl)⟩
theorem ddq_ConsumerGroupHeartbeatResponse (q : T) : ddS sch_ConsumerGroupHeartbeatResponse true q = .agg [.v (.int .i32 (IntKind.i32.wrap (q.at_ 0).n)), .v (.int .i16 (IntKind.i16.wrap (q.at_ 1).n)), if (q.at_ 2).z then .v (.pointer none) else .ptr (.v (.string (bs (q.at_ 2).s))), if (q.at_ 3).z then .v (.pointer none) else .ptr (.v (.string (bs (q.at_ 3).s))), .v (.int .i32 (IntKind.i32.wrap (q.at_ 4).n)), .v (.int .i32 (IntKind.i32.wrap (q.at_ 5).n)), if (q.at_ 6).z then .v (.pointer none) else .ptr (ddS sch_sConsumerGroupHeartbeatResponseAssignment true (q.at_ 6)), ddTagMap q.u] := rfl
theorem tells_ConsumerGroupHeartbeatResponse (q : T) : telP sch_ConsumerGroupHeartbeatResponse q = .mk 0 [] false [ofNum (IntKind.i32.wrap (q.at_ 0).n), ofNum (IntKind.i16.wrap (q.at_ 1).n), (if (q.at_ 2).z then ofNil else ofOct (q.at_ 2).s), (if (q.at_ 3).z then ofNil else ofOct (q.at_ 3).s), ofNum (IntKind.i32.wrap (q.at_ 4).n), ofNum (IntKind.i32.wrap (q.at_ 5).n), (if (q.at_ 6).z then ofNil else telP sch_sConsumerGroupHeartbeatResponseAssignment (q.at_ 6))] (sortU q.u) := congrArg (fun l => T.mk 0 [] false l (sortU q.u)) (cons_eq rfl (cons_eq rfl (cons_eq (tel_textN (nu := 0) (q.at_ 2) (by decide)) (cons_eq (tel_textN (nu := 0) (q.at_ 3) (by decide)) (cons_eq rfl (cons_eq rfl (cons_eq (tel_ptr (q.at_ 6) (by decide)) (rfl))))))))
theorem clo_ConsumerGroupHeartbeatResponse : CloOk Tryd.prog 27 51 73 := by
 intro w S k SE tb YE us p lv x h1 h2 h3 h4 h5 h6 h7 h8 h9
 refine c_call Tryd.func73 rfl rfl fun a hk => ?_
 have hk : Kn 14 [(0, .int .u32 (p.1 : Int)), (1, x), (2, .pointer (some ⟨tb, 0, none⟩))] a := hk
 exact tl_clo (s := 5) treeP tagP rfl rfl (by kernel_rfl) (by kernel_rfl) (by decide) (by decide) h1 h2 h3 h4 h5 h6 h7 h8 h9 hk
theorem tell_ConsumerGroupHeartbeatResponse : TellOk Tryd.prog 43 sch_ConsumerGroupHeartbeatResponse true 1 := by
 intro w0 Y b off cs q hC hR hq
 rw [tells_ConsumerGroupHeartbeatResponse]
 refine c_call Tryd.func43 rfl rfl fun a hk => ?_
 have hk : Kn 75 [(0, .pointer (some ⟨b, off, none⟩))] a := hk
 refine tl_start (m := 7) (su := 4) (sv := 5) treeP rowT (by decide) rfl (by decide) (by decide) (by decide) (by decide) (by decide) (by decide) hC hR hk fun a w1 w rb tb bb Y1 hb hC hR hk ht => ?_
 rw [ddq_ConsumerGroupHeartbeatResponse] at hR
 have hR := rep_agg_inv hR
 obtain ⟨c0, C0, hC, hR⟩ := cel_unV hC hR
 obtain ⟨c1, C1, hC, hR⟩ := cel_unV hC hR
 obtain ⟨x2, c2, C2, hC, r2, hR⟩ := cel_un1 (one1_ite (one1_v _) (one1_ptr _)) hC hR
 obtain ⟨x3, c3, C3, hC, r3, hR⟩ := cel_un1 (one1_ite (one1_v _) (one1_ptr _)) hC hR
 obtain ⟨c4, C4, hC, hR⟩ := cel_unV hC hR
 obtain ⟨c5, C5, hC, hR⟩ := cel_unV hC hR
 obtain ⟨x6, c6, C6, hC, r6, hR⟩ := cel_un1 (one1_ite (one1_v _) (one1_ptr _)) hC hR
 obtain ⟨xt, ct, Ct, hC, rt, hR⟩ := cel_un1 (one1_mp _ _) hC hR
 refine tl_num (s := 6) (k := 0)  treeP rfl rfl (by kernel_rfl) (by kernel_rfl) (by decide) (by decide) (by decide) fo_97_1 ts_21 un_21 ti_2 (wrap_in_i64 .i32 (by simp)) (fun _ _ _ _ _ h => h) C0 hk ht fun a w hk ht => ?_
 refine tl_num (s := 15) (k := 1)  treeP rfl rfl (by kernel_rfl) (by kernel_rfl) (by decide) (by decide) (by decide) fo_97_2 ts_38 un_38 ti_2 (wrap_in_i64 .i16 (by simp)) (fun _ _ _ _ _ h => h) C1 hk ht fun a w hk ht => ?_
 refine tl_call (s := 24) (k := 2) (F := 66) (tr := (if (q.at_ 2).z then ofNil else ofOct (q.at_ 2).s)) treeP rfl rfl (by kernel_rfl) (by kernel_rfl) (by decide) (by decide) (by decide) fo_97_3 ts_84 cb_66 (fun hm => textTree_c (q.at_ 2).z (q.at_ 2).s (rep_in hm r2)) (fun _ _ _ _ _ h => h) C2 hk ht fun a w hk ht => ?_
 refine tl_call (s := 32) (k := 3) (F := 66) (tr := (if (q.at_ 3).z then ofNil else ofOct (q.at_ 3).s)) treeP rfl rfl (by kernel_rfl) (by kernel_rfl) (by decide) (by decide) (by decide) fo_97_4 ts_84 cb_66 (fun hm => textTree_c (q.at_ 3).z (q.at_ 3).s (rep_in hm r3)) (fun _ _ _ _ _ h => h) C3 hk ht fun a w hk ht => ?_
 refine tl_num (s := 40) (k := 4)  treeP rfl rfl (by kernel_rfl) (by kernel_rfl) (by decide) (by decide) (by decide) fo_97_5 ts_21 un_21 ti_2 (wrap_in_i64 .i32 (by simp)) (fun _ _ _ _ _ h => h) C4 hk ht fun a w hk ht => ?_
 refine tl_num (s := 49) (k := 5)  treeP rfl rfl (by kernel_rfl) (by kernel_rfl) (by decide) (by decide) (by decide) fo_97_6 ts_21 un_21 ti_2 (wrap_in_i64 .i32 (by simp)) (fun _ _ _ _ _ h => h) C5 hk ht fun a w hk ht => ?_
 refine tl_call (s := 58) (k := 6) (F := 72) (tr := (if (q.at_ 6).z then ofNil else telP sch_sConsumerGroupHeartbeatResponseAssignment (q.at_ 6))) treeP rfl rfl (by kernel_rfl) (by kernel_rfl) (by decide) (by decide) (by decide) fo_97_7 ts_95 cb_72 (fun hm => tellPtr_sConsumerGroupHeartbeatResponseAssignment (rep_in hm r6) (fine_at hq 6)) (fun _ _ _ _ _ h => h) C6 hk ht fun a w hk ht => ?_
 exact tl_end (s := 66) (fE := 61) (fS := 63) (g := 73) treeP tagP each_cP cb_61 sorted_ok cb_63 clo_ConsumerGroupHeartbeatResponse cb_73 rfl rfl (fun h => Bool.noConfusion h) (by decide) (by decide) (by decide) fo_97_8 Ct rt (fine_spec hq).2.2.2.2.1 (fine_spec hq).2.2.1 (fine_spec hq).2.2.2.1 (sortU_perm _) (sortU_rise (fine_spec hq).2.2.2.2.1) hb hk ht
end Go.Proofs.YthholdjpcdpceabDoor
