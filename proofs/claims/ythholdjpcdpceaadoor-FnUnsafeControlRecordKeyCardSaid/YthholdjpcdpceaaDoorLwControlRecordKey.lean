/- Walks of functions that the laws of this seat reach. No statement of the seat stands here. -/
import Derived.Test.YthholdjpcdpceaaDoorL4
import Derived.Test.YthholdjpcdpceaaDoorRows
import Derived.Test.YthholdjpcdpceaaDoorFa
import Derived.Test.YthholdjpcdpceaaDoorTd2ControlRecordKey
import Derived.Test.YthholdjpcdpceaaDoorTv
import Derived.Test.YthholdjpcdpceaaDoorSxControlRecordKey
import Derived.Test.YthholdjpcdpceaaDoorTb
namespace Go.Proofs.YthholdjpcdpceaaDoor
open Go Go.Mk
theorem law_ControlRecordKey {w0 : World} {Y : Nat → Prop} {d : List UInt8} {pd : Option Addr} {cd : Nat} {ep : Value} {et : Nat} (hD : Rep w0 Y (ddBs d) [.slice pd d.length cd]) (hG : Cel w0 Y 1 0 [.iface et ep]) : Ret Tryd.prog 3 [.slice pd d.length cd] w0 fun v w' => Agr Nob w0 w' ∧ v = .bool true := by
 refine c_call Tryd.func3 rfl rfl fun a hk => ?_
 have hk : Kn 49 [(0, .slice pd d.length cd)] a := hk
 have hm : Mem w0 Nob Y [.rep (ddBs d) [.slice pd d.length cd], .cel 1 0 [.iface et ep]] w0 := Mem.start rfl (by simp only [List.forall_mem_cons, List.not_mem_nil, false_imp_iff, implies_true, and_true]; exact ⟨hD, hG⟩)
 refine cR0 ?_
 refine oA0 hk rfl rfl fun a hk => ?_
 refine cE0 ?_
 refine wp_seq ?_
 refine cR0 ?_
 refine oM0 hk rfl rfl fun a hk => ?_
 refine oL0 hk te_22 rfl rfl fun a hk => ?_
 refine o_icmp hk rfl rfl rfl rfl fun a hk => ?_
 refine cE0 ?_
 refine c_cond hk rfl (fun hc => ?_) (fun hc => ?_)
 ·refine cR0 ?_
  refine oA0 hk rfl rfl fun a hk => ?_
  refine cE0 ?_
  refine wp_ret ?_
  refine cQ0 ?_
  refine bT0 rfl hk rfl ?_
  exact ⟨hm.agr, rfl⟩
 ·refine wp_skip ?_
  refine cT0 ?_
  refine wp_seq ?_
  refine cR0 ?_
  refine oM0 hk rfl rfl fun a hk => ?_
  refine oL0 hk te_22 rfl rfl fun a hk => ?_
  refine o_icmp hk rfl rfl rfl rfl fun a hk => ?_
  refine cE0 ?_
  refine c_cond hk rfl (fun hc => ?_) (fun hc => ?_)
  ·refine cR0 ?_
   refine oA0 hk rfl rfl fun a hk => ?_
   refine cE0 ?_
   refine wp_ret ?_
   refine cQ0 ?_
   refine bT0 rfl hk rfl ?_
   exact ⟨hm.agr, rfl⟩
  ·have hd : d.length ≤ 1000 := by simp only [decide_eq_false_iff_not] at hc; omega
   refine wp_skip ?_
   refine cT0 ?_
   refine cR0 ?_
   refine o_call hk cb_12 (msg_c_ControlRecordKey (Y := Yof w0 Y [.rep (ddBs d) [.slice pd d.length cd], .cel 1 0 [.iface et ep]])) trivial rfl fun v w a hR hk => ?_
   obtain ⟨hp, pm, capm, rfl, hR⟩ := hR
   have hm := hm.result hp hR
   refine o_build (r := [.int .i64 0, .slice none 0 0, .bool false, .slice none 0 0, .slice none 0 0]) hk tz_37 rfl fok_37 rfl rfl fun a hk => ?_
   have hm := hm.add (e := .rep (ddT T.nil) zT) rfl rep_T_nil
   refine o_call hk cb_11 (kept_c (flex := false) (-1) 0 (partx_c (fs := sch_ControlRecordKey) rfl (fun _ => rfl) (by decide)) (by simp) (hm.rep (i := 1) rfl) (hm.rep (i := 0) rfl) rfl (of_decide_eq_true (by kernel_rfl))) ⟨rfl, rfl, rfl, trivial⟩ rfl fun v1 w a hR hk => ?_
   have hm := hm.rowNew hR
   obtain ⟨pz8, cz8, rfl⟩ := row_form (hm.row (i := 0) rfl)
   have hm := hm.freezeBytes (i := 0) rfl rfl
   refine o_call hk cb_10 (crk_door (d := (fixed 0 2 ++ partP sch_ControlRecordKey 0 false T.nil)) (of_decide_eq_true (by kernel_rfl)) (hm.rep (i := 0) rfl) (hm.all _ (eA0 (i := 4) rfl))) ⟨rfl, trivial⟩ rfl fun vq w a hR hk => ?_
   obtain ⟨tz, htz, hp, ctz, rfl, hRq⟩ := door_gen hR
   clear hR
   obtain ⟨cstz, ptz, captz, putz, caputz, rfl⟩ := rep_T6 hRq
   have hm := hm.result hp hRq
   rw [show (crk (srcOf (fixed 0 2 ++ partP sch_ControlRecordKey 0 false T.nil))).isSome = true by kernel_rfl] at hk
   refine oM0 hk rfl rfl fun a hk => ?_
   refine o_extract hk rfl rfl rfl fun a hk => ?_
   refine o_extract hk rfl rfl rfl fun a hk => ?_
   refine o_alloc hk hm tz_26 rfl rfl fun a b2 w hk hm => ?_
   refine o_store (i := 0) hk hm ts_26 rfl rfl rfl rfl (one_cons rfl (one_cons (rep_sl_one1 (rep_T_s (hm.rep (i := 1) rfl))) (one_cons rfl (one_cons rfl (one_cons rfl rfl))))) rfl (Nat.le_of_ble_eq_true rfl) fun a w hk hm => ?_
   refine oA0 hk rfl rfl fun a hk => ?_
   refine cE0 ?_
   refine cR0 ?_
   refine oM0 hk rfl rfl fun a hk => ?_
   refine o_call hk cb_10 (crk_door (d := d) hd (hm.rep (i := 5) rfl) (hm.all _ (eA0 (i := 6) rfl))) ⟨rfl, trivial⟩ rfl fun vq w a hR hk => ?_
   obtain ⟨ta, hta, hp, cta, rfl, hRq⟩ := door_gen hR
   clear hR
   obtain ⟨csta, pta, capta, puta, caputa, rfl⟩ := rep_T6 hRq
   have hm := hm.result hp hRq
   refine oM0 hk rfl rfl fun a hk => ?_
   refine o_extract hk rfl rfl rfl fun a hk => ?_
   refine o_extract hk rfl rfl rfl fun a hk => ?_
   refine o_alloc hk hm tz_26 rfl rfl fun a b3 w hk hm => ?_
   refine o_store (i := 0) hk hm ts_26 rfl rfl rfl rfl (one_cons rfl (one_cons (rep_sl_one1 (rep_T_s (hm.rep (i := 1) rfl))) (one_cons rfl (one_cons rfl (one_cons rfl rfl))))) rfl (Nat.le_of_ble_eq_true rfl) fun a w hk hm => ?_
   refine oA0 hk rfl rfl fun a hk => ?_
   refine cE0 ?_
   refine cR0 ?_
   refine oM0 hk rfl rfl fun a hk => ?_
   refine o_call hk cb_13 (crk_doorU (d := d) hd (hm.rep (i := 7) rfl) (hm.all _ (eA0 (i := 8) rfl))) ⟨rfl, trivial⟩ rfl fun vq w a hR hk => ?_
   obtain ⟨tb, htb, hp, ctb, rfl, hRq⟩ := door_gen hR
   clear hR
   obtain ⟨cstb, ptb, captb, putb, caputb, rfl⟩ := rep_T6 hRq
   have hm := hm.result hp hRq
   refine oM0 hk rfl rfl fun a hk => ?_
   refine o_extract hk rfl rfl rfl fun a hk => ?_
   refine o_extract hk rfl rfl rfl fun a hk => ?_
   refine o_alloc hk hm tz_26 rfl rfl fun a b4 w hk hm => ?_
   refine o_store (i := 0) hk hm ts_26 rfl rfl rfl rfl (one_cons rfl (one_cons (rep_sl_one1 (rep_T_s (hm.rep (i := 1) rfl))) (one_cons rfl (one_cons rfl (one_cons rfl rfl))))) rfl (Nat.le_of_ble_eq_true rfl) fun a w hk hm => ?_
   refine oA0 hk rfl rfl fun a hk => ?_
   refine cE0 ?_
   refine wp_seq ?_
   refine d_startM (K := 17) mixed hm fun w hm => ?_
   refine d_one (k := 0) (by kernel_rfl) rfl rfl ?_
   refine oM0 hk rfl rfl fun a hk => ?_
   refine c_endQ (cT0 ⟨fun _ => hm, ?_⟩)
   refine d_one (k := 1) (by kernel_rfl) rfl rfl ?_
   refine oM0 hk rfl rfl fun a hk => ?_
   refine c_endQ (cT0 ⟨fun _ => hm, ?_⟩)
   refine d_takeW (i := 2) rfl ⟨_, _, _, rfl, rfl, rfl⟩ rfl (by kernel_rfl) (fun _ _ _ h => h) hk rfl (fun w hm => r_move hk rfl) hm fun a hk => ?_
   refine d_oneW (k := 3) (by kernel_rfl) rfl hk ⟨_, _, _, rfl, rfl, rfl⟩ rfl ?_
   refine oM0 hk rfl rfl fun a hk => ?_
   refine c_endQ (cT0 ⟨fun _ => hm, ?_⟩)
   refine d_oneW (k := 4) (by kernel_rfl) rfl hk ⟨_, _, _, rfl, rfl, rfl⟩ rfl ?_
   refine o_eqBool hk ib_4 rfl rfl rfl fun a hk => ?_
   rw [beq_self_eq_true] at hk
   refine c_endQ (cT0 ⟨fun _ => hm, ?_⟩)
   refine d_one (k := 5) (by kernel_rfl) rfl rfl ?_
   refine o_pick hk rfl rfl rfl rfl rfl fun a hk => ?_
   refine c_endQ (cT0 ⟨fun _ => hm, ?_⟩)
   refine d_one (k := 6) (by kernel_rfl) rfl rfl ?_
   refine oM0 hk rfl rfl fun a hk => ?_
   refine c_endQ (cT0 ⟨fun _ => hm, ?_⟩)
   refine d_oneW (k := 7) (by kernel_rfl) rfl hk ⟨_, _, _, rfl, rfl, rfl⟩ rfl ?_
   refine oM0 hk rfl rfl fun a hk => ?_
   refine c_endQ (cT0 ⟨fun _ => hm, ?_⟩)
   refine d_oneW (k := 8) (by kernel_rfl) rfl hk ⟨_, _, _, rfl, rfl, rfl⟩ rfl ?_
   refine o_not hk rfl rfl fun a hk => ?_
   refine c_endQ (cT0 ⟨fun _ => hm, ?_⟩)
   refine d_oneW (k := 9) (by kernel_rfl) rfl hk ⟨_, _, _, rfl, rfl, rfl⟩ rfl ?_
   refine oM0 hk rfl rfl fun a hk => ?_
   refine c_endQ (cT0 ⟨fun _ => hm, ?_⟩)
   rcases Bool.eq_false_or_eq_true ((!((crk (srcOf d)).isSome))) with hb5 | hb5
   ·rw [hb5] at hk
    refine d_takeN (i := 10) rfl ⟨_, _, _, _, rfl, rfl, rfl, nb_tf⟩ rfl (by kernel_rfl) (fun _ _ _ h => h) hk rfl hm fun a hk => ?_
    refine d_takeN (i := 12) rfl ⟨_, _, _, _, rfl, rfl, rfl, nb_tf⟩ rfl (by kernel_rfl) (fun _ _ _ h => h) hk rfl hm fun a hk => ?_
    refine d_oneN (k := 11) (by kernel_rfl) rfl hk ⟨_, _, _, _, rfl, rfl, rfl, nb_tf⟩ rfl rfl hm fun a hk => ?_
    refine d_oneN (k := 13) (by kernel_rfl) rfl hk ⟨_, _, _, _, rfl, rfl, rfl, nb_tf⟩ rfl rfl hm fun a hk => ?_
    refine d_oneN (k := 14) (by kernel_rfl) rfl hk ⟨_, _, _, _, rfl, rfl, rfl, nb_tf⟩ rfl rfl hm fun a hk => ?_
    refine d_oneW (k := 15) (by kernel_rfl) rfl hk ⟨_, _, _, rfl, rfl, rfl⟩ rfl ?_
    refine o_pick hk rfl rfl rfl rfl rfl fun a hk => ?_
    refine c_endQ (cT0 ⟨fun _ => hm, ?_⟩)
    refine d_one (k := 16) (by kernel_rfl) rfl rfl ?_
    refine o_pick hk rfl rfl rfl rfl rfl fun a hk => ?_
    refine c_endQ (cT0 ⟨fun _ => hm, ?_⟩)
    refine d_one (k := 17) (by kernel_rfl) rfl rfl ?_
    refine oA0 hk rfl rfl fun a hk => ?_
    refine c_endQ (cT0 ⟨fun h => Bool.noConfusion (show true = false from h), ?_⟩)
    refine d_done (by kernel_rfl) ?_ _
    refine cT0 ?_
    refine wp_ret ?_
    refine bT0 rfl hk rfl ?_
    exact ⟨hm.agr, rfl⟩
   ·rw [hb5] at hk
    refine d_takeW (i := 10) rfl ⟨_, _, _, rfl, rfl, rfl⟩ rfl (by kernel_rfl) (fun _ _ _ h => h) hk rfl (fun w hm => r_loadN (cs := [.int .i64 ((ta).n), csta, .bool ((ta).z), .slice pta ((ta).l.length) capta, .slice puta ta.u.length caputa]) hk ts_26 rfl (hm.cells_blk (i := 2) rfl rfl)) hm fun a hk => ?_
    refine d_takeW (i := 12) rfl ⟨_, _, _, rfl, rfl, rfl⟩ rfl (by kernel_rfl) (fun _ _ _ h => h) hk rfl (fun w hm => r_loadN (cs := [.int .i64 ((tb).n), cstb, .bool ((tb).z), .slice ptb ((tb).l.length) captb, .slice putb tb.u.length caputb]) hk ts_26 rfl (hm.cells_blk (i := 0) rfl rfl)) hm fun a hk => ?_
    refine d_oneW (k := 11) (by kernel_rfl) rfl hk ⟨_, _, _, rfl, rfl, rfl⟩ rfl ?_
    refine o_call hk cb_15 (got_c ta (hm.rep (i := 3) rfl) (by rw [hta]; exact tiny_small _ (crkT_tiny _))) ⟨rfl, trivial⟩ rfl fun v w a hR hk => ?_
    obtain ⟨hp, cgta, rfl, hR⟩ := hR
    obtain ⟨psgta, capsgta, pgta, capgta, pugta, capugta, rfl⟩ := rep_T7 hR
    have hm := hm.result hp hR
    refine c_endQ (cT0 ⟨fun _ => hm.tail, ?_⟩)
    refine d_oneW (k := 13) (by kernel_rfl) rfl hk ⟨_, _, _, rfl, rfl, rfl⟩ rfl ?_
    refine o_call hk cb_15 (got_c tb (hm.rep (i := 2) rfl) (by rw [htb]; exact tiny_small _ (crkT_tiny _))) ⟨rfl, trivial⟩ rfl fun v w a hR hk => ?_
    obtain ⟨hp, cgtb, rfl, hR⟩ := hR
    obtain ⟨psgtb, capsgtb, pgtb, capgtb, pugtb, capugtb, rfl⟩ := rep_T7 hR
    have hm := hm.result hp hR
    refine c_endQ (cT0 ⟨fun _ => hm.tail.tail, ?_⟩)
    refine d_oneW (k := 14) (by kernel_rfl) rfl hk ⟨_, _, _, rfl, rfl, rfl⟩ rfl ?_
    refine o_call hk cb_14 (sametree_c ta (htb.trans hta.symm) (hm.rep (i := 1) rfl) (hm.rep (i := 0) rfl) (by rw [hta]; exact crkT_tiny _)) ⟨rfl, rfl, trivial⟩ rfl fun v w a hR hk => ?_
    obtain ⟨hp, rfl⟩ := hR
    have hm := hm.pure hp
    refine c_endQ (cT0 ⟨fun _ => hm.tail.tail, ?_⟩)
    refine d_oneW (k := 15) (by kernel_rfl) rfl hk ⟨_, _, _, rfl, rfl, rfl⟩ rfl ?_
    refine o_pick hk rfl rfl rfl rfl rfl fun a hk => ?_
    refine c_endQ (cT0 ⟨fun _ => hm.tail.tail, ?_⟩)
    refine d_one (k := 16) (by kernel_rfl) rfl rfl ?_
    refine o_pick hk rfl rfl rfl rfl rfl fun a hk => ?_
    refine c_endQ (cT0 ⟨fun _ => hm.tail.tail, ?_⟩)
    refine d_one (k := 17) (by kernel_rfl) rfl rfl ?_
    refine oA0 hk rfl rfl fun a hk => ?_
    refine c_endQ (cT0 ⟨fun h => Bool.noConfusion (show true = false from h), ?_⟩)
    refine d_done (by kernel_rfl) ?_ _
    refine cT0 ?_
    refine wp_ret ?_
    refine bT0 rfl hk rfl ?_
    exact ⟨hm.agr, rfl⟩
end Go.Proofs.YthholdjpcdpceaaDoor
