/- Walks of functions that the laws of this seat reach. No statement of the seat stands here. -/
import Derived.Test.YthholdjpcdpceaaDoorL4
import Derived.Test.YthholdjpcdpceaaDoorRows
import Derived.Test.YthholdjpcdpceaaDoorFa
import Derived.Test.YthholdjpcdpceaaDoorTd2DescribeTopicPartitionsRequest
import Derived.Test.YthholdjpcdpceaaDoorTv
import Derived.Test.YthholdjpcdpceaaDoorSa
import Derived.Test.YthholdjpcdpceaaDoorTb
namespace Go.Proofs.YthholdjpcdpceaaDoor
open Go Go.Mk
theorem law_DescribeTopicPartitionsRequest {w0 : World} {Y : Nat → Prop} {d : List UInt8} {pd : Option Addr} {cd : Nat} {ep : Value} {et : Nat} (n : Nat) (hn : n < 256) (hD : Rep w0 Y (ddBs d) [.slice pd d.length cd]) (hG : Cel w0 Y 1 0 [.iface et ep]) : Ret Tryd.prog 8 [.int .u8 (n : Int), .slice pd d.length cd] w0 fun v w' => Agr Nob w0 w' ∧ v = .bool true := by
 refine c_call Tryd.func8 rfl rfl fun a hk => ?_
 have hk : Kn 49 [(0, .int .u8 (n : Int)), (1, .slice pd d.length cd)] a := hk
 have hm : Mem w0 Nob Y [.rep (ddBs d) [.slice pd d.length cd], .cel 1 0 [.iface et ep]] w0 := Mem.start rfl (by simp only [List.forall_mem_cons, List.not_mem_nil, false_imp_iff, implies_true, and_true]; exact ⟨hD, hG⟩)
 refine cR0 ?_
 refine oA0 hk rfl rfl fun a hk => ?_
 refine cE0 ?_
 refine wp_seq ?_
 refine cR0 ?_
 refine oM0 hk rfl rfl fun a hk => ?_
 refine oL0 hk te_22 rfl rfl fun a hk => ?_
 refine o_icmp hk rfl rfl rfl rfl fun a hk => ?_
 refine cE0 ?_
 refine c_cond hk rfl (fun hc => ?_) (fun hc => ?_)
 ·refine cR0 ?_
  refine oA0 hk rfl rfl fun a hk => ?_
  refine cE0 ?_
  refine wp_ret ?_
  refine cQ0 ?_
  refine bT0 rfl hk rfl ?_
  exact ⟨hm.agr, rfl⟩
 ·refine wp_skip ?_
  refine cT0 ?_
  refine cR0 ?_
  refine o_call hk cb_29 (max_DescribeTopicPartitionsRequest (Y := Y)) trivial rfl fun v w a hR hk => ?_
  obtain ⟨hp, rfl⟩ := hR
  have hm := hm.pure hp
  refine oA0 hk rfl rfl fun a hk => ?_
  refine cE0 ?_
  refine wp_seq ?_
  refine cR0 ?_
  refine oM0 hk rfl rfl fun a hk => ?_
  refine o_icmp hk rfl rfl rfl rfl fun a hk => ?_
  refine cE0 ?_
  refine c_cond hk rfl (fun hc => ?_) (fun hc => ?_)
  ·refine cR0 ?_
   refine oA0 hk rfl rfl fun a hk => ?_
   refine cE0 ?_
   refine wp_ret ?_
   refine cQ0 ?_
   refine bT0 rfl hk rfl ?_
   exact absurd hc (by decide)
  ·refine wp_skip ?_
   refine cT0 ?_
   refine wp_seq ?_
   refine cR0 ?_
   refine oM0 hk rfl rfl fun a hk => ?_
   refine oL0 hk te_22 rfl rfl fun a hk => ?_
   refine o_icmp hk rfl rfl rfl rfl fun a hk => ?_
   refine cE0 ?_
   refine c_cond hk rfl (fun hc => ?_) (fun hc => ?_)
   ·refine cR0 ?_
    refine oA0 hk rfl rfl fun a hk => ?_
    refine cE0 ?_
    refine wp_ret ?_
    refine cQ0 ?_
    refine bT0 rfl hk rfl ?_
    exact ⟨hm.agr, rfl⟩
   ·have hd : d.length ≤ 1000 := by simp only [decide_eq_false_iff_not] at hc; omega
    refine wp_skip ?_
    refine cT0 ?_
    refine cR0 ?_
    refine oM0 hk rfl rfl fun a hk => ?_
    refine oM0 hk rfl rfl fun a hk => ?_
    refine o_call hk cb_18 (version_c (Y := Y) hn (by decide) (by decide)) ⟨rfl, rfl, trivial⟩ rfl fun v w a hR hk => ?_
    obtain ⟨hp, rfl⟩ := hR
    have hm := hm.pure hp
    obtain ⟨k, hV⟩ : ∃ k : Nat, (k : Int) = (n : Int) % ((0 : Int) + 1) := ⟨((n : Int) % ((0 : Int) + 1)).toNat, by omega⟩
    have hV1 : k ≤ 0 := by omega
    rw [← hV] at hk
    refine oM0 hk rfl rfl fun a hk => ?_
    refine o_call hk cb_30 (doorD_DescribeTopicPartitionsRequest k hV1 hd (hm.rep (i := 0) rfl) (hm.all _ (eA0 (i := 1) rfl))) ⟨rfl, rfl, trivial⟩ rfl fun vq w a hR hk => ?_
    obtain ⟨ta, hta, hp, cta, rfl, hRq⟩ := door_gen hR
    clear hR
    obtain ⟨csta, pta, capta, puta, caputa, rfl⟩ := rep_T6 hRq
    have hm := hm.result hp hRq
    refine oM0 hk rfl rfl fun a hk => ?_
    refine o_extract hk rfl rfl rfl fun a hk => ?_
    refine o_extract hk rfl rfl rfl fun a hk => ?_
    refine o_alloc hk hm tz_26 rfl rfl fun a b1 w hk hm => ?_
    refine o_store (i := 0) hk hm ts_26 rfl rfl rfl rfl (one_cons rfl (one_cons (rep_sl_one1 (rep_T_s (hm.rep (i := 1) rfl))) (one_cons rfl (one_cons rfl (one_cons rfl rfl))))) rfl (Nat.le_of_ble_eq_true rfl) fun a w hk hm => ?_
    refine oA0 hk rfl rfl fun a hk => ?_
    refine cE0 ?_
    refine cR0 ?_
    refine oM0 hk rfl rfl fun a hk => ?_
    refine oM0 hk rfl rfl fun a hk => ?_
    refine o_call hk cb_18 (version_c (Y := Y) hn (by decide) (by decide)) ⟨rfl, rfl, trivial⟩ rfl fun v w a hR hk => ?_
    obtain ⟨hp, rfl⟩ := hR
    have hm := hm.pure hp
    rw [← hV] at hk
    refine oM0 hk rfl rfl fun a hk => ?_
    refine o_call hk cb_31 (doorDU_DescribeTopicPartitionsRequest k hV1 hd (hm.rep (i := 2) rfl) (hm.all _ (eA0 (i := 3) rfl))) ⟨rfl, rfl, trivial⟩ rfl fun vq w a hR hk => ?_
    obtain ⟨tb, htb, hp, ctb, rfl, hRq⟩ := door_gen hR
    clear hR
    obtain ⟨cstb, ptb, captb, putb, caputb, rfl⟩ := rep_T6 hRq
    have hm := hm.result hp hRq
    refine oM0 hk rfl rfl fun a hk => ?_
    refine o_extract hk rfl rfl rfl fun a hk => ?_
    refine o_extract hk rfl rfl rfl fun a hk => ?_
    refine o_alloc hk hm tz_26 rfl rfl fun a b2 w hk hm => ?_
    refine o_store (i := 0) hk hm ts_26 rfl rfl rfl rfl (one_cons rfl (one_cons (rep_sl_one1 (rep_T_s (hm.rep (i := 1) rfl))) (one_cons rfl (one_cons rfl (one_cons rfl rfl))))) rfl (Nat.le_of_ble_eq_true rfl) fun a w hk hm => ?_
    refine oA0 hk rfl rfl fun a hk => ?_
    refine cE0 ?_
    refine wp_seq ?_
    refine d_startM (K := 14) mixed hm fun w hm => ?_
    refine d_take (i := 0) rfl rfl rfl (by kernel_rfl) (fun _ _ _ h => h) hk rfl (fun w hm => r_move hk rfl) hm fun a hk => ?_
    refine d_one (k := 1) (by kernel_rfl) rfl rfl ?_
    refine oM0 hk rfl rfl fun a hk => ?_
    refine c_endQ (cT0 ⟨fun _ => hm, ?_⟩)
    refine d_one (k := 2) (by kernel_rfl) rfl rfl ?_
    refine o_eqBool hk ib_4 rfl rfl rfl fun a hk => ?_
    rw [beq_self_eq_true] at hk
    refine c_endQ (cT0 ⟨fun _ => hm, ?_⟩)
    refine d_one (k := 3) (by kernel_rfl) rfl rfl ?_
    refine oM0 hk rfl rfl fun a hk => ?_
    refine c_endQ (cT0 ⟨fun _ => hm, ?_⟩)
    refine d_oneW (k := 4) (by kernel_rfl) rfl hk ⟨_, _, _, rfl, rfl, rfl⟩ rfl ?_
    refine oM0 hk rfl rfl fun a hk => ?_
    refine c_endQ (cT0 ⟨fun _ => hm, ?_⟩)
    refine d_oneW (k := 5) (by kernel_rfl) rfl hk ⟨_, _, _, rfl, rfl, rfl⟩ rfl ?_
    refine o_not hk rfl rfl fun a hk => ?_
    refine c_endQ (cT0 ⟨fun _ => hm, ?_⟩)
    refine d_oneW (k := 6) (by kernel_rfl) rfl hk ⟨_, _, _, rfl, rfl, rfl⟩ rfl ?_
    refine oM0 hk rfl rfl fun a hk => ?_
    refine c_endQ (cT0 ⟨fun _ => hm, ?_⟩)
    rcases Bool.eq_false_or_eq_true ((!((rdo sch_DescribeTopicPartitionsRequest ((k : Nat) : Int) (decide (((k : Nat) : Int) ≥ 0)) d).isSome))) with hb3 | hb3
    ·rw [hb3] at hk
     refine d_takeN (i := 7) rfl ⟨_, _, _, _, rfl, rfl, rfl, nb_tf⟩ rfl (by kernel_rfl) (fun _ _ _ h => h) hk rfl hm fun a hk => ?_
     refine d_takeN (i := 9) rfl ⟨_, _, _, _, rfl, rfl, rfl, nb_tf⟩ rfl (by kernel_rfl) (fun _ _ _ h => h) hk rfl hm fun a hk => ?_
     refine d_oneN (k := 8) (by kernel_rfl) rfl hk ⟨_, _, _, _, rfl, rfl, rfl, nb_tf⟩ rfl rfl hm fun a hk => ?_
     refine d_oneN (k := 10) (by kernel_rfl) rfl hk ⟨_, _, _, _, rfl, rfl, rfl, nb_tf⟩ rfl rfl hm fun a hk => ?_
     refine d_oneN (k := 11) (by kernel_rfl) rfl hk ⟨_, _, _, _, rfl, rfl, rfl, nb_tf⟩ rfl rfl hm fun a hk => ?_
     refine d_oneW (k := 12) (by kernel_rfl) rfl hk ⟨_, _, _, rfl, rfl, rfl⟩ rfl ?_
     refine o_pick hk rfl rfl rfl rfl rfl fun a hk => ?_
     refine c_endQ (cT0 ⟨fun _ => hm, ?_⟩)
     refine d_one (k := 13) (by kernel_rfl) rfl rfl ?_
     refine o_pick hk rfl rfl rfl rfl rfl fun a hk => ?_
     refine c_endQ (cT0 ⟨fun _ => hm, ?_⟩)
     refine d_one (k := 14) (by kernel_rfl) rfl rfl ?_
     refine oA0 hk rfl rfl fun a hk => ?_
     refine c_endQ (cT0 ⟨fun h => Bool.noConfusion (show true = false from h), ?_⟩)
     refine d_done (by kernel_rfl) ?_ _
     refine cT0 ?_
     refine wp_ret ?_
     refine bT0 rfl hk rfl ?_
     exact ⟨hm.agr, rfl⟩
    ·rw [hb3] at hk
     refine d_takeW (i := 7) rfl ⟨_, _, _, rfl, rfl, rfl⟩ rfl (by kernel_rfl) (fun _ _ _ h => h) hk rfl (fun w hm => r_loadN (cs := [.int .i64 ((ta).n), csta, .bool ((ta).z), .slice pta ((ta).l.length) capta, .slice puta ta.u.length caputa]) hk ts_26 rfl (hm.cells_blk (i := 2) rfl rfl)) hm fun a hk => ?_
     refine d_takeW (i := 9) rfl ⟨_, _, _, rfl, rfl, rfl⟩ rfl (by kernel_rfl) (fun _ _ _ h => h) hk rfl (fun w hm => r_loadN (cs := [.int .i64 ((tb).n), cstb, .bool ((tb).z), .slice ptb ((tb).l.length) captb, .slice putb tb.u.length caputb]) hk ts_26 rfl (hm.cells_blk (i := 0) rfl rfl)) hm fun a hk => ?_
     refine d_oneW (k := 8) (by kernel_rfl) rfl hk ⟨_, _, _, rfl, rfl, rfl⟩ rfl ?_
     refine o_call hk cb_15 (got_c ta (hm.rep (i := 3) rfl) (by rw [hta]; exact tiny_small _ (tiny_tellO (fs := sch_DescribeTopicPartitionsRequest) rfl (by decide) hd))) ⟨rfl, trivial⟩ rfl fun v w a hR hk => ?_
     obtain ⟨hp, cgta, rfl, hR⟩ := hR
     obtain ⟨psgta, capsgta, pgta, capgta, pugta, capugta, rfl⟩ := rep_T7 hR
     have hm := hm.result hp hR
     refine c_endQ (cT0 ⟨fun _ => hm.tail, ?_⟩)
     refine d_oneW (k := 10) (by kernel_rfl) rfl hk ⟨_, _, _, rfl, rfl, rfl⟩ rfl ?_
     refine o_call hk cb_15 (got_c tb (hm.rep (i := 2) rfl) (by rw [htb]; exact tiny_small _ (tiny_tellO (fs := sch_DescribeTopicPartitionsRequest) rfl (by decide) hd))) ⟨rfl, trivial⟩ rfl fun v w a hR hk => ?_
     obtain ⟨hp, cgtb, rfl, hR⟩ := hR
     obtain ⟨psgtb, capsgtb, pgtb, capgtb, pugtb, capugtb, rfl⟩ := rep_T7 hR
     have hm := hm.result hp hR
     refine c_endQ (cT0 ⟨fun _ => hm.tail.tail, ?_⟩)
     refine d_oneW (k := 11) (by kernel_rfl) rfl hk ⟨_, _, _, rfl, rfl, rfl⟩ rfl ?_
     refine o_call hk cb_14 (sametree_c ta (htb.trans hta.symm) (hm.rep (i := 1) rfl) (hm.rep (i := 0) rfl) (by rw [hta]; exact (tiny_tellO (fs := sch_DescribeTopicPartitionsRequest) rfl (by decide) hd))) ⟨rfl, rfl, trivial⟩ rfl fun v w a hR hk => ?_
     obtain ⟨hp, rfl⟩ := hR
     have hm := hm.pure hp
     refine c_endQ (cT0 ⟨fun _ => hm.tail.tail, ?_⟩)
     refine d_oneW (k := 12) (by kernel_rfl) rfl hk ⟨_, _, _, rfl, rfl, rfl⟩ rfl ?_
     refine o_pick hk rfl rfl rfl rfl rfl fun a hk => ?_
     refine c_endQ (cT0 ⟨fun _ => hm.tail.tail, ?_⟩)
     refine d_one (k := 13) (by kernel_rfl) rfl rfl ?_
     refine o_pick hk rfl rfl rfl rfl rfl fun a hk => ?_
     refine c_endQ (cT0 ⟨fun _ => hm.tail.tail, ?_⟩)
     refine d_one (k := 14) (by kernel_rfl) rfl rfl ?_
     refine oA0 hk rfl rfl fun a hk => ?_
     refine c_endQ (cT0 ⟨fun h => Bool.noConfusion (show true = false from h), ?_⟩)
     refine d_done (by kernel_rfl) ?_ _
     refine cT0 ?_
     refine wp_ret ?_
     refine bT0 rfl hk rfl ?_
     exact ⟨hm.agr, rfl⟩
end Go.Proofs.YthholdjpcdpceaaDoor
