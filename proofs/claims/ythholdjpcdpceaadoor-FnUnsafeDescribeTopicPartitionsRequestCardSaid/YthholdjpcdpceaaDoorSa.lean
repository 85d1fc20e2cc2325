/- Walks of functions that the laws of this seat reach. No statement of the seat stands here. -/
import Derived.Test.YthholdjpcdpceaaDoorL1
import Derived.Test.YthholdjpcdpceaaDoorRows
import Derived.Test.YthholdjpcdpceaaDoorFa
namespace Go.Proofs.YthholdjpcdpceaaDoor
open Go Go.Mk
theorem version_c {w0 : World} {Y : Nat → Prop} {n : Nat} {most : Int} (hn : n < 256) (h0 : 0 ≤ most) (h1 : most < 1000000) : Ret Tryd.prog 18 [.int .u8 (n : Int), .int .i64 most] w0 fun v w' => Agr Nob w0 w' ∧ v = .int .i64 ((n : Int) % (most + 1)) := by
 refine c_call Tryd.func18 rfl rfl fun a hk => ?_
 have hk : Kn 10 [(0, .int .u8 (n : Int)), (1, .int .i64 most)] a := hk
 have hm : Mem w0 Nob Y [] w0 := Mem.start rfl (by simp)
 refine cR0 ?_
 refine oA0 hk rfl rfl fun a hk => ?_
 refine cE0 ?_
 refine cR0 ?_
 refine oM0 hk rfl rfl fun a hk => ?_
 refine o_convInt (c := (n : Int)) hk un_5 ti_3 rfl (IntWalk.i64_in _ (by omega)) rfl fun a hk => ?_
 refine oM0 hk rfl rfl fun a hk => ?_
 refine o_iarith (c := most + 1) hk rfl rfl rfl (IntWalk.i64_in _ (by omega)) rfl fun a hk => ?_
 refine o_rem (c := (n : Int) % (most + 1)) hk rfl rfl (by omega) (Int.tmod_eq_emod_of_nonneg (by omega)) rfl fun a hk => ?_
 refine oA0 hk rfl rfl fun a hk => ?_
 refine cE0 ?_
 refine wp_ret ?_
 refine bT0 rfl hk rfl ?_
 exact ⟨hm.agr, rfl⟩
theorem same_c {w0 : World} {Y : Nat → Prop} {sa sb : List UInt8} {p q : Option Addr} {cp cq : Nat} (hA : Rep w0 Y (ddBs sa) [.slice p sa.length cp]) (hB : Rep w0 Y (ddBs sb) [.slice q sb.length cq]) (hl : sa.length < 4611686018427387904) : Ret Tryd.prog 41 [.slice p sa.length cp, .slice q sb.length cq] w0 fun v w' => Agr Nob w0 w' ∧ v = .bool (decide (sa = sb)) := by
 refine c_call Tryd.func41 rfl rfl fun a hk => ?_
 have hk : Kn 26 [(0, .slice p sa.length cp), (1, .slice q sb.length cq)] a := hk
 have hm : Mem w0 Nob Y [.rep (ddBs sa) [.slice p sa.length cp], .rep (ddBs sb) [.slice q sb.length cq]] w0 := Mem.start rfl (by simp only [List.forall_mem_cons, List.not_mem_nil, false_imp_iff, implies_true, and_true]; exact ⟨hA, hB⟩)
 refine cR0 ?_
 refine oA0 hk rfl rfl fun a hk => ?_
 refine cE0 ?_
 refine wp_seq ?_
 refine cR0 ?_
 refine oM0 hk rfl rfl fun a hk => ?_
 refine oL0 hk te_22 rfl rfl fun a hk => ?_
 refine oM0 hk rfl rfl fun a hk => ?_
 refine oL0 hk te_22 rfl rfl fun a hk => ?_
 refine o_icmp hk rfl rfl rfl rfl fun a hk => ?_
 refine cE0 ?_
 refine c_cond hk rfl (fun hc => ?_) (fun hc => ?_)
 ·refine cR0 ?_
  refine oA0 hk rfl rfl fun a hk => ?_
  refine cE0 ?_
  refine wp_ret ?_
  refine cQ0 ?_
  refine bT0 rfl hk rfl ?_
  exact ⟨hm.agr, by rw [decide_eq_false]; intro e; subst e; simp at hc⟩
 ·refine wp_skip ?_
  refine cT0 ?_
  refine wp_seq ?_
  refine cR0 ?_
  refine oM0 hk rfl rfl fun a hk => ?_
  refine oL0 hk te_22 rfl rfl fun a hk => ?_
  refine oM0 hk rfl rfl fun a hk => ?_
  refine cE0 ?_
  have hL : sa.length = sb.length := by simp only [bne_eq_false_iff_eq] at hc; omega
  refine c_range (L0 := [(0, .slice p sa.length cp), (1, .slice q sb.length cq)]) (N := sa.length) (by omega) (fun k L w => L = [(0, .slice p sa.length cp), (1, .slice q sb.length cq)] ∧ sa.take k = sb.take k ∧ Mem w0 Nob Y [.rep (ddBs sa) [.slice p sa.length cp], .rep (ddBs sb) [.slice q sb.length cq]] w) (hk.sub ⟨rfl, rfl, rfl, rfl, trivial⟩) ⟨rfl, rfl, hm⟩ rfl rfl rfl rfl rfl rfl rfl (fun k L a w hlt hR hk => ?_) rfl (fun L a w hR hk => ?_)
  ·obtain ⟨rfl, hI0, hm⟩ := hR
   obtain ⟨hlt1, bl1, off1, e1, hpl1, hel1, hRe1, hCe1⟩ := rep_sl_get (hm.rep (i := 0) rfl) (getD_map ddB sa k 0 hlt)
   obtain rfl := rep_B hRe1
   have hm := hm.add (e := .rep (ddB (sa.getD k 0)) [.int .u8 (((sa.getD k 0).toNat : Nat) : Int)]) rfl hRe1
   have hm := hm.add (e := .cel bl1 (off1 + k * 1) [.int .u8 (((sa.getD k 0).toNat : Nat) : Int)]) rfl hCe1
   obtain ⟨hlt2, bl2, off2, e2, hpl2, hel2, hRe2, hCe2⟩ := rep_sl_get (hm.rep (i := 3) rfl) (getD_map ddB sb k 0 (hL ▸ hlt))
   obtain rfl := rep_B hRe2
   have hm := hm.add (e := .rep (ddB (sb.getD k 0)) [.int .u8 (((sb.getD k 0).toNat : Nat) : Int)]) rfl hRe2
   have hm := hm.add (e := .cel bl2 (off2 + k * 1) [.int .u8 (((sb.getD k 0).toNat : Nat) : Int)]) rfl hCe2
   refine cR0 ?_
   refine oM0 hk rfl rfl fun a hk => ?_
   refine oA0 hk rfl rfl fun a hk => ?_
   refine cE0 ?_
   refine wp_seq ?_
   refine d_startM (K := 8) mixed hm fun w hm => ?_
   refine d_take (i := 0) rfl rfl rfl (by kernel_rfl) (fun _ _ _ h => h) hk rfl (fun w hm => r_move hk rfl) hm fun a hk => ?_
   refine d_take (i := 1) rfl rfl rfl (by kernel_rfl) (fun _ _ _ h => h) hk rfl (fun w hm => r_move hk rfl) hm fun a hk => ?_
   refine d_take (i := 2) rfl rfl rfl (by kernel_rfl) (fun _ _ _ h => h) hk rfl (fun w hm => r_indexAddr (j := k) (b := bl1) (off := off1) hk te_22 ts_5 (by rw [← hpl1]; rfl) rfl hlt1) hm fun a hk => ?_
   refine d_take (i := 3) rfl rfl rfl (by kernel_rfl) (fun _ _ _ h => h) hk rfl (fun w hm => r_load1 hk ts_5 rfl (hm.cell_cel (i := 2) (j := 0) rfl rfl)) hm fun a hk => ?_
   refine d_take (i := 4) rfl rfl rfl (by kernel_rfl) (fun _ _ _ h => h) hk rfl (fun w hm => r_move hk rfl) hm fun a hk => ?_
   refine d_one (k := 5) (by kernel_rfl) rfl rfl ?_
   refine oM0 hk rfl rfl fun a hk => ?_
   refine c_endQ (cT0 ⟨fun _ => hm, ?_⟩)
   refine d_one (k := 6) (by kernel_rfl) rfl rfl ?_
   refine oI0 (j := k) (b := bl2) (off := off2) hk te_22 ts_5 (by rw [← hpl2]; rfl) rfl hlt2 rfl fun a hk => ?_
   refine c_endQ (cT0 ⟨fun _ => hm, ?_⟩)
   refine d_one (k := 7) (by kernel_rfl) rfl rfl ?_
   refine o_load hk ts_5 rfl (hm.cell_cel (i := 0) (j := 0) rfl rfl) rfl fun a hk => ?_
   refine c_endQ (cT0 ⟨fun _ => hm, ?_⟩)
   refine d_one (k := 8) (by kernel_rfl) rfl rfl ?_
   refine o_icmp hk rfl rfl rfl rfl fun a hk => ?_
   refine c_endQ (cT0 ⟨fun h => Bool.noConfusion (show true = false from h), ?_⟩)
   refine d_done (by kernel_rfl) ?_ _
   refine cT0 ?_
   refine c_cond hk rfl (fun hc => ?_) (fun hc => ?_)
   ·refine cR0 ?_
    refine oA0 hk rfl rfl fun a hk => ?_
    refine cE0 ?_
    refine wp_ret ?_
    refine c_inRet ?_
    refine c_roundRet ?_
    refine cQ0 ?_
    refine bT0 rfl hk rfl ?_
    exact ⟨hm.agr, by rw [decide_eq_false]; intro e; subst e; simp at hc⟩
   ·refine wp_skip ?_
    refine cN0 ?_
    exact c_round (L' := [(0, .slice p sa.length cp), (1, .slice q sb.length cq)]) hk ⟨rfl, rfl, rfl, rfl, trivial⟩ rfl ⟨rfl, (take_eq_succ hI0 hL hlt (u8_eq_of (by simpa using hc))), hm.tail.tail.tail.tail⟩
  ·obtain ⟨rfl, hI0, hm⟩ := hR
   refine cT0 ?_
   refine cR0 ?_
   refine oA0 hk rfl rfl fun a hk => ?_
   refine cE0 ?_
   refine wp_ret ?_
   refine bT0 rfl hk rfl ?_
   exact ⟨hm.agr, by rw [List.take_length, hL, List.take_length] at hI0; rw [decide_eq_true hI0]⟩
end Go.Proofs.YthholdjpcdpceaaDoor
