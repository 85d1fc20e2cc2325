/- Walks of functions that the laws of this seat reach. No statement of the seat stands here. -/
import Derived.Test.YticigmdbfimfbaaDoorL3
import Derived.Test.YticigmdbfimfbaaDoorRows
import Derived.Test.YticigmdbfimfbaaDoorFa
import Derived.Test.YticigmdbfimfbaaDoorRg
namespace Go.Proofs.YticigmdbfimfbaaDoor
open Go Go.Mk
theorem rdCompactBytes_c {w0 : World} {Y : Nat → Prop} {rb : Nat} {s : RS} (hb : RdrAt w0 Y rb 118 s) (hY : Y rb) : Ret Tryd.prog 100 [.pointer (some ⟨rb, 0, none⟩)] w0 fun v w' => Agr (fun k => k = rb) w0 w' ∧ Rep w' (fun b => b < w0.heap.size ∧ Y b) (ddVal 9 0 (fun _ => .any 0) (rdBytes false true s).1) [v] ∧ RdrAt w' (fun b => b < w0.heap.size ∧ Y b) rb 118 (rdBytes false true s).2 := by
 obtain ⟨x, hb, hx⟩ := hb
 obtain ⟨px, capx, rfl, hcap⟩ := src_form hx
 refine c_call Tryd.func100 rfl rfl fun a hk => ?_
 have hk : Kn 14 [(0, .pointer (some ⟨rb, 0, none⟩))] a := hk
 have hm : Mem w0 (fun k => k = rb) Y [.blk rb [.slice px ((s.src.getD []).length) capx, .bool s.bad] 118, .rep (ddSrc s.src) [.slice px ((s.src.getD []).length) capx]] w0 := Mem.startBlk hb hY rfl (by simp only [List.forall_mem_cons, List.not_mem_nil, false_imp_iff, implies_true, and_true]; exact hx)
 refine cR0 ?_
 refine oA0 hk rfl rfl fun a hk => ?_
 refine cE0 ?_
 refine cR0 ?_
 refine oM0 hk rfl rfl fun a hk => ?_
 refine o_call hk cb_112 (rdUvarint_c (Y := Yof w0 Y [.blk rb [.slice px ((s.src.getD []).length) capx, .bool s.bad] 118, .rep (ddSrc s.src) [.slice px ((s.src.getD []).length) capx]]) (s := s) ⟨_, hm.blkAt (i := 0) rfl, hm.rep (i := 1) rfl⟩ (yof_blk (i := 0) rfl)) ⟨rfl, trivial⟩ rfl fun v1 w1 a hR hk => ?_
 obtain ⟨hp1, rfl, x1, hb1, hr1⟩ := hR
 obtain ⟨px1, capx1, rfl, hcap1⟩ := src_form hr1
 have hm := hm.blkCall (i := 0) rfl hp1 hb1 hr1
 refine o_convInt (c := ((RS.uv s).1 : Int)) hk un_64 ti_3 rfl (Er.uv_i64 _) rfl fun a hk => ?_
 refine o_iarith (c := (((RS.uv s).1 : Int) - 1)) hk rfl rfl rfl (Er.uv_i64' _) rfl fun a hk => ?_
 refine oA0 hk rfl rfl fun a hk => ?_
 refine cE0 ?_
 refine wp_seq ?_
 refine cR0 ?_
 refine oM0 hk rfl rfl fun a hk => ?_
 refine o_icmp hk rfl rfl rfl rfl fun a hk => ?_
 refine cE0 ?_
 refine c_cond hk rfl (fun hc => ?_) (fun hc => ?_)
 ·have hlen : (rdLen true 4 .i32 s).1 = -1 := by have h := hc; simp only [beq_iff_eq] at h; exact h
  have hn : rdBytes false true s = (ofOct [], (rdLen true 4 .i32 s).2) := by unfold rdBytes; rw [if_neg (by simp), if_pos (by simp [hlen])]
  rw [hn]
  refine cR0 ?_
  refine o_buildSlice0 hk hm te_22 ts_5 rfl fun a b1 w hk hm => ?_
  refine oA0 hk rfl rfl fun a hk => ?_
  refine cE0 ?_
  refine wp_ret ?_
  refine cQ0 ?_
  refine bT0 rfl hk rfl ?_
  exact ⟨hm.agr, (by simp only [ddVal, ofOct, T.z, T.s]; exact .inl ⟨rfl, _, rfl, fun _ h => by cases h⟩), _, hm.blkAt (i := 2) rfl, hm.out (hm.rep (i := 1) rfl)⟩
 ·have hlen : ¬ (rdLen true 4 .i32 s).1 = -1 := by have h := hc; simp only [beq_eq_false_iff_ne, ne_eq] at h; exact h
  have hn : rdBytes false true s = (ofSpan (RS.span (rdLen true 4 .i32 s).1 (rdLen true 4 .i32 s).2).1, (RS.span (rdLen true 4 .i32 s).1 (rdLen true 4 .i32 s).2).2) := by unfold rdBytes; rw [if_neg (by simp), if_neg (by simp [hlen])]
  rw [hn]
  refine wp_skip ?_
  refine cT0 ?_
  refine cR0 ?_
  refine oM0 hk rfl rfl fun a hk => ?_
  refine oM0 hk rfl rfl fun a hk => ?_
  refine o_call hk cb_114 (rdSpan_c (((RS.uv s).1 : Int) - 1) (Y := Yof w0 Y [.rep (ddSrc ((RS.uv s).2).src) [.slice px1 (((RS.uv s).2.src.getD []).length) capx1], .blk rb [.slice px1 (((RS.uv s).2.src.getD []).length) capx1, .bool (((RS.uv s).2).bad)] 118, .rep (ddSrc s.src) [.slice px ((s.src.getD []).length) capx]]) (s := ((RS.uv s).2)) ⟨_, hm.blkAt (i := 1) rfl, hm.rep (i := 0) rfl⟩ (yof_blk (i := 1) rfl)) ⟨rfl, rfl, trivial⟩ rfl fun v2 w2 a hR hk => ?_
  obtain ⟨hp2, hv2, x2, hb2, hr2⟩ := hR
  obtain ⟨px2, capx2, rfl, hcap2⟩ := src_form hr2
  have hm := hm.blkCall2 (i := 1) rfl hp2 hb2 hr2 hv2
  refine oA0 hk rfl rfl fun a hk => ?_
  refine cE0 ?_
  refine wp_ret ?_
  refine bT0 rfl hk rfl ?_
  exact ⟨hm.agr, src_field (hm.out (hm.rep (i := 0) rfl)), _, hm.blkAt (i := 3) rfl, hm.out (hm.rep (i := 1) rfl)⟩
theorem rdCompactNullableBytes_c {w0 : World} {Y : Nat → Prop} {rb : Nat} {s : RS} (hb : RdrAt w0 Y rb 118 s) (hY : Y rb) : Ret Tryd.prog 102 [.pointer (some ⟨rb, 0, none⟩)] w0 fun v w' => Agr (fun k => k = rb) w0 w' ∧ Rep w' (fun b => b < w0.heap.size ∧ Y b) (ddVal 9 0 (fun _ => .any 0) (rdBytes true true s).1) [v] ∧ RdrAt w' (fun b => b < w0.heap.size ∧ Y b) rb 118 (rdBytes true true s).2 := by
 obtain ⟨x, hb, hx⟩ := hb
 obtain ⟨px, capx, rfl, hcap⟩ := src_form hx
 refine c_call Tryd.func102 rfl rfl fun a hk => ?_
 have hk : Kn 15 [(0, .pointer (some ⟨rb, 0, none⟩))] a := hk
 have hm : Mem w0 (fun k => k = rb) Y [.blk rb [.slice px ((s.src.getD []).length) capx, .bool s.bad] 118, .rep (ddSrc s.src) [.slice px ((s.src.getD []).length) capx]] w0 := Mem.startBlk hb hY rfl (by simp only [List.forall_mem_cons, List.not_mem_nil, false_imp_iff, implies_true, and_true]; exact hx)
 refine cR0 ?_
 refine oA0 hk rfl rfl fun a hk => ?_
 refine cE0 ?_
 refine cR0 ?_
 refine oM0 hk rfl rfl fun a hk => ?_
 refine o_call hk cb_112 (rdUvarint_c (Y := Yof w0 Y [.blk rb [.slice px ((s.src.getD []).length) capx, .bool s.bad] 118, .rep (ddSrc s.src) [.slice px ((s.src.getD []).length) capx]]) (s := s) ⟨_, hm.blkAt (i := 0) rfl, hm.rep (i := 1) rfl⟩ (yof_blk (i := 0) rfl)) ⟨rfl, trivial⟩ rfl fun v1 w1 a hR hk => ?_
 obtain ⟨hp1, rfl, x1, hb1, hr1⟩ := hR
 obtain ⟨px1, capx1, rfl, hcap1⟩ := src_form hr1
 have hm := hm.blkCall (i := 0) rfl hp1 hb1 hr1
 refine o_convInt (c := ((RS.uv s).1 : Int)) hk un_64 ti_3 rfl (Er.uv_i64 _) rfl fun a hk => ?_
 refine o_iarith (c := (((RS.uv s).1 : Int) - 1)) hk rfl rfl rfl (Er.uv_i64' _) rfl fun a hk => ?_
 refine oA0 hk rfl rfl fun a hk => ?_
 refine cE0 ?_
 refine wp_seq ?_
 refine cR0 ?_
 refine oM0 hk rfl rfl fun a hk => ?_
 refine o_icmp hk rfl rfl rfl rfl fun a hk => ?_
 refine cE0 ?_
 refine c_cond hk rfl (fun hc => ?_) (fun hc => ?_)
 ·have hlen : (rdLen true 4 .i32 s).1 < 0 := of_decide_eq_true hc
  have hn : rdBytes true true s = (ofNil, (rdLen true 4 .i32 s).2) := by unfold rdBytes; rw [if_pos (by simpa using hlen)]
  rw [hn]
  refine cR0 ?_
  refine oA0 hk rfl rfl fun a hk => ?_
  refine cE0 ?_
  refine wp_ret ?_
  refine cQ0 ?_
  refine bT0 rfl hk rfl ?_
  exact ⟨hm.agr, rep_v _, _, hm.blkAt (i := 1) rfl, hm.out (hm.rep (i := 0) rfl)⟩
 ·have hlen : ¬ (rdLen true 4 .i32 s).1 < 0 := of_decide_eq_false hc
  have hn : rdBytes true true s = (ofSpan (RS.span (rdLen true 4 .i32 s).1 (rdLen true 4 .i32 s).2).1, (RS.span (rdLen true 4 .i32 s).1 (rdLen true 4 .i32 s).2).2) := by unfold rdBytes; rw [if_neg (by simpa using hlen), if_neg (by simp)]
  rw [hn]
  refine wp_skip ?_
  refine cT0 ?_
  refine cR0 ?_
  refine oM0 hk rfl rfl fun a hk => ?_
  refine oM0 hk rfl rfl fun a hk => ?_
  refine o_call hk cb_114 (rdSpan_c (((RS.uv s).1 : Int) - 1) (Y := Yof w0 Y [.rep (ddSrc ((RS.uv s).2).src) [.slice px1 (((RS.uv s).2.src.getD []).length) capx1], .blk rb [.slice px1 (((RS.uv s).2.src.getD []).length) capx1, .bool (((RS.uv s).2).bad)] 118, .rep (ddSrc s.src) [.slice px ((s.src.getD []).length) capx]]) (s := ((RS.uv s).2)) ⟨_, hm.blkAt (i := 1) rfl, hm.rep (i := 0) rfl⟩ (yof_blk (i := 1) rfl)) ⟨rfl, rfl, trivial⟩ rfl fun v2 w2 a hR hk => ?_
  obtain ⟨hp2, hv2, x2, hb2, hr2⟩ := hR
  obtain ⟨px2, capx2, rfl, hcap2⟩ := src_form hr2
  have hm := hm.blkCall2 (i := 1) rfl hp2 hb2 hr2 hv2
  refine oA0 hk rfl rfl fun a hk => ?_
  refine cE0 ?_
  refine cR0 ?_
  refine oM0 hk rfl rfl fun a hk => ?_
  refine oA0 hk rfl rfl fun a hk => ?_
  refine cE0 ?_
  refine wp_ret ?_
  refine bT0 rfl hk rfl ?_
  exact ⟨hm.agr, src_field (hm.out (hm.rep (i := 0) rfl)), _, hm.blkAt (i := 3) rfl, hm.out (hm.rep (i := 1) rfl)⟩
end Go.Proofs.YticigmdbfimfbaaDoor
