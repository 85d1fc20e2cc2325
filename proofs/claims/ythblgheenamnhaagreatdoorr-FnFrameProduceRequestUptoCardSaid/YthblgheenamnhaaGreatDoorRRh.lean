/- Walks of functions that the laws of this seat reach. No statement of the seat stands here. -/
import Derived.Test.YthblgheenamnhaaGreatDoorRL4
import Derived.Test.YthblgheenamnhaaGreatDoorRRows
import Derived.Test.YthblgheenamnhaaGreatDoorRFa
import Derived.Test.YthblgheenamnhaaGreatDoorRRg
namespace Go.Proofs.YthblgheenamnhaaGreatDoorR
open Go Go.Mk
theorem rdCompactString_c {w0:World} {Y:Nat → Prop} {rb:Nat} {s:RS} (hb:RdrAt w0 Y rb 109 s) (hY:Y rb):Ret Tryz.prog 81 [.pointer (some ⟨rb,0,none⟩)] w0 fun v w'=>Agr (fun k=>k = rb) w0 w' ∧ v = .string (bs ((RS.span (rdLen true 2 .i16 s).1 (rdLen true 2 .i16 s).2).1.getD [])) ∧ RdrAt w' (fun b=>b < w0.heap.size ∧ Y b) rb 109 (RS.span (rdLen true 2 .i16 s).1 (rdLen true 2 .i16 s).2).2:=by
 obtain ⟨x,hb,hx⟩:=hb
 obtain ⟨px,capx,rfl,hcap⟩:=src_form hx
 refine c_call Tryz.func81 rfl rfl fun a hk=>?_
 have hk:Kn 12 [(0,.pointer (some ⟨rb,0,none⟩))] a:=hk
 have hm:Mem w0 (fun k=>k = rb) Y [.blk rb [.slice px ((s.src.getD []).length) capx,.bool s.bad] 109,.rep (ddSrc s.src) [.slice px ((s.src.getD []).length) capx]] w0:=Mem.startBlk hb hY rfl (by simp only [List.forall_mem_cons,List.not_mem_nil,false_imp_iff,implies_true,and_true]; exact hx)
 refine cR0 ?_
 refine oA0 hk rfl rfl fun a hk=>?_
 refine cE0 ?_
 refine cR0 ?_
 refine oM0 hk rfl rfl fun a hk=>?_
 refine o_call hk cb_113 (rdUvarint_c (Y:=Yof w0 Y [.blk rb [.slice px ((s.src.getD []).length) capx,.bool s.bad] 109,.rep (ddSrc s.src) [.slice px ((s.src.getD []).length) capx]]) (s:=s) ⟨_,hm.blkAt (i:=0) rfl,hm.rep (i:=1) rfl⟩ (yof_blk (i:=0) rfl)) ⟨rfl,trivial⟩ rfl fun v1 w1 a hR hk=>?_
 obtain ⟨hp1,rfl,x1,hb1,hr1⟩:=hR
 obtain ⟨px1,capx1,rfl,hcap1⟩:=src_form hr1
 have hm:=hm.blkCall (i:=0) rfl hp1 hb1 hr1
 refine o_convInt (c:=((RS.uv s).1:Int)) hk un_65 ti_3 rfl (Er.uv_i64 _) rfl fun a hk=>?_
 refine o_iarith (c:=(((RS.uv s).1:Int) - 1)) hk rfl rfl rfl (Er.uv_i64' _) rfl fun a hk=>?_
 refine oA0 hk rfl rfl fun a hk=>?_
 refine cE0 ?_
 refine cR0 ?_
 refine oM0 hk rfl rfl fun a hk=>?_
 refine oM0 hk rfl rfl fun a hk=>?_
 refine o_call hk cb_115 (rdSpan_c (((RS.uv s).1:Int) - 1) (Y:=Yof w0 Y [.rep (ddSrc ((RS.uv s).2).src) [.slice px1 (((RS.uv s).2.src.getD []).length) capx1],.blk rb [.slice px1 (((RS.uv s).2.src.getD []).length) capx1,.bool (((RS.uv s).2).bad)] 109,.rep (ddSrc s.src) [.slice px ((s.src.getD []).length) capx]]) (s:=((RS.uv s).2)) ⟨_,hm.blkAt (i:=1) rfl,hm.rep (i:=0) rfl⟩ (yof_blk (i:=1) rfl)) ⟨rfl,rfl,trivial⟩ rfl fun v2 w2 a hR hk=>?_
 obtain ⟨hp2,hv2,x2,hb2,hr2⟩:=hR
 obtain ⟨px2,capx2,rfl,hcap2⟩:=src_form hr2
 have hm:=hm.blkCall2 (i:=1) rfl hp2 hb2 hr2 hv2
 refine o_bytesToStr hk iy_24 is_9 rfl (src_bytes (hm.rep (i:=0) rfl)) rfl fun a hk=>?_
 refine oA0 hk rfl rfl fun a hk=>?_
 refine cE0 ?_
 refine wp_ret ?_
 refine bT0 rfl hk rfl ?_
 exact ⟨hm.agr,rfl,_,hm.blkAt (i:=3) rfl,hm.out (hm.rep (i:=1) rfl)⟩
theorem rdCompactNullableString_c {w0:World} {Y:Nat → Prop} {rb:Nat} {s:RS} (hb:RdrAt w0 Y rb 109 s) (hY:Y rb):Ret Tryz.prog 101 [.pointer (some ⟨rb,0,none⟩)] w0 fun v w'=>Agr (fun k=>k = rb) w0 w' ∧ Rep w' (fun b=>b < w0.heap.size ∧ Y b) (if (rdText true true s).1.z then .v (.pointer none) else .ptr (.v (.string (bs (rdText true true s).1.s)))) [v] ∧ RdrAt w' (fun b=>b < w0.heap.size ∧ Y b) rb 109 (rdText true true s).2:=by
 obtain ⟨x,hb,hx⟩:=hb
 obtain ⟨px,capx,rfl,hcap⟩:=src_form hx
 refine c_call Tryz.func101 rfl rfl fun a hk=>?_
 have hk:Kn 15 [(0,.pointer (some ⟨rb,0,none⟩))] a:=hk
 have hm:Mem w0 (fun k=>k = rb) Y [.blk rb [.slice px ((s.src.getD []).length) capx,.bool s.bad] 109,.rep (ddSrc s.src) [.slice px ((s.src.getD []).length) capx]] w0:=Mem.startBlk hb hY rfl (by simp only [List.forall_mem_cons,List.not_mem_nil,false_imp_iff,implies_true,and_true]; exact hx)
 refine cR0 ?_
 refine oA0 hk rfl rfl fun a hk=>?_
 refine cE0 ?_
 refine cR0 ?_
 refine oM0 hk rfl rfl fun a hk=>?_
 refine o_call hk cb_113 (rdUvarint_c (Y:=Yof w0 Y [.blk rb [.slice px ((s.src.getD []).length) capx,.bool s.bad] 109,.rep (ddSrc s.src) [.slice px ((s.src.getD []).length) capx]]) (s:=s) ⟨_,hm.blkAt (i:=0) rfl,hm.rep (i:=1) rfl⟩ (yof_blk (i:=0) rfl)) ⟨rfl,trivial⟩ rfl fun v1 w1 a hR hk=>?_
 obtain ⟨hp1,rfl,x1,hb1,hr1⟩:=hR
 obtain ⟨px1,capx1,rfl,hcap1⟩:=src_form hr1
 have hm:=hm.blkCall (i:=0) rfl hp1 hb1 hr1
 refine o_convInt (c:=((RS.uv s).1:Int)) hk un_65 ti_3 rfl (Er.uv_i64 _) rfl fun a hk=>?_
 refine o_iarith (c:=(((RS.uv s).1:Int) - 1)) hk rfl rfl rfl (Er.uv_i64' _) rfl fun a hk=>?_
 refine oA0 hk rfl rfl fun a hk=>?_
 refine cE0 ?_
 refine wp_seq ?_
 refine cR0 ?_
 refine oM0 hk rfl rfl fun a hk=>?_
 refine o_icmp hk rfl rfl rfl rfl fun a hk=>?_
 refine cE0 ?_
 refine c_cond hk rfl (fun hc=>?_) (fun hc=>?_)
 ·have hlen:(rdLen true 2 .i16 s).1 < 0:=of_decide_eq_true hc
  have hn:rdText true true s = (ofNil,(rdLen true 2 .i16 s).2):=by unfold rdText; rw [if_pos (by simpa using hlen)]
  rw [hn]
  refine cR0 ?_
  refine oA0 hk rfl rfl fun a hk=>?_
  refine cE0 ?_
  refine wp_ret ?_
  refine cQ0 ?_
  refine bT0 rfl hk rfl ?_
  exact ⟨hm.agr,rep_v _,_,hm.blkAt (i:=1) rfl,hm.out (hm.rep (i:=0) rfl)⟩
 ·have hlen : ¬ (rdLen true 2 .i16 s).1 < 0:=of_decide_eq_false hc
  have hn:rdText true true s = (ofOct ((RS.span (rdLen true 2 .i16 s).1 (rdLen true 2 .i16 s).2).1.getD []),(RS.span (rdLen true 2 .i16 s).1 (rdLen true 2 .i16 s).2).2):=by unfold rdText; rw [if_neg (by simpa using hlen)]
  rw [hn]
  refine wp_skip ?_
  refine cT0 ?_
  refine cR0 ?_
  refine oM0 hk rfl rfl fun a hk=>?_
  refine oM0 hk rfl rfl fun a hk=>?_
  refine o_call hk cb_115 (rdSpan_c (((RS.uv s).1:Int) - 1) (Y:=Yof w0 Y [.rep (ddSrc ((RS.uv s).2).src) [.slice px1 (((RS.uv s).2.src.getD []).length) capx1],.blk rb [.slice px1 (((RS.uv s).2.src.getD []).length) capx1,.bool (((RS.uv s).2).bad)] 109,.rep (ddSrc s.src) [.slice px ((s.src.getD []).length) capx]]) (s:=((RS.uv s).2)) ⟨_,hm.blkAt (i:=1) rfl,hm.rep (i:=0) rfl⟩ (yof_blk (i:=1) rfl)) ⟨rfl,rfl,trivial⟩ rfl fun v2 w2 a hR hk=>?_
  obtain ⟨hp2,hv2,x2,hb2,hr2⟩:=hR
  obtain ⟨px2,capx2,rfl,hcap2⟩:=src_form hr2
  have hm:=hm.blkCall2 (i:=1) rfl hp2 hb2 hr2 hv2
  refine o_bytesToStr hk iy_24 is_9 rfl (src_bytes (hm.rep (i:=0) rfl)) rfl fun a hk=>?_
  refine o_alloc hk hm tz_9 rfl rfl fun a b1 w hk hm=>?_
  refine o_store (i:=0) hk hm ts_9 rfl rfl rfl rfl rfl rfl (Nat.le_of_ble_eq_true rfl) fun a w hk hm=>?_
  refine cE0 ?_
  refine cR0 ?_
  refine oA0 hk rfl rfl fun a hk=>?_
  refine cE0 ?_
  refine wp_ret ?_
  refine bT0 rfl hk rfl ?_
  exact ⟨hm.agr,hm.boxOut (i:=0) (j:=4) rfl rfl rfl (rep_v _),_,hm.blkAt (i:=4) rfl,hm.out (hm.rep (i:=2) rfl)⟩
theorem rdCompactBytes_c {w0:World} {Y:Nat → Prop} {rb:Nat} {s:RS} (hb:RdrAt w0 Y rb 109 s) (hY:Y rb):Ret Tryz.prog 105 [.pointer (some ⟨rb,0,none⟩)] w0 fun v w'=>Agr (fun k=>k = rb) w0 w' ∧ Rep w' (fun b=>b < w0.heap.size ∧ Y b) (ddVal 9 0 (fun _=>.any 0) (rdBytes false true s).1) [v] ∧ RdrAt w' (fun b=>b < w0.heap.size ∧ Y b) rb 109 (rdBytes false true s).2:=by
 obtain ⟨x,hb,hx⟩:=hb
 obtain ⟨px,capx,rfl,hcap⟩:=src_form hx
 refine c_call Tryz.func105 rfl rfl fun a hk=>?_
 have hk:Kn 14 [(0,.pointer (some ⟨rb,0,none⟩))] a:=hk
 have hm:Mem w0 (fun k=>k = rb) Y [.blk rb [.slice px ((s.src.getD []).length) capx,.bool s.bad] 109,.rep (ddSrc s.src) [.slice px ((s.src.getD []).length) capx]] w0:=Mem.startBlk hb hY rfl (by simp only [List.forall_mem_cons,List.not_mem_nil,false_imp_iff,implies_true,and_true]; exact hx)
 refine cR0 ?_
 refine oA0 hk rfl rfl fun a hk=>?_
 refine cE0 ?_
 refine cR0 ?_
 refine oM0 hk rfl rfl fun a hk=>?_
 refine o_call hk cb_113 (rdUvarint_c (Y:=Yof w0 Y [.blk rb [.slice px ((s.src.getD []).length) capx,.bool s.bad] 109,.rep (ddSrc s.src) [.slice px ((s.src.getD []).length) capx]]) (s:=s) ⟨_,hm.blkAt (i:=0) rfl,hm.rep (i:=1) rfl⟩ (yof_blk (i:=0) rfl)) ⟨rfl,trivial⟩ rfl fun v1 w1 a hR hk=>?_
 obtain ⟨hp1,rfl,x1,hb1,hr1⟩:=hR
 obtain ⟨px1,capx1,rfl,hcap1⟩:=src_form hr1
 have hm:=hm.blkCall (i:=0) rfl hp1 hb1 hr1
 refine o_convInt (c:=((RS.uv s).1:Int)) hk un_65 ti_3 rfl (Er.uv_i64 _) rfl fun a hk=>?_
 refine o_iarith (c:=(((RS.uv s).1:Int) - 1)) hk rfl rfl rfl (Er.uv_i64' _) rfl fun a hk=>?_
 refine oA0 hk rfl rfl fun a hk=>?_
 refine cE0 ?_
 refine wp_seq ?_
 refine cR0 ?_
 refine oM0 hk rfl rfl fun a hk=>?_
 refine o_icmp hk rfl rfl rfl rfl fun a hk=>?_
 refine cE0 ?_
 refine c_cond hk rfl (fun hc=>?_) (fun hc=>?_)
 ·have hlen:(rdLen true 4 .i32 s).1 = -1:=by have h:=hc; simp only [beq_iff_eq] at h; exact h
  have hn:rdBytes false true s = (ofOct [],(rdLen true 4 .i32 s).2):=by unfold rdBytes; rw [if_neg (by simp),if_pos (by simp [hlen])]
  rw [hn]
  refine cR0 ?_
  refine o_buildSlice0 hk hm te_24 ts_5 rfl fun a b1 w hk hm=>?_
  refine oA0 hk rfl rfl fun a hk=>?_
  refine cE0 ?_
  refine wp_ret ?_
  refine cQ0 ?_
  refine bT0 rfl hk rfl ?_
  exact ⟨hm.agr,(by simp only [ddVal,ofOct,T.z,T.s,Rep]; exact .inl ⟨rfl,_,rfl,fun _ h=>by cases h⟩),_,hm.blkAt (i:=2) rfl,hm.out (hm.rep (i:=1) rfl)⟩
 ·have hlen : ¬ (rdLen true 4 .i32 s).1 = -1:=by have h:=hc; simp only [beq_eq_false_iff_ne,ne_eq] at h; exact h
  have hn:rdBytes false true s = (ofSpan (RS.span (rdLen true 4 .i32 s).1 (rdLen true 4 .i32 s).2).1,(RS.span (rdLen true 4 .i32 s).1 (rdLen true 4 .i32 s).2).2):=by unfold rdBytes; rw [if_neg (by simp),if_neg (by simp [hlen])]
  rw [hn]
  refine wp_skip ?_
  refine cT0 ?_
  refine cR0 ?_
  refine oM0 hk rfl rfl fun a hk=>?_
  refine oM0 hk rfl rfl fun a hk=>?_
  refine o_call hk cb_115 (rdSpan_c (((RS.uv s).1:Int) - 1) (Y:=Yof w0 Y [.rep (ddSrc ((RS.uv s).2).src) [.slice px1 (((RS.uv s).2.src.getD []).length) capx1],.blk rb [.slice px1 (((RS.uv s).2.src.getD []).length) capx1,.bool (((RS.uv s).2).bad)] 109,.rep (ddSrc s.src) [.slice px ((s.src.getD []).length) capx]]) (s:=((RS.uv s).2)) ⟨_,hm.blkAt (i:=1) rfl,hm.rep (i:=0) rfl⟩ (yof_blk (i:=1) rfl)) ⟨rfl,rfl,trivial⟩ rfl fun v2 w2 a hR hk=>?_
  obtain ⟨hp2,hv2,x2,hb2,hr2⟩:=hR
  obtain ⟨px2,capx2,rfl,hcap2⟩:=src_form hr2
  have hm:=hm.blkCall2 (i:=1) rfl hp2 hb2 hr2 hv2
  refine oA0 hk rfl rfl fun a hk=>?_
  refine cE0 ?_
  refine wp_ret ?_
  refine bT0 rfl hk rfl ?_
  exact ⟨hm.agr,src_field (hm.out (hm.rep (i:=0) rfl)),_,hm.blkAt (i:=3) rfl,hm.out (hm.rep (i:=1) rfl)⟩
theorem rdCompactNullableBytes_c {w0:World} {Y:Nat → Prop} {rb:Nat} {s:RS} (hb:RdrAt w0 Y rb 109 s) (hY:Y rb):Ret Tryz.prog 111 [.pointer (some ⟨rb,0,none⟩)] w0 fun v w'=>Agr (fun k=>k = rb) w0 w' ∧ Rep w' (fun b=>b < w0.heap.size ∧ Y b) (ddVal 9 0 (fun _=>.any 0) (rdBytes true true s).1) [v] ∧ RdrAt w' (fun b=>b < w0.heap.size ∧ Y b) rb 109 (rdBytes true true s).2:=by
 obtain ⟨x,hb,hx⟩:=hb
 obtain ⟨px,capx,rfl,hcap⟩:=src_form hx
 refine c_call Tryz.func111 rfl rfl fun a hk=>?_
 have hk:Kn 15 [(0,.pointer (some ⟨rb,0,none⟩))] a:=hk
 have hm:Mem w0 (fun k=>k = rb) Y [.blk rb [.slice px ((s.src.getD []).length) capx,.bool s.bad] 109,.rep (ddSrc s.src) [.slice px ((s.src.getD []).length) capx]] w0:=Mem.startBlk hb hY rfl (by simp only [List.forall_mem_cons,List.not_mem_nil,false_imp_iff,implies_true,and_true]; exact hx)
 refine cR0 ?_
 refine oA0 hk rfl rfl fun a hk=>?_
 refine cE0 ?_
 refine cR0 ?_
 refine oM0 hk rfl rfl fun a hk=>?_
 refine o_call hk cb_113 (rdUvarint_c (Y:=Yof w0 Y [.blk rb [.slice px ((s.src.getD []).length) capx,.bool s.bad] 109,.rep (ddSrc s.src) [.slice px ((s.src.getD []).length) capx]]) (s:=s) ⟨_,hm.blkAt (i:=0) rfl,hm.rep (i:=1) rfl⟩ (yof_blk (i:=0) rfl)) ⟨rfl,trivial⟩ rfl fun v1 w1 a hR hk=>?_
 obtain ⟨hp1,rfl,x1,hb1,hr1⟩:=hR
 obtain ⟨px1,capx1,rfl,hcap1⟩:=src_form hr1
 have hm:=hm.blkCall (i:=0) rfl hp1 hb1 hr1
 refine o_convInt (c:=((RS.uv s).1:Int)) hk un_65 ti_3 rfl (Er.uv_i64 _) rfl fun a hk=>?_
 refine o_iarith (c:=(((RS.uv s).1:Int) - 1)) hk rfl rfl rfl (Er.uv_i64' _) rfl fun a hk=>?_
 refine oA0 hk rfl rfl fun a hk=>?_
 refine cE0 ?_
 refine wp_seq ?_
 refine cR0 ?_
 refine oM0 hk rfl rfl fun a hk=>?_
 refine o_icmp hk rfl rfl rfl rfl fun a hk=>?_
 refine cE0 ?_
 refine c_cond hk rfl (fun hc=>?_) (fun hc=>?_)
 ·have hlen:(rdLen true 4 .i32 s).1 < 0:=of_decide_eq_true hc
  have hn:rdBytes true true s = (ofNil,(rdLen true 4 .i32 s).2):=by unfold rdBytes; rw [if_pos (by simpa using hlen)]
  rw [hn]
  refine cR0 ?_
  refine oA0 hk rfl rfl fun a hk=>?_
  refine cE0 ?_
  refine wp_ret ?_
  refine cQ0 ?_
  refine bT0 rfl hk rfl ?_
  exact ⟨hm.agr,rep_v _,_,hm.blkAt (i:=1) rfl,hm.out (hm.rep (i:=0) rfl)⟩
 ·have hlen : ¬ (rdLen true 4 .i32 s).1 < 0:=of_decide_eq_false hc
  have hn:rdBytes true true s = (ofSpan (RS.span (rdLen true 4 .i32 s).1 (rdLen true 4 .i32 s).2).1,(RS.span (rdLen true 4 .i32 s).1 (rdLen true 4 .i32 s).2).2):=by unfold rdBytes; rw [if_neg (by simpa using hlen),if_neg (by simp)]
  rw [hn]
  refine wp_skip ?_
  refine cT0 ?_
  refine cR0 ?_
  refine oM0 hk rfl rfl fun a hk=>?_
  refine oM0 hk rfl rfl fun a hk=>?_
  refine o_call hk cb_115 (rdSpan_c (((RS.uv s).1:Int) - 1) (Y:=Yof w0 Y [.rep (ddSrc ((RS.uv s).2).src) [.slice px1 (((RS.uv s).2.src.getD []).length) capx1],.blk rb [.slice px1 (((RS.uv s).2.src.getD []).length) capx1,.bool (((RS.uv s).2).bad)] 109,.rep (ddSrc s.src) [.slice px ((s.src.getD []).length) capx]]) (s:=((RS.uv s).2)) ⟨_,hm.blkAt (i:=1) rfl,hm.rep (i:=0) rfl⟩ (yof_blk (i:=1) rfl)) ⟨rfl,rfl,trivial⟩ rfl fun v2 w2 a hR hk=>?_
  obtain ⟨hp2,hv2,x2,hb2,hr2⟩:=hR
  obtain ⟨px2,capx2,rfl,hcap2⟩:=src_form hr2
  have hm:=hm.blkCall2 (i:=1) rfl hp2 hb2 hr2 hv2
  refine oA0 hk rfl rfl fun a hk=>?_
  refine cE0 ?_
  refine cR0 ?_
  refine oM0 hk rfl rfl fun a hk=>?_
  refine oA0 hk rfl rfl fun a hk=>?_
  refine cE0 ?_
  refine wp_ret ?_
  refine bT0 rfl hk rfl ?_
  exact ⟨hm.agr,src_field (hm.out (hm.rep (i:=0) rfl)),_,hm.blkAt (i:=3) rfl,hm.out (hm.rep (i:=1) rfl)⟩
theorem rdInt8_c {w0:World} {Y:Nat → Prop} {rb:Nat} {s:RS} (hb:RdrAt w0 Y rb 109 s) (hY:Y rb):Ret Tryz.prog 93 [.pointer (some ⟨rb,0,none⟩)] w0 fun v w'=>Agr (fun k=>k = rb) w0 w' ∧ v = .int .i8 (IntKind.i8.wrap ((RS.num 1 s).1:Int)) ∧ RdrAt w' (fun b=>b < w0.heap.size ∧ Y b) rb 109 (RS.num 1 s).2:=by
 obtain ⟨x,hb,hx⟩:=hb
 obtain ⟨px,capx,rfl,hcap⟩:=src_form hx
 refine c_call Tryz.func93 rfl rfl fun a hk=>?_
 have hk:Kn 32 [(0,.pointer (some ⟨rb,0,none⟩))] a:=hk
 have hm:Mem w0 (fun k=>k = rb) Y [.blk rb [.slice px ((s.src.getD []).length) capx,.bool s.bad] 109,.rep (ddSrc s.src) [.slice px ((s.src.getD []).length) capx]] w0:=Mem.startBlk hb hY rfl (by simp only [List.forall_mem_cons,List.not_mem_nil,false_imp_iff,implies_true,and_true]; exact hx)
 refine cR0 ?_
 refine oA0 hk rfl rfl fun a hk=>?_
 refine cE0 ?_
 refine wp_seq ?_
 refine cR0 ?_
 refine oM0 hk rfl rfl fun a hk=>?_
 refine oN0 hk rfl rfl fun a hk=>?_
 refine oF0 hk fo_109_0 rfl rfl fun a hk=>?_
 refine o_load hk ts_24 rfl (hm.cell_blk (i:=0) rfl rfl) rfl fun a hk=>?_
 refine oL0 hk te_24 rfl rfl fun a hk=>?_
 refine o_icmp hk rfl rfl rfl rfl fun a hk=>?_
 refine cE0 ?_
 refine c_cond hk rfl (fun hc=>?_) (fun hc=>?_)
 ·have hlt:s.l.length < 1:=by have:=of_decide_eq_true hc; unfold RS.l; omega
  have hn:RS.num 1 s = (0,RS.fail):=by unfold RS.num; rw [if_pos hlt]
  rw [hn]
  refine cR0 ?_
  refine oM0 hk rfl rfl fun a hk=>?_
  refine oN0 hk rfl rfl fun a hk=>?_
  refine oF0 hk fo_109_1 rfl rfl fun a hk=>?_
  refine o_store (i:=0) hk hm ts_4 rfl rfl rfl rfl rfl rfl (Nat.le_of_ble_eq_true rfl) fun a w hk hm=>?_
  refine cE0 ?_
  refine cR0 ?_
  refine oM0 hk rfl rfl fun a hk=>?_
  refine oN0 hk rfl rfl fun a hk=>?_
  refine oF0 hk fo_109_0 rfl rfl fun a hk=>?_
  refine o_store (i:=0) hk hm ts_24 rfl rfl rfl rfl rfl rfl (Nat.le_of_ble_eq_true rfl) fun a w hk hm=>?_
  refine cE0 ?_
  refine cR0 ?_
  refine oA0 hk rfl rfl fun a hk=>?_
  refine cE0 ?_
  refine wp_ret ?_
  refine cQ0 ?_
  refine bT0 rfl hk rfl ?_
  exact ⟨hm.agr,rfl,_,hm.blkAt (i:=0) rfl,rep_v _⟩
 ·have hge : 1 ≤ (s.src.getD []).length:=by have:=of_decide_eq_false hc; omega
  obtain ⟨l,hl⟩ : ∃ l,s.src = some l:=by cases h:s.src with | none=>rw [h] at hge; simp at hge | some l=>exact ⟨l,rfl⟩
  have hn:RS.num 1 s = (be (l.take 1),⟨some (l.drop 1),s.bad⟩):=by unfold RS.num RS.l; rw [if_neg (by omega),hl]; rfl
  rw [hn]
  simp only [hl,Option.getD_some] at hge hcap hm hk
  have hbe:=Er.be_take1 hge
  obtain ⟨bs_,off,cap,hpx,-,hC⟩ : ∃ b off cap,Value.slice px l.length capx = .slice (some ⟨b,off,none⟩) l.length cap ∧ l.length ≤ cap ∧ Cel w0 (Yof w0 Y [.blk rb [.slice px l.length capx,.bool s.bad] 109,.rep (ddSrc (some l)) [.slice px l.length capx]]) b off (bv l):=by
   rcases src_some (hm.rep (i:=1) rfl) with ⟨h0,_⟩ | h
   ·rw [h0] at hge; simp at hge
   ·exact h
  obtain ⟨rfl,-,rfl⟩:=Value.slice.inj hpx
  have hm:=hm.add (e:=.cel bs_ off (bv l)) rfl hC
  refine wp_skip ?_
  refine cT0 ?_
  refine cR0 ?_
  refine oM0 hk rfl rfl fun a hk=>?_
  refine oN0 hk rfl rfl fun a hk=>?_
  refine oF0 hk fo_109_0 rfl rfl fun a hk=>?_
  refine o_load hk ts_24 rfl (hm.cell_blk (i:=1) rfl rfl) rfl fun a hk=>?_
  refine oI0 (j:=0) hk te_24 ts_5 rfl rfl (by omega) rfl fun a hk=>?_
  refine o_load hk ts_5 rfl (hm.cell_cel (i:=0) (j:=0) rfl (bv_get (by omega))) rfl fun a hk=>?_
  refine oA0 hk rfl rfl fun a hk=>?_
  refine cE0 ?_
  refine cR0 ?_
  refine oM0 hk rfl rfl fun a hk=>?_
  refine oM0 hk rfl rfl fun a hk=>?_
  refine oN0 hk rfl rfl fun a hk=>?_
  refine oF0 hk fo_109_0 rfl rfl fun a hk=>?_
  refine o_load hk ts_24 rfl (hm.cell_blk (i:=1) rfl rfl) rfl fun a hk=>?_
  refine o_sliceFrom (k:=1) hk te_24 ts_5 rfl rfl hge rfl fun a hk=>?_
  refine oN0 hk rfl rfl fun a hk=>?_
  refine oF0 hk fo_109_0 rfl rfl fun a hk=>?_
  refine o_store (i:=1) hk hm ts_24 rfl rfl (cells1 (rfl)) rfl rfl rfl (Nat.le_of_ble_eq_true rfl) fun a w hk hm=>?_
  refine cE0 ?_
  refine cR0 ?_
  refine oM0 hk rfl rfl fun a hk=>?_
  refine o_convInt (c:=IntKind.i8.wrap (((l.getD 0 0).toNat:Nat):Int)) hk un_5 ti_126 rfl rfl rfl fun a hk=>?_
  refine oA0 hk rfl rfl fun a hk=>?_
  refine cE0 ?_
  refine wp_ret ?_
  refine bT0 rfl hk rfl ?_
  exact ⟨hm.agr,by rw [hbe],_,hm.blkAt (i:=1) rfl,hm.out (src_from (o:=some l) (hm.rep (i:=2) rfl) hge)⟩
end Go.Proofs.YthblgheenamnhaaGreatDoorR
