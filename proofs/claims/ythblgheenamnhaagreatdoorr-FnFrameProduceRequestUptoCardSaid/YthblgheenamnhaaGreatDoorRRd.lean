/- Walks of functions that the laws of this seat reach. No statement of the seat stands here. -/
import Derived.Test.YthblgheenamnhaaGreatDoorRL4
import Derived.Test.YthblgheenamnhaaGreatDoorRRows
import Derived.Test.YthblgheenamnhaaGreatDoorRFa
import Derived.Test.YthblgheenamnhaaGreatDoorRRc
namespace Go.Proofs.YthblgheenamnhaaGreatDoorR
open Go Go.Mk
theorem rdComplete_c {gv:Value}:Er.RkOk Tryz.prog 109 .nilIface 0 gv 86 .done:=by
 intro w0 Y rb s hb hG
 obtain ⟨x,hb,-⟩:=hb
 refine c_call Tryz.func86 rfl rfl fun a hk=>?_
 have hk:Kn 8 [(0,.pointer (some ⟨rb,0,none⟩))] a:=hk
 refine cR0 ?_
 refine oA0 hk rfl rfl fun a hk=>?_
 refine cE0 ?_
 refine wp_seq ?_
 refine cR0 ?_
 refine oM0 hk rfl rfl fun a hk=>?_
 refine oN0 hk rfl rfl fun a hk=>?_
 refine oF0 hk fo_109_1 rfl rfl fun a hk=>?_
 refine o_load hk ts_4 rfl (show w0.cell? _ = some (.bool s.bad) by simp [World.cell?,hb]) rfl fun a hk=>?_
 refine cE0 ?_
 refine c_cond hk rfl (fun hc=>?_) (fun hc=>?_)
 ·refine cR0 ?_
  refine o_load hk ts_55 rfl hG rfl fun a hk=>?_
  refine oA0 hk rfl rfl fun a hk=>?_
  refine cE0 ?_
  refine wp_ret ?_
  refine cQ0 ?_
  refine bT0 rfl hk rfl ?_
  exact ⟨rfl,fun h=>(by rw [hc] at h; cases h),fun _=>rfl⟩
 ·refine wp_skip ?_
  refine cT0 ?_
  refine cR0 ?_
  refine oA0 hk rfl rfl fun a hk=>?_
  refine cE0 ?_
  refine wp_ret ?_
  refine bT0 rfl hk rfl ?_
  exact ⟨rfl,fun _=>rfl,fun h=>(by rw [hc] at h; cases h)⟩
theorem unsafeString_c {w0:World} {Y:Nat → Prop} {b:List UInt8} {x:Value} (hR:Rep w0 Y (ddBs b) [x]):Ret Tryz.prog 114 [x] w0 fun v w'=>v = .string (bs b) ∧ w' = w0:=by
 refine c_call Tryz.func114 rfl rfl fun a hk=>?_
 have hk:Kn 5 [(0,x)] a:=hk
 refine cR0 ?_
 refine oA0 hk rfl rfl fun a hk=>?_
 refine cE0 ?_
 refine cR0 ?_
 refine oM0 hk rfl rfl fun a hk=>?_
 refine o_bytesToStr hk iy_24 is_9 rfl hR rfl fun a hk=>?_
 refine oA0 hk rfl rfl fun a hk=>?_
 refine cE0 ?_
 refine wp_ret ?_
 refine bT0 rfl hk rfl ?_
 exact ⟨rfl,rfl⟩
theorem rdArrayLen_c {w0:World} {Y:Nat → Prop} {rb:Nat} {s:RS} (hb:RdrAt w0 Y rb 109 s) (hY:Y rb):Ret Tryz.prog 84 [.pointer (some ⟨rb,0,none⟩)] w0 fun v w'=>Agr (fun k=>k = rb) w0 w' ∧ v = .int .i32 (rdCnt false s).1 ∧ RdrAt w' (fun b=>b < w0.heap.size ∧ Y b) rb 109 (rdCnt false s).2:=by
 obtain ⟨x,hb,hx⟩:=hb
 obtain ⟨px,capx,rfl,hcap⟩:=src_form hx
 refine c_call Tryz.func84 rfl rfl fun a hk=>?_
 have hk:Kn 21 [(0,.pointer (some ⟨rb,0,none⟩))] a:=hk
 have hm:Mem w0 (fun k=>k = rb) Y [.blk rb [.slice px ((s.src.getD []).length) capx,.bool s.bad] 109,.rep (ddSrc s.src) [.slice px ((s.src.getD []).length) capx]] w0:=Mem.startBlk hb hY rfl (by simp only [List.forall_mem_cons,List.not_mem_nil,false_imp_iff,implies_true,and_true]; exact hx)
 refine cR0 ?_
 refine oA0 hk rfl rfl fun a hk=>?_
 refine cE0 ?_
 refine cR0 ?_
 refine oM0 hk rfl rfl fun a hk=>?_
 refine o_call hk cb_90 (rdInt32_c (Y:=Yof w0 Y [.blk rb [.slice px ((s.src.getD []).length) capx,.bool s.bad] 109,.rep (ddSrc s.src) [.slice px ((s.src.getD []).length) capx]]) (s:=s) ⟨_,hm.blkAt (i:=0) rfl,hm.rep (i:=1) rfl⟩ (yof_blk (i:=0) rfl)) ⟨rfl,trivial⟩ rfl fun v1 w1 a hR hk=>?_
 obtain ⟨hp1,rfl,x1,hb1,hr1⟩:=hR
 obtain ⟨px1,capx1,rfl,hcap1⟩:=src_form hr1
 have hm:=hm.blkCall (i:=0) rfl hp1 hb1 hr1
 refine oA0 hk rfl rfl fun a hk=>?_
 refine cE0 ?_
 refine wp_seq ?_
 refine cR0 ?_
 refine oM0 hk rfl rfl fun a hk=>?_
 refine oN0 hk rfl rfl fun a hk=>?_
 refine oF0 hk fo_109_0 rfl rfl fun a hk=>?_
 refine o_load hk ts_24 rfl (hm.cell_blk (i:=1) rfl rfl) rfl fun a hk=>?_
 refine oL0 hk te_24 rfl rfl fun a hk=>?_
 refine oM0 hk rfl rfl fun a hk=>?_
 refine o_convInt (c:=(IntKind.i32.wrap ((RS.num 4 s).1:Int))) hk un_21 ti_3 rfl (Er.wrap_up (by simp) _) rfl fun a hk=>?_
 refine o_icmp hk rfl rfl rfl rfl fun a hk=>?_
 refine cE0 ?_
 refine c_cond hk rfl (fun hc=>?_) (fun hc=>?_)
 ·have hn:=Er.rdCnt_f s
  rw [if_pos (of_decide_eq_true hc)] at hn
  rw [hn]
  refine cR0 ?_
  refine oM0 hk rfl rfl fun a hk=>?_
  refine oN0 hk rfl rfl fun a hk=>?_
  refine oF0 hk fo_109_1 rfl rfl fun a hk=>?_
  refine o_store (i:=1) hk hm ts_4 rfl rfl rfl rfl rfl rfl (Nat.le_of_ble_eq_true rfl) fun a w hk hm=>?_
  refine cE0 ?_
  refine cR0 ?_
  refine oM0 hk rfl rfl fun a hk=>?_
  refine oN0 hk rfl rfl fun a hk=>?_
  refine oF0 hk fo_109_0 rfl rfl fun a hk=>?_
  refine o_store (i:=1) hk hm ts_24 rfl rfl rfl rfl rfl rfl (Nat.le_of_ble_eq_true rfl) fun a w hk hm=>?_
  refine cE0 ?_
  refine cR0 ?_
  refine oA0 hk rfl rfl fun a hk=>?_
  refine cE0 ?_
  refine wp_ret ?_
  refine cQ0 ?_
  refine bT0 rfl hk rfl ?_
  exact ⟨hm.agr,rfl,_,hm.blkAt (i:=1) rfl,rep_v _⟩
 ·have hn:=Er.rdCnt_f s
  rw [if_neg (of_decide_eq_false hc)] at hn
  rw [hn]
  refine wp_skip ?_
  refine cT0 ?_
  refine cR0 ?_
  refine oM0 hk rfl rfl fun a hk=>?_
  refine oA0 hk rfl rfl fun a hk=>?_
  refine cE0 ?_
  refine wp_ret ?_
  refine bT0 rfl hk rfl ?_
  exact ⟨hm.agr,rfl,_,hm.blkAt (i:=1) rfl,hm.out (hm.rep (i:=0) rfl)⟩
end Go.Proofs.YthblgheenamnhaaGreatDoorR
