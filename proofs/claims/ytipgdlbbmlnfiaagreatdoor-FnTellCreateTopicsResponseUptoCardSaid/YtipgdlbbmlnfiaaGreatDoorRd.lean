/- Walks of functions that the seat's laws reach. -/
import Derived.Test.YtipgdlbbmlnfiaaGreatDoorL4
import Derived.Test.YtipgdlbbmlnfiaaGreatDoorRows
import Derived.Test.YtipgdlbbmlnfiaaGreatDoorFa
import Derived.Test.YtipgdlbbmlnfiaaGreatDoorRc
namespace Go.Proofs.YtipgdlbbmlnfiaaGreatDoor
open Go Go.Mk
theorem aHM {gv:Value}:Er.RkOk Tryz.prog 142 .nilIface 1 gv 99 .done:=by
 intro w0 Y rb s hb hG
 obtain⟨x,hb,-⟩:=hb
 refine aAy Tryz.func99 rfl rfl fun a hk=>?_
 have hk:Kn 8 [(0,.pointer (some ⟨rb,0,none⟩))] a:=hk
 refine cR0 ?_
 refine oA0 hk rfl rfl fun a hk=>?_
 refine cE0 ?_
 refine wp_seq ?_
 refine cR0 ?_
 refine oM0 hk rfl rfl fun a hk=>?_
 refine oN0 hk rfl rfl fun a hk=>?_
 refine oF0 hk aEc rfl rfl fun a hk=>?_
 refine aAq hk aHp rfl (show w0.cell? _=some (.bool s.bad) by simp[World.cell?,hb]) rfl fun a hk=>?_
 refine cE0 ?_
 refine aAA hk rfl (fun hc=>?_) (fun hc=>?_)
 ·refine cR0 ?_
  refine aAq hk bBV rfl hG rfl fun a hk=>?_
  refine oA0 hk rfl rfl fun a hk=>?_
  refine cE0 ?_
  refine wp_ret ?_
  refine cQ0 ?_
  refine bT0 rfl hk rfl ?_
  exact⟨rfl,fun h=>(by rw[hc] at h;cases h),fun _=>rfl⟩
 ·refine wp_skip ?_
  refine cT0 ?_
  refine cR0 ?_
  refine oA0 hk rfl rfl fun a hk=>?_
  refine cE0 ?_
  refine wp_ret ?_
  refine bT0 rfl hk rfl ?_
  exact⟨rfl,fun _=>rfl,fun h=>(by rw[hc] at h;cases h)⟩
theorem aVh {w0:World}{Y:Nat→Prop}{b:List UInt8}{x:Value}(hR:Rep w0 Y (aDJ b) [x]):Ret Tryz.prog 145 [x] w0 fun v w'=>v=.string (bs b)∧w'=w0:=by
 refine aAy Tryz.func145 rfl rfl fun a hk=>?_
 have hk:Kn 5 [(0,x)] a:=hk
 refine cR0 ?_
 refine oA0 hk rfl rfl fun a hk=>?_
 refine cE0 ?_
 refine cR0 ?_
 refine oM0 hk rfl rfl fun a hk=>?_
 refine aGk hk aLp aS5 rfl hR rfl fun a hk=>?_
 refine oA0 hk rfl rfl fun a hk=>?_
 refine cE0 ?_
 refine wp_ret ?_
 refine bT0 rfl hk rfl ?_
 exact⟨rfl,rfl⟩
theorem aHF {w0:World}{Y:Nat→Prop}{rb:Nat}{s:RS}(hb:aBx w0 Y rb 142 s)(hY:Y rb):Ret Tryz.prog 97 [.pointer (some ⟨rb,0,none⟩)] w0 fun v w'=>Agr (fun k=>k=rb) w0 w'∧v=.int .i32 (aEp false s).1∧aBx w' (fun b=>b<w0.heap.size∧Y b) rb 142 (aEp false s).2:=by
 obtain⟨x,hb,hx⟩:=hb
 obtain⟨px,capx,rfl,hcap⟩:=aBp hx
 refine aAy Tryz.func97 rfl rfl fun a hk=>?_
 have hk:Kn 21 [(0,.pointer (some ⟨rb,0,none⟩))] a:=hk
 have hm:Mem w0 (fun k=>k=rb) Y [.blk rb [.slice px ((s.src.getD []).length) capx,.bool s.bad] 142,.rep (aBr s.src) [.slice px ((s.src.getD []).length) capx]] w0:=Mem.startBlk hb hY rfl (by simp only[List.forall_mem_cons,List.not_mem_nil,false_imp_iff,implies_true,and_true];exact hx)
 refine cR0 ?_
 refine oA0 hk rfl rfl fun a hk=>?_
 refine cE0 ?_
 refine cR0 ?_
 refine oM0 hk rfl rfl fun a hk=>?_
 refine aAk hk aPD (aJl (Y:=Yof w0 Y [.blk rb [.slice px ((s.src.getD []).length) capx,.bool s.bad] 142,.rep (aBr s.src) [.slice px ((s.src.getD []).length) capx]]) (s:=s) ⟨_,hm.blkAt (i:=0) rfl,hm.rep (i:=1) rfl⟩ (aE2 (i:=0) rfl)) ⟨rfl,trivial⟩ rfl fun v1 w1 a hR hk=>?_
 obtain⟨hp1,rfl,x1,hb1,hr1⟩:=hR
 obtain⟨px1,capx1,rfl,hcap1⟩:=aBp hr1
 have hm:=hm.blkCall (i:=0) rfl hp1 hb1 hr1
 refine oA0 hk rfl rfl fun a hk=>?_
 refine cE0 ?_
 refine wp_seq ?_
 refine cR0 ?_
 refine oM0 hk rfl rfl fun a hk=>?_
 refine oN0 hk rfl rfl fun a hk=>?_
 refine oF0 hk aAV rfl rfl fun a hk=>?_
 refine aAq hk aBy rfl (hm.cell_blk (i:=1) rfl rfl) rfl fun a hk=>?_
 refine oL0 hk aA9 rfl rfl fun a hk=>?_
 refine oM0 hk rfl rfl fun a hk=>?_
 refine aAG (c:=(IntKind.i32.wrap ((RS.num 4 s).1:Int))) hk aI7 aTb rfl (Er.wrap_up (by simp) _) rfl fun a hk=>?_
 refine aAx hk rfl rfl rfl rfl fun a hk=>?_
 refine cE0 ?_
 refine aAA hk rfl (fun hc=>?_) (fun hc=>?_)
 ·have hn:=Er.rdCnt_f s
  rw[if_pos (of_decide_eq_true hc)] at hn
  rw[hn]
  refine cR0 ?_
  refine oM0 hk rfl rfl fun a hk=>?_
  refine oN0 hk rfl rfl fun a hk=>?_
  refine oF0 hk aEc rfl rfl fun a hk=>?_
  refine aAz (i:=1) hk hm aHp rfl rfl rfl rfl rfl rfl (Nat.le_of_ble_eq_true rfl) fun a w hk hm=>?_
  refine cE0 ?_
  refine cR0 ?_
  refine oM0 hk rfl rfl fun a hk=>?_
  refine oN0 hk rfl rfl fun a hk=>?_
  refine oF0 hk aAV rfl rfl fun a hk=>?_
  refine aAz (i:=1) hk hm aBy rfl rfl rfl rfl rfl rfl (Nat.le_of_ble_eq_true rfl) fun a w hk hm=>?_
  refine cE0 ?_
  refine cR0 ?_
  refine oA0 hk rfl rfl fun a hk=>?_
  refine cE0 ?_
  refine wp_ret ?_
  refine cQ0 ?_
  refine bT0 rfl hk rfl ?_
  exact⟨hm.agr,rfl,_,hm.blkAt (i:=1) rfl,aCn _⟩
 ·have hn:=Er.rdCnt_f s
  rw[if_neg (of_decide_eq_false hc)] at hn
  rw[hn]
  refine wp_skip ?_
  refine cT0 ?_
  refine cR0 ?_
  refine oM0 hk rfl rfl fun a hk=>?_
  refine oA0 hk rfl rfl fun a hk=>?_
  refine cE0 ?_
  refine wp_ret ?_
  refine bT0 rfl hk rfl ?_
  exact⟨hm.agr,rfl,_,hm.blkAt (i:=1) rfl,hm.out (hm.rep (i:=0) rfl)⟩
end Go.Proofs.YtipgdlbbmlnfiaaGreatDoor
