/- Walks of functions that the seat's laws reach. -/
import Derived.Test.YtipgdlbbmlnfiaaGreatDoorL4
import Derived.Test.YtipgdlbbmlnfiaaGreatDoorRows
import Derived.Test.YtipgdlbbmlnfiaaGreatDoorFa
import Derived.Test.YtipgdlbbmlnfiaaGreatDoorRd
namespace Go.Proofs.YtipgdlbbmlnfiaaGreatDoor
open Go Go.Mk
theorem aJQ {w0:World}{Y:Nat→Prop}{rb:Nat}{s:RS}(hb:aBx w0 Y rb 142 s)(hY:Y rb):Ret Tryz.prog 104 [.pointer (some ⟨rb,0,none⟩)] w0 fun v w'=>Agr (fun k=>k=rb) w0 w'∧v=.string (bs ((RS.span (aC6 false 2 .i16 s).1 (aC6 false 2 .i16 s).2).1.getD []))∧aBx w' (fun b=>b<w0.heap.size∧Y b) rb 142 (RS.span (aC6 false 2 .i16 s).1 (aC6 false 2 .i16 s).2).2:=by
 obtain⟨x,hb,hx⟩:=hb
 obtain⟨px,capx,rfl,hcap⟩:=aBp hx
 refine aAy Tryz.func104 rfl rfl fun a hk=>?_
 have hk:Kn 11 [(0,.pointer (some ⟨rb,0,none⟩))] a:=hk
 have hm:Mem w0 (fun k=>k=rb) Y [.blk rb [.slice px ((s.src.getD []).length) capx,.bool s.bad] 142,.rep (aBr s.src) [.slice px ((s.src.getD []).length) capx]] w0:=Mem.startBlk hb hY rfl (by simp only[List.forall_mem_cons,List.not_mem_nil,false_imp_iff,implies_true,and_true];exact hx)
 refine cR0 ?_
 refine oA0 hk rfl rfl fun a hk=>?_
 refine cE0 ?_
 refine cR0 ?_
 refine oM0 hk rfl rfl fun a hk=>?_
 refine aAk hk aSN (aH6 (Y:=Yof w0 Y [.blk rb [.slice px ((s.src.getD []).length) capx,.bool s.bad] 142,.rep (aBr s.src) [.slice px ((s.src.getD []).length) capx]]) (s:=s) ⟨_,hm.blkAt (i:=0) rfl,hm.rep (i:=1) rfl⟩ (aE2 (i:=0) rfl)) ⟨rfl,trivial⟩ rfl fun v1 w1 a hR hk=>?_
 obtain⟨hp1,rfl,x1,hb1,hr1⟩:=hR
 obtain⟨px1,capx1,rfl,hcap1⟩:=aBp hr1
 have hm:=hm.blkCall (i:=0) rfl hp1 hb1 hr1
 refine oA0 hk rfl rfl fun a hk=>?_
 refine cE0 ?_
 refine cR0 ?_
 refine oM0 hk rfl rfl fun a hk=>?_
 refine oM0 hk rfl rfl fun a hk=>?_
 refine aAG (c:=(IntKind.i16.wrap ((RS.num 2 s).1:Int))) hk aKQ aTb rfl (Er.wrap_up (by simp) _) rfl fun a hk=>?_
 refine aAk hk aJ5 (aF7 (IntKind.i16.wrap ((RS.num 2 s).1:Int)) (Y:=Yof w0 Y [.rep (aBr ((RS.num 2 s).2).src) [.slice px1 (((RS.num 2 s).2.src.getD []).length) capx1],.blk rb [.slice px1 (((RS.num 2 s).2.src.getD []).length) capx1,.bool (((RS.num 2 s).2).bad)] 142,.rep (aBr s.src) [.slice px ((s.src.getD []).length) capx]]) (s:=((RS.num 2 s).2)) ⟨_,hm.blkAt (i:=1) rfl,hm.rep (i:=0) rfl⟩ (aE2 (i:=1) rfl)) ⟨rfl,rfl,trivial⟩ rfl fun v2 w2 a hR hk=>?_
 obtain⟨hp2,hv2,x2,hb2,hr2⟩:=hR
 obtain⟨px2,capx2,rfl,hcap2⟩:=aBp hr2
 have hm:=hm.blkCall2 (i:=1) rfl hp2 hb2 hr2 hv2
 refine aGk hk aLp aS5 rfl (aHi (hm.rep (i:=0) rfl)) rfl fun a hk=>?_
 refine oA0 hk rfl rfl fun a hk=>?_
 refine cE0 ?_
 refine wp_ret ?_
 refine bT0 rfl hk rfl ?_
 exact⟨hm.agr,rfl,_,hm.blkAt (i:=3) rfl,hm.out (hm.rep (i:=1) rfl)⟩
theorem aEa {w0:World}{Y:Nat→Prop}{rb:Nat}{s:RS}(hb:aBx w0 Y rb 142 s)(hY:Y rb):Ret Tryz.prog 135 [.pointer (some ⟨rb,0,none⟩)] w0 fun v w'=>Agr (fun k=>k=rb) w0 w'∧Rep w' (fun b=>b<w0.heap.size∧Y b) (if (aEw true false s).1.z then .v (.pointer none) else .ptr (.v (.string (bs (aEw true false s).1.s)))) [v]∧aBx w' (fun b=>b<w0.heap.size∧Y b) rb 142 (aEw true false s).2:=by
 obtain⟨x,hb,hx⟩:=hb
 obtain⟨px,capx,rfl,hcap⟩:=aBp hx
 refine aAy Tryz.func135 rfl rfl fun a hk=>?_
 have hk:Kn 14 [(0,.pointer (some ⟨rb,0,none⟩))] a:=hk
 have hm:Mem w0 (fun k=>k=rb) Y [.blk rb [.slice px ((s.src.getD []).length) capx,.bool s.bad] 142,.rep (aBr s.src) [.slice px ((s.src.getD []).length) capx]] w0:=Mem.startBlk hb hY rfl (by simp only[List.forall_mem_cons,List.not_mem_nil,false_imp_iff,implies_true,and_true];exact hx)
 refine cR0 ?_
 refine oA0 hk rfl rfl fun a hk=>?_
 refine cE0 ?_
 refine cR0 ?_
 refine oM0 hk rfl rfl fun a hk=>?_
 refine aAk hk aSN (aH6 (Y:=Yof w0 Y [.blk rb [.slice px ((s.src.getD []).length) capx,.bool s.bad] 142,.rep (aBr s.src) [.slice px ((s.src.getD []).length) capx]]) (s:=s) ⟨_,hm.blkAt (i:=0) rfl,hm.rep (i:=1) rfl⟩ (aE2 (i:=0) rfl)) ⟨rfl,trivial⟩ rfl fun v1 w1 a hR hk=>?_
 obtain⟨hp1,rfl,x1,hb1,hr1⟩:=hR
 obtain⟨px1,capx1,rfl,hcap1⟩:=aBp hr1
 have hm:=hm.blkCall (i:=0) rfl hp1 hb1 hr1
 refine oA0 hk rfl rfl fun a hk=>?_
 refine cE0 ?_
 refine wp_seq ?_
 refine cR0 ?_
 refine oM0 hk rfl rfl fun a hk=>?_
 refine aAx hk rfl rfl rfl rfl fun a hk=>?_
 refine cE0 ?_
 refine aAA hk rfl (fun hc=>?_) (fun hc=>?_)
 ·have hlen:(aC6 false 2 .i16 s).1<0:=of_decide_eq_true hc
  have hn:aEw true false s=(ofNil,(aC6 false 2 .i16 s).2):=by unfold aEw;rw[if_pos (by simpa using hlen)]
  rw[hn]
  refine cR0 ?_
  refine oA0 hk rfl rfl fun a hk=>?_
  refine cE0 ?_
  refine wp_ret ?_
  refine cQ0 ?_
  refine bT0 rfl hk rfl ?_
  exact⟨hm.agr,aCn _,_,hm.blkAt (i:=1) rfl,hm.out (hm.rep (i:=0) rfl)⟩
 ·have hlen : ¬ (aC6 false 2 .i16 s).1<0:=of_decide_eq_false hc
  have hn:aEw true false s=(aCk ((RS.span (aC6 false 2 .i16 s).1 (aC6 false 2 .i16 s).2).1.getD []),(RS.span (aC6 false 2 .i16 s).1 (aC6 false 2 .i16 s).2).2):=by unfold aEw;rw[if_neg (by simpa using hlen)]
  rw[hn]
  refine wp_skip ?_
  refine cT0 ?_
  refine cR0 ?_
  refine oM0 hk rfl rfl fun a hk=>?_
  refine oM0 hk rfl rfl fun a hk=>?_
  refine aAG (c:=(IntKind.i16.wrap ((RS.num 2 s).1:Int))) hk aKQ aTb rfl (Er.wrap_up (by simp) _) rfl fun a hk=>?_
  refine aAk hk aJ5 (aF7 (IntKind.i16.wrap ((RS.num 2 s).1:Int)) (Y:=Yof w0 Y [.rep (aBr ((RS.num 2 s).2).src) [.slice px1 (((RS.num 2 s).2.src.getD []).length) capx1],.blk rb [.slice px1 (((RS.num 2 s).2.src.getD []).length) capx1,.bool (((RS.num 2 s).2).bad)] 142,.rep (aBr s.src) [.slice px ((s.src.getD []).length) capx]]) (s:=((RS.num 2 s).2)) ⟨_,hm.blkAt (i:=1) rfl,hm.rep (i:=0) rfl⟩ (aE2 (i:=1) rfl)) ⟨rfl,rfl,trivial⟩ rfl fun v2 w2 a hR hk=>?_
  obtain⟨hp2,hv2,x2,hb2,hr2⟩:=hR
  obtain⟨px2,capx2,rfl,hcap2⟩:=aBp hr2
  have hm:=hm.blkCall2 (i:=1) rfl hp2 hb2 hr2 hv2
  refine aGk hk aLp aS5 rfl (aHi (hm.rep (i:=0) rfl)) rfl fun a hk=>?_
  refine aA5 hk hm bCe rfl rfl fun a b1 w hk hm=>?_
  refine aAz (i:=0) hk hm aVe rfl rfl rfl rfl rfl rfl (Nat.le_of_ble_eq_true rfl) fun a w hk hm=>?_
  refine cE0 ?_
  refine cR0 ?_
  refine oA0 hk rfl rfl fun a hk=>?_
  refine cE0 ?_
  refine wp_ret ?_
  refine bT0 rfl hk rfl ?_
  exact⟨hm.agr,hm.boxOut (i:=0) (j:=4) rfl rfl rfl (aCn _),_,hm.blkAt (i:=4) rfl,hm.out (hm.rep (i:=2) rfl)⟩
end Go.Proofs.YtipgdlbbmlnfiaaGreatDoor
