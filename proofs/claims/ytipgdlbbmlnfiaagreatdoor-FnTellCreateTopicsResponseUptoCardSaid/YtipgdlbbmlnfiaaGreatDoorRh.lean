/- Walks of functions that the seat's laws reach. -/
import Derived.Test.YtipgdlbbmlnfiaaGreatDoorL4
import Derived.Test.YtipgdlbbmlnfiaaGreatDoorRows
import Derived.Test.YtipgdlbbmlnfiaaGreatDoorFa
import Derived.Test.YtipgdlbbmlnfiaaGreatDoorRg
namespace Go.Proofs.YtipgdlbbmlnfiaaGreatDoor
open Go Go.Mk
theorem aEo {w0:World}{Y:Nat→Prop}{rb:Nat}{s:RS}(hb:aBx w0 Y rb 142 s)(hY:Y rb):Ret Tryz.prog 103 [.pointer (some ⟨rb,0,none⟩)] w0 fun v w'=>Agr (fun k=>k=rb) w0 w'∧v=.string (bs ((RS.span (aC6 true 2 .i16 s).1 (aC6 true 2 .i16 s).2).1.getD []))∧aBx w' (fun b=>b<w0.heap.size∧Y b) rb 142 (RS.span (aC6 true 2 .i16 s).1 (aC6 true 2 .i16 s).2).2:=by
 obtain⟨x,hb,hx⟩:=hb
 obtain⟨px,capx,rfl,hcap⟩:=aBp hx
 refine aAy Tryz.func103 rfl rfl fun a hk=>?_
 have hk:Kn 12 [(0,.pointer (some ⟨rb,0,none⟩))] a:=hk
 have hm:Mem w0 (fun k=>k=rb) Y [.blk rb [.slice px ((s.src.getD []).length) capx,.bool s.bad] 142,.rep (aBr s.src) [.slice px ((s.src.getD []).length) capx]] w0:=Mem.startBlk hb hY rfl (by simp only[List.forall_mem_cons,List.not_mem_nil,false_imp_iff,implies_true,and_true];exact hx)
 refine cR0 ?_
 refine oA0 hk rfl rfl fun a hk=>?_
 refine cE0 ?_
 refine cR0 ?_
 refine oM0 hk rfl rfl fun a hk=>?_
 refine aAk hk aJ7 (aC4 (Y:=Yof w0 Y [.blk rb [.slice px ((s.src.getD []).length) capx,.bool s.bad] 142,.rep (aBr s.src) [.slice px ((s.src.getD []).length) capx]]) (s:=s) ⟨_,hm.blkAt (i:=0) rfl,hm.rep (i:=1) rfl⟩ (aE2 (i:=0) rfl)) ⟨rfl,trivial⟩ rfl fun v1 w1 a hR hk=>?_
 obtain⟨hp1,rfl,x1,hb1,hr1⟩:=hR
 obtain⟨px1,capx1,rfl,hcap1⟩:=aBp hr1
 have hm:=hm.blkCall (i:=0) rfl hp1 hb1 hr1
 refine aAG (c:=((RS.uv s).1:Int)) hk aQY aTb rfl (Er.uv_i64 _) rfl fun a hk=>?_
 refine aCj (c:=(((RS.uv s).1:Int) - 1)) hk rfl rfl rfl (Er.uv_i64' _) rfl fun a hk=>?_
 refine oA0 hk rfl rfl fun a hk=>?_
 refine cE0 ?_
 refine cR0 ?_
 refine oM0 hk rfl rfl fun a hk=>?_
 refine oM0 hk rfl rfl fun a hk=>?_
 refine aAk hk aJ5 (aF7 (((RS.uv s).1:Int) - 1) (Y:=Yof w0 Y [.rep (aBr ((RS.uv s).2).src) [.slice px1 (((RS.uv s).2.src.getD []).length) capx1],.blk rb [.slice px1 (((RS.uv s).2.src.getD []).length) capx1,.bool (((RS.uv s).2).bad)] 142,.rep (aBr s.src) [.slice px ((s.src.getD []).length) capx]]) (s:=((RS.uv s).2)) ⟨_,hm.blkAt (i:=1) rfl,hm.rep (i:=0) rfl⟩ (aE2 (i:=1) rfl)) ⟨rfl,rfl,trivial⟩ rfl fun v2 w2 a hR hk=>?_
 obtain⟨hp2,hv2,x2,hb2,hr2⟩:=hR
 obtain⟨px2,capx2,rfl,hcap2⟩:=aBp hr2
 have hm:=hm.blkCall2 (i:=1) rfl hp2 hb2 hr2 hv2
 refine aGk hk aLp aS5 rfl (aHi (hm.rep (i:=0) rfl)) rfl fun a hk=>?_
 refine oA0 hk rfl rfl fun a hk=>?_
 refine cE0 ?_
 refine wp_ret ?_
 refine bT0 rfl hk rfl ?_
 exact⟨hm.agr,rfl,_,hm.blkAt (i:=3) rfl,hm.out (hm.rep (i:=1) rfl)⟩
theorem aCf {w0:World}{Y:Nat→Prop}{rb:Nat}{s:RS}(hb:aBx w0 Y rb 142 s)(hY:Y rb):Ret Tryz.prog 133 [.pointer (some ⟨rb,0,none⟩)] w0 fun v w'=>Agr (fun k=>k=rb) w0 w'∧Rep w' (fun b=>b<w0.heap.size∧Y b) (if (aEw true true s).1.z then .v (.pointer none) else .ptr (.v (.string (bs (aEw true true s).1.s)))) [v]∧aBx w' (fun b=>b<w0.heap.size∧Y b) rb 142 (aEw true true s).2:=by
 obtain⟨x,hb,hx⟩:=hb
 obtain⟨px,capx,rfl,hcap⟩:=aBp hx
 refine aAy Tryz.func133 rfl rfl fun a hk=>?_
 have hk:Kn 15 [(0,.pointer (some ⟨rb,0,none⟩))] a:=hk
 have hm:Mem w0 (fun k=>k=rb) Y [.blk rb [.slice px ((s.src.getD []).length) capx,.bool s.bad] 142,.rep (aBr s.src) [.slice px ((s.src.getD []).length) capx]] w0:=Mem.startBlk hb hY rfl (by simp only[List.forall_mem_cons,List.not_mem_nil,false_imp_iff,implies_true,and_true];exact hx)
 refine cR0 ?_
 refine oA0 hk rfl rfl fun a hk=>?_
 refine cE0 ?_
 refine cR0 ?_
 refine oM0 hk rfl rfl fun a hk=>?_
 refine aAk hk aJ7 (aC4 (Y:=Yof w0 Y [.blk rb [.slice px ((s.src.getD []).length) capx,.bool s.bad] 142,.rep (aBr s.src) [.slice px ((s.src.getD []).length) capx]]) (s:=s) ⟨_,hm.blkAt (i:=0) rfl,hm.rep (i:=1) rfl⟩ (aE2 (i:=0) rfl)) ⟨rfl,trivial⟩ rfl fun v1 w1 a hR hk=>?_
 obtain⟨hp1,rfl,x1,hb1,hr1⟩:=hR
 obtain⟨px1,capx1,rfl,hcap1⟩:=aBp hr1
 have hm:=hm.blkCall (i:=0) rfl hp1 hb1 hr1
 refine aAG (c:=((RS.uv s).1:Int)) hk aQY aTb rfl (Er.uv_i64 _) rfl fun a hk=>?_
 refine aCj (c:=(((RS.uv s).1:Int) - 1)) hk rfl rfl rfl (Er.uv_i64' _) rfl fun a hk=>?_
 refine oA0 hk rfl rfl fun a hk=>?_
 refine cE0 ?_
 refine wp_seq ?_
 refine cR0 ?_
 refine oM0 hk rfl rfl fun a hk=>?_
 refine aAx hk rfl rfl rfl rfl fun a hk=>?_
 refine cE0 ?_
 refine aAA hk rfl (fun hc=>?_) (fun hc=>?_)
 ·have hlen:(aC6 true 2 .i16 s).1<0:=of_decide_eq_true hc
  have hn:aEw true true s=(ofNil,(aC6 true 2 .i16 s).2):=by unfold aEw;rw[if_pos (by simpa using hlen)]
  rw[hn]
  refine cR0 ?_
  refine oA0 hk rfl rfl fun a hk=>?_
  refine cE0 ?_
  refine wp_ret ?_
  refine cQ0 ?_
  refine bT0 rfl hk rfl ?_
  exact⟨hm.agr,aCn _,_,hm.blkAt (i:=1) rfl,hm.out (hm.rep (i:=0) rfl)⟩
 ·have hlen : ¬ (aC6 true 2 .i16 s).1<0:=of_decide_eq_false hc
  have hn:aEw true true s=(aCk ((RS.span (aC6 true 2 .i16 s).1 (aC6 true 2 .i16 s).2).1.getD []),(RS.span (aC6 true 2 .i16 s).1 (aC6 true 2 .i16 s).2).2):=by unfold aEw;rw[if_neg (by simpa using hlen)]
  rw[hn]
  refine wp_skip ?_
  refine cT0 ?_
  refine cR0 ?_
  refine oM0 hk rfl rfl fun a hk=>?_
  refine oM0 hk rfl rfl fun a hk=>?_
  refine aAk hk aJ5 (aF7 (((RS.uv s).1:Int) - 1) (Y:=Yof w0 Y [.rep (aBr ((RS.uv s).2).src) [.slice px1 (((RS.uv s).2.src.getD []).length) capx1],.blk rb [.slice px1 (((RS.uv s).2.src.getD []).length) capx1,.bool (((RS.uv s).2).bad)] 142,.rep (aBr s.src) [.slice px ((s.src.getD []).length) capx]]) (s:=((RS.uv s).2)) ⟨_,hm.blkAt (i:=1) rfl,hm.rep (i:=0) rfl⟩ (aE2 (i:=1) rfl)) ⟨rfl,rfl,trivial⟩ rfl fun v2 w2 a hR hk=>?_
  obtain⟨hp2,hv2,x2,hb2,hr2⟩:=hR
  obtain⟨px2,capx2,rfl,hcap2⟩:=aBp hr2
  have hm:=hm.blkCall2 (i:=1) rfl hp2 hb2 hr2 hv2
  refine aGk hk aLp aS5 rfl (aHi (hm.rep (i:=0) rfl)) rfl fun a hk=>?_
  refine aA5 hk hm bCe rfl rfl fun a b1 w hk hm=>?_
  refine aAz (i:=0) hk hm aVe rfl rfl rfl rfl rfl rfl (Nat.le_of_ble_eq_true rfl) fun a w hk hm=>?_
  refine cE0 ?_
  refine cR0 ?_
  refine oA0 hk rfl rfl fun a hk=>?_
  refine cE0 ?_
  refine wp_ret ?_
  refine bT0 rfl hk rfl ?_
  exact⟨hm.agr,hm.boxOut (i:=0) (j:=4) rfl rfl rfl (aCn _),_,hm.blkAt (i:=4) rfl,hm.out (hm.rep (i:=2) rfl)⟩
theorem aMq {w0:World}{Y:Nat→Prop}{rb:Nat}{s:RS}(hb:aBx w0 Y rb 142 s)(hY:Y rb):Ret Tryz.prog 140 [.pointer (some ⟨rb,0,none⟩)] w0 fun v w'=>Agr (fun k=>k=rb) w0 w'∧v=.bool (decide ((RS.num 1 s).1≠0))∧aBx w' (fun b=>b<w0.heap.size∧Y b) rb 142 (RS.num 1 s).2:=by
 obtain⟨x,hb,hx⟩:=hb
 obtain⟨px,capx,rfl,hcap⟩:=aBp hx
 refine aAy Tryz.func140 rfl rfl fun a hk=>?_
 have hk:Kn 32 [(0,.pointer (some ⟨rb,0,none⟩))] a:=hk
 have hm:Mem w0 (fun k=>k=rb) Y [.blk rb [.slice px ((s.src.getD []).length) capx,.bool s.bad] 142,.rep (aBr s.src) [.slice px ((s.src.getD []).length) capx]] w0:=Mem.startBlk hb hY rfl (by simp only[List.forall_mem_cons,List.not_mem_nil,false_imp_iff,implies_true,and_true];exact hx)
 refine cR0 ?_
 refine oA0 hk rfl rfl fun a hk=>?_
 refine cE0 ?_
 refine wp_seq ?_
 refine cR0 ?_
 refine oM0 hk rfl rfl fun a hk=>?_
 refine oN0 hk rfl rfl fun a hk=>?_
 refine oF0 hk aAV rfl rfl fun a hk=>?_
 refine aAq hk aBy rfl (hm.cell_blk (i:=0) rfl rfl) rfl fun a hk=>?_
 refine oL0 hk aA9 rfl rfl fun a hk=>?_
 refine aAx hk rfl rfl rfl rfl fun a hk=>?_
 refine cE0 ?_
 refine aAA hk rfl (fun hc=>?_) (fun hc=>?_)
 ·have hlt:s.l.length<1:=by have:=of_decide_eq_true hc;unfold RS.l;omega
  have hn:RS.num 1 s=(0,RS.fail):=by unfold RS.num;rw[if_pos hlt]
  rw[hn]
  refine cR0 ?_
  refine oM0 hk rfl rfl fun a hk=>?_
  refine oN0 hk rfl rfl fun a hk=>?_
  refine oF0 hk aEc rfl rfl fun a hk=>?_
  refine aAz (i:=0) hk hm aHp rfl rfl rfl rfl rfl rfl (Nat.le_of_ble_eq_true rfl) fun a w hk hm=>?_
  refine cE0 ?_
  refine cR0 ?_
  refine oM0 hk rfl rfl fun a hk=>?_
  refine oN0 hk rfl rfl fun a hk=>?_
  refine oF0 hk aAV rfl rfl fun a hk=>?_
  refine aAz (i:=0) hk hm aBy rfl rfl rfl rfl rfl rfl (Nat.le_of_ble_eq_true rfl) fun a w hk hm=>?_
  refine cE0 ?_
  refine cR0 ?_
  refine oA0 hk rfl rfl fun a hk=>?_
  refine cE0 ?_
  refine wp_ret ?_
  refine cQ0 ?_
  refine bT0 rfl hk rfl ?_
  exact⟨hm.agr,rfl,_,hm.blkAt (i:=0) rfl,aCn _⟩
 ·have hge : 1≤(s.src.getD []).length:=by have:=of_decide_eq_false hc;omega
  obtain⟨l,hl⟩ : ∃ l,s.src=some l:=by cases h:s.src with|none=>rw[h] at hge;simp at hge|some l=>exact⟨l,rfl⟩
  have hn:RS.num 1 s=(be (l.take 1),⟨some (l.drop 1),s.bad⟩):=by unfold RS.num RS.l;rw[if_neg (by omega),hl];rfl
  rw[hn]
  simp only[hl,Option.getD_some] at hge hcap hm hk
  have hbe:=Er.be_take1 hge
  obtain⟨bs_,off,cap,hpx,-,hC⟩ : ∃ b off cap,Value.slice px l.length capx=.slice (some ⟨b,off,none⟩) l.length cap∧l.length≤cap∧Cel w0 (Yof w0 Y [.blk rb [.slice px l.length capx,.bool s.bad] 142,.rep (aBr (some l)) [.slice px l.length capx]]) b off (bv l):=by
   rcases aGc (hm.rep (i:=1) rfl) with ⟨h0,_⟩|h
   ·rw[h0] at hge;simp at hge
   ·exact h
  obtain⟨rfl,-,rfl⟩:=Value.slice.inj hpx
  have hm:=hm.add (e:=.cel bs_ off (bv l)) rfl hC
  refine wp_skip ?_
  refine cT0 ?_
  refine cR0 ?_
  refine oM0 hk rfl rfl fun a hk=>?_
  refine oN0 hk rfl rfl fun a hk=>?_
  refine oF0 hk aAV rfl rfl fun a hk=>?_
  refine aAq hk aBy rfl (hm.cell_blk (i:=1) rfl rfl) rfl fun a hk=>?_
  refine oI0 (j:=0) hk aA9 aDQ rfl rfl (by omega) rfl fun a hk=>?_
  refine aAq hk aDQ rfl (hm.cell_cel (i:=0) (j:=0) rfl (aFc (by omega))) rfl fun a hk=>?_
  refine aAx hk rfl rfl rfl rfl fun a hk=>?_
  refine oA0 hk rfl rfl fun a hk=>?_
  refine cE0 ?_
  refine cR0 ?_
  refine oM0 hk rfl rfl fun a hk=>?_
  refine oM0 hk rfl rfl fun a hk=>?_
  refine oN0 hk rfl rfl fun a hk=>?_
  refine oF0 hk aAV rfl rfl fun a hk=>?_
  refine aAq hk aBy rfl (hm.cell_blk (i:=1) rfl rfl) rfl fun a hk=>?_
  refine aEk (k:=1) hk aA9 aDQ rfl rfl hge rfl fun a hk=>?_
  refine oN0 hk rfl rfl fun a hk=>?_
  refine oF0 hk aAV rfl rfl fun a hk=>?_
  refine aAz (i:=1) hk hm aBy rfl rfl (aE7 (rfl)) rfl rfl rfl (Nat.le_of_ble_eq_true rfl) fun a w hk hm=>?_
  refine cE0 ?_
  refine cR0 ?_
  refine oM0 hk rfl rfl fun a hk=>?_
  refine oA0 hk rfl rfl fun a hk=>?_
  refine cE0 ?_
  refine wp_ret ?_
  refine bT0 rfl hk rfl ?_
  exact⟨hm.agr,by rw[hbe,Er.ne_bool],_,hm.blkAt (i:=1) rfl,hm.out (aHG (o:=some l) (hm.rep (i:=2) rfl) hge)⟩
theorem aMk {w0:World}{Y:Nat→Prop}{rb:Nat}{s:RS}(hb:aBx w0 Y rb 142 s)(hY:Y rb):Ret Tryz.prog 141 [.pointer (some ⟨rb,0,none⟩)] w0 fun v w'=>Agr (fun k=>k=rb) w0 w'∧v=.int .i8 (IntKind.i8.wrap ((RS.num 1 s).1:Int))∧aBx w' (fun b=>b<w0.heap.size∧Y b) rb 142 (RS.num 1 s).2:=by
 obtain⟨x,hb,hx⟩:=hb
 obtain⟨px,capx,rfl,hcap⟩:=aBp hx
 refine aAy Tryz.func141 rfl rfl fun a hk=>?_
 have hk:Kn 32 [(0,.pointer (some ⟨rb,0,none⟩))] a:=hk
 have hm:Mem w0 (fun k=>k=rb) Y [.blk rb [.slice px ((s.src.getD []).length) capx,.bool s.bad] 142,.rep (aBr s.src) [.slice px ((s.src.getD []).length) capx]] w0:=Mem.startBlk hb hY rfl (by simp only[List.forall_mem_cons,List.not_mem_nil,false_imp_iff,implies_true,and_true];exact hx)
 refine cR0 ?_
 refine oA0 hk rfl rfl fun a hk=>?_
 refine cE0 ?_
 refine wp_seq ?_
 refine cR0 ?_
 refine oM0 hk rfl rfl fun a hk=>?_
 refine oN0 hk rfl rfl fun a hk=>?_
 refine oF0 hk aAV rfl rfl fun a hk=>?_
 refine aAq hk aBy rfl (hm.cell_blk (i:=0) rfl rfl) rfl fun a hk=>?_
 refine oL0 hk aA9 rfl rfl fun a hk=>?_
 refine aAx hk rfl rfl rfl rfl fun a hk=>?_
 refine cE0 ?_
 refine aAA hk rfl (fun hc=>?_) (fun hc=>?_)
 ·have hlt:s.l.length<1:=by have:=of_decide_eq_true hc;unfold RS.l;omega
  have hn:RS.num 1 s=(0,RS.fail):=by unfold RS.num;rw[if_pos hlt]
  rw[hn]
  refine cR0 ?_
  refine oM0 hk rfl rfl fun a hk=>?_
  refine oN0 hk rfl rfl fun a hk=>?_
  refine oF0 hk aEc rfl rfl fun a hk=>?_
  refine aAz (i:=0) hk hm aHp rfl rfl rfl rfl rfl rfl (Nat.le_of_ble_eq_true rfl) fun a w hk hm=>?_
  refine cE0 ?_
  refine cR0 ?_
  refine oM0 hk rfl rfl fun a hk=>?_
  refine oN0 hk rfl rfl fun a hk=>?_
  refine oF0 hk aAV rfl rfl fun a hk=>?_
  refine aAz (i:=0) hk hm aBy rfl rfl rfl rfl rfl rfl (Nat.le_of_ble_eq_true rfl) fun a w hk hm=>?_
  refine cE0 ?_
  refine cR0 ?_
  refine oA0 hk rfl rfl fun a hk=>?_
  refine cE0 ?_
  refine wp_ret ?_
  refine cQ0 ?_
  refine bT0 rfl hk rfl ?_
  exact⟨hm.agr,rfl,_,hm.blkAt (i:=0) rfl,aCn _⟩
 ·have hge : 1≤(s.src.getD []).length:=by have:=of_decide_eq_false hc;omega
  obtain⟨l,hl⟩ : ∃ l,s.src=some l:=by cases h:s.src with|none=>rw[h] at hge;simp at hge|some l=>exact⟨l,rfl⟩
  have hn:RS.num 1 s=(be (l.take 1),⟨some (l.drop 1),s.bad⟩):=by unfold RS.num RS.l;rw[if_neg (by omega),hl];rfl
  rw[hn]
  simp only[hl,Option.getD_some] at hge hcap hm hk
  have hbe:=Er.be_take1 hge
  obtain⟨bs_,off,cap,hpx,-,hC⟩ : ∃ b off cap,Value.slice px l.length capx=.slice (some ⟨b,off,none⟩) l.length cap∧l.length≤cap∧Cel w0 (Yof w0 Y [.blk rb [.slice px l.length capx,.bool s.bad] 142,.rep (aBr (some l)) [.slice px l.length capx]]) b off (bv l):=by
   rcases aGc (hm.rep (i:=1) rfl) with ⟨h0,_⟩|h
   ·rw[h0] at hge;simp at hge
   ·exact h
  obtain⟨rfl,-,rfl⟩:=Value.slice.inj hpx
  have hm:=hm.add (e:=.cel bs_ off (bv l)) rfl hC
  refine wp_skip ?_
  refine cT0 ?_
  refine cR0 ?_
  refine oM0 hk rfl rfl fun a hk=>?_
  refine oN0 hk rfl rfl fun a hk=>?_
  refine oF0 hk aAV rfl rfl fun a hk=>?_
  refine aAq hk aBy rfl (hm.cell_blk (i:=1) rfl rfl) rfl fun a hk=>?_
  refine oI0 (j:=0) hk aA9 aDQ rfl rfl (by omega) rfl fun a hk=>?_
  refine aAq hk aDQ rfl (hm.cell_cel (i:=0) (j:=0) rfl (aFc (by omega))) rfl fun a hk=>?_
  refine oA0 hk rfl rfl fun a hk=>?_
  refine cE0 ?_
  refine cR0 ?_
  refine oM0 hk rfl rfl fun a hk=>?_
  refine oM0 hk rfl rfl fun a hk=>?_
  refine oN0 hk rfl rfl fun a hk=>?_
  refine oF0 hk aAV rfl rfl fun a hk=>?_
  refine aAq hk aBy rfl (hm.cell_blk (i:=1) rfl rfl) rfl fun a hk=>?_
  refine aEk (k:=1) hk aA9 aDQ rfl rfl hge rfl fun a hk=>?_
  refine oN0 hk rfl rfl fun a hk=>?_
  refine oF0 hk aAV rfl rfl fun a hk=>?_
  refine aAz (i:=1) hk hm aBy rfl rfl (aE7 (rfl)) rfl rfl rfl (Nat.le_of_ble_eq_true rfl) fun a w hk hm=>?_
  refine cE0 ?_
  refine cR0 ?_
  refine oM0 hk rfl rfl fun a hk=>?_
  refine aAG (c:=IntKind.i8.wrap (((l.getD 0 0).toNat:Nat):Int)) hk aNF aXH rfl rfl rfl fun a hk=>?_
  refine oA0 hk rfl rfl fun a hk=>?_
  refine cE0 ?_
  refine wp_ret ?_
  refine bT0 rfl hk rfl ?_
  exact⟨hm.agr,by rw[hbe],_,hm.blkAt (i:=1) rfl,hm.out (aHG (o:=some l) (hm.rep (i:=2) rfl) hge)⟩
end Go.Proofs.YtipgdlbbmlnfiaaGreatDoor
