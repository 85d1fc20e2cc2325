/- Walks of functions that the seat's laws reach. -/
import Derived.Test.YtipgdlbbmlnfiaaGreatDoorL2
import Derived.Test.YtipgdlbbmlnfiaaGreatDoorRows
import Derived.Test.YtipgdlbbmlnfiaaGreatDoorFa
import Derived.Test.YtipgdlbbmlnfiaaGreatDoorRb
namespace Go.Proofs.YtipgdlbbmlnfiaaGreatDoor
open Go Go.Mk
theorem aJl {w0:World}{Y:Nat→Prop}{rb:Nat}{s:RS}(hb:aBx w0 Y rb 142 s)(hY:Y rb):Ret Tryz.prog 106 [.pointer (some ⟨rb,0,none⟩)] w0 fun v w'=>Agr (fun k=>k=rb) w0 w'∧v=.int .i32 (IntKind.i32.wrap ((RS.num 4 s).1:Int))∧aBx w' (fun b=>b<w0.heap.size∧Y b) rb 142 (RS.num 4 s).2:=by
 obtain⟨x,hb,hx⟩:=hb
 obtain⟨px,capx,rfl,hcap⟩:=aBp hx
 refine aAy Tryz.func106 rfl rfl fun a hk=>?_
 have hk:Kn 32 [(0,.pointer (some ⟨rb,0,none⟩))] a:=hk
 have hm:Mem w0 (fun k=>k=rb) Y [.blk rb [.slice px ((s.src.getD []).length) capx,.bool s.bad] 142,.rep (aBr s.src) [.slice px ((s.src.getD []).length) capx]] w0:=Mem.startBlk hb hY rfl (by simp only[List.forall_mem_cons,List.not_mem_nil,false_imp_iff,implies_true,and_true];exact hx)
 refine cR0 ?_
 refine oA0 hk rfl rfl fun a hk=>?_
 refine cE0 ?_
 refine wp_seq ?_
 refine cR0 ?_
 refine oM0 hk rfl rfl fun a hk=>?_
 refine oN0 hk rfl rfl fun a hk=>?_
 refine oF0 hk aAV rfl rfl fun a hk=>?_
 refine aAq hk aBy rfl (hm.cell_blk (i:=0) rfl rfl) rfl fun a hk=>?_
 refine oL0 hk aA9 rfl rfl fun a hk=>?_
 refine aAx hk rfl rfl rfl rfl fun a hk=>?_
 refine cE0 ?_
 refine aAA hk rfl (fun hc=>?_) (fun hc=>?_)
 ·have hlt:s.l.length<4:=by have:=of_decide_eq_true hc;unfold RS.l;omega
  have hn:RS.num 4 s=(0,RS.fail):=by unfold RS.num;rw[if_pos hlt]
  rw[hn]
  refine cR0 ?_
  refine oM0 hk rfl rfl fun a hk=>?_
  refine oN0 hk rfl rfl fun a hk=>?_
  refine oF0 hk aEc rfl rfl fun a hk=>?_
  refine aAz (i:=0) hk hm aHp rfl rfl rfl rfl rfl rfl (Nat.le_of_ble_eq_true rfl) fun a w hk hm=>?_
  refine cE0 ?_
  refine cR0 ?_
  refine oM0 hk rfl rfl fun a hk=>?_
  refine oN0 hk rfl rfl fun a hk=>?_
  refine oF0 hk aAV rfl rfl fun a hk=>?_
  refine aAz (i:=0) hk hm aBy rfl rfl rfl rfl rfl rfl (Nat.le_of_ble_eq_true rfl) fun a w hk hm=>?_
  refine cE0 ?_
  refine cR0 ?_
  refine oA0 hk rfl rfl fun a hk=>?_
  refine cE0 ?_
  refine wp_ret ?_
  refine cQ0 ?_
  refine bT0 rfl hk rfl ?_
  refine⟨hm.agr,rfl,_,hm.blkAt (i:=0) rfl,aCn _⟩
 ·have hge : 4≤(s.src.getD []).length:=by have:=of_decide_eq_false hc;omega
  obtain⟨l,hl⟩ : ∃ l,s.src=some l:=by cases h:s.src with|none=>rw[h] at hge;simp at hge|some l=>exact⟨l,rfl⟩
  have hn:RS.num 4 s=(be (l.take 4),⟨some (l.drop 4),s.bad⟩):=by unfold RS.num RS.l;rw[if_neg (by omega),hl];rfl
  rw[hn]
  simp only[hl,Option.getD_some] at hge hcap hm hk
  obtain⟨bs_,off,cap,hpx,-,hC⟩ : ∃ b off cap,Value.slice px l.length capx=.slice (some ⟨b,off,none⟩) l.length cap∧l.length≤cap∧Cel w0 (Yof w0 Y [.blk rb [.slice px l.length capx,.bool s.bad] 142,.rep (aBr (some l)) [.slice px l.length capx]]) b off (bv l):=by
   rcases aGc (hm.rep (i:=1) rfl) with ⟨h0,_⟩|h
   ·rw[h0] at hge;simp at hge
   ·exact h
  obtain⟨rfl,-,rfl⟩:=Value.slice.inj hpx
  have hm:=hm.add (e:=.cel bs_ off (bv l)) rfl hC
  refine wp_skip ?_
  refine cT0 ?_
  refine wp_seq ?_
  refine aAW (K:=7) mixed hm fun w hm=>?_
  refine aAh (i:=0) rfl rfl rfl (by kernel_rfl) (fun _ _ _ h=>h) hk rfl (fun w hm=>aBq (cs:=[]) hk aSc rfl (fun j u h=>by simp at h)) hm fun a hk=>?_
  refine aAt (k:=1) (by kernel_rfl) rfl rfl ?_
  refine oM0 hk rfl rfl fun a hk=>?_
  refine aAb (cT0 ⟨fun _=>hm,?_⟩)
  refine aAt (k:=2) (by kernel_rfl) rfl rfl ?_
  refine oN0 hk rfl rfl fun a hk=>?_
  refine aAb (cT0 ⟨fun _=>hm,?_⟩)
  refine aAt (k:=3) (by kernel_rfl) rfl rfl ?_
  refine oF0 hk aAV rfl rfl fun a hk=>?_
  refine aAb (cT0 ⟨fun _=>hm,?_⟩)
  refine aAt (k:=4) (by kernel_rfl) rfl rfl ?_
  refine aAq hk aBy rfl (hm.cell_blk (i:=1) rfl rfl) rfl fun a hk=>?_
  refine aAb (cT0 ⟨fun _=>hm,?_⟩)
  refine aAt (k:=5) (by kernel_rfl) rfl rfl ?_
  refine aAk hk bAk (aTj (Y:=Yof w0 Y [.cel bs_ off (bv l),.blk rb [.slice (some ⟨bs_,off,none⟩) l.length capx,.bool s.bad] 142,.rep (aBr (some l)) [.slice (some ⟨bs_,off,none⟩) l.length capx]]) (hm.all _ (eA0 (i:=0) rfl)) hge) ⟨rfl,rfl,trivial⟩ rfl fun v w a hR hk=>?_
  obtain⟨hp,rfl⟩:=hR
  have hm:=hm.pure hp
  refine aAb (cT0 ⟨fun _=>hm,?_⟩)
  refine aAt (k:=6) (by kernel_rfl) rfl rfl ?_
  refine aAG (c:=IntKind.i32.wrap ((be (l.take 4):Nat):Int)) hk aQY aYY rfl rfl rfl fun a hk=>?_
  refine aAb (cT0 ⟨fun _=>hm,?_⟩)
  refine aAt (k:=7) (by kernel_rfl) rfl rfl ?_
  refine oA0 hk rfl rfl fun a hk=>?_
  refine aAb (cT0 ⟨fun h=>Bool.noConfusion (show true=false from h),?_⟩)
  refine aBh (by kernel_rfl) ?_ _
  refine cT0 ?_
  refine cR0 ?_
  refine oM0 hk rfl rfl fun a hk=>?_
  refine oM0 hk rfl rfl fun a hk=>?_
  refine oN0 hk rfl rfl fun a hk=>?_
  refine oF0 hk aAV rfl rfl fun a hk=>?_
  refine aAq hk aBy rfl (hm.cell_blk (i:=1) rfl rfl) rfl fun a hk=>?_
  refine aEk (k:=4) hk aA9 aDQ rfl rfl hge rfl fun a hk=>?_
  refine oN0 hk rfl rfl fun a hk=>?_
  refine oF0 hk aAV rfl rfl fun a hk=>?_
  refine aAz (i:=1) hk hm aBy rfl rfl (aE7 (rfl)) rfl rfl rfl (Nat.le_of_ble_eq_true rfl) fun a w hk hm=>?_
  refine cE0 ?_
  refine cR0 ?_
  refine oM0 hk rfl rfl fun a hk=>?_
  refine oA0 hk rfl rfl fun a hk=>?_
  refine cE0 ?_
  refine wp_ret ?_
  refine bT0 rfl hk rfl ?_
  exact⟨hm.agr,rfl,_,hm.blkAt (i:=1) rfl,hm.out (aHG (o:=some l) (hm.rep (i:=2) rfl) hge)⟩
theorem aH6 {w0:World}{Y:Nat→Prop}{rb:Nat}{s:RS}(hb:aBx w0 Y rb 142 s)(hY:Y rb):Ret Tryz.prog 95 [.pointer (some ⟨rb,0,none⟩)] w0 fun v w'=>Agr (fun k=>k=rb) w0 w'∧v=.int .i16 (IntKind.i16.wrap ((RS.num 2 s).1:Int))∧aBx w' (fun b=>b<w0.heap.size∧Y b) rb 142 (RS.num 2 s).2:=by
 obtain⟨x,hb,hx⟩:=hb
 obtain⟨px,capx,rfl,hcap⟩:=aBp hx
 refine aAy Tryz.func95 rfl rfl fun a hk=>?_
 have hk:Kn 32 [(0,.pointer (some ⟨rb,0,none⟩))] a:=hk
 have hm:Mem w0 (fun k=>k=rb) Y [.blk rb [.slice px ((s.src.getD []).length) capx,.bool s.bad] 142,.rep (aBr s.src) [.slice px ((s.src.getD []).length) capx]] w0:=Mem.startBlk hb hY rfl (by simp only[List.forall_mem_cons,List.not_mem_nil,false_imp_iff,implies_true,and_true];exact hx)
 refine cR0 ?_
 refine oA0 hk rfl rfl fun a hk=>?_
 refine cE0 ?_
 refine wp_seq ?_
 refine cR0 ?_
 refine oM0 hk rfl rfl fun a hk=>?_
 refine oN0 hk rfl rfl fun a hk=>?_
 refine oF0 hk aAV rfl rfl fun a hk=>?_
 refine aAq hk aBy rfl (hm.cell_blk (i:=0) rfl rfl) rfl fun a hk=>?_
 refine oL0 hk aA9 rfl rfl fun a hk=>?_
 refine aAx hk rfl rfl rfl rfl fun a hk=>?_
 refine cE0 ?_
 refine aAA hk rfl (fun hc=>?_) (fun hc=>?_)
 ·have hlt:s.l.length<2:=by have:=of_decide_eq_true hc;unfold RS.l;omega
  have hn:RS.num 2 s=(0,RS.fail):=by unfold RS.num;rw[if_pos hlt]
  rw[hn]
  refine cR0 ?_
  refine oM0 hk rfl rfl fun a hk=>?_
  refine oN0 hk rfl rfl fun a hk=>?_
  refine oF0 hk aEc rfl rfl fun a hk=>?_
  refine aAz (i:=0) hk hm aHp rfl rfl rfl rfl rfl rfl (Nat.le_of_ble_eq_true rfl) fun a w hk hm=>?_
  refine cE0 ?_
  refine cR0 ?_
  refine oM0 hk rfl rfl fun a hk=>?_
  refine oN0 hk rfl rfl fun a hk=>?_
  refine oF0 hk aAV rfl rfl fun a hk=>?_
  refine aAz (i:=0) hk hm aBy rfl rfl rfl rfl rfl rfl (Nat.le_of_ble_eq_true rfl) fun a w hk hm=>?_
  refine cE0 ?_
  refine cR0 ?_
  refine oA0 hk rfl rfl fun a hk=>?_
  refine cE0 ?_
  refine wp_ret ?_
  refine cQ0 ?_
  refine bT0 rfl hk rfl ?_
  refine⟨hm.agr,rfl,_,hm.blkAt (i:=0) rfl,aCn _⟩
 ·have hge : 2≤(s.src.getD []).length:=by have:=of_decide_eq_false hc;omega
  obtain⟨l,hl⟩ : ∃ l,s.src=some l:=by cases h:s.src with|none=>rw[h] at hge;simp at hge|some l=>exact⟨l,rfl⟩
  have hn:RS.num 2 s=(be (l.take 2),⟨some (l.drop 2),s.bad⟩):=by unfold RS.num RS.l;rw[if_neg (by omega),hl];rfl
  rw[hn]
  simp only[hl,Option.getD_some] at hge hcap hm hk
  obtain⟨bs_,off,cap,hpx,-,hC⟩ : ∃ b off cap,Value.slice px l.length capx=.slice (some ⟨b,off,none⟩) l.length cap∧l.length≤cap∧Cel w0 (Yof w0 Y [.blk rb [.slice px l.length capx,.bool s.bad] 142,.rep (aBr (some l)) [.slice px l.length capx]]) b off (bv l):=by
   rcases aGc (hm.rep (i:=1) rfl) with ⟨h0,_⟩|h
   ·rw[h0] at hge;simp at hge
   ·exact h
  obtain⟨rfl,-,rfl⟩:=Value.slice.inj hpx
  have hm:=hm.add (e:=.cel bs_ off (bv l)) rfl hC
  refine wp_skip ?_
  refine cT0 ?_
  refine wp_seq ?_
  refine aAW (K:=7) mixed hm fun w hm=>?_
  refine aAh (i:=0) rfl rfl rfl (by kernel_rfl) (fun _ _ _ h=>h) hk rfl (fun w hm=>aBq (cs:=[]) hk aSc rfl (fun j u h=>by simp at h)) hm fun a hk=>?_
  refine aAt (k:=1) (by kernel_rfl) rfl rfl ?_
  refine oM0 hk rfl rfl fun a hk=>?_
  refine aAb (cT0 ⟨fun _=>hm,?_⟩)
  refine aAt (k:=2) (by kernel_rfl) rfl rfl ?_
  refine oN0 hk rfl rfl fun a hk=>?_
  refine aAb (cT0 ⟨fun _=>hm,?_⟩)
  refine aAt (k:=3) (by kernel_rfl) rfl rfl ?_
  refine oF0 hk aAV rfl rfl fun a hk=>?_
  refine aAb (cT0 ⟨fun _=>hm,?_⟩)
  refine aAt (k:=4) (by kernel_rfl) rfl rfl ?_
  refine aAq hk aBy rfl (hm.cell_blk (i:=1) rfl rfl) rfl fun a hk=>?_
  refine aAb (cT0 ⟨fun _=>hm,?_⟩)
  refine aAt (k:=5) (by kernel_rfl) rfl rfl ?_
  refine aAk hk aXV (aOi (Y:=Yof w0 Y [.cel bs_ off (bv l),.blk rb [.slice (some ⟨bs_,off,none⟩) l.length capx,.bool s.bad] 142,.rep (aBr (some l)) [.slice (some ⟨bs_,off,none⟩) l.length capx]]) (hm.all _ (eA0 (i:=0) rfl)) hge) ⟨rfl,rfl,trivial⟩ rfl fun v w a hR hk=>?_
  obtain⟨hp,rfl⟩:=hR
  have hm:=hm.pure hp
  refine aAb (cT0 ⟨fun _=>hm,?_⟩)
  refine aAt (k:=6) (by kernel_rfl) rfl rfl ?_
  refine aAG (c:=IntKind.i16.wrap ((be (l.take 2):Nat):Int)) hk aV4 aSU rfl rfl rfl fun a hk=>?_
  refine aAb (cT0 ⟨fun _=>hm,?_⟩)
  refine aAt (k:=7) (by kernel_rfl) rfl rfl ?_
  refine oA0 hk rfl rfl fun a hk=>?_
  refine aAb (cT0 ⟨fun h=>Bool.noConfusion (show true=false from h),?_⟩)
  refine aBh (by kernel_rfl) ?_ _
  refine cT0 ?_
  refine cR0 ?_
  refine oM0 hk rfl rfl fun a hk=>?_
  refine oM0 hk rfl rfl fun a hk=>?_
  refine oN0 hk rfl rfl fun a hk=>?_
  refine oF0 hk aAV rfl rfl fun a hk=>?_
  refine aAq hk aBy rfl (hm.cell_blk (i:=1) rfl rfl) rfl fun a hk=>?_
  refine aEk (k:=2) hk aA9 aDQ rfl rfl hge rfl fun a hk=>?_
  refine oN0 hk rfl rfl fun a hk=>?_
  refine oF0 hk aAV rfl rfl fun a hk=>?_
  refine aAz (i:=1) hk hm aBy rfl rfl (aE7 (rfl)) rfl rfl rfl (Nat.le_of_ble_eq_true rfl) fun a w hk hm=>?_
  refine cE0 ?_
  refine cR0 ?_
  refine oM0 hk rfl rfl fun a hk=>?_
  refine oA0 hk rfl rfl fun a hk=>?_
  refine cE0 ?_
  refine wp_ret ?_
  refine bT0 rfl hk rfl ?_
  exact⟨hm.agr,rfl,_,hm.blkAt (i:=1) rfl,hm.out (aHG (o:=some l) (hm.rep (i:=2) rfl) hge)⟩
theorem aJT {w0:World}{Y:Nat→Prop}{rb:Nat}{s:RS}(hb:aBx w0 Y rb 142 s)(hY:Y rb):Ret Tryz.prog 112 [.pointer (some ⟨rb,0,none⟩)] w0 fun v w'=>Agr (fun k=>k=rb) w0 w'∧v=.int .u16 ((RS.num 2 s).1:Int)∧aBx w' (fun b=>b<w0.heap.size∧Y b) rb 142 (RS.num 2 s).2:=by
 obtain⟨x,hb,hx⟩:=hb
 obtain⟨px,capx,rfl,hcap⟩:=aBp hx
 refine aAy Tryz.func112 rfl rfl fun a hk=>?_
 have hk:Kn 31 [(0,.pointer (some ⟨rb,0,none⟩))] a:=hk
 have hm:Mem w0 (fun k=>k=rb) Y [.blk rb [.slice px ((s.src.getD []).length) capx,.bool s.bad] 142,.rep (aBr s.src) [.slice px ((s.src.getD []).length) capx]] w0:=Mem.startBlk hb hY rfl (by simp only[List.forall_mem_cons,List.not_mem_nil,false_imp_iff,implies_true,and_true];exact hx)
 refine cR0 ?_
 refine oA0 hk rfl rfl fun a hk=>?_
 refine cE0 ?_
 refine wp_seq ?_
 refine cR0 ?_
 refine oM0 hk rfl rfl fun a hk=>?_
 refine oN0 hk rfl rfl fun a hk=>?_
 refine oF0 hk aAV rfl rfl fun a hk=>?_
 refine aAq hk aBy rfl (hm.cell_blk (i:=0) rfl rfl) rfl fun a hk=>?_
 refine oL0 hk aA9 rfl rfl fun a hk=>?_
 refine aAx hk rfl rfl rfl rfl fun a hk=>?_
 refine cE0 ?_
 refine aAA hk rfl (fun hc=>?_) (fun hc=>?_)
 ·have hlt:s.l.length<2:=by have:=of_decide_eq_true hc;unfold RS.l;omega
  have hn:RS.num 2 s=(0,RS.fail):=by unfold RS.num;rw[if_pos hlt]
  rw[hn]
  refine cR0 ?_
  refine oM0 hk rfl rfl fun a hk=>?_
  refine oN0 hk rfl rfl fun a hk=>?_
  refine oF0 hk aEc rfl rfl fun a hk=>?_
  refine aAz (i:=0) hk hm aHp rfl rfl rfl rfl rfl rfl (Nat.le_of_ble_eq_true rfl) fun a w hk hm=>?_
  refine cE0 ?_
  refine cR0 ?_
  refine oM0 hk rfl rfl fun a hk=>?_
  refine oN0 hk rfl rfl fun a hk=>?_
  refine oF0 hk aAV rfl rfl fun a hk=>?_
  refine aAz (i:=0) hk hm aBy rfl rfl rfl rfl rfl rfl (Nat.le_of_ble_eq_true rfl) fun a w hk hm=>?_
  refine cE0 ?_
  refine cR0 ?_
  refine oA0 hk rfl rfl fun a hk=>?_
  refine cE0 ?_
  refine wp_ret ?_
  refine cQ0 ?_
  refine bT0 rfl hk rfl ?_
  refine⟨hm.agr,rfl,_,hm.blkAt (i:=0) rfl,aCn _⟩
 ·have hge : 2≤(s.src.getD []).length:=by have:=of_decide_eq_false hc;omega
  obtain⟨l,hl⟩ : ∃ l,s.src=some l:=by cases h:s.src with|none=>rw[h] at hge;simp at hge|some l=>exact⟨l,rfl⟩
  have hn:RS.num 2 s=(be (l.take 2),⟨some (l.drop 2),s.bad⟩):=by unfold RS.num RS.l;rw[if_neg (by omega),hl];rfl
  rw[hn]
  simp only[hl,Option.getD_some] at hge hcap hm hk
  obtain⟨bs_,off,cap,hpx,-,hC⟩ : ∃ b off cap,Value.slice px l.length capx=.slice (some ⟨b,off,none⟩) l.length cap∧l.length≤cap∧Cel w0 (Yof w0 Y [.blk rb [.slice px l.length capx,.bool s.bad] 142,.rep (aBr (some l)) [.slice px l.length capx]]) b off (bv l):=by
   rcases aGc (hm.rep (i:=1) rfl) with ⟨h0,_⟩|h
   ·rw[h0] at hge;simp at hge
   ·exact h
  obtain⟨rfl,-,rfl⟩:=Value.slice.inj hpx
  have hm:=hm.add (e:=.cel bs_ off (bv l)) rfl hC
  refine wp_skip ?_
  refine cT0 ?_
  refine wp_seq ?_
  refine aAW (K:=6) mixed hm fun w hm=>?_
  refine aAh (i:=0) rfl rfl rfl (by kernel_rfl) (fun _ _ _ h=>h) hk rfl (fun w hm=>aBq (cs:=[]) hk aSc rfl (fun j u h=>by simp at h)) hm fun a hk=>?_
  refine aAt (k:=1) (by kernel_rfl) rfl rfl ?_
  refine oM0 hk rfl rfl fun a hk=>?_
  refine aAb (cT0 ⟨fun _=>hm,?_⟩)
  refine aAt (k:=2) (by kernel_rfl) rfl rfl ?_
  refine oN0 hk rfl rfl fun a hk=>?_
  refine aAb (cT0 ⟨fun _=>hm,?_⟩)
  refine aAt (k:=3) (by kernel_rfl) rfl rfl ?_
  refine oF0 hk aAV rfl rfl fun a hk=>?_
  refine aAb (cT0 ⟨fun _=>hm,?_⟩)
  refine aAt (k:=4) (by kernel_rfl) rfl rfl ?_
  refine aAq hk aBy rfl (hm.cell_blk (i:=1) rfl rfl) rfl fun a hk=>?_
  refine aAb (cT0 ⟨fun _=>hm,?_⟩)
  refine aAt (k:=5) (by kernel_rfl) rfl rfl ?_
  refine aAk hk aXV (aOi (Y:=Yof w0 Y [.cel bs_ off (bv l),.blk rb [.slice (some ⟨bs_,off,none⟩) l.length capx,.bool s.bad] 142,.rep (aBr (some l)) [.slice (some ⟨bs_,off,none⟩) l.length capx]]) (hm.all _ (eA0 (i:=0) rfl)) hge) ⟨rfl,rfl,trivial⟩ rfl fun v w a hR hk=>?_
  obtain⟨hp,rfl⟩:=hR
  have hm:=hm.pure hp
  refine aAb (cT0 ⟨fun _=>hm,?_⟩)
  refine aAt (k:=6) (by kernel_rfl) rfl rfl ?_
  refine oA0 hk rfl rfl fun a hk=>?_
  refine aAb (cT0 ⟨fun h=>Bool.noConfusion (show true=false from h),?_⟩)
  refine aBh (by kernel_rfl) ?_ _
  refine cT0 ?_
  refine cR0 ?_
  refine oM0 hk rfl rfl fun a hk=>?_
  refine oM0 hk rfl rfl fun a hk=>?_
  refine oN0 hk rfl rfl fun a hk=>?_
  refine oF0 hk aAV rfl rfl fun a hk=>?_
  refine aAq hk aBy rfl (hm.cell_blk (i:=1) rfl rfl) rfl fun a hk=>?_
  refine aEk (k:=2) hk aA9 aDQ rfl rfl hge rfl fun a hk=>?_
  refine oN0 hk rfl rfl fun a hk=>?_
  refine oF0 hk aAV rfl rfl fun a hk=>?_
  refine aAz (i:=1) hk hm aBy rfl rfl (aE7 (rfl)) rfl rfl rfl (Nat.le_of_ble_eq_true rfl) fun a w hk hm=>?_
  refine cE0 ?_
  refine cR0 ?_
  refine oM0 hk rfl rfl fun a hk=>?_
  refine oA0 hk rfl rfl fun a hk=>?_
  refine cE0 ?_
  refine wp_ret ?_
  refine bT0 rfl hk rfl ?_
  exact⟨hm.agr,rfl,_,hm.blkAt (i:=1) rfl,hm.out (aHG (o:=some l) (hm.rep (i:=2) rfl) hge)⟩
theorem aNI {w0:World}{Y:Nat→Prop}{rb:Nat}{s:RS}(hb:aBx w0 Y rb 142 s)(hY:Y rb):Ret Tryz.prog 155 [.pointer (some ⟨rb,0,none⟩)] w0 fun v w'=>Agr (fun k=>k=rb) w0 w'∧v=.int .u64 ((RS.num 8 s).1:Int)∧aBx w' (fun b=>b<w0.heap.size∧Y b) rb 142 (RS.num 8 s).2:=by
 obtain⟨x,hb,hx⟩:=hb
 obtain⟨px,capx,rfl,hcap⟩:=aBp hx
 refine aAy Tryz.func155 rfl rfl fun a hk=>?_
 have hk:Kn 31 [(0,.pointer (some ⟨rb,0,none⟩))] a:=hk
 have hm:Mem w0 (fun k=>k=rb) Y [.blk rb [.slice px ((s.src.getD []).length) capx,.bool s.bad] 142,.rep (aBr s.src) [.slice px ((s.src.getD []).length) capx]] w0:=Mem.startBlk hb hY rfl (by simp only[List.forall_mem_cons,List.not_mem_nil,false_imp_iff,implies_true,and_true];exact hx)
 refine cR0 ?_
 refine oA0 hk rfl rfl fun a hk=>?_
 refine cE0 ?_
 refine wp_seq ?_
 refine cR0 ?_
 refine oM0 hk rfl rfl fun a hk=>?_
 refine oN0 hk rfl rfl fun a hk=>?_
 refine oF0 hk aAV rfl rfl fun a hk=>?_
 refine aAq hk aBy rfl (hm.cell_blk (i:=0) rfl rfl) rfl fun a hk=>?_
 refine oL0 hk aA9 rfl rfl fun a hk=>?_
 refine aAx hk rfl rfl rfl rfl fun a hk=>?_
 refine cE0 ?_
 refine aAA hk rfl (fun hc=>?_) (fun hc=>?_)
 ·have hlt:s.l.length<8:=by have:=of_decide_eq_true hc;unfold RS.l;omega
  have hn:RS.num 8 s=(0,RS.fail):=by unfold RS.num;rw[if_pos hlt]
  rw[hn]
  refine cR0 ?_
  refine oM0 hk rfl rfl fun a hk=>?_
  refine oN0 hk rfl rfl fun a hk=>?_
  refine oF0 hk aEc rfl rfl fun a hk=>?_
  refine aAz (i:=0) hk hm aHp rfl rfl rfl rfl rfl rfl (Nat.le_of_ble_eq_true rfl) fun a w hk hm=>?_
  refine cE0 ?_
  refine cR0 ?_
  refine oM0 hk rfl rfl fun a hk=>?_
  refine oN0 hk rfl rfl fun a hk=>?_
  refine oF0 hk aAV rfl rfl fun a hk=>?_
  refine aAz (i:=0) hk hm aBy rfl rfl rfl rfl rfl rfl (Nat.le_of_ble_eq_true rfl) fun a w hk hm=>?_
  refine cE0 ?_
  refine cR0 ?_
  refine oA0 hk rfl rfl fun a hk=>?_
  refine cE0 ?_
  refine wp_ret ?_
  refine cQ0 ?_
  refine bT0 rfl hk rfl ?_
  refine⟨hm.agr,rfl,_,hm.blkAt (i:=0) rfl,aCn _⟩
 ·have hge : 8≤(s.src.getD []).length:=by have:=of_decide_eq_false hc;omega
  obtain⟨l,hl⟩ : ∃ l,s.src=some l:=by cases h:s.src with|none=>rw[h] at hge;simp at hge|some l=>exact⟨l,rfl⟩
  have hn:RS.num 8 s=(be (l.take 8),⟨some (l.drop 8),s.bad⟩):=by unfold RS.num RS.l;rw[if_neg (by omega),hl];rfl
  rw[hn]
  simp only[hl,Option.getD_some] at hge hcap hm hk
  obtain⟨bs_,off,cap,hpx,-,hC⟩ : ∃ b off cap,Value.slice px l.length capx=.slice (some ⟨b,off,none⟩) l.length cap∧l.length≤cap∧Cel w0 (Yof w0 Y [.blk rb [.slice px l.length capx,.bool s.bad] 142,.rep (aBr (some l)) [.slice px l.length capx]]) b off (bv l):=by
   rcases aGc (hm.rep (i:=1) rfl) with ⟨h0,_⟩|h
   ·rw[h0] at hge;simp at hge
   ·exact h
  obtain⟨rfl,-,rfl⟩:=Value.slice.inj hpx
  have hm:=hm.add (e:=.cel bs_ off (bv l)) rfl hC
  refine wp_skip ?_
  refine cT0 ?_
  refine wp_seq ?_
  refine aAW (K:=6) mixed hm fun w hm=>?_
  refine aAh (i:=0) rfl rfl rfl (by kernel_rfl) (fun _ _ _ h=>h) hk rfl (fun w hm=>aBq (cs:=[]) hk aSc rfl (fun j u h=>by simp at h)) hm fun a hk=>?_
  refine aAt (k:=1) (by kernel_rfl) rfl rfl ?_
  refine oM0 hk rfl rfl fun a hk=>?_
  refine aAb (cT0 ⟨fun _=>hm,?_⟩)
  refine aAt (k:=2) (by kernel_rfl) rfl rfl ?_
  refine oN0 hk rfl rfl fun a hk=>?_
  refine aAb (cT0 ⟨fun _=>hm,?_⟩)
  refine aAt (k:=3) (by kernel_rfl) rfl rfl ?_
  refine oF0 hk aAV rfl rfl fun a hk=>?_
  refine aAb (cT0 ⟨fun _=>hm,?_⟩)
  refine aAt (k:=4) (by kernel_rfl) rfl rfl ?_
  refine aAq hk aBy rfl (hm.cell_blk (i:=1) rfl rfl) rfl fun a hk=>?_
  refine aAb (cT0 ⟨fun _=>hm,?_⟩)
  refine aAt (k:=5) (by kernel_rfl) rfl rfl ?_
  refine aAk hk bAX (aSI (Y:=Yof w0 Y [.cel bs_ off (bv l),.blk rb [.slice (some ⟨bs_,off,none⟩) l.length capx,.bool s.bad] 142,.rep (aBr (some l)) [.slice (some ⟨bs_,off,none⟩) l.length capx]]) (hm.all _ (eA0 (i:=0) rfl)) hge) ⟨rfl,rfl,trivial⟩ rfl fun v w a hR hk=>?_
  obtain⟨hp,rfl⟩:=hR
  have hm:=hm.pure hp
  refine aAb (cT0 ⟨fun _=>hm,?_⟩)
  refine aAt (k:=6) (by kernel_rfl) rfl rfl ?_
  refine oA0 hk rfl rfl fun a hk=>?_
  refine aAb (cT0 ⟨fun h=>Bool.noConfusion (show true=false from h),?_⟩)
  refine aBh (by kernel_rfl) ?_ _
  refine cT0 ?_
  refine cR0 ?_
  refine oM0 hk rfl rfl fun a hk=>?_
  refine oM0 hk rfl rfl fun a hk=>?_
  refine oN0 hk rfl rfl fun a hk=>?_
  refine oF0 hk aAV rfl rfl fun a hk=>?_
  refine aAq hk aBy rfl (hm.cell_blk (i:=1) rfl rfl) rfl fun a hk=>?_
  refine aEk (k:=8) hk aA9 aDQ rfl rfl hge rfl fun a hk=>?_
  refine oN0 hk rfl rfl fun a hk=>?_
  refine oF0 hk aAV rfl rfl fun a hk=>?_
  refine aAz (i:=1) hk hm aBy rfl rfl (aE7 (rfl)) rfl rfl rfl (Nat.le_of_ble_eq_true rfl) fun a w hk hm=>?_
  refine cE0 ?_
  refine cR0 ?_
  refine oM0 hk rfl rfl fun a hk=>?_
  refine oA0 hk rfl rfl fun a hk=>?_
  refine cE0 ?_
  refine wp_ret ?_
  refine bT0 rfl hk rfl ?_
  exact⟨hm.agr,rfl,_,hm.blkAt (i:=1) rfl,hm.out (aHG (o:=some l) (hm.rep (i:=2) rfl) hge)⟩
theorem bCi {w0:World}{Y:Nat→Prop}{rb:Nat}{s:RS}(hb:aBx w0 Y rb 142 s)(hY:Y rb):Ret Tryz.prog 98 [.pointer (some ⟨rb,0,none⟩)] w0 fun v w'=>Agr (fun k=>k=rb) w0 w'∧v=.bool (!s.bad)∧aBx w' (fun b=>b<w0.heap.size∧Y b) rb 142 s:=by
 obtain⟨x,hb,hx⟩:=hb
 obtain⟨px,capx,rfl,hcap⟩:=aBp hx
 refine aAy Tryz.func98 rfl rfl fun a hk=>?_
 have hk:Kn 8 [(0,.pointer (some ⟨rb,0,none⟩))] a:=hk
 have hm:Mem w0 (fun k=>k=rb) Y [.blk rb [.slice px ((s.src.getD []).length) capx,.bool s.bad] 142,.rep (aBr s.src) [.slice px ((s.src.getD []).length) capx]] w0:=Mem.startBlk hb hY rfl (by simp only[List.forall_mem_cons,List.not_mem_nil,false_imp_iff,implies_true,and_true];exact hx)
 refine cR0 ?_
 refine oA0 hk rfl rfl fun a hk=>?_
 refine cE0 ?_
 refine cR0 ?_
 refine oM0 hk rfl rfl fun a hk=>?_
 refine oN0 hk rfl rfl fun a hk=>?_
 refine oF0 hk aEc rfl rfl fun a hk=>?_
 refine aAq hk aHp rfl (hm.cell_blk (i:=0) rfl rfl) rfl fun a hk=>?_
 refine aES hk rfl rfl fun a hk=>?_
 refine oA0 hk rfl rfl fun a hk=>?_
 refine cE0 ?_
 refine wp_ret ?_
 refine bT0 rfl hk rfl ?_
 exact⟨hm.agr,rfl,_,hm.blkAt (i:=0) rfl,hm.out (hm.rep (i:=1) rfl)⟩
theorem aKU {w0:World}{Y:Nat→Prop}{rb:Nat}{s:RS}(hb:aBx w0 Y rb 142 s)(hY:Y rb):Ret Tryz.prog 130 [.pointer (some ⟨rb,0,none⟩)] w0 fun v w'=>Agr (fun k=>k=rb) w0 w'∧v=.int .i64 (IntKind.i64.wrap ((RS.num 8 s).1:Int))∧aBx w' (fun b=>b<w0.heap.size∧Y b) rb 142 (RS.num 8 s).2:=by
 have hb0:=hb
 obtain⟨x,hb,hx⟩:=hb
 obtain⟨px,capx,rfl,hcap⟩:=aBp hx
 refine aAy Tryz.func130 rfl rfl fun a hk=>?_
 have hk:Kn 6 [(0,.pointer (some ⟨rb,0,none⟩))] a:=hk
 have hm:Mem w0 (fun k=>k=rb) Y [.blk rb [.slice px ((s.src.getD []).length) capx,.bool s.bad] 142,.rep (aBr s.src) [.slice px ((s.src.getD []).length) capx]] w0:=Mem.startBlk hb hY rfl (by simp only[List.forall_mem_cons,List.not_mem_nil,false_imp_iff,implies_true,and_true];exact hx)
 refine cR0 ?_
 refine oA0 hk rfl rfl fun a hk=>?_
 refine cE0 ?_
 refine cR0 ?_
 refine oM0 hk rfl rfl fun a hk=>?_
 refine aAk hk aZF (aNI hb0 hY) ⟨rfl,trivial⟩ rfl fun v w a hR hk=>?_
 obtain⟨hp,rfl,hr⟩:=hR
 refine aAG (c:=IntKind.i64.wrap ((RS.num 8 s).1:Int)) hk aTx aKJ rfl rfl rfl fun a hk=>?_
 refine oA0 hk rfl rfl fun a hk=>?_
 refine cE0 ?_
 refine wp_ret ?_
 refine bT0 rfl hk rfl ?_
 exact⟨hp,rfl,hr⟩
theorem aF7 {w0:World}{Y:Nat→Prop}{rb:Nat}{s:RS}(k:Int)(hb:aBx w0 Y rb 142 s)(hY:Y rb):Ret Tryz.prog 110 [.pointer (some ⟨rb,0,none⟩),.int .i64 k] w0 fun v w'=>Agr (fun k=>k=rb) w0 w'∧Rep w' (fun b=>b<w0.heap.size∧Y b) (aBr (RS.span k s).1) [v]∧aBx w' (fun b=>b<w0.heap.size∧Y b) rb 142 (RS.span k s).2:=by
 obtain⟨x,hb,hx⟩:=hb
 obtain⟨px,capx,rfl,hcap⟩:=aBp hx
 refine aAy Tryz.func110 rfl rfl fun a hk=>?_
 have hk:Kn 40 [(0,.pointer (some ⟨rb,0,none⟩)),(1,.int .i64 k)] a:=hk
 have hm:Mem w0 (fun k=>k=rb) Y [.blk rb [.slice px ((s.src.getD []).length) capx,.bool s.bad] 142,.rep (aBr s.src) [.slice px ((s.src.getD []).length) capx]] w0:=Mem.startBlk hb hY rfl (by simp only[List.forall_mem_cons,List.not_mem_nil,false_imp_iff,implies_true,and_true];exact hx)
 refine cR0 ?_
 refine oA0 hk rfl rfl fun a hk=>?_
 refine cE0 ?_
 refine wp_seq ?_
 refine cR0 ?_
 refine oM0 hk rfl rfl fun a hk=>?_
 refine oN0 hk rfl rfl fun a hk=>?_
 refine oF0 hk aAV rfl rfl fun a hk=>?_
 refine aAq hk aBy rfl (hm.cell_blk (i:=0) rfl rfl) rfl fun a hk=>?_
 refine oL0 hk aA9 rfl rfl fun a hk=>?_
 refine oM0 hk rfl rfl fun a hk=>?_
 refine aAx hk rfl rfl rfl rfl fun a hk=>?_
 refine oM0 hk rfl rfl fun a hk=>?_
 rcases Bool.eq_false_or_eq_true (decide (((((s.src.getD []).length:Nat):Int):Int)<k)) with hb1|hb1
 ·rw[hb1] at hk
  refine oS0 hk ⟨_,_,_,_,rfl,rfl,rfl,aB0⟩ rfl rfl fun a hk=>?_
  refine oS0 hk ⟨_,_,_,_,rfl,rfl,rfl,aB0⟩ rfl rfl fun a hk=>?_
  refine aAI hk rfl rfl rfl rfl rfl fun a hk=>?_
  refine cE0 ?_
  have hn:RS.span k s=(none,RS.fail):=by unfold RS.span RS.l;rw[if_pos (by simp_all)]
  rw[hn]
  refine aEm hk rfl ?_
  refine cR0 ?_
  refine oM0 hk rfl rfl fun a hk=>?_
  refine oN0 hk rfl rfl fun a hk=>?_
  refine oF0 hk aEc rfl rfl fun a hk=>?_
  refine aAz (i:=0) hk hm aHp rfl rfl rfl rfl rfl rfl (Nat.le_of_ble_eq_true rfl) fun a w hk hm=>?_
  refine cE0 ?_
  refine cR0 ?_
  refine oM0 hk rfl rfl fun a hk=>?_
  refine oN0 hk rfl rfl fun a hk=>?_
  refine oF0 hk aAV rfl rfl fun a hk=>?_
  refine aAz (i:=0) hk hm aBy rfl rfl rfl rfl rfl rfl (Nat.le_of_ble_eq_true rfl) fun a w hk hm=>?_
  refine cE0 ?_
  refine cR0 ?_
  refine oA0 hk rfl rfl fun a hk=>?_
  refine cE0 ?_
  refine wp_ret ?_
  refine cQ0 ?_
  refine bT0 rfl hk rfl ?_
  refine⟨hm.agr,aCn _,_,hm.blkAt (i:=0) rfl,aCn _⟩
 ·rw[hb1] at hk
  refine aAu (o':=_) hk ⟨_,_,_,rfl,rfl,rfl⟩ rfl ?_
  refine oM0 hk rfl rfl fun a hk=>?_
  refine aAu (o':=_) hk ⟨_,_,_,rfl,rfl,rfl⟩ rfl ?_
  refine aAx hk rfl rfl rfl rfl fun a hk=>?_
  refine aAI hk rfl rfl rfl rfl rfl fun a hk=>?_
  refine cE0 ?_
  refine aAA hk rfl (fun hc=>?_) (fun hc=>?_)
  ·have hn:RS.span k s=(none,RS.fail):=by unfold RS.span RS.l;rw[if_pos (by simp_all)]
   rw[hn]
   refine cR0 ?_
   refine oM0 hk rfl rfl fun a hk=>?_
   refine oN0 hk rfl rfl fun a hk=>?_
   refine oF0 hk aEc rfl rfl fun a hk=>?_
   refine aAz (i:=0) hk hm aHp rfl rfl rfl rfl rfl rfl (Nat.le_of_ble_eq_true rfl) fun a w hk hm=>?_
   refine cE0 ?_
   refine cR0 ?_
   refine oM0 hk rfl rfl fun a hk=>?_
   refine oN0 hk rfl rfl fun a hk=>?_
   refine oF0 hk aAV rfl rfl fun a hk=>?_
   refine aAz (i:=0) hk hm aBy rfl rfl rfl rfl rfl rfl (Nat.le_of_ble_eq_true rfl) fun a w hk hm=>?_
   refine cE0 ?_
   refine cR0 ?_
   refine oA0 hk rfl rfl fun a hk=>?_
   refine cE0 ?_
   refine wp_ret ?_
   refine cQ0 ?_
   refine bT0 rfl hk rfl ?_
   refine⟨hm.agr,aCn _,_,hm.blkAt (i:=0) rfl,aCn _⟩
  ·have hg : ¬ (((s.src.getD []).length:Int)<k∨k<0):=by simp_all
   have hn:RS.span k s=(s.src.map (List.take k.toNat),⟨s.src.map (List.drop k.toNat),s.bad⟩):=by unfold RS.span RS.l;rw[if_neg hg]
   rw[hn]
   obtain⟨q,rfl⟩ : ∃ q:Nat,k=(q:Int):=⟨k.toNat,by omega⟩
   have hq:q≤(s.src.getD []).length:=by omega
   simp only[Int.toNat_natCast] at hn ⊢
   refine wp_skip ?_
   refine cT0 ?_
   refine cR0 ?_
   refine oM0 hk rfl rfl fun a hk=>?_
   refine oN0 hk rfl rfl fun a hk=>?_
   refine oF0 hk aAV rfl rfl fun a hk=>?_
   refine aAq hk aBy rfl (hm.cell_blk (i:=0) rfl rfl) rfl fun a hk=>?_
   refine oM0 hk rfl rfl fun a hk=>?_
   refine oM0 hk rfl rfl fun a hk=>?_
   refine aVp (k:=q) hk aA9 aDQ rfl rfl rfl (Nat.le_trans hq hcap) rfl fun a hk=>?_
   refine oA0 hk rfl rfl fun a hk=>?_
   refine cE0 ?_
   refine cR0 ?_
   refine oM0 hk rfl rfl fun a hk=>?_
   refine oM0 hk rfl rfl fun a hk=>?_
   refine oN0 hk rfl rfl fun a hk=>?_
   refine oF0 hk aAV rfl rfl fun a hk=>?_
   refine aAq hk aBy rfl (hm.cell_blk (i:=0) rfl rfl) rfl fun a hk=>?_
   refine oM0 hk rfl rfl fun a hk=>?_
   refine aEk (k:=q) hk aA9 aDQ rfl rfl hq rfl fun a hk=>?_
   refine oN0 hk rfl rfl fun a hk=>?_
   refine oF0 hk aAV rfl rfl fun a hk=>?_
   refine aAz (i:=0) hk hm aBy rfl rfl (aE7 (rfl)) rfl rfl rfl (Nat.le_of_ble_eq_true rfl) fun a w hk hm=>?_
   refine cE0 ?_
   refine cR0 ?_
   refine oM0 hk rfl rfl fun a hk=>?_
   refine oA0 hk rfl rfl fun a hk=>?_
   refine cE0 ?_
   refine wp_ret ?_
   refine bT0 rfl hk rfl ?_
   exact⟨hm.agr,hm.out (aWc (hm.rep (i:=1) rfl) hq),_,hm.blkAt (i:=0) rfl,hm.out (aHG (hm.rep (i:=1) rfl) hq)⟩
end Go.Proofs.YtipgdlbbmlnfiaaGreatDoor
