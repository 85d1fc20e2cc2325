/- Walks of functions that the seat's laws reach. -/
import Derived.Test.YtipgdlbbmlnfiaaGreatDoorL4
import Derived.Test.YtipgdlbbmlnfiaaGreatDoorRows
import Derived.Test.YtipgdlbbmlnfiaaGreatDoorFa
import Derived.Test.YtipgdlbbmlnfiaaGreatDoorRf
namespace Go.Proofs.YtipgdlbbmlnfiaaGreatDoor
open Go Go.Mk
theorem aC4 {w0:World}{Y:Nat→Prop}{rb:Nat}{s:RS}(hb:aBx w0 Y rb 142 s)(hY:Y rb):Ret Tryz.prog 108 [.pointer (some ⟨rb,0,none⟩)] w0 fun v w'=>Agr (fun k=>k=rb) w0 w'∧v=.int .u32 ((RS.uv s).1:Int)∧aBx w' (fun b=>b<w0.heap.size∧Y b) rb 142 (RS.uv s).2:=by
 obtain⟨x,hb,hx⟩:=hb
 obtain⟨px,capx,rfl,hcap⟩:=aBp hx
 refine aAy Tryz.func108 rfl rfl fun a hk=>?_
 have hk:Kn 31 [(0,.pointer (some ⟨rb,0,none⟩))] a:=hk
 have hm:Mem w0 (fun k=>k=rb) Y [.blk rb [.slice px ((s.src.getD []).length) capx,.bool s.bad] 142,.rep (aBr s.src) [.slice px ((s.src.getD []).length) capx]] w0:=Mem.startBlk hb hY rfl (by simp only[List.forall_mem_cons,List.not_mem_nil,false_imp_iff,implies_true,and_true];exact hx)
 refine cR0 ?_
 refine oA0 hk rfl rfl fun a hk=>?_
 refine cE0 ?_
 refine cR0 ?_
 refine oM0 hk rfl rfl fun a hk=>?_
 refine oN0 hk rfl rfl fun a hk=>?_
 refine oF0 hk aAV rfl rfl fun a hk=>?_
 refine aAq hk aBy rfl (hm.cell_blk (i:=0) rfl rfl) rfl fun a hk=>?_
 refine aAk hk bAB (aQF (hm.rep (i:=1) rfl)) ⟨rfl,trivial⟩ rfl fun v w1 a hR hk=>?_
 obtain⟨rfl,hR⟩:=hR
 obtain⟨n,k,rfl,hcase⟩ : ∃ (n:Nat) (k:Int),v=.tuple #[.int .u32 (n:Int),.int .i64 k]∧((∃ q:Nat,k=(q:Int)∧0<q∧q≤(s.src.getD []).length∧uvG 4 (s.src.getD [])=some (n,(s.src.getD []).drop q))∨(n=0∧k≤0∧uvG 4 (s.src.getD [])=none)):=by
  rcases hR with ⟨n,q,h1,h2,h3,h4⟩|⟨k,h1,h2,h3⟩
  ·exact⟨n,(q:Int),h1,.inl ⟨q,rfl,h2,h3,h4⟩⟩
  ·exact⟨0,k,h1,.inr ⟨rfl,h2,h3⟩⟩
 refine oM0 hk rfl rfl fun a hk=>?_
 refine aDb hk rfl rfl rfl fun a hk=>?_
 refine aDb hk rfl rfl rfl fun a hk=>?_
 refine oA0 hk rfl rfl fun a hk=>?_
 refine oA0 hk rfl rfl fun a hk=>?_
 refine cE0 ?_
 refine wp_seq ?_
 refine cR0 ?_
 refine oM0 hk rfl rfl fun a hk=>?_
 refine aAx hk rfl rfl rfl rfl fun a hk=>?_
 refine cE0 ?_
 refine aAA hk rfl (fun hc=>?_) (fun hc=>?_)
 ·have hle:k≤0:=of_decide_eq_true hc
  have hn:RS.uv s=(0,RS.fail):=by
   rcases hcase with ⟨q,h1,h2,_⟩|⟨_,_,h3⟩
   ·omega
   ·unfold RS.uv RS.l;rw[h3]
  rw[hn]
  refine cR0 ?_
  refine oM0 hk rfl rfl fun a hk=>?_
  refine oN0 hk rfl rfl fun a hk=>?_
  refine oF0 hk aEc rfl rfl fun a hk=>?_
  refine aAz (i:=0) hk hm aHp rfl rfl rfl rfl rfl rfl (Nat.le_of_ble_eq_true rfl) fun a w hk hm=>?_
  refine cE0 ?_
  refine cR0 ?_
  refine oM0 hk rfl rfl fun a hk=>?_
  refine oN0 hk rfl rfl fun a hk=>?_
  refine oF0 hk aAV rfl rfl fun a hk=>?_
  refine aAz (i:=0) hk hm aBy rfl rfl rfl rfl rfl rfl (Nat.le_of_ble_eq_true rfl) fun a w hk hm=>?_
  refine cE0 ?_
  refine cR0 ?_
  refine oA0 hk rfl rfl fun a hk=>?_
  refine cE0 ?_
  refine wp_ret ?_
  refine cQ0 ?_
  refine bT0 rfl hk rfl ?_
  exact⟨hm.agr,rfl,_,hm.blkAt (i:=0) rfl,aCn _⟩
 ·have hle : ¬ k≤0:=of_decide_eq_false hc
  obtain⟨q,rfl,hq0,hq,hu⟩ : ∃ q:Nat,k=(q:Int)∧0<q∧q≤(s.src.getD []).length∧uvG 4 (s.src.getD [])=some (n,(s.src.getD []).drop q):=by
   rcases hcase with h|⟨_,h,_⟩
   ·exact h
   ·exact absurd h hle
  have hn:RS.uv s=(n,⟨some ((s.src.getD []).drop q),s.bad⟩):=by unfold RS.uv RS.l;rw[hu]
  obtain⟨l,hl⟩ : ∃ l,s.src=some l:=by cases h:s.src with|none=>rw[h] at hq;simp at hq;omega|some l=>exact⟨l,rfl⟩
  rw[hn]
  refine wp_skip ?_
  refine cT0 ?_
  refine cR0 ?_
  refine oM0 hk rfl rfl fun a hk=>?_
  refine oM0 hk rfl rfl fun a hk=>?_
  refine oN0 hk rfl rfl fun a hk=>?_
  refine oF0 hk aAV rfl rfl fun a hk=>?_
  refine aAq hk aBy rfl (hm.cell_blk (i:=0) rfl rfl) rfl fun a hk=>?_
  refine oM0 hk rfl rfl fun a hk=>?_
  refine aEk (k:=q) hk aA9 aDQ rfl rfl hq rfl fun a hk=>?_
  refine oN0 hk rfl rfl fun a hk=>?_
  refine oF0 hk aAV rfl rfl fun a hk=>?_
  refine aAz (i:=0) hk hm aBy rfl rfl (aE7 (rfl)) rfl rfl rfl (Nat.le_of_ble_eq_true rfl) fun a w hk hm=>?_
  refine cE0 ?_
  refine cR0 ?_
  refine oM0 hk rfl rfl fun a hk=>?_
  refine oA0 hk rfl rfl fun a hk=>?_
  refine cE0 ?_
  refine wp_ret ?_
  refine bT0 rfl hk rfl ?_
  have hsf:=aHG (hm.rep (i:=1) rfl) hq
  rw[hl] at hsf
  exact⟨hm.agr,rfl,_,hm.blkAt (i:=0) rfl,by simp only[hl,Option.getD_some] at hsf ⊢;exact hm.out hsf⟩
theorem aDA {w0:World}{Y:Nat→Prop}{rb:Nat}{s:RS}(hb:aBx w0 Y rb 142 s)(hY:Y rb):Ret Tryz.prog 96 [.pointer (some ⟨rb,0,none⟩)] w0 fun v w'=>Agr (fun k=>k=rb) w0 w'∧v=.int .i32 (aEp true s).1∧aBx w' (fun b=>b<w0.heap.size∧Y b) rb 142 (aEp true s).2:=by
 obtain⟨x,hb,hx⟩:=hb
 obtain⟨px,capx,rfl,hcap⟩:=aBp hx
 refine aAy Tryz.func96 rfl rfl fun a hk=>?_
 have hk:Kn 23 [(0,.pointer (some ⟨rb,0,none⟩))] a:=hk
 have hm:Mem w0 (fun k=>k=rb) Y [.blk rb [.slice px ((s.src.getD []).length) capx,.bool s.bad] 142,.rep (aBr s.src) [.slice px ((s.src.getD []).length) capx]] w0:=Mem.startBlk hb hY rfl (by simp only[List.forall_mem_cons,List.not_mem_nil,false_imp_iff,implies_true,and_true];exact hx)
 refine cR0 ?_
 refine oA0 hk rfl rfl fun a hk=>?_
 refine cE0 ?_
 refine cR0 ?_
 refine oM0 hk rfl rfl fun a hk=>?_
 refine aAk hk aJ7 (aC4 (Y:=Yof w0 Y [.blk rb [.slice px ((s.src.getD []).length) capx,.bool s.bad] 142,.rep (aBr s.src) [.slice px ((s.src.getD []).length) capx]]) (s:=s) ⟨_,hm.blkAt (i:=0) rfl,hm.rep (i:=1) rfl⟩ (aE2 (i:=0) rfl)) ⟨rfl,trivial⟩ rfl fun v1 w1 a hR hk=>?_
 obtain⟨hp1,rfl,x1,hb1,hr1⟩:=hR
 obtain⟨px1,capx1,rfl,hcap1⟩:=aBp hr1
 have hm:=hm.blkCall (i:=0) rfl hp1 hb1 hr1
 refine aAG (c:=(IntKind.i32.wrap ((RS.uv s).1:Int))) hk aQY aYY rfl rfl rfl fun a hk=>?_
 refine aCj (c:=IntKind.i32.wrap ((IntKind.i32.wrap ((RS.uv s).1:Int)) - 1)) hk rfl rfl rfl rfl rfl fun a hk=>?_
 refine oA0 hk rfl rfl fun a hk=>?_
 refine cE0 ?_
 refine wp_seq ?_
 refine cR0 ?_
 refine oM0 hk rfl rfl fun a hk=>?_
 refine oN0 hk rfl rfl fun a hk=>?_
 refine oF0 hk aAV rfl rfl fun a hk=>?_
 refine aAq hk aBy rfl (hm.cell_blk (i:=1) rfl rfl) rfl fun a hk=>?_
 refine oL0 hk aA9 rfl rfl fun a hk=>?_
 refine oM0 hk rfl rfl fun a hk=>?_
 refine aAG (c:=IntKind.i32.wrap ((IntKind.i32.wrap ((RS.uv s).1:Int)) - 1)) hk aI7 aTb rfl (Er.wrap_up (by simp) _) rfl fun a hk=>?_
 refine aAx hk rfl rfl rfl rfl fun a hk=>?_
 refine cE0 ?_
 refine aAA hk rfl (fun hc=>?_) (fun hc=>?_)
 ·have hn:=Er.rdCnt_t s
  rw[if_pos (of_decide_eq_true hc)] at hn
  rw[hn]
  refine cR0 ?_
  refine oM0 hk rfl rfl fun a hk=>?_
  refine oN0 hk rfl rfl fun a hk=>?_
  refine oF0 hk aEc rfl rfl fun a hk=>?_
  refine aAz (i:=1) hk hm aHp rfl rfl rfl rfl rfl rfl (Nat.le_of_ble_eq_true rfl) fun a w hk hm=>?_
  refine cE0 ?_
  refine cR0 ?_
  refine oM0 hk rfl rfl fun a hk=>?_
  refine oN0 hk rfl rfl fun a hk=>?_
  refine oF0 hk aAV rfl rfl fun a hk=>?_
  refine aAz (i:=1) hk hm aBy rfl rfl rfl rfl rfl rfl (Nat.le_of_ble_eq_true rfl) fun a w hk hm=>?_
  refine cE0 ?_
  refine cR0 ?_
  refine oA0 hk rfl rfl fun a hk=>?_
  refine cE0 ?_
  refine wp_ret ?_
  refine cQ0 ?_
  refine bT0 rfl hk rfl ?_
  exact⟨hm.agr,rfl,_,hm.blkAt (i:=1) rfl,aCn _⟩
 ·have hn:=Er.rdCnt_t s
  rw[if_neg (of_decide_eq_false hc)] at hn
  rw[hn]
  refine wp_skip ?_
  refine cT0 ?_
  refine cR0 ?_
  refine oM0 hk rfl rfl fun a hk=>?_
  refine oA0 hk rfl rfl fun a hk=>?_
  refine cE0 ?_
  refine wp_ret ?_
  refine bT0 rfl hk rfl ?_
  exact⟨hm.agr,rfl,_,hm.blkAt (i:=1) rfl,hm.out (hm.rep (i:=0) rfl)⟩
end Go.Proofs.YtipgdlbbmlnfiaaGreatDoor
