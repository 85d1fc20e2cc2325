/- Walks of functions that the seat's laws reach. -/
import Derived.Test.YtipgdlbbmlnfiaaGreatDoorL2
import Derived.Test.YtipgdlbbmlnfiaaGreatDoorRows
import Derived.Test.YtipgdlbbmlnfiaaGreatDoorFa
import Derived.Test.YtipgdlbbmlnfiaaGreatDoorSa
namespace Go.Proofs.YtipgdlbbmlnfiaaGreatDoor
open Go Go.Mk
theorem aIL {w0:World}{Y:Nat→Prop}(n:Int)(k:Nat)(h8:k≤8):Ret Tryz.prog 73 [.int .i64 n,.int .i64 (k:Int)] w0 fun v w'=>aNA w0 5 1 (.slice none 0 0) (fixed n k).length (bv (fixed n k)) v w':=by
 refine aAy Tryz.func73 rfl rfl fun a hk=>?_
 have hk:Kn 22 [(0,.int .i64 n),(1,.int .i64 (k:Int))] a:=hk
 have hm:Mem w0 Nob Y [] w0:=Mem.start rfl (by simp)
 refine cR0 ?_
 refine oA0 hk rfl rfl fun a hk=>?_
 refine cE0 ?_
 refine cR0 ?_
 refine oA0 hk rfl rfl fun a hk=>?_
 refine cE0 ?_
 refine wp_seq ?_
 refine cR0 ?_
 refine oM0 hk rfl rfl fun a hk=>?_
 refine aCj (c:=(k:Int) - 1) hk rfl rfl rfl (IntWalk.i64_in _ (by omega)) rfl fun a hk=>?_
 refine oA0 hk rfl rfl fun a hk=>?_
 refine cE0 ?_
 have hm:=hm.addNil 5 1
 have hm:=hm.rowEq (i:=0) (n':=([]:List UInt8).length) (xs':=bv []) rfl rfl rfl
 refine aL3 (fun g a w=>∃ vr xs,Kn 22 [(0,.int .i64 n),(5,vr),(6,.int .i64 ((g:Int) - 1))] a∧xs++fixed n g=fixed n k∧g≤k∧Mem w0 Nob Y [.row 5 1 vr xs.length (bv xs)] w) k ⟨_,_,hk.sub ⟨rfl,rfl,rfl,trivial⟩,(by simp),(Nat.le_refl k),hm⟩ (fun g a w hJ=>?_)
 obtain⟨vr,xs,hk,hI0,hI1,hm⟩:=hJ
 have hxl:=congrArg List.length hI0
 simp only[List.length_append,aBL] at hxl
 refine wp_seq ?_
 refine cR0 ?_
 refine oM0 hk rfl rfl fun a hk=>?_
 refine aAx hk rfl rfl rfl rfl fun a hk=>?_
 refine cE0 ?_
 refine aAA hk rfl (fun hc=>?_) (fun hc=>?_)
 ·refine wp_skip ?_
  refine cT0 ?_
  refine wp_seq ?_
  refine wp_block ?_
  refine aC2 ?_
  refine oM0 hk rfl rfl fun a hk=>?_
  refine oM0 hk rfl rfl fun a hk=>?_
  refine oM0 hk rfl rfl fun a hk=>?_
  refine aCj (c:=((8*(g - 1):Nat):Int)) hk rfl rfl rfl (by simp only[ge_iff_le,decide_eq_true_eq] at hc;rw[IntWalk.i64_in _ (by omega)];omega) rfl fun a hk=>?_
  refine aZM (s:=(8*(g - 1))) hk rfl rfl (by simp only[IntKind.bits];omega) rfl rfl fun a hk=>?_
  refine aAG (c:=IntKind.u8.wrap (n/2 ^ (8*(g - 1)))) hk aZD bA4 rfl rfl rfl fun a hk=>?_
  refine aAP (r:=[.int .u8 (IntKind.u8.wrap (n/2 ^ (8*(g - 1))))]) hk hm aEZ aWB rfl rfl rfl ⟨_,_,_,rfl,rfl,rfl,rfl,rfl⟩ rfl fun a b1 w hk hm=>?_
  refine aBs (i:=1) hk hm aEZ rfl rfl rfl (aDP (k:=1) (news:=[.int .u8 (IntKind.u8.wrap (n/2 ^ (8*(g - 1))))]) aA9 rfl (hm.cells_blk (i:=0) rfl rfl) rfl) (by unfold maxLen;omega) (by omega) rfl fun a v2 w hk hm hnilv2=>?_
  refine oA0 hk rfl rfl fun a hk=>?_
  refine aAb ?_
  refine cN0 ?_
  refine cT0 ?_
  refine aC2 ?_
  refine oM0 hk rfl rfl fun a hk=>?_
  refine aCj (c:=(g:Int) - 1 - 1) hk rfl rfl rfl (IntWalk.i64_in _ (by omega)) rfl fun a hk=>?_
  refine oA0 hk rfl rfl fun a hk=>?_
  refine aAb ?_
  refine cT0 ?_
  obtain⟨g,rfl⟩ : ∃ j,g=j+1:=⟨g - 1,by simp only[ge_iff_le,decide_eq_true_eq] at hc;omega⟩
  have e1:((g+1:Nat):Int) - 1 - 1=(g:Int) - 1:=by omega
  rw[e1] at hk
  have hm:=hm.rowEq (i:=1) (n':=(xs++[u8 (n/2 ^ (8*g))]).length) (xs':=bv (xs++[u8 (n/2 ^ (8*g))])) rfl (by simp) (by rw[← aYA];rfl)
  exact⟨_,(Nat.lt_succ_self g),_,_,hk.sub ⟨rfl,rfl,rfl,trivial⟩,(by rw[← hI0,aTk];simp),(by omega),hm.pick [1] rfl rfl⟩
 ·refine wp_exit ?_
  refine aBd ?_
  refine aBd ?_
  refine aD9 ?_
  refine cT0 ?_
  refine cR0 ?_
  refine oM0 hk rfl rfl fun a hk=>?_
  refine oA0 hk rfl rfl fun a hk=>?_
  refine cE0 ?_
  refine wp_ret ?_
  refine bT0 rfl hk rfl ?_
  have hr:=hm.rowOut (i:=0) rfl
  have hg:g=0:=by simp only[ge_iff_le,decide_eq_false_iff_not] at hc;omega
  subst hg
  rw[fixed,List.append_nil] at hI0
  subst hI0
  exact hr
theorem aIr {w0:World}{Y:Nat→Prop}(n:Nat)(h64:n<18446744073709551616):Ret Tryz.prog 72 [.int .u64 (n:Int)] w0 fun v w'=>aNA w0 5 1 (.slice none 0 0) (uvarint n).length (bv (uvarint n)) v w':=by
 refine aAy Tryz.func72 rfl rfl fun a hk=>?_
 have hk:Kn 20 [(0,.int .u64 (n:Int))] a:=hk
 have hm:Mem w0 Nob Y [] w0:=Mem.start rfl (by simp)
 have hlen:=aBX n h64
 refine cR0 ?_
 refine oA0 hk rfl rfl fun a hk=>?_
 refine cE0 ?_
 refine cR0 ?_
 refine oA0 hk rfl rfl fun a hk=>?_
 refine cE0 ?_
 refine wp_seq ?_
 have hm:=hm.addNil 5 1
 have hm:=hm.rowEq (i:=0) (n':=([]:List UInt8).length) (xs':=bv []) rfl rfl rfl
 refine aL3 (fun g a w=>∃ vr xs,Kn 20 [(0,.int .u64 (g:Int)),(3,vr)] a∧xs++uvarint g=uvarint n∧g≤n∧Mem w0 Nob Y [.row 5 1 vr xs.length (bv xs)] w) n ⟨_,_,hk.sub ⟨rfl,rfl,trivial⟩,(by simp),(Nat.le_refl n),hm⟩ (fun g a w hJ=>?_)
 obtain⟨vr,xs,hk,hI0,hI1,hm⟩:=hJ
 have hxl:=congrArg List.length hI0
 rw[List.length_append] at hxl
 refine wp_seq ?_
 refine cR0 ?_
 refine oM0 hk rfl rfl fun a hk=>?_
 refine aAx hk rfl rfl rfl rfl fun a hk=>?_
 refine cE0 ?_
 refine aAA hk rfl (fun hc=>?_) (fun hc=>?_)
 ·refine wp_skip ?_
  refine cT0 ?_
  refine wp_block ?_
  refine cR0 ?_
  refine oM0 hk rfl rfl fun a hk=>?_
  refine oM0 hk rfl rfl fun a hk=>?_
  refine aDc (c:=((g%128:Nat):Int)) hk rfl rfl (aSW g (by omega)) rfl fun a hk=>?_
  refine aAG (c:=((g%128:Nat):Int)) hk aTx bA4 rfl (by rw[IntKind.wrap_u8];omega) rfl fun a hk=>?_
  refine aDc (c:=((g%128+128:Nat):Int)) hk rfl rfl (aVz _ (by omega)) rfl fun a hk=>?_
  refine aAP (r:=[.int .u8 ((g%128+128:Nat):Int)]) hk hm aEZ aWB rfl rfl rfl ⟨_,_,_,rfl,rfl,rfl,rfl,rfl⟩ rfl fun a b1 w hk hm=>?_
  refine aBs (i:=1) hk hm aEZ rfl rfl rfl (aDP (k:=1) (news:=[.int .u8 ((g%128+128:Nat):Int)]) aA9 rfl (hm.cells_blk (i:=0) rfl rfl) rfl) (by unfold maxLen;omega) (by omega) rfl fun a v2 w hk hm hnilv2=>?_
  refine oA0 hk rfl rfl fun a hk=>?_
  refine cE0 ?_
  refine aC2 ?_
  refine oM0 hk rfl rfl fun a hk=>?_
  refine bBS (s:=7) (c:=((g/128:Nat):Int)) hk rfl rfl (by omega) rfl fun a hk=>?_
  refine oA0 hk rfl rfl fun a hk=>?_
  refine aAb ?_
  refine cN0 ?_
  refine cT0 ?_
  have hg:g > 127:=by simp only[decide_eq_true_eq] at hc;omega
  have hm:=hm.rowEq (i:=1) (n':=(xs++[UInt8.ofNat (g%128+128)]).length) (xs':=bv (xs++[UInt8.ofNat (g%128+128)])) rfl (by simp) (by rw[← aRk _ _ (by omega)])
  exact⟨_,(by omega),_,_,hk.sub ⟨rfl,rfl,trivial⟩,(by rw[← hI0,aG3 hg];simp),(by omega),hm.pick [1] rfl rfl⟩
 ·refine wp_exit ?_
  refine aBd ?_
  refine aBd ?_
  refine aD9 ?_
  refine cT0 ?_
  refine cR0 ?_
  refine oM0 hk rfl rfl fun a hk=>?_
  refine oM0 hk rfl rfl fun a hk=>?_
  refine aAG (c:=(g:Int)) hk aTx bA4 rfl (by simp only[decide_eq_false_iff_not] at hc;rw[IntKind.wrap_u8];omega) rfl fun a hk=>?_
  refine aAP (r:=[.int .u8 (g:Int)]) hk hm aEZ aWB rfl rfl rfl ⟨_,_,_,rfl,rfl,rfl,rfl,rfl⟩ rfl fun a b3 w hk hm=>?_
  refine aBs (i:=1) hk hm aEZ rfl rfl rfl (aDP (k:=1) (news:=[.int .u8 (g:Int)]) aA9 rfl (hm.cells_blk (i:=0) rfl rfl) rfl) (by unfold maxLen;omega) (by omega) rfl fun a v4 w hk hm hnilv4=>?_
  refine oA0 hk rfl rfl fun a hk=>?_
  refine cE0 ?_
  refine wp_ret ?_
  refine bT0 rfl hk rfl ?_
  have hg : ¬ g > 127:=by simp only[decide_eq_false_iff_not] at hc;omega
  have hr:=hm.rowOut (i:=1) rfl
  rw[aRk _ _ (by omega)] at hr
  rw[aDv hg] at hI0
  rw[← hI0]
  have e:(xs++[UInt8.ofNat g]).length=xs.length+1:=by simp
  rw[e];exact hr
theorem aM3 {w0:World}{Y:Nat→Prop}(flex null:Bool)(n k:Nat)(hn:n≤room)(h8:k≤8):Ret Tryz.prog 118 [.bool flex,.bool null,.int .i64 (n:Int),.int .i64 (k:Int)] w0 fun v w'=>aNA w0 5 1 (.slice none 0 0) (counted flex null n k).length (bv (counted flex null n k)) v w':=by
 refine aAy Tryz.func118 rfl rfl fun a hk=>?_
 have hk:Kn 28 [(0,.bool flex),(1,.bool null),(2,.int .i64 (n:Int)),(3,.int .i64 (k:Int))] a:=hk
 have hm:Mem w0 Nob Y [] w0:=Mem.start rfl (by simp)
 unfold room at hn
 refine cR0 ?_
 refine oA0 hk rfl rfl fun a hk=>?_
 refine cE0 ?_
 refine wp_seq ?_
 refine wp_block ?_
 refine cR0 ?_
 refine oM0 hk rfl rfl fun a hk=>?_
 refine oM0 hk rfl rfl fun a hk=>?_
 rcases Bool.eq_false_or_eq_true (flex) with hb1|hb1
 ·rw[hb1] at hk
  refine aAu (o':=_) hk ⟨_,_,_,rfl,rfl,rfl⟩ rfl ?_
  refine oM0 hk rfl rfl fun a hk=>?_
  refine aAI hk rfl rfl rfl rfl rfl fun a hk=>?_
  refine oA0 hk rfl rfl fun a hk=>?_
  refine cE0 ?_
  refine aAA hk rfl (fun hc=>?_) (fun hc=>?_)
  ·have hc2:=hc
   refine cR0 ?_
   refine aAP (r:=[.int .u8 0]) hk hm aEZ aWB rfl rfl rfl ⟨_,_,_,rfl,rfl,rfl,rfl,rfl⟩ rfl fun a b3 w hk hm=>?_
   refine oA0 hk rfl rfl fun a hk=>?_
   refine cE0 ?_
   refine wp_ret ?_
   refine aAE ?_
   refine cQ0 ?_
   refine bT0 rfl hk rfl ?_
   simp only[counted]
   have hm:=hm.blkRow (i:=0) (n:=1) (sz:=1) rfl rfl (by decide)
   have hr:=hm.rowOut (i:=0) rfl
   simp[hb1,hc2]
   exact hr
  ·have hc4:=hc
   refine cR0 ?_
   refine oM0 hk rfl rfl fun a hk=>?_
   refine oA0 hk rfl rfl fun a hk=>?_
   refine cE0 ?_
   refine aEm hk rfl ?_
   refine cR0 ?_
   refine oM0 hk rfl rfl fun a hk=>?_
   refine aAG (c:=(n:Int)) hk aVd aHE rfl (by simp only[IntKind.wrap,IntKind.bits,IntKind.signed];simp;omega) rfl fun a hk=>?_
   refine aCj (c:=((n+1:Nat):Int)) hk rfl rfl rfl (by simp only[IntKind.wrap,IntKind.bits,IntKind.signed];simp;omega) rfl fun a hk=>?_
   refine aAk hk aTp (aIr (Y:=Y) (n+1) (by omega)) ⟨rfl,trivial⟩ rfl fun v5 w a hR hk=>?_
   have hm:=hm.rowNew hR
   refine oA0 hk rfl rfl fun a hk=>?_
   refine cE0 ?_
   refine wp_ret ?_
   refine aAE ?_
   refine cQ0 ?_
   refine bT0 rfl hk rfl ?_
   simp only[counted]
   have hr:=hm.rowOut (i:=0) rfl
   simp[hb1,hc4]
   exact hr
 ·rw[hb1] at hk
  refine oS0 hk ⟨_,_,_,_,rfl,rfl,rfl,aAT⟩ rfl rfl fun a hk=>?_
  refine aAI hk rfl rfl rfl rfl rfl fun a hk=>?_
  refine oA0 hk rfl rfl fun a hk=>?_
  refine cE0 ?_
  refine aB9 hk rfl ?_
  refine cR0 ?_
  refine oM0 hk rfl rfl fun a hk=>?_
  refine oA0 hk rfl rfl fun a hk=>?_
  refine cE0 ?_
  refine aB9 hk rfl ?_
  refine cR0 ?_
  refine oM0 hk rfl rfl fun a hk=>?_
  refine oA0 hk rfl rfl fun a hk=>?_
  refine cE0 ?_
  refine aAA hk rfl (fun hc=>?_) (fun hc=>?_)
  ·have hc6:=hc
   refine cR0 ?_
   refine oM0 hk rfl rfl fun a hk=>?_
   refine aAk hk aPb (aIL (Y:=Y) (-1) k h8) ⟨rfl,rfl,trivial⟩ rfl fun v7 w a hR hk=>?_
   have hm:=hm.rowNew hR
   refine oA0 hk rfl rfl fun a hk=>?_
   refine cE0 ?_
   refine wp_ret ?_
   refine aAE ?_
   refine cQ0 ?_
   refine bT0 rfl hk rfl ?_
   simp only[counted]
   have hr:=hm.rowOut (i:=0) rfl
   simp[hb1,hc6]
   exact hr
  ·have hc8:=hc
   refine wp_skip ?_
   refine cN0 ?_
   refine cT0 ?_
   refine cR0 ?_
   refine oM0 hk rfl rfl fun a hk=>?_
   refine oM0 hk rfl rfl fun a hk=>?_
   refine aAk hk aPb (aIL (Y:=Y) (n:Int) k h8) ⟨rfl,rfl,trivial⟩ rfl fun v9 w a hR hk=>?_
   have hm:=hm.rowNew hR
   refine oA0 hk rfl rfl fun a hk=>?_
   refine cE0 ?_
   refine wp_ret ?_
   refine bT0 rfl hk rfl ?_
   simp only[counted]
   have hr:=hm.rowOut (i:=0) rfl
   simp[hb1,hc8]
   exact hr
end Go.Proofs.YtipgdlbbmlnfiaaGreatDoor
