/- Walks of functions that the laws of this seat reach. No statement of the seat stands here. -/
import Derived.Test.YthblgheenamnhaaGreatDoorRL2
import Derived.Test.YthblgheenamnhaaGreatDoorRRows
import Derived.Test.YthblgheenamnhaaGreatDoorRFa
import Derived.Test.YthblgheenamnhaaGreatDoorRSa
namespace Go.Proofs.YthblgheenamnhaaGreatDoorR
open Go Go.Mk
theorem fixed_c {w0:World} {Y:Nat → Prop} (n:Int) (k:Nat) (h8:k ≤ 8):Ret Tryz.prog 34 [.int .i64 n,.int .i64 (k:Int)] w0 fun v w'=>RowTo w0 5 1 (.slice none 0 0) (fixed n k).length (bv (fixed n k)) v w':=by
 refine c_call Tryz.func34 rfl rfl fun a hk=>?_
 have hk:Kn 22 [(0,.int .i64 n),(1,.int .i64 (k:Int))] a:=hk
 have hm:Mem w0 Nob Y [] w0:=Mem.start rfl (by simp)
 refine cR0 ?_
 refine oA0 hk rfl rfl fun a hk=>?_
 refine cE0 ?_
 refine cR0 ?_
 refine oA0 hk rfl rfl fun a hk=>?_
 refine cE0 ?_
 refine wp_seq ?_
 refine cR0 ?_
 refine oM0 hk rfl rfl fun a hk=>?_
 refine o_iarith (c:=(k:Int) - 1) hk rfl rfl rfl (IntWalk.i64_in _ (by omega)) rfl fun a hk=>?_
 refine oA0 hk rfl rfl fun a hk=>?_
 refine cE0 ?_
 have hm:=hm.addNil 5 1
 have hm:=hm.rowEq (i:=0) (n':=([]:List UInt8).length) (xs':=bv []) rfl rfl rfl
 refine c_loop (fun g a w=>∃ vr xs,Kn 22 [(0,.int .i64 n),(5,vr),(6,.int .i64 ((g:Int) - 1))] a ∧ xs ++ fixed n g = fixed n k ∧ g ≤ k ∧ Mem w0 Nob Y [.row 5 1 vr xs.length (bv xs)] w) k ⟨_,_,hk.sub ⟨rfl,rfl,rfl,trivial⟩,(by simp),(Nat.le_refl k),hm⟩ (fun g a w hJ=>?_)
 obtain ⟨vr,xs,hk,hI0,hI1,hm⟩:=hJ
 have hxl:=congrArg List.length hI0
 simp only [List.length_append,fixed_length] at hxl
 refine wp_seq ?_
 refine cR0 ?_
 refine oM0 hk rfl rfl fun a hk=>?_
 refine o_icmp hk rfl rfl rfl rfl fun a hk=>?_
 refine cE0 ?_
 refine c_cond hk rfl (fun hc=>?_) (fun hc=>?_)
 ·refine wp_skip ?_
  refine cT0 ?_
  refine wp_seq ?_
  refine wp_block ?_
  refine c_reg ?_
  refine oM0 hk rfl rfl fun a hk=>?_
  refine oM0 hk rfl rfl fun a hk=>?_
  refine oM0 hk rfl rfl fun a hk=>?_
  refine o_iarith (c:=((8 * (g - 1):Nat):Int)) hk rfl rfl rfl (by simp only [ge_iff_le,decide_eq_true_eq] at hc; rw [IntWalk.i64_in _ (by omega)]; omega) rfl fun a hk=>?_
  refine o_shrV (s:=(8 * (g - 1))) hk rfl rfl (by simp only [IntKind.bits]; omega) rfl rfl fun a hk=>?_
  refine o_convInt (c:=IntKind.u8.wrap (n / 2 ^ (8 * (g - 1)))) hk un_2 ti_5 rfl rfl rfl fun a hk=>?_
  refine o_buildSlice (r:=[.int .u8 (IntKind.u8.wrap (n / 2 ^ (8 * (g - 1))))]) hk hm rt_24 tz_5 rfl rfl rfl ⟨_,_,_,rfl,rfl,rfl,rfl,rfl⟩ rfl fun a b1 w hk hm=>?_
  refine o_append (i:=1) hk hm rt_24 rfl rfl rfl (src_cells (k:=1) (news:=[.int .u8 (IntKind.u8.wrap (n / 2 ^ (8 * (g - 1))))]) te_24 rfl (hm.cells_blk (i:=0) rfl rfl) rfl) (by unfold maxLen; omega) (by omega) rfl fun a v2 w hk hm hnilv2=>?_
  refine oA0 hk rfl rfl fun a hk=>?_
  refine c_endQ ?_
  refine cN0 ?_
  refine cT0 ?_
  refine c_reg ?_
  refine oM0 hk rfl rfl fun a hk=>?_
  refine o_iarith (c:=(g:Int) - 1 - 1) hk rfl rfl rfl (IntWalk.i64_in _ (by omega)) rfl fun a hk=>?_
  refine oA0 hk rfl rfl fun a hk=>?_
  refine c_endQ ?_
  refine cT0 ?_
  obtain ⟨g,rfl⟩ : ∃ j,g = j + 1:=⟨g - 1,by simp only [ge_iff_le,decide_eq_true_eq] at hc; omega⟩
  have e1:((g + 1:Nat):Int) - 1 - 1 = (g:Int) - 1:=by omega
  rw [e1] at hk
  have hm:=hm.rowEq (i:=1) (n':=(xs ++ [u8 (n / 2 ^ (8 * g))]).length) (xs':=bv (xs ++ [u8 (n / 2 ^ (8 * g))])) rfl (by simp) (by rw [← bv_snoc]; rfl)
  exact ⟨_,(Nat.lt_succ_self g),_,_,hk.sub ⟨rfl,rfl,rfl,trivial⟩,(by rw [← hI0,fixed_succ]; simp),(by omega),hm.pick [1] rfl rfl⟩
 ·refine wp_exit ?_
  refine c_thenExit ?_
  refine c_thenExit ?_
  refine c_inSame ?_
  refine cT0 ?_
  refine cR0 ?_
  refine oM0 hk rfl rfl fun a hk=>?_
  refine oA0 hk rfl rfl fun a hk=>?_
  refine cE0 ?_
  refine wp_ret ?_
  refine bT0 rfl hk rfl ?_
  have hr:=hm.rowOut (i:=0) rfl
  have hg:g = 0:=by simp only [ge_iff_le,decide_eq_false_iff_not] at hc; omega
  subst hg
  rw [fixed,List.append_nil] at hI0
  subst hI0
  exact hr
theorem uvarint_c {w0:World} {Y:Nat → Prop} (n:Nat) (h64:n < 18446744073709551616):Ret Tryz.prog 58 [.int .u64 (n:Int)] w0 fun v w'=>RowTo w0 5 1 (.slice none 0 0) (uvarint n).length (bv (uvarint n)) v w':=by
 refine c_call Tryz.func58 rfl rfl fun a hk=>?_
 have hk:Kn 20 [(0,.int .u64 (n:Int))] a:=hk
 have hm:Mem w0 Nob Y [] w0:=Mem.start rfl (by simp)
 have hlen:=uvarint_len10 n h64
 refine cR0 ?_
 refine oA0 hk rfl rfl fun a hk=>?_
 refine cE0 ?_
 refine cR0 ?_
 refine oA0 hk rfl rfl fun a hk=>?_
 refine cE0 ?_
 refine wp_seq ?_
 have hm:=hm.addNil 5 1
 have hm:=hm.rowEq (i:=0) (n':=([]:List UInt8).length) (xs':=bv []) rfl rfl rfl
 refine c_loop (fun g a w=>∃ vr xs,Kn 20 [(0,.int .u64 (g:Int)),(3,vr)] a ∧ xs ++ uvarint g = uvarint n ∧ g ≤ n ∧ Mem w0 Nob Y [.row 5 1 vr xs.length (bv xs)] w) n ⟨_,_,hk.sub ⟨rfl,rfl,trivial⟩,(by simp),(Nat.le_refl n),hm⟩ (fun g a w hJ=>?_)
 obtain ⟨vr,xs,hk,hI0,hI1,hm⟩:=hJ
 have hxl:=congrArg List.length hI0
 rw [List.length_append] at hxl
 refine wp_seq ?_
 refine cR0 ?_
 refine oM0 hk rfl rfl fun a hk=>?_
 refine o_icmp hk rfl rfl rfl rfl fun a hk=>?_
 refine cE0 ?_
 refine c_cond hk rfl (fun hc=>?_) (fun hc=>?_)
 ·refine wp_skip ?_
  refine cT0 ?_
  refine wp_block ?_
  refine cR0 ?_
  refine oM0 hk rfl rfl fun a hk=>?_
  refine oM0 hk rfl rfl fun a hk=>?_
  refine o_ibits (c:=((g % 128:Nat):Int)) hk rfl rfl (and127_u64 g (by omega)) rfl fun a hk=>?_
  refine o_convInt (c:=((g % 128:Nat):Int)) hk un_80 ti_5 rfl (by rw [IntKind.wrap_u8]; omega) rfl fun a hk=>?_
  refine o_ibits (c:=((g % 128 + 128:Nat):Int)) hk rfl rfl (or128_u8 _ (by omega)) rfl fun a hk=>?_
  refine o_buildSlice (r:=[.int .u8 ((g % 128 + 128:Nat):Int)]) hk hm rt_24 tz_5 rfl rfl rfl ⟨_,_,_,rfl,rfl,rfl,rfl,rfl⟩ rfl fun a b1 w hk hm=>?_
  refine o_append (i:=1) hk hm rt_24 rfl rfl rfl (src_cells (k:=1) (news:=[.int .u8 ((g % 128 + 128:Nat):Int)]) te_24 rfl (hm.cells_blk (i:=0) rfl rfl) rfl) (by unfold maxLen; omega) (by omega) rfl fun a v2 w hk hm hnilv2=>?_
  refine oA0 hk rfl rfl fun a hk=>?_
  refine cE0 ?_
  refine c_reg ?_
  refine oM0 hk rfl rfl fun a hk=>?_
  refine o_shr (s:=7) (c:=((g / 128:Nat):Int)) hk rfl rfl (by omega) rfl fun a hk=>?_
  refine oA0 hk rfl rfl fun a hk=>?_
  refine c_endQ ?_
  refine cN0 ?_
  refine cT0 ?_
  have hg:g > 127:=by simp only [decide_eq_true_eq] at hc; omega
  have hm:=hm.rowEq (i:=1) (n':=(xs ++ [UInt8.ofNat (g % 128 + 128)]).length) (xs':=bv (xs ++ [UInt8.ofNat (g % 128 + 128)])) rfl (by simp) (by rw [← bv_snocN _ _ (by omega)])
  exact ⟨_,(by omega),_,_,hk.sub ⟨rfl,rfl,trivial⟩,(by rw [← hI0,uvarint_big hg]; simp),(by omega),hm.pick [1] rfl rfl⟩
 ·refine wp_exit ?_
  refine c_thenExit ?_
  refine c_thenExit ?_
  refine c_inSame ?_
  refine cT0 ?_
  refine cR0 ?_
  refine oM0 hk rfl rfl fun a hk=>?_
  refine oM0 hk rfl rfl fun a hk=>?_
  refine o_convInt (c:=(g:Int)) hk un_80 ti_5 rfl (by simp only [decide_eq_false_iff_not] at hc; rw [IntKind.wrap_u8]; omega) rfl fun a hk=>?_
  refine o_buildSlice (r:=[.int .u8 (g:Int)]) hk hm rt_24 tz_5 rfl rfl rfl ⟨_,_,_,rfl,rfl,rfl,rfl,rfl⟩ rfl fun a b3 w hk hm=>?_
  refine o_append (i:=1) hk hm rt_24 rfl rfl rfl (src_cells (k:=1) (news:=[.int .u8 (g:Int)]) te_24 rfl (hm.cells_blk (i:=0) rfl rfl) rfl) (by unfold maxLen; omega) (by omega) rfl fun a v4 w hk hm hnilv4=>?_
  refine oA0 hk rfl rfl fun a hk=>?_
  refine cE0 ?_
  refine wp_ret ?_
  refine bT0 rfl hk rfl ?_
  have hg : ¬ g > 127:=by simp only [decide_eq_false_iff_not] at hc; omega
  have hr:=hm.rowOut (i:=1) rfl
  rw [bv_snocN _ _ (by omega)] at hr
  rw [uvarint_small hg] at hI0
  rw [← hI0]
  have e:(xs ++ [UInt8.ofNat g]).length = xs.length + 1:=by simp
  rw [e]; exact hr
theorem counted_c {w0:World} {Y:Nat → Prop} (flex null:Bool) (n k:Nat) (hn:n ≤ room) (h8:k ≤ 8):Ret Tryz.prog 76 [.bool flex,.bool null,.int .i64 (n:Int),.int .i64 (k:Int)] w0 fun v w'=>RowTo w0 5 1 (.slice none 0 0) (counted flex null n k).length (bv (counted flex null n k)) v w':=by
 refine c_call Tryz.func76 rfl rfl fun a hk=>?_
 have hk:Kn 28 [(0,.bool flex),(1,.bool null),(2,.int .i64 (n:Int)),(3,.int .i64 (k:Int))] a:=hk
 have hm:Mem w0 Nob Y [] w0:=Mem.start rfl (by simp)
 unfold room at hn
 refine cR0 ?_
 refine oA0 hk rfl rfl fun a hk=>?_
 refine cE0 ?_
 refine wp_seq ?_
 refine wp_block ?_
 refine cR0 ?_
 refine oM0 hk rfl rfl fun a hk=>?_
 refine oM0 hk rfl rfl fun a hk=>?_
 rcases Bool.eq_false_or_eq_true (flex) with hb1 | hb1
 ·rw [hb1] at hk
  refine o_want (o':=_) hk ⟨_,_,_,rfl,rfl,rfl⟩ rfl ?_
  refine oM0 hk rfl rfl fun a hk=>?_
  refine o_pick hk rfl rfl rfl rfl rfl fun a hk=>?_
  refine oA0 hk rfl rfl fun a hk=>?_
  refine cE0 ?_
  refine c_cond hk rfl (fun hc=>?_) (fun hc=>?_)
  ·have hc2:=hc
   refine cR0 ?_
   refine o_buildSlice (r:=[.int .u8 0]) hk hm rt_24 tz_5 rfl rfl rfl ⟨_,_,_,rfl,rfl,rfl,rfl,rfl⟩ rfl fun a b3 w hk hm=>?_
   refine oA0 hk rfl rfl fun a hk=>?_
   refine cE0 ?_
   refine wp_ret ?_
   refine c_inRet ?_
   refine cQ0 ?_
   refine bT0 rfl hk rfl ?_
   simp only [counted]
   have hm:=hm.blkRow (i:=0) (n:=1) (sz:=1) rfl rfl (by decide)
   have hr:=hm.rowOut (i:=0) rfl
   simp [hb1,hc2]
   exact hr
  ·have hc4:=hc
   refine cR0 ?_
   refine oM0 hk rfl rfl fun a hk=>?_
   refine oA0 hk rfl rfl fun a hk=>?_
   refine cE0 ?_
   refine c_condT hk rfl ?_
   refine cR0 ?_
   refine oM0 hk rfl rfl fun a hk=>?_
   refine o_convInt (c:=(n:Int)) hk un_3 ti_80 rfl (by simp only [IntKind.wrap,IntKind.bits,IntKind.signed]; simp; omega) rfl fun a hk=>?_
   refine o_iarith (c:=((n + 1:Nat):Int)) hk rfl rfl rfl (by simp only [IntKind.wrap,IntKind.bits,IntKind.signed]; simp; omega) rfl fun a hk=>?_
   refine o_call hk cb_58 (uvarint_c (Y:=Y) (n + 1) (by omega)) ⟨rfl,trivial⟩ rfl fun v5 w a hR hk=>?_
   have hm:=hm.rowNew hR
   refine oA0 hk rfl rfl fun a hk=>?_
   refine cE0 ?_
   refine wp_ret ?_
   refine c_inRet ?_
   refine cQ0 ?_
   refine bT0 rfl hk rfl ?_
   simp only [counted]
   have hr:=hm.rowOut (i:=0) rfl
   simp [hb1,hc4]
   exact hr
 ·rw [hb1] at hk
  refine oS0 hk ⟨_,_,_,_,rfl,rfl,rfl,nb_ft⟩ rfl rfl fun a hk=>?_
  refine o_pick hk rfl rfl rfl rfl rfl fun a hk=>?_
  refine oA0 hk rfl rfl fun a hk=>?_
  refine cE0 ?_
  refine c_condF hk rfl ?_
  refine cR0 ?_
  refine oM0 hk rfl rfl fun a hk=>?_
  refine oA0 hk rfl rfl fun a hk=>?_
  refine cE0 ?_
  refine c_condF hk rfl ?_
  refine cR0 ?_
  refine oM0 hk rfl rfl fun a hk=>?_
  refine oA0 hk rfl rfl fun a hk=>?_
  refine cE0 ?_
  refine c_cond hk rfl (fun hc=>?_) (fun hc=>?_)
  ·have hc6:=hc
   refine cR0 ?_
   refine oM0 hk rfl rfl fun a hk=>?_
   refine o_call hk cb_34 (fixed_c (Y:=Y) (-1) k h8) ⟨rfl,rfl,trivial⟩ rfl fun v7 w a hR hk=>?_
   have hm:=hm.rowNew hR
   refine oA0 hk rfl rfl fun a hk=>?_
   refine cE0 ?_
   refine wp_ret ?_
   refine c_inRet ?_
   refine cQ0 ?_
   refine bT0 rfl hk rfl ?_
   simp only [counted]
   have hr:=hm.rowOut (i:=0) rfl
   simp [hb1,hc6]
   exact hr
  ·have hc8:=hc
   refine wp_skip ?_
   refine cN0 ?_
   refine cT0 ?_
   refine cR0 ?_
   refine oM0 hk rfl rfl fun a hk=>?_
   refine oM0 hk rfl rfl fun a hk=>?_
   refine o_call hk cb_34 (fixed_c (Y:=Y) (n:Int) k h8) ⟨rfl,rfl,trivial⟩ rfl fun v9 w a hR hk=>?_
   have hm:=hm.rowNew hR
   refine oA0 hk rfl rfl fun a hk=>?_
   refine cE0 ?_
   refine wp_ret ?_
   refine bT0 rfl hk rfl ?_
   simp only [counted]
   have hr:=hm.rowOut (i:=0) rfl
   simp [hb1,hc8]
   exact hr
end Go.Proofs.YthblgheenamnhaaGreatDoorR
