/- Walks of functions that the laws of this seat reach. No statement of the seat stands here. -/
import Derived.Test.YthblgheenamnhaaGreatDoorRL4
import Derived.Test.YthblgheenamnhaaGreatDoorRRows
import Derived.Test.YthblgheenamnhaaGreatDoorRFa
import Derived.Test.YthblgheenamnhaaGreatDoorRSd
namespace Go.Proofs.YthblgheenamnhaaGreatDoorR
open Go Go.Mk
theorem flexible_c {w0:World} {Y:Nat → Prop} {fs:List Fld} {p:Option Addr} {cap:Nat} (fx V:Int) (hF:Rep w0 Y (.sl false 8 (fs.map ddFd)) [.slice p fs.length cap]):Ret Tryz.prog 16 [.agg #[.slice p fs.length cap,.int .i64 fx],.int .i64 V] w0 fun v w'=>Agr Nob w0 w' ∧ v = .bool (decide (fx ≥ 0) && decide (V ≥ fx)):=by
  refine c_call Tryz.func16 rfl rfl fun a hk=>?_
  have hk:Kn 14 [(0,.agg #[.slice p fs.length cap,.int .i64 fx]),(1,.int .i64 V)] a:=hk
  have hm:Mem w0 Nob Y [.rep (.sl false 8 (fs.map ddFd)) [.slice p fs.length cap]] w0:=Mem.start rfl (by simp only [List.forall_mem_cons,List.not_mem_nil,false_imp_iff,implies_true,and_true]; exact hF)
  refine cR0 ?_
  refine o_box hk hm rfl rfl rfl fun a b1 w hk hm=>?_
  refine oA0 hk rfl rfl fun a hk=>?_
  refine cE0 ?_
  refine cR0 ?_
  refine oF0 hk fo_34_1 rfl rfl fun a hk=>?_
  refine o_load hk ts_3 rfl (hm.cell_blk (i:=0) rfl rfl) rfl fun a hk=>?_
  refine o_icmp hk rfl rfl rfl rfl fun a hk=>?_
  refine oM0 hk rfl rfl fun a hk=>?_
  rcases Bool.eq_false_or_eq_true (decide ((fx:Int) ≥ 0)) with hb2 | hb2
  · rw [hb2] at hk
    refine o_want (o':=_) hk ⟨_,_,_,rfl,rfl,rfl⟩ rfl ?_
    refine oM0 hk rfl rfl fun a hk=>?_
    refine o_want (o':=_) hk ⟨_,_,_,rfl,rfl,rfl⟩ rfl ?_
    refine oF0 hk fo_34_1 rfl rfl fun a hk=>?_
    refine o_want (o':=_) hk ⟨_,_,_,rfl,rfl,rfl⟩ rfl ?_
    refine o_load hk ts_3 rfl (hm.cell_blk (i:=0) rfl rfl) rfl fun a hk=>?_
    refine o_want (o':=_) hk ⟨_,_,_,rfl,rfl,rfl⟩ rfl ?_
    refine o_icmp hk rfl rfl rfl rfl fun a hk=>?_
    refine o_pick hk rfl rfl rfl rfl rfl fun a hk=>?_
    refine oA0 hk rfl rfl fun a hk=>?_
    refine cE0 ?_
    refine wp_ret ?_
    refine bT0 rfl hk rfl ?_
    exact ⟨hm.agr,congrArg Value.bool (show decide (V ≥ fx) = (decide (fx ≥ 0) && decide (V ≥ fx)) by simp only [hb2,Bool.true_and])⟩
  · rw [hb2] at hk
    refine oS0 hk ⟨_,_,_,_,rfl,rfl,rfl,nb_ft⟩ rfl rfl fun a hk=>?_
    refine oS0 hk ⟨_,_,_,_,rfl,rfl,rfl,nb_ft⟩ rfl rfl fun a hk=>?_
    refine oS0 hk ⟨_,_,_,_,rfl,rfl,rfl,nb_ft⟩ rfl rfl fun a hk=>?_
    refine oS0 hk ⟨_,_,_,_,rfl,rfl,rfl,nb_ft⟩ rfl rfl fun a hk=>?_
    refine o_pick hk rfl rfl rfl rfl rfl fun a hk=>?_
    refine oA0 hk rfl rfl fun a hk=>?_
    refine cE0 ?_
    refine wp_ret ?_
    refine bT0 rfl hk rfl ?_
    exact ⟨hm.agr,congrArg Value.bool (show false = (decide (fx ≥ 0) && decide (V ≥ fx)) by simp only [hb2,Bool.false_and])⟩
def fitS (s:List UInt8):Bool:=decide (s.length ≤ 2147483647)
theorem fits4_c {w0:World} {has:Bool} {s:List UInt8}:Ret Tryz.prog 7 [.agg #[.bool has,.string (bs s)]] w0 fun v w'=>Agr Nob w0 w' ∧ v = .bool (fitS s):=by
  refine c_call Tryz.func7 rfl rfl fun a hk=>?_
  have hk:Kn 7 [(0,.agg #[.bool has,.string (bs s)])] a:=hk
  have hm:Mem w0 Nob Nob [] w0:=Mem.start rfl (by simp)
  refine cR0 ?_
  refine o_box (cs:=[.bool has,.string (bs s)]) hk hm rfl rfl rfl fun a b1 w hk hm=>?_
  refine oA0 hk rfl rfl fun a hk=>?_
  refine cE0 ?_
  refine wp_seq ?_
  refine cR0 ?_
  refine oF0 hk fo_23_1 rfl rfl fun a hk=>?_
  refine o_load hk ts_9 rfl (hm.cell_blk (i:=0) (cs:=[.bool has,.string (bs s)]) rfl rfl) rfl fun a hk=>?_
  refine o_lenStr hk is_9 rfl rfl fun a hk=>?_
  refine o_icmp (b:=decide (((bs s).size:Int) > 2147483647)) hk rfl rfl rfl rfl fun a hk=>?_
  refine cE0 ?_
  refine c_cond hk rfl (fun hc=>?_) (fun hc=>?_)
  · refine cR0 ?_
    refine oA0 hk rfl rfl fun a hk=>?_
    refine cE0 ?_
    refine wp_ret ?_
    refine cQ0 ?_
    refine bT0 rfl hk rfl ?_
    refine ⟨hm.agr,?_⟩
    have h:=of_decide_eq_true hc
    rw [bs_size] at h
    unfold fitS
    rw [decide_eq_false (by omega)]
  · refine wp_skip ?_
    refine cT0 ?_
    refine cR0 ?_
    refine oA0 hk rfl rfl fun a hk=>?_
    refine cE0 ?_
    refine wp_ret ?_
    refine bT0 rfl hk rfl ?_
    refine ⟨hm.agr,?_⟩
    have h:=of_decide_eq_false hc
    rw [bs_size] at h
    unfold fitS
    rw [decide_eq_true (by omega)]
end Go.Proofs.YthblgheenamnhaaGreatDoorR
