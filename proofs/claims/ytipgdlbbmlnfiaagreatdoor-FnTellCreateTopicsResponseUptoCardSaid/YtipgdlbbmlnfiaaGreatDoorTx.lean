/- Walks of functions that the seat's laws reach. -/
import Derived.Test.YtipgdlbbmlnfiaaGreatDoorL4
import Derived.Test.YtipgdlbbmlnfiaaGreatDoorRows
import Derived.Test.YtipgdlbbmlnfiaaGreatDoorFa
namespace Go.Proofs.YtipgdlbbmlnfiaaGreatDoor
open Go Go.Mk
theorem aJS {w0:World}{Y:Nat→Prop}{fs:List Fld}{p:Option Addr}{cap:Nat}(fx V:Int)(hF:Rep w0 Y (.sl false 8 (fs.map aBg)) [.slice p fs.length cap]):Ret Tryz.prog 14 [.agg #[.slice p fs.length cap,.int .i64 fx],.int .i64 V] w0 fun v w'=>Agr Nob w0 w'∧v=.bool (decide (fx≥0)&&decide (V≥fx)):=by
  refine aAy Tryz.func14 rfl rfl fun a hk=>?_
  have hk:Kn 14 [(0,.agg #[.slice p fs.length cap,.int .i64 fx]),(1,.int .i64 V)] a:=hk
  have hm:Mem w0 Nob Y [.rep (.sl false 8 (fs.map aBg)) [.slice p fs.length cap]] w0:=Mem.start rfl (by simp only[List.forall_mem_cons,List.not_mem_nil,false_imp_iff,implies_true,and_true];exact hF)
  refine cR0 ?_
  refine aFB hk hm rfl rfl rfl fun a b1 w hk hm=>?_
  refine oA0 hk rfl rfl fun a hk=>?_
  refine cE0 ?_
  refine cR0 ?_
  refine oF0 hk aO5 rfl rfl fun a hk=>?_
  refine aAq hk aF6 rfl (hm.cell_blk (i:=0) rfl rfl) rfl fun a hk=>?_
  refine aAx hk rfl rfl rfl rfl fun a hk=>?_
  refine oM0 hk rfl rfl fun a hk=>?_
  rcases Bool.eq_false_or_eq_true (decide ((fx:Int)≥0)) with hb2|hb2
  · rw[hb2] at hk
    refine aAu (o':=_) hk ⟨_,_,_,rfl,rfl,rfl⟩ rfl ?_
    refine oM0 hk rfl rfl fun a hk=>?_
    refine aAu (o':=_) hk ⟨_,_,_,rfl,rfl,rfl⟩ rfl ?_
    refine oF0 hk aO5 rfl rfl fun a hk=>?_
    refine aAu (o':=_) hk ⟨_,_,_,rfl,rfl,rfl⟩ rfl ?_
    refine aAq hk aF6 rfl (hm.cell_blk (i:=0) rfl rfl) rfl fun a hk=>?_
    refine aAu (o':=_) hk ⟨_,_,_,rfl,rfl,rfl⟩ rfl ?_
    refine aAx hk rfl rfl rfl rfl fun a hk=>?_
    refine aAI hk rfl rfl rfl rfl rfl fun a hk=>?_
    refine oA0 hk rfl rfl fun a hk=>?_
    refine cE0 ?_
    refine wp_ret ?_
    refine bT0 rfl hk rfl ?_
    exact⟨hm.agr,congrArg Value.bool (show decide (V≥fx)=(decide (fx≥0)&&decide (V≥fx)) by simp only[hb2,Bool.true_and])⟩
  · rw[hb2] at hk
    refine oS0 hk ⟨_,_,_,_,rfl,rfl,rfl,aAT⟩ rfl rfl fun a hk=>?_
    refine oS0 hk ⟨_,_,_,_,rfl,rfl,rfl,aAT⟩ rfl rfl fun a hk=>?_
    refine oS0 hk ⟨_,_,_,_,rfl,rfl,rfl,aAT⟩ rfl rfl fun a hk=>?_
    refine oS0 hk ⟨_,_,_,_,rfl,rfl,rfl,aAT⟩ rfl rfl fun a hk=>?_
    refine aAI hk rfl rfl rfl rfl rfl fun a hk=>?_
    refine oA0 hk rfl rfl fun a hk=>?_
    refine cE0 ?_
    refine wp_ret ?_
    refine bT0 rfl hk rfl ?_
    exact⟨hm.agr,congrArg Value.bool (show false=(decide (fx≥0)&&decide (V≥fx)) by simp only[hb2,Bool.false_and])⟩
end Go.Proofs.YtipgdlbbmlnfiaaGreatDoor
