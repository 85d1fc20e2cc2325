/- Walks of functions that the seat's laws reach. -/
import Derived.Test.YtipgdlbbmlnfiaaGreatDoorL2
import Derived.Test.YtipgdlbbmlnfiaaGreatDoorRows
import Derived.Test.YtipgdlbbmlnfiaaGreatDoorFa
import Derived.Test.YtipgdlbbmlnfiaaGreatDoorSg
namespace Go.Proofs.YtipgdlbbmlnfiaaGreatDoor
open Go Go.Mk
theorem aOE {w0:World}{Y:Nat→Prop}{fs:List Fld}{t:T}{ct:List Value}{p:Option Addr}{cap:Nat}{flex:Bool}(fx V:Int)(hpt:aTd flex fs)(hfx:(decide (fx≥0)&&decide (V≥fx))=flex)(hF:Rep w0 Y (.sl false 8 (fs.map aBg)) [.slice p fs.length cap])(hT:Rep w0 Y (ddT t) ct)(hsn:t.sane=true)(hroom:(aBk fs V flex t).length≤room):Ret Tryz.prog 12 [.agg #[.slice p fs.length cap,.int .i64 fx],.int .i64 V,.agg ct.toArray] w0 fun v w'=>aNA w0 5 1 (.slice none 0 0) (aBk fs V flex t).length (bv (aBk fs V flex t)) v w':=by
  obtain⟨pst,capst,pt,capt,put,caput,rfl⟩:=aB6 hT
  refine aAy Tryz.func12 rfl rfl fun a hk=>?_
  have hk:Kn 21 [(0,.agg #[.slice p fs.length cap,.int .i64 fx]),(1,.int .i64 V),(2,.agg #[.int .i64 t.n,.slice pst t.s.length capst,.bool t.z,.slice pt t.l.length capt,.slice put t.u.length caput])] a:=hk
  have hm:Mem w0 Nob Y [.rep (.sl false 8 (fs.map aBg)) [.slice p fs.length cap],.rep (ddT t) [.int .i64 t.n,.slice pst t.s.length capst,.bool t.z,.slice pt t.l.length capt,.slice put t.u.length caput]] w0:=Mem.start rfl (by simp only[List.forall_mem_cons,List.not_mem_nil,false_imp_iff,implies_true,and_true];exact⟨hF,hT⟩)
  refine cR0 ?_
  refine aFB hk hm rfl rfl rfl fun a b1 w hk hm=>?_
  refine aFB hk hm rfl rfl rfl fun a b2 w hk hm=>?_
  refine oA0 hk rfl rfl fun a hk=>?_
  refine cE0 ?_
  refine cR0 ?_
  refine oF0 hk aNv rfl rfl fun a hk=>?_
  refine aAq hk aIH rfl (hm.cell_blk (i:=1) rfl rfl) rfl fun a hk=>?_
  refine oM0 hk rfl rfl fun a hk=>?_
  refine oF0 hk aO5 rfl rfl fun a hk=>?_
  refine aAq hk aF6 rfl (hm.cell_blk (i:=1) rfl rfl) rfl fun a hk=>?_
  refine aAx hk rfl rfl rfl rfl fun a hk=>?_
  refine oM0 hk rfl rfl fun a hk=>?_
  rcases Bool.eq_false_or_eq_true (decide ((fx:Int)≥0)) with hb3|hb3
  · rw[hb3] at hk
    refine aAu (o':=_) hk ⟨_,_,_,rfl,rfl,rfl⟩ rfl ?_
    refine oM0 hk rfl rfl fun a hk=>?_
    refine aAu (o':=_) hk ⟨_,_,_,rfl,rfl,rfl⟩ rfl ?_
    refine oF0 hk aO5 rfl rfl fun a hk=>?_
    refine aAu (o':=_) hk ⟨_,_,_,rfl,rfl,rfl⟩ rfl ?_
    refine aAq hk aF6 rfl (hm.cell_blk (i:=1) rfl rfl) rfl fun a hk=>?_
    refine aAu (o':=_) hk ⟨_,_,_,rfl,rfl,rfl⟩ rfl ?_
    refine aAx hk rfl rfl rfl rfl fun a hk=>?_
    refine aAI hk rfl rfl rfl rfl rfl fun a hk=>?_
    refine aAM (cs:=[.int .i64 t.n,.slice pst t.s.length capst,.bool t.z,.slice pt t.l.length capt,.slice put t.u.length caput]) hk aBF rfl (hm.cells_blk (i:=0) rfl rfl) rfl fun a hk=>?_
    have e:(decide ((V:Int)≥fx))=flex:=by rw[← hfx,hb3];simp
    refine aAk hk aWx (hpt V (hm.rep (i:=2) rfl) (hm.rep (i:=3) rfl) hsn hroom) ⟨rfl,rfl,by rw[← e];rfl,rfl,trivial⟩ rfl fun v4 w a hR hk=>?_
    have hm:=hm.rowNew hR
    refine oA0 hk rfl rfl fun a hk=>?_
    refine cE0 ?_
    refine wp_ret ?_
    refine bT0 rfl hk rfl ?_
    have hr:=hm.rowOut (i:=0) rfl
    exact hr
  · rw[hb3] at hk
    refine oS0 hk ⟨_,_,_,_,rfl,rfl,rfl,aAT⟩ rfl rfl fun a hk=>?_
    refine oS0 hk ⟨_,_,_,_,rfl,rfl,rfl,aAT⟩ rfl rfl fun a hk=>?_
    refine oS0 hk ⟨_,_,_,_,rfl,rfl,rfl,aAT⟩ rfl rfl fun a hk=>?_
    refine oS0 hk ⟨_,_,_,_,rfl,rfl,rfl,aAT⟩ rfl rfl fun a hk=>?_
    refine aAI hk rfl rfl rfl rfl rfl fun a hk=>?_
    refine aAM (cs:=[.int .i64 t.n,.slice pst t.s.length capst,.bool t.z,.slice pt t.l.length capt,.slice put t.u.length caput]) hk aBF rfl (hm.cells_blk (i:=0) rfl rfl) rfl fun a hk=>?_
    have e:(false)=flex:=by rw[← hfx,hb3];simp
    refine aAk hk aWx (hpt V (hm.rep (i:=2) rfl) (hm.rep (i:=3) rfl) hsn hroom) ⟨rfl,rfl,by rw[← e];rfl,rfl,trivial⟩ rfl fun v5 w a hR hk=>?_
    have hm:=hm.rowNew hR
    refine oA0 hk rfl rfl fun a hk=>?_
    refine cE0 ?_
    refine wp_ret ?_
    refine bT0 rfl hk rfl ?_
    have hr:=hm.rowOut (i:=0) rfl
    exact hr
end Go.Proofs.YtipgdlbbmlnfiaaGreatDoor
