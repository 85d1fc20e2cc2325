/- Walks of functions that the seat's laws reach. -/
import Derived.Test.YtipgdlbbmlnfiaaGreatDoorL4
import Derived.Test.YtipgdlbbmlnfiaaGreatDoorRows
import Derived.Test.YtipgdlbbmlnfiaaGreatDoorFa
import Derived.Test.YtipgdlbbmlnfiaaGreatDoorRi
namespace Go.Proofs.YtipgdlbbmlnfiaaGreatDoor
open Go Go.Mk
theorem aZ9:Tryz.prog.follows .mixedOrders=true:=Tryz.checked.mixed
theorem aMg {w0:World}{Y:Nat→Prop}{rb:Nat}{s:RS}(hb:aBx w0 Y rb 142 s)(hY:Y rb):Ret Tryz.prog 131 [.pointer (some ⟨rb,0,none⟩)] w0 fun v w'=>Agr (fun k=>k=rb) w0 w'∧v=.agg (bv (sixteen ((RS.span 16 s).1.getD []))).toArray∧aBx w' (fun b=>b<w0.heap.size∧Y b) rb 142 (RS.span 16 s).2:=by
 obtain⟨x0,hbk,hx0⟩:=hb
 refine aAy Tryz.func131 rfl rfl fun a hk=>?_
 have hk:Kn 9 [(0,.pointer (some ⟨rb,0,none⟩))] a:=hk
 have hm:Mem w0 (fun k=>k=rb) Y [.blk rb [x0,.bool s.bad] 142,.rep (aBr s.src) [x0]] w0:=Mem.startBlk hbk hY rfl (by simp only[List.forall_mem_cons,List.not_mem_nil,false_imp_iff,implies_true,and_true];exact hx0)
 refine cR0 ?_
 refine aA5 hk hm aXx rfl rfl fun a b1 w hk hm=>?_
 refine cE0 ?_
 refine cR0 ?_
 refine aA5 hk hm aXx rfl rfl fun a b2 w hk hm=>?_
 refine cE0 ?_
 refine wp_seq ?_
 refine aLF (fun _=>True) 3 aZ9 ?_
 have hm:=hm.pure (Agr.drew Nob w)
 generalize w.drew=w at hm ⊢
 refine aTH (i:=0) rfl rfl rfl (by kernel_rfl) (fun _ _ _ h=>h) hk rfl (fun w=>aNO hk bAe aDQ rfl) (fun _=>trivial) fun a hk=>?_
 refine aTH (i:=1) rfl rfl rfl (by kernel_rfl) (fun _ _ _ h=>h) hk rfl (fun w=>aA6 hk rfl) (fun _=>trivial) fun a hk=>?_
 refine aAt (k:=2) (by kernel_rfl) rfl rfl ?_
 refine aAk hk aJ5 (aF7 16 ⟨x0,hm.blkAt (i:=2) rfl,hm.rep (i:=3) rfl⟩ (hm.yofBlk (i:=2) rfl)) ⟨rfl,rfl,trivial⟩ rfl fun v w a hR hk=>?_
 obtain⟨hp,hv,x1,hb1,hx1⟩:=hR
 have hm:=hm.blkCall2 (i:=2) rfl hp hb1 hx1 hv
 refine aAb (cT0 ⟨fun _=>trivial,?_⟩)
 refine aAt (k:=3) (by kernel_rfl) rfl rfl ?_
 refine aOl (i:=2) hk hm aA9 bA1 rfl rfl rfl rfl (aHi (hm.rep (i:=0) rfl)) rfl fun a w hk hm=>?_
 have e16:(bv ((RS.span 16 s).1.getD [])).take 16++List.drop ((RS.span 16 s).1.getD []).length [Value.int .u8 0,Value.int .u8 0,Value.int .u8 0,Value.int .u8 0,Value.int .u8 0,Value.int .u8 0,Value.int .u8 0,Value.int .u8 0,Value.int .u8 0,Value.int .u8 0,Value.int .u8 0,Value.int .u8 0,Value.int .u8 0,Value.int .u8 0,Value.int .u8 0,Value.int .u8 0]=bv (sixteen ((RS.span 16 s).1.getD [])):=aNE _
 have hm:Mem w0 (fun k=>k=rb) Y [.rep (aBr (RS.span 16 s).1) [v],.rep (aBr (RS.span 16 s).2.src) [x1],.blk b2 ((bv ((RS.span 16 s).1.getD [])).take 16++List.drop ((RS.span 16 s).1.getD []).length [Value.int .u8 0,Value.int .u8 0,Value.int .u8 0,Value.int .u8 0,Value.int .u8 0,Value.int .u8 0,Value.int .u8 0,Value.int .u8 0,Value.int .u8 0,Value.int .u8 0,Value.int .u8 0,Value.int .u8 0,Value.int .u8 0,Value.int .u8 0,Value.int .u8 0,Value.int .u8 0]) 137,.blk b1 [Value.int .u8 0,Value.int .u8 0,Value.int .u8 0,Value.int .u8 0,Value.int .u8 0,Value.int .u8 0,Value.int .u8 0,Value.int .u8 0,Value.int .u8 0,Value.int .u8 0,Value.int .u8 0,Value.int .u8 0,Value.int .u8 0,Value.int .u8 0,Value.int .u8 0,Value.int .u8 0] 137,.blk rb [x1,.bool (RS.span 16 s).2.bad] 142,.rep (aBr s.src) [x0]] w:=hm
 rw[e16] at hm
 refine aAb (cT0 ⟨fun _=>trivial,?_⟩)
 refine aBh (by kernel_rfl) ?_ _
 refine cT0 ?_
 have hl:(bv (sixteen ((RS.span 16 s).1.getD []))).length=16:=by rw[aCV,aAK]
 refine cR0 ?_
 refine aAM (cs:=bv (sixteen ((RS.span 16 s).1.getD []))) hk (by rw[hl];exact aUk) rfl (hm.cells_blk (i:=2) rfl (by simp)) rfl fun a hk=>?_
 refine aAz (i:=3) (vs:=bv (sixteen ((RS.span 16 s).1.getD []))) hk hm (s:=16) aUk rfl rfl (by simp[cellsOf]) hl (aHH _) rfl (by rw[hl];exact Nat.le_refl _) fun a w hk hm=>?_
 have hm:Mem w0 (fun k=>k=rb) Y [.rep (aBr (RS.span 16 s).1) [v],.rep (aBr (RS.span 16 s).2.src) [x1],.blk b2 (bv (sixteen ((RS.span 16 s).1.getD []))) 137,.blk b1 (spl [Value.int .u8 0,Value.int .u8 0,Value.int .u8 0,Value.int .u8 0,Value.int .u8 0,Value.int .u8 0,Value.int .u8 0,Value.int .u8 0,Value.int .u8 0,Value.int .u8 0,Value.int .u8 0,Value.int .u8 0,Value.int .u8 0,Value.int .u8 0,Value.int .u8 0,Value.int .u8 0] 0 (bv (sixteen ((RS.span 16 s).1.getD [])))) 137,.blk rb [x1,.bool (RS.span 16 s).2.bad] 142,.rep (aBr s.src) [x0]] w:=hm
 rw[aHc (by rw[hl];rfl)] at hm
 refine cE0 ?_
 refine wp_ret ?_
 refine aDf (i:=3) (cs:=bv (sixteen ((RS.span 16 s).1.getD []))) rfl (by rw[hl];exact aUk) hk hm rfl rfl ?_
 exact⟨hm.agr,rfl,x1,hm.blkAt (i:=4) rfl,hm.out (hm.rep (i:=1) rfl)⟩
theorem aOQ {good gv:Value}{gb:Nat}:Er.RkOk Tryz.prog 142 good gb gv 98 .ok:=by
 intro w0 Y rb s hb
 obtain⟨x,hb,-⟩:=hb
 refine aAy Tryz.func98 rfl rfl fun a hk=>?_
 have hk:Kn 8 [(0,.pointer (some ⟨rb,0,none⟩))] a:=hk
 refine cR0 ?_
 refine oA0 hk rfl rfl fun a hk=>?_
 refine cE0 ?_
 refine cR0 ?_
 refine oM0 hk rfl rfl fun a hk=>?_
 refine oN0 hk rfl rfl fun a hk=>?_
 refine oF0 hk aEc rfl rfl fun a hk=>?_
 refine aAq hk aHp rfl (show w0.cell? _=some (.bool s.bad) by simp[World.cell?,hb]) rfl fun a hk=>?_
 refine aES hk rfl rfl fun a hk=>?_
 refine oA0 hk rfl rfl fun a hk=>?_
 refine cE0 ?_
 refine wp_ret ?_
 refine bT0 rfl hk rfl ?_
 exact⟨rfl,rfl⟩
end Go.Proofs.YtipgdlbbmlnfiaaGreatDoor
