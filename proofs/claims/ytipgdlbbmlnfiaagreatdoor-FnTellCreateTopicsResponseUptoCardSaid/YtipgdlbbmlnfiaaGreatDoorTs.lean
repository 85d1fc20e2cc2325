/- Walks of functions that the seat's laws reach. -/
import Derived.Test.YtipgdlbbmlnfiaaGreatDoorL4
import Derived.Test.YtipgdlbbmlnfiaaGreatDoorRows
import Derived.Test.YtipgdlbbmlnfiaaGreatDoorFa
namespace Go.Proofs.YtipgdlbbmlnfiaaGreatDoor
open Go Go.Mk
theorem aWI {w0:World}{Y:Nat→Prop}{u:List (Nat × List UInt8)}{p:Option Addr}{cap:Nat}(hU:Rep w0 Y (aBR u) [.slice p u.length cap])(hu:rising u)(hul:u.length≤32767):Ret Tryz.prog 69 [.slice p u.length cap] w0 fun _ w'=>Agr Nob w0 w':=by
  refine aAy Tryz.func69 rfl rfl fun a hk=>?_
  have hk:Kn 45 [(0,.slice p u.length cap)] a:=hk
  have hm:Mem w0 Nob Y [.rep (aBR u) [.slice p u.length cap]] w0:=Mem.start rfl (by simp only[List.forall_mem_cons,List.not_mem_nil,false_imp_iff,implies_true,and_true];exact hU)
  refine cR0 ?_
  refine oM0 hk rfl rfl fun a hk=>?_
  refine oL0 hk aUr rfl rfl fun a hk=>?_
  refine oM0 hk rfl rfl fun a hk=>?_
  refine cE0 ?_
  refine aCF (L0:=[(0,.slice p u.length cap)]) (N:=u.length) (by omega) (fun k L w=>L=[(0,.slice p u.length cap)]∧Mem w0 Nob Y [.rep (aBR u) [.slice p u.length cap]] w) (hk.sub ⟨rfl,rfl,rfl,trivial⟩) ⟨rfl,hm⟩ rfl rfl rfl rfl rfl rfl rfl (fun k L a w hlt hR hk=>?_) rfl (fun L a w hR hk=>?_)
  · obtain⟨rfl,hm⟩:=hR
    refine cR0 ?_
    refine oM0 hk rfl rfl fun a hk=>?_
    refine oA0 hk rfl rfl fun a hk=>?_
    refine cE0 ?_
    refine cR0 ?_
    refine oM0 hk rfl rfl fun a hk=>?_
    refine oA0 hk rfl rfl fun a hk=>?_
    refine cE0 ?_
    have hk1:k - 1<u.length:=by omega
    obtain⟨hltx,blx,offx,ex,hplx,helx,hRex,hCex⟩:=aBa (hm.rep (i:=0) rfl) (aBw aBT u k (0,[]) hlt)
    obtain⟨ptx,captx,rfl,-⟩:=aG4 hRex
    have hm:=hm.add (e:=.rep (aBT (u.getD k (0,[]))) [.int .u32 (((u.getD k (0,[])).1:Nat):Int),.slice ptx ((u.getD k (0,[])).2.length) captx]) rfl hRex
    have hm:=hm.add (e:=.cel blx (offx+k*2) [.int .u32 (((u.getD k (0,[])).1:Nat):Int),.slice ptx ((u.getD k (0,[])).2.length) captx]) rfl hCex
    obtain⟨hltz,blz,offz,ez,hplz,helz,hRez,hCez⟩:=aBa (hm.rep (i:=2) rfl) (aBw aBT u (k - 1) (0,[]) hk1)
    obtain⟨ptz,captz,rfl,-⟩:=aG4 hRez
    have hm:=hm.add (e:=.rep (aBT (u.getD (k - 1) (0,[]))) [.int .u32 (((u.getD (k - 1) (0,[])).1:Nat):Int),.slice ptz ((u.getD (k - 1) (0,[])).2.length) captz]) rfl hRez
    have hm:=hm.add (e:=.cel blz (offz+(k - 1)*2) [.int .u32 (((u.getD (k - 1) (0,[])).1:Nat):Int),.slice ptz ((u.getD (k - 1) (0,[])).2.length) captz]) rfl hCez
    refine aL3 (fun g a w=>Kn 45 [(0,.slice p u.length cap),(3,.int .i64 ((k:Nat):Int)),(5,.int .i64 ((u.length:Nat):Int)),(6,.int .i64 ((k:Nat):Int))] a∧Mem w0 Nob Y [.cel blz (offz+(k - 1)*2) [.int .u32 (((u.getD (k - 1) (0,[])).1:Nat):Int),.slice ptz ((u.getD (k - 1) (0,[])).2.length) captz],.rep (aBT (u.getD (k - 1) (0,[]))) [.int .u32 (((u.getD (k - 1) (0,[])).1:Nat):Int),.slice ptz ((u.getD (k - 1) (0,[])).2.length) captz],.cel blx (offx+k*2) [.int .u32 (((u.getD k (0,[])).1:Nat):Int),.slice ptx ((u.getD k (0,[])).2.length) captx],.rep (aBT (u.getD k (0,[]))) [.int .u32 (((u.getD k (0,[])).1:Nat):Int),.slice ptx ((u.getD k (0,[])).2.length) captx],.rep (aBR u) [.slice p u.length cap]] w) 0 ⟨hk.sub ⟨rfl,rfl,rfl,rfl,trivial⟩,hm⟩ (fun g a w hJ=>?_)
    obtain⟨hk,hm⟩:=hJ
    refine wp_seq ?_
    refine wp_seq ?_
    refine aAW (K:=15) mixed hm fun w hm=>?_
    refine aAt (k:=0) (by kernel_rfl) rfl rfl ?_
    refine oM0 hk rfl rfl fun a hk=>?_
    refine aAb (cT0 ⟨fun _=>hm,?_⟩)
    refine aAt (k:=1) (by kernel_rfl) rfl rfl ?_
    refine aAx hk rfl rfl rfl rfl fun a hk=>?_
    refine aAb (cT0 ⟨fun _=>hm,?_⟩)
    refine aAt (k:=2) (by kernel_rfl) rfl rfl ?_
    refine oM0 hk rfl rfl fun a hk=>?_
    refine aAb (cT0 ⟨fun _=>hm,?_⟩)
    rcases Bool.eq_false_or_eq_true (decide ((((k:Nat):Int):Int) > 0)) with hb1|hb1
    · rw[hb1] at hk
      have hb1d:=of_decide_eq_true hb1
      refine aAX (i:=3) rfl ⟨_,_,_,rfl,rfl,rfl⟩ rfl (by kernel_rfl) (fun _ _ _ h=>h) hk rfl (fun w hm=>aA6 hk rfl) hm fun a hk=>?_
      refine aAX (i:=4) rfl ⟨_,_,_,rfl,rfl,rfl⟩ rfl (by kernel_rfl) (fun _ _ _ h=>h) hk rfl (fun w hm=>aA6 hk rfl) hm fun a hk=>?_
      refine aAX (i:=5) rfl ⟨_,_,_,rfl,rfl,rfl⟩ rfl (by kernel_rfl) (fun _ _ _ h=>h) hk rfl (fun w hm=>aA4 (j:=k) (b:=blx) (off:=offx) hk aUr aU1 (by rw[← hplx];rfl) rfl hltx) hm fun a hk=>?_
      refine aAX (i:=6) rfl ⟨_,_,_,rfl,rfl,rfl⟩ rfl (by kernel_rfl) (fun _ _ _ h=>h) hk rfl (fun w hm=>rF0 hk aRa rfl) hm fun a hk=>?_
      refine aAX (i:=7) rfl ⟨_,_,_,rfl,rfl,rfl⟩ rfl (by kernel_rfl) (fun _ _ _ h=>h) hk rfl (fun w hm=>aAL hk aLv rfl (hm.cell_cel (i:=2) (j:=0) rfl rfl)) hm fun a hk=>?_
      refine aAX (i:=8) rfl ⟨_,_,_,rfl,rfl,rfl⟩ rfl (by kernel_rfl) (fun _ _ _ h=>h) hk rfl (fun w hm=>aA6 hk rfl) hm fun a hk=>?_
      refine aBU (k:=9) (by kernel_rfl) rfl hk ⟨_,_,_,rfl,rfl,rfl⟩ rfl ?_
      refine oM0 hk rfl rfl fun a hk=>?_
      refine aAb (cT0 ⟨fun _=>hm,?_⟩)
      refine aBU (k:=10) (by kernel_rfl) rfl hk ⟨_,_,_,rfl,rfl,rfl⟩ rfl ?_
      refine aCj (c:=((k - 1:Nat):Int)) hk rfl rfl rfl (by rw[IntWalk.i64_in _ (by omega)];omega) rfl fun a hk=>?_
      refine aAb (cT0 ⟨fun _=>hm,?_⟩)
      refine aBU (k:=11) (by kernel_rfl) rfl hk ⟨_,_,_,rfl,rfl,rfl⟩ rfl ?_
      refine oI0 (j:=(k - 1)) (b:=blz) (off:=offz) hk aUr aU1 (by rw[← hplz];rfl) rfl hltz rfl fun a hk=>?_
      refine aAb (cT0 ⟨fun _=>hm,?_⟩)
      refine aBU (k:=12) (by kernel_rfl) rfl hk ⟨_,_,_,rfl,rfl,rfl⟩ rfl ?_
      refine oF0 hk aRa rfl rfl fun a hk=>?_
      refine aAb (cT0 ⟨fun _=>hm,?_⟩)
      refine aBU (k:=13) (by kernel_rfl) rfl hk ⟨_,_,_,rfl,rfl,rfl⟩ rfl ?_
      refine aAq hk aLv rfl (hm.cell_cel (i:=0) (j:=0) rfl rfl) rfl fun a hk=>?_
      refine aAb (cT0 ⟨fun _=>hm,?_⟩)
      refine aBU (k:=14) (by kernel_rfl) rfl hk ⟨_,_,_,rfl,rfl,rfl⟩ rfl ?_
      refine aAx (b:=false) hk rfl rfl (by have:=aNf (k:=k - 1) hu (by omega);rw[show k - 1+1=k by omega] at this;simp only[icmp];exact congrArg some (decide_eq_false (by omega))) rfl fun a hk=>?_
      refine aAb (cT0 ⟨fun _=>hm,?_⟩)
      refine aAt (k:=15) (by kernel_rfl) rfl rfl ?_
      refine aAI hk rfl rfl rfl rfl rfl fun a hk=>?_
      refine aAb (cT0 ⟨fun h=>Bool.noConfusion (show true=false from h),?_⟩)
      refine aBh (by kernel_rfl) ?_ _
      refine cT0 ?_
      refine aB9 hk rfl ?_
      refine wp_exit ?_
      refine aBd ?_
      refine aBd ?_
      refine aD9 ?_
      refine cN0 ?_
      exact aBb (L':=[(0,.slice p u.length cap)]) hk ⟨rfl,rfl,rfl,trivial⟩ rfl ⟨rfl,hm.tail.tail.tail.tail⟩
    · rw[hb1] at hk
      have hb1d:=of_decide_eq_false hb1
      refine aBQ (i:=3) rfl ⟨_,_,_,_,rfl,rfl,rfl,aAT⟩ rfl (by kernel_rfl) (fun _ _ _ h=>h) hk rfl hm fun a hk=>?_
      refine aBQ (i:=4) rfl ⟨_,_,_,_,rfl,rfl,rfl,aAT⟩ rfl (by kernel_rfl) (fun _ _ _ h=>h) hk rfl hm fun a hk=>?_
      refine aBQ (i:=5) rfl ⟨_,_,_,_,rfl,rfl,rfl,aAT⟩ rfl (by kernel_rfl) (fun _ _ _ h=>h) hk rfl hm fun a hk=>?_
      refine aBQ (i:=6) rfl ⟨_,_,_,_,rfl,rfl,rfl,aAT⟩ rfl (by kernel_rfl) (fun _ _ _ h=>h) hk rfl hm fun a hk=>?_
      refine aBQ (i:=7) rfl ⟨_,_,_,_,rfl,rfl,rfl,aAT⟩ rfl (by kernel_rfl) (fun _ _ _ h=>h) hk rfl hm fun a hk=>?_
      refine aBQ (i:=8) rfl ⟨_,_,_,_,rfl,rfl,rfl,aAT⟩ rfl (by kernel_rfl) (fun _ _ _ h=>h) hk rfl hm fun a hk=>?_
      refine aCU (k:=9) (by kernel_rfl) rfl hk ⟨_,_,_,_,rfl,rfl,rfl,aAT⟩ rfl rfl hm fun a hk=>?_
      refine aCU (k:=10) (by kernel_rfl) rfl hk ⟨_,_,_,_,rfl,rfl,rfl,aAT⟩ rfl rfl hm fun a hk=>?_
      refine aCU (k:=11) (by kernel_rfl) rfl hk ⟨_,_,_,_,rfl,rfl,rfl,aAT⟩ rfl rfl hm fun a hk=>?_
      refine aCU (k:=12) (by kernel_rfl) rfl hk ⟨_,_,_,_,rfl,rfl,rfl,aAT⟩ rfl rfl hm fun a hk=>?_
      refine aCU (k:=13) (by kernel_rfl) rfl hk ⟨_,_,_,_,rfl,rfl,rfl,aAT⟩ rfl rfl hm fun a hk=>?_
      refine aCU (k:=14) (by kernel_rfl) rfl hk ⟨_,_,_,_,rfl,rfl,rfl,aAT⟩ rfl rfl hm fun a hk=>?_
      refine aAt (k:=15) (by kernel_rfl) rfl rfl ?_
      refine aAI hk rfl rfl rfl rfl rfl fun a hk=>?_
      refine aAb (cT0 ⟨fun h=>Bool.noConfusion (show true=false from h),?_⟩)
      refine aBh (by kernel_rfl) ?_ _
      refine cT0 ?_
      refine aB9 hk rfl ?_
      refine wp_exit ?_
      refine aBd ?_
      refine aBd ?_
      refine aD9 ?_
      refine cN0 ?_
      exact aBb (L':=[(0,.slice p u.length cap)]) hk ⟨rfl,rfl,rfl,trivial⟩ rfl ⟨rfl,hm.tail.tail.tail.tail⟩
  · obtain⟨rfl,hm⟩:=hR
    refine aB4 rfl hk ?_
    exact hm.agr
end Go.Proofs.YtipgdlbbmlnfiaaGreatDoor
