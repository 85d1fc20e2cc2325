/- Walks of functions that the seat's laws reach. -/
import Derived.Test.YtipgdlbbmlnfiaaGreatDoorL4
import Derived.Test.YtipgdlbbmlnfiaaGreatDoorRows
import Derived.Test.YtipgdlbbmlnfiaaGreatDoorFa
import Derived.Test.YtipgdlbbmlnfiaaGreatDoorSf
import Derived.Test.YtipgdlbbmlnfiaaGreatDoorSu
namespace Go.Proofs.YtipgdlbbmlnfiaaGreatDoor
open Go Go.Mk
theorem aN2 {flex:Bool}{fs:List Fld}(hf:∀ f ∈ fs,aUn flex f)(hu:∀ f ∈ fs,aNe f)(hlen:fs.length≤1000)(hok:aIt fs=true):aTd flex fs:=by
 intro w0 Y t ct p cap V hF hT hsn hroom
 have hple:=aM5 (fs:=fs) (V:=V) (flex:=flex) (t:=t)
 have hkn:=aOT hok
 obtain⟨pst,capst,pt,capt,put,caput,rfl⟩:=aB6 hT
 refine aAy Tryz.func33 rfl rfl fun a hk=>?_
 have hk:Kn 132 [(0,.slice p fs.length cap),(1,.int .i64 V),(2,.bool flex),(3,.agg #[.int .i64 t.n,.slice pst t.s.length capst,.bool t.z,.slice pt t.l.length capt,.slice put t.u.length caput])] a:=hk
 have hm:Mem w0 Nob Y [.rep (.sl false 8 (fs.map aBg)) [.slice p fs.length cap],.rep (ddT t) [.int .i64 t.n,.slice pst t.s.length capst,.bool t.z,.slice pt t.l.length capt,.slice put t.u.length caput]] w0:=Mem.start rfl (by simp only[List.forall_mem_cons,List.not_mem_nil,false_imp_iff,implies_true,and_true];exact⟨hF,hT⟩)
 refine cR0 ?_
 refine aFB hk hm rfl rfl rfl fun a b1 w hk hm=>?_
 refine oA0 hk rfl rfl fun a hk=>?_
 refine cE0 ?_
 refine cR0 ?_
 refine oA0 hk rfl rfl fun a hk=>?_
 refine oA0 hk rfl rfl fun a hk=>?_
 refine cE0 ?_
 refine cR0 ?_
 refine oA0 hk rfl rfl fun a hk=>?_
 refine cE0 ?_
 refine wp_seq ?_
 refine cR0 ?_
 refine oM0 hk rfl rfl fun a hk=>?_
 refine oL0 hk aKe rfl rfl fun a hk=>?_
 refine oM0 hk rfl rfl fun a hk=>?_
 refine cE0 ?_
 have hm:=hm.addNil 5 1
 have hm:=hm.rowEq (i:=0) (n':=((List.range 0).flatMap (pie fs V flex t)).length) (xs':=bv ((List.range 0).flatMap (pie fs V flex t))) rfl rfl rfl
 refine aCF (L0:=[(0,.slice p fs.length cap),(1,.int .i64 V),(2,.bool flex),(7,.pointer (some ⟨b1,0,none⟩)),(9,.slice none 0 0),(10,.slice none 0 0),(11,.int .i64 0),(21,.slice p fs.length cap)]) (N:=fs.length) (by omega) (fun k L w=>∃ vr,L=[(0,.slice p fs.length cap),(1,.int .i64 V),(2,.bool flex),(7,.pointer (some ⟨b1,0,none⟩)),(9,vr),(10,.slice none 0 0),(11,.int .i64 0),(21,.slice p fs.length cap)]∧Mem w0 Nob Y [.row 5 1 vr (((List.range k).flatMap (pie fs V flex t)).length) (bv ((List.range k).flatMap (pie fs V flex t))),.blk b1 [.int .i64 t.n,.slice pst t.s.length capst,.bool t.z,.slice pt t.l.length capt,.slice put t.u.length caput] 26,.rep (.sl false 8 (fs.map aBg)) [.slice p fs.length cap],.rep (ddT t) [.int .i64 t.n,.slice pst t.s.length capst,.bool t.z,.slice pt t.l.length capt,.slice put t.u.length caput]] w) (hk.sub ⟨rfl,rfl,rfl,rfl,rfl,rfl,rfl,rfl,rfl,rfl,trivial⟩) ⟨_,rfl,hm.pick [0,1,2,3] rfl rfl⟩ rfl rfl rfl rfl rfl rfl rfl (fun k L a w hlt hR hk=>?_) rfl (fun L a w hR hk=>?_)
 ·obtain⟨vr,rfl,hm⟩:=hR
  have hfl:=aO9 (pie fs V flex t) hlt
  have hsucc:=aDk (pie fs V flex t) k
  obtain⟨hltx,blx,offx,ex,hplx,helx,hRex,hCex⟩:=aBa (hm.rep (i:=2) rfl) (aBw aBg fs k aAm hlt)
  obtain⟨pfx,capfx,rfl,-⟩:=aIn hRex
  have hm:=hm.add (e:=.rep (aBg (fs.getD k aAm)) [.int .i64 (((fs.getD k aAm).kind:Nat):Int),.int .i64 ((fs.getD k aAm).fr),.int .i64 ((fs.getD k aAm).to),.int .i64 ((fs.getD k aAm).nu),.int .i64 ((fs.getD k aAm).tag),.int .i64 ((fs.getD k aAm).df),.int .i64 (((fs.getD k aAm).of:Nat):Int),.slice pfx ((fs.getD k aAm).sub.length) capfx]) rfl hRex
  have hm:=hm.add (e:=.cel blx (offx+k*8) [.int .i64 (((fs.getD k aAm).kind:Nat):Int),.int .i64 ((fs.getD k aAm).fr),.int .i64 ((fs.getD k aAm).to),.int .i64 ((fs.getD k aAm).nu),.int .i64 ((fs.getD k aAm).tag),.int .i64 ((fs.getD k aAm).df),.int .i64 (((fs.getD k aAm).of:Nat):Int),.slice pfx ((fs.getD k aAm).sub.length) capfx]) rfl hCex
  refine cR0 ?_
  refine oM0 hk rfl rfl fun a hk=>?_
  refine oI0 (j:=k) (b:=blx) (off:=offx) hk aKe aDq (by rw[← hplx];rfl) rfl hltx rfl fun a hk=>?_
  refine aAM (cs:=[.int .i64 (((fs.getD k aAm).kind:Nat):Int),.int .i64 ((fs.getD k aAm).fr),.int .i64 ((fs.getD k aAm).to),.int .i64 ((fs.getD k aAm).nu),.int .i64 ((fs.getD k aAm).tag),.int .i64 ((fs.getD k aAm).df),.int .i64 (((fs.getD k aAm).of:Nat):Int),.slice pfx ((fs.getD k aAm).sub.length) capfx]) hk aDq rfl (hm.cells_cel (i:=0) (k:=0) rfl rfl) rfl fun a hk=>?_
  refine aA5 hk hm aBm rfl rfl fun a b2 w hk hm=>?_
  refine oA0 hk rfl rfl fun a hk=>?_
  refine aAz (i:=0) hk hm aDq rfl rfl rfl rfl rfl rfl (Nat.le_of_ble_eq_true rfl) fun a w hk hm=>?_
  refine cE0 ?_
  refine cR0 ?_
  refine oF0 hk aIx rfl rfl fun a hk=>?_
  refine aAq hk aF6 rfl (hm.cell_blk (i:=0) rfl rfl) rfl fun a hk=>?_
  refine aAx hk rfl rfl rfl rfl fun a hk=>?_
  refine oM0 hk rfl rfl fun a hk=>?_
  rcases Bool.eq_false_or_eq_true (decide (((fs.getD k aAm).tag:Int)<0)) with hb3|hb3
  ·rw[hb3] at hk
   refine aAu (o':=_) hk ⟨_,_,_,rfl,rfl,rfl⟩ rfl ?_
   refine aAM (cs:=[.int .i64 (((fs.getD k aAm).kind:Nat):Int),.int .i64 ((fs.getD k aAm).fr),.int .i64 ((fs.getD k aAm).to),.int .i64 ((fs.getD k aAm).nu),.int .i64 ((fs.getD k aAm).tag),.int .i64 ((fs.getD k aAm).df),.int .i64 (((fs.getD k aAm).of:Nat):Int),.slice pfx ((fs.getD k aAm).sub.length) capfx]) hk aDq rfl (hm.cells_blk (i:=0) rfl rfl) rfl fun a hk=>?_
   refine aAu (o':=_) hk ⟨_,_,_,rfl,rfl,rfl⟩ rfl ?_
   refine oM0 hk rfl rfl fun a hk=>?_
   refine aAu (o':=_) hk ⟨_,_,_,rfl,rfl,rfl⟩ rfl ?_
   refine aAk hk bAi (bAp V (hm.rep (i:=2) rfl)) ⟨rfl,rfl,trivial⟩ rfl fun v w a hR hk=>?_
   obtain⟨hp,rfl⟩:=hR
   have hm:=hm.pure hp
   refine aAI hk rfl rfl rfl rfl rfl fun a hk=>?_
   refine cE0 ?_
   refine aAA hk rfl (fun hc=>?_) (fun hc=>?_)
   ·refine aAW (K:=8) mixed hm fun w hm=>?_
    refine aAh (i:=0) rfl rfl rfl (by kernel_rfl) (fun _ _ _ h=>h) hk rfl (fun w hm=>aA6 hk rfl) hm fun a hk=>?_
    refine aAh (i:=1) rfl rfl rfl (by kernel_rfl) (fun _ _ _ h=>h) hk rfl (fun w hm=>aBq (cs:=[.int .i64 (((fs.getD k aAm).kind:Nat):Int),.int .i64 ((fs.getD k aAm).fr),.int .i64 ((fs.getD k aAm).to),.int .i64 ((fs.getD k aAm).nu),.int .i64 ((fs.getD k aAm).tag),.int .i64 ((fs.getD k aAm).df),.int .i64 (((fs.getD k aAm).of:Nat):Int),.slice pfx ((fs.getD k aAm).sub.length) capfx]) hk aDq rfl (hm.cells_blk (i:=0) rfl rfl)) hm fun a hk=>?_
    refine aAh (i:=2) rfl rfl rfl (by kernel_rfl) (fun _ _ _ h=>h) hk rfl (fun w hm=>aA6 hk rfl) hm fun a hk=>?_
    refine aAh (i:=3) rfl rfl rfl (by kernel_rfl) (fun _ _ _ h=>h) hk rfl (fun w hm=>aA6 hk rfl) hm fun a hk=>?_
    refine aAh (i:=4) rfl rfl rfl (by kernel_rfl) (fun _ _ _ h=>h) hk rfl (fun w hm=>aBq (cs:=[.int .i64 t.n,.slice pst t.s.length capst,.bool t.z,.slice pt t.l.length capt,.slice put t.u.length caput]) hk aBF rfl (hm.cells_blk (i:=4) rfl rfl)) hm fun a hk=>?_
    refine aAt (k:=5) (by kernel_rfl) rfl rfl ?_
    refine oM0 hk rfl rfl fun a hk=>?_
    refine aAb (cT0 ⟨fun _=>hm,?_⟩)
    refine aAt (k:=6) (by kernel_rfl) rfl rfl ?_
    refine aAk hk aQz (aKc (t:=t) k (hm.rep (i:=6) rfl)) ⟨rfl,rfl,trivial⟩ rfl fun v w a hR hk=>?_
    obtain⟨hp,ca1,rfl,hR⟩:=hR
    obtain⟨psa1,capsa1,pa1,capa1,pua1,capua1,rfl⟩:=aB6 hR
    have hm:=hm.result hp hR
    refine aAb (cT0 ⟨fun _=>hm.tail,?_⟩)
    refine aAt (k:=7) (by kernel_rfl) rfl rfl ?_
    have hpc:pie fs V flex t k=aBt (fs.getD k aAm) V flex (t.at_ k):=aZb (by simpa using hb3) hc
    rw[hpc] at hfl hsucc
    refine aAk hk aZS (hf (fs.getD k aAm) (aC9 hlt) V (hm.rep (i:=3) rfl) (hm.rep (i:=0) rfl) (aIQ hsn k) (by omega)) ⟨rfl,rfl,rfl,rfl,trivial⟩ rfl fun v4 w a hR hk=>?_
    have hm:=hm.rowNew hR
    refine aAb (cT0 ⟨fun _=>hm.tail.tail,?_⟩)
    refine aAt (k:=8) (by kernel_rfl) rfl rfl ?_
    refine aBs (i:=5) hk hm aEZ rfl rfl rfl (aIZ aA9 (hm.row (i:=0) rfl) (aHH _)) (aCK (by omega)) (aD3 (by omega)) rfl fun a v5 w hk hm _=>?_
    have hm:=hm.rowEq (i:=5) (n':=((List.range k).flatMap (pie fs V flex t)++(aBt (fs.getD k aAm) V flex (t.at_ k))).length) (xs':=bv ((List.range k).flatMap (pie fs V flex t)++(aBt (fs.getD k aAm) V flex (t.at_ k)))) rfl List.length_append.symm (aCx _ _).symm
    refine aAb (cT0 ⟨fun h=>Bool.noConfusion (show true=false from h),?_⟩)
    refine aAt (k:=9) (by kernel_rfl) rfl rfl ?_
    refine oA0 hk rfl rfl fun a hk=>?_
    refine aAb (cT0 ⟨fun h=>Bool.noConfusion (show true=false from h),?_⟩)
    refine aBh (by kernel_rfl) ?_ _
    refine cN0 ?_
    have hm:=hm.rowEq (i:=5) (n':=((List.range (k+1)).flatMap (pie fs V flex t)).length) (xs':=bv ((List.range (k+1)).flatMap (pie fs V flex t))) rfl (by rw[hsucc]) (by rw[hsucc])
    exact aBb (L':=[(0,.slice p fs.length cap),(1,.int .i64 V),(2,.bool flex),(7,.pointer (some ⟨b1,0,none⟩)),(9,v5),(10,.slice none 0 0),(11,.int .i64 0),(21,.slice p fs.length cap)]) hk ⟨rfl,rfl,rfl,rfl,rfl,rfl,rfl,rfl,rfl,rfl,trivial⟩ rfl ⟨_,rfl,hm.pick [5,6,7,8] rfl rfl⟩
   ·refine wp_skip ?_
    refine cN0 ?_
    have hpc:pie fs V flex t k=[]:=aUQ (fun h=>by rw[h.2] at hc;cases hc)
    have hm:=hm.rowEq (i:=3) (n':=((List.range (k+1)).flatMap (pie fs V flex t)).length) (xs':=bv ((List.range (k+1)).flatMap (pie fs V flex t))) rfl (by rw[hsucc,hpc,List.append_nil]) (by rw[hsucc,hpc,List.append_nil])
    exact aBb (L':=[(0,.slice p fs.length cap),(1,.int .i64 V),(2,.bool flex),(7,.pointer (some ⟨b1,0,none⟩)),(9,vr),(10,.slice none 0 0),(11,.int .i64 0),(21,.slice p fs.length cap)]) hk ⟨rfl,rfl,rfl,rfl,rfl,rfl,rfl,rfl,rfl,rfl,trivial⟩ rfl ⟨_,rfl,hm.pick [3,4,5,6] rfl rfl⟩
  ·rw[hb3] at hk
   refine oS0 hk ⟨_,_,_,_,rfl,rfl,rfl,aAT⟩ rfl rfl fun a hk=>?_
   refine oS0 hk ⟨_,_,_,_,rfl,rfl,rfl,aAT⟩ rfl rfl fun a hk=>?_
   refine oS0 hk ⟨_,_,_,_,rfl,rfl,rfl,aAT⟩ rfl rfl fun a hk=>?_
   refine aAI hk rfl rfl rfl rfl rfl fun a hk=>?_
   refine cE0 ?_
   refine aB9 hk rfl ?_
   refine wp_skip ?_
   refine cN0 ?_
   have hpc:pie fs V flex t k=[]:=aUQ (fun h=>absurd h.1 (of_decide_eq_false hb3))
   have hm:=hm.rowEq (i:=3) (n':=((List.range (k+1)).flatMap (pie fs V flex t)).length) (xs':=bv ((List.range (k+1)).flatMap (pie fs V flex t))) rfl (by rw[hsucc,hpc,List.append_nil]) (by rw[hsucc,hpc,List.append_nil])
   exact aBb (L':=[(0,.slice p fs.length cap),(1,.int .i64 V),(2,.bool flex),(7,.pointer (some ⟨b1,0,none⟩)),(9,vr),(10,.slice none 0 0),(11,.int .i64 0),(21,.slice p fs.length cap)]) hk ⟨rfl,rfl,rfl,rfl,rfl,rfl,rfl,rfl,rfl,rfl,trivial⟩ rfl ⟨_,rfl,hm.pick [3,4,5,6] rfl rfl⟩
 ·obtain⟨vz,rfl,hm⟩:=hR
  refine cT0 ?_
  refine wp_seq ?_
  refine cR0 ?_
  refine oM0 hk rfl rfl fun a hk=>?_
  refine aES hk rfl rfl fun a hk=>?_
  refine cE0 ?_
  refine aAA hk rfl (fun hc=>?_) (fun hc=>?_)
  ·have hfx:flex=false:=by simpa using hc
   rw[aJe hfx]
   refine cR0 ?_
   refine oM0 hk rfl rfl fun a hk=>?_
   refine oA0 hk rfl rfl fun a hk=>?_
   refine cE0 ?_
   refine wp_ret ?_
   refine cQ0 ?_
   refine bT0 rfl hk rfl ?_
   have hr:=hm.rowOut (i:=0) rfl
   exact hr
  ·have hfx:flex=true:=by simpa using hc
   have hpe:=aPp (fs:=fs) (V:=V) (t:=t) hfx
   rw[hpe] at hroom ⊢
   have hro:=hroom
   rw[List.length_append,List.length_append,List.length_append] at hro
   have hul0:=aG0 fs t.u
   have hct:=aQv fs V flex t
   have hroom2:room≤1152921504606846976:=by unfold room;omega
   refine wp_skip ?_
   refine cT0 ?_
   refine wp_seq ?_
   refine cR0 ?_
   refine oM0 hk rfl rfl fun a hk=>?_
   refine aAk hk aZH (aTY (hm.rep (i:=2) rfl) (by omega) hok) ⟨rfl,trivial⟩ rfl fun v w a hR hk=>?_
   obtain⟨hp,rfl⟩:=hR
   have hm:=hm.pure hp
   refine aAG (c:=((known fs:Nat):Int)) hk aQY aTb rfl (by rw[IntWalk.i64_in _ (by omega)];try omega) rfl fun a hk=>?_
   refine oM0 hk rfl rfl fun a hk=>?_
   refine cE0 ?_
   have hm:=hm.addNil 5 1
   have hm:=hm.rowEq (i:=0) (n':=((aIu fs V flex t 0 0).flatten).length) (xs':=bv ((aIu fs V flex t 0 0).flatten)) rfl rfl rfl
   refine aCF (L0:=[(0,.slice p fs.length cap),(1,.int .i64 V),(2,.bool flex),(7,.pointer (some ⟨b1,0,none⟩)),(9,vz),(10,.slice none 0 0),(11,.int .i64 0)]) (N:=(known fs)) (by omega) (fun tg L w=>∃ vt,L=[(0,.slice p fs.length cap),(1,.int .i64 V),(2,.bool flex),(7,.pointer (some ⟨b1,0,none⟩)),(9,vz),(10,vt),(11,.int .i64 (((aIu fs V flex t tg 0).length:Nat):Int))]∧Mem w0 Nob Y [.row 5 1 vt (((aIu fs V flex t tg 0).flatten).length) (bv ((aIu fs V flex t tg 0).flatten)),.row 5 1 vz (((List.range fs.length).flatMap (pie fs V flex t)).length) (bv ((List.range fs.length).flatMap (pie fs V flex t))),.blk b1 [.int .i64 t.n,.slice pst t.s.length capst,.bool t.z,.slice pt t.l.length capt,.slice put t.u.length caput] 26,.rep (.sl false 8 (fs.map aBg)) [.slice p fs.length cap],.rep (ddT t) [.int .i64 t.n,.slice pst t.s.length capst,.bool t.z,.slice pt t.l.length capt,.slice put t.u.length caput]] w) (hk.sub ⟨rfl,rfl,rfl,rfl,rfl,rfl,rfl,rfl,rfl,trivial⟩) ⟨_,rfl,hm.pick [0,1,2,3,4] rfl rfl⟩ rfl rfl rfl rfl rfl rfl rfl (fun tg L a w hlt hR hk=>?_) rfl (fun L a w hR hk=>?_)
   ·obtain⟨vt,rfl,hm⟩:=hR
    have hltT:=hlt
    refine cR0 ?_
    refine oM0 hk rfl rfl fun a hk=>?_
    refine oA0 hk rfl rfl fun a hk=>?_
    refine cE0 ?_
    refine cR0 ?_
    refine oM0 hk rfl rfl fun a hk=>?_
    refine oL0 hk aKe rfl rfl fun a hk=>?_
    refine oM0 hk rfl rfl fun a hk=>?_
    refine cE0 ?_
    refine aCF (L0:=[(0,.slice p fs.length cap),(1,.int .i64 V),(2,.bool flex),(7,.pointer (some ⟨b1,0,none⟩)),(9,vz),(10,vt),(11,.int .i64 (((aIu fs V flex t tg 0).length:Nat):Int)),(14,.int .i64 ((tg:Nat):Int)),(51,.int .i64 (((known fs):Nat):Int)),(52,.int .i64 ((tg:Nat):Int)),(55,.slice p fs.length cap)]) (N:=fs.length) (by omega) (fun k L w=>∃ vu,L=[(0,.slice p fs.length cap),(1,.int .i64 V),(2,.bool flex),(7,.pointer (some ⟨b1,0,none⟩)),(9,vz),(10,vu),(11,.int .i64 (((aIu fs V flex t tg k).length:Nat):Int)),(14,.int .i64 ((tg:Nat):Int)),(51,.int .i64 (((known fs):Nat):Int)),(52,.int .i64 ((tg:Nat):Int)),(55,.slice p fs.length cap)]∧Mem w0 Nob Y [.row 5 1 vu (((aIu fs V flex t tg k).flatten).length) (bv ((aIu fs V flex t tg k).flatten)),.row 5 1 vz (((List.range fs.length).flatMap (pie fs V flex t)).length) (bv ((List.range fs.length).flatMap (pie fs V flex t))),.blk b1 [.int .i64 t.n,.slice pst t.s.length capst,.bool t.z,.slice pt t.l.length capt,.slice put t.u.length caput] 26,.rep (.sl false 8 (fs.map aBg)) [.slice p fs.length cap],.rep (ddT t) [.int .i64 t.n,.slice pst t.s.length capst,.bool t.z,.slice pt t.l.length capt,.slice put t.u.length caput]] w) (hk.sub ⟨rfl,rfl,rfl,rfl,rfl,rfl,rfl,rfl,rfl,rfl,rfl,rfl,rfl,trivial⟩) ⟨_,rfl,hm.pick [0,1,2,3,4] rfl rfl⟩ rfl rfl rfl rfl rfl rfl rfl (fun k L a w hlt hR hk=>?_) rfl (fun L a w hR hk=>?_)
    ·obtain⟨vu,rfl,hm⟩:=hR
     obtain⟨hfl,hcl⟩:=aYT (V:=V) (flex:=flex) (t:=t) hltT hlt
     have hsucc:=aPv (fs:=fs) (V:=V) (flex:=flex) (t:=t) (tag:=tg) (j:=k)
     obtain⟨hltx,blx,offx,ex,hplx,helx,hRex,hCex⟩:=aBa (hm.rep (i:=3) rfl) (aBw aBg fs k aAm hlt)
     obtain⟨pfx,capfx,rfl,-⟩:=aIn hRex
     have hm:=hm.add (e:=.rep (aBg (fs.getD k aAm)) [.int .i64 (((fs.getD k aAm).kind:Nat):Int),.int .i64 ((fs.getD k aAm).fr),.int .i64 ((fs.getD k aAm).to),.int .i64 ((fs.getD k aAm).nu),.int .i64 ((fs.getD k aAm).tag),.int .i64 ((fs.getD k aAm).df),.int .i64 (((fs.getD k aAm).of:Nat):Int),.slice pfx ((fs.getD k aAm).sub.length) capfx]) rfl hRex
     have hm:=hm.add (e:=.cel blx (offx+k*8) [.int .i64 (((fs.getD k aAm).kind:Nat):Int),.int .i64 ((fs.getD k aAm).fr),.int .i64 ((fs.getD k aAm).to),.int .i64 ((fs.getD k aAm).nu),.int .i64 ((fs.getD k aAm).tag),.int .i64 ((fs.getD k aAm).df),.int .i64 (((fs.getD k aAm).of:Nat):Int),.slice pfx ((fs.getD k aAm).sub.length) capfx]) rfl hCex
     refine cR0 ?_
     refine oM0 hk rfl rfl fun a hk=>?_
     refine oI0 (j:=k) (b:=blx) (off:=offx) hk aKe aDq (by rw[← hplx];rfl) rfl hltx rfl fun a hk=>?_
     refine aAM (cs:=[.int .i64 (((fs.getD k aAm).kind:Nat):Int),.int .i64 ((fs.getD k aAm).fr),.int .i64 ((fs.getD k aAm).to),.int .i64 ((fs.getD k aAm).nu),.int .i64 ((fs.getD k aAm).tag),.int .i64 ((fs.getD k aAm).df),.int .i64 (((fs.getD k aAm).of:Nat):Int),.slice pfx ((fs.getD k aAm).sub.length) capfx]) hk aDq rfl (hm.cells_cel (i:=0) (k:=0) rfl rfl) rfl fun a hk=>?_
     refine aA5 hk hm aBm rfl rfl fun a b6 w hk hm=>?_
     refine oA0 hk rfl rfl fun a hk=>?_
     refine aAz (i:=0) hk hm aDq rfl rfl rfl rfl rfl rfl (Nat.le_of_ble_eq_true rfl) fun a w hk hm=>?_
     refine cE0 ?_
     refine wp_seq ?_
     refine aAW (K:=11) mixed hm fun w hm=>?_
     refine aAh (i:=0) rfl rfl rfl (by kernel_rfl) (fun _ _ _ h=>h) hk rfl (fun w hm=>rF0 hk aIx rfl) hm fun a hk=>?_
     refine aAh (i:=1) rfl rfl rfl (by kernel_rfl) (fun _ _ _ h=>h) hk rfl (fun w hm=>aAL hk aF6 rfl (hm.cell_blk (i:=0) rfl rfl)) hm fun a hk=>?_
     refine aAt (k:=2) (by kernel_rfl) rfl rfl ?_
     refine oM0 hk rfl rfl fun a hk=>?_
     refine aAb (cT0 ⟨fun _=>hm,?_⟩)
     refine aAt (k:=3) (by kernel_rfl) rfl rfl ?_
     refine aAx hk rfl rfl rfl rfl fun a hk=>?_
     refine aAb (cT0 ⟨fun _=>hm,?_⟩)
     refine aAt (k:=4) (by kernel_rfl) rfl rfl ?_
     refine oM0 hk rfl rfl fun a hk=>?_
     refine aAb (cT0 ⟨fun _=>hm,?_⟩)
     rcases Bool.eq_false_or_eq_true ((((fs.getD k aAm).tag:Int)==((tg:Nat):Int))) with hb7|hb7
     ·rw[hb7] at hk
      refine aAX (i:=5) rfl ⟨_,_,_,rfl,rfl,rfl⟩ rfl (by kernel_rfl) (fun _ _ _ h=>h) hk rfl (fun w hm=>aBq (cs:=[.int .i64 (((fs.getD k aAm).kind:Nat):Int),.int .i64 ((fs.getD k aAm).fr),.int .i64 ((fs.getD k aAm).to),.int .i64 ((fs.getD k aAm).nu),.int .i64 ((fs.getD k aAm).tag),.int .i64 ((fs.getD k aAm).df),.int .i64 (((fs.getD k aAm).of:Nat):Int),.slice pfx ((fs.getD k aAm).sub.length) capfx]) hk aDq rfl (hm.cells_blk (i:=0) rfl rfl)) hm fun a hk=>?_
      refine aAX (i:=6) rfl ⟨_,_,_,rfl,rfl,rfl⟩ rfl (by kernel_rfl) (fun _ _ _ h=>h) hk rfl (fun w hm=>aBq (cs:=[.int .i64 t.n,.slice pst t.s.length capst,.bool t.z,.slice pt t.l.length capt,.slice put t.u.length caput]) hk aBF rfl (hm.cells_blk (i:=5) rfl rfl)) hm fun a hk=>?_
      refine aBU (k:=7) (by kernel_rfl) rfl hk ⟨_,_,_,rfl,rfl,rfl⟩ rfl ?_
      refine oM0 hk rfl rfl fun a hk=>?_
      refine aAb (cT0 ⟨fun _=>hm,?_⟩)
      refine aBU (k:=8) (by kernel_rfl) rfl hk ⟨_,_,_,rfl,rfl,rfl⟩ rfl ?_
      refine aAk hk aQz (aKc (t:=t) k (hm.rep (i:=7) rfl)) ⟨rfl,rfl,trivial⟩ rfl fun v w a hR hk=>?_
      obtain⟨hp,ca2,rfl,hR⟩:=hR
      obtain⟨psa2,capsa2,pa2,capa2,pua2,capua2,rfl⟩:=aB6 hR
      have hm:=hm.result hp hR
      refine aAb (cT0 ⟨fun _=>hm.tail,?_⟩)
      refine aBU (k:=9) (by kernel_rfl) rfl hk ⟨_,_,_,rfl,rfl,rfl⟩ rfl ?_
      refine aAk hk aTO (hu (fs.getD k aAm) (aC9 hlt) (hm.rep (i:=3) rfl) (hm.rep (i:=0) rfl) (aIQ hsn k)) ⟨rfl,rfl,trivial⟩ rfl fun v w a hR hk=>?_
      obtain⟨hp,rfl⟩:=hR
      have hm:=hm.pure hp
      refine aAb (cT0 ⟨fun _=>hm.tail,?_⟩)
      refine aBU (k:=10) (by kernel_rfl) rfl hk ⟨_,_,_,rfl,rfl,rfl⟩ rfl ?_
      refine aES hk rfl rfl fun a hk=>?_
      refine aAb (cT0 ⟨fun _=>hm.tail,?_⟩)
      refine aAt (k:=11) (by kernel_rfl) rfl rfl ?_
      refine aAI hk rfl rfl rfl rfl rfl fun a hk=>?_
      refine aAb (cT0 ⟨fun h=>Bool.noConfusion (show true=false from h),?_⟩)
      refine aBh (by kernel_rfl) ?_ _
      refine cT0 ?_
      refine aAA hk rfl (fun hc=>?_) (fun hc=>?_)
      ·refine wp_seq ?_
       refine aAW (K:=7) mixed hm fun w hm=>?_
       refine aAh (i:=0) rfl rfl rfl (by kernel_rfl) (fun _ _ _ h=>h) hk rfl (fun w hm=>aBq (cs:=[.int .i64 (((fs.getD k aAm).kind:Nat):Int),.int .i64 ((fs.getD k aAm).fr),.int .i64 ((fs.getD k aAm).to),.int .i64 ((fs.getD k aAm).nu),.int .i64 ((fs.getD k aAm).tag),.int .i64 ((fs.getD k aAm).df),.int .i64 (((fs.getD k aAm).of:Nat):Int),.slice pfx ((fs.getD k aAm).sub.length) capfx]) hk aDq rfl (hm.cells_blk (i:=1) rfl rfl)) hm fun a hk=>?_
       refine aAh (i:=1) rfl rfl rfl (by kernel_rfl) (fun _ _ _ h=>h) hk rfl (fun w hm=>aA6 hk rfl) hm fun a hk=>?_
       refine aAh (i:=2) rfl rfl rfl (by kernel_rfl) (fun _ _ _ h=>h) hk rfl (fun w hm=>aA6 hk rfl) hm fun a hk=>?_
       refine aAh (i:=3) rfl rfl rfl (by kernel_rfl) (fun _ _ _ h=>h) hk rfl (fun w hm=>aBq (cs:=[.int .i64 t.n,.slice pst t.s.length capst,.bool t.z,.slice pt t.l.length capt,.slice put t.u.length caput]) hk aBF rfl (hm.cells_blk (i:=6) rfl rfl)) hm fun a hk=>?_
       refine aAt (k:=4) (by kernel_rfl) rfl rfl ?_
       refine oM0 hk rfl rfl fun a hk=>?_
       refine aAb (cT0 ⟨fun _=>hm,?_⟩)
       refine aAt (k:=5) (by kernel_rfl) rfl rfl ?_
       refine aAk hk aQz (aKc (t:=t) k (hm.rep (i:=8) rfl)) ⟨rfl,rfl,trivial⟩ rfl fun v w a hR hk=>?_
       obtain⟨hp,ca3,rfl,hR⟩:=hR
       obtain⟨psa3,capsa3,pa3,capa3,pua3,capua3,rfl⟩:=aB6 hR
       have hm:=hm.result hp hR
       refine aAb (cT0 ⟨fun _=>hm.tail,?_⟩)
       refine aAt (k:=6) (by kernel_rfl) rfl rfl ?_
       have hone:=aTy (V:=V) (flex:=flex) (eq_of_beq hb7) ((Bool.not_eq_true' _).mp hc)
       rw[hone] at hfl hcl hsucc
       have htl:=aMe tg (aBt (fs.getD k aAm) V flex (t.at_ k))
       simp only[List.flatten_cons,List.flatten_nil,List.append_nil,List.length_cons,List.length_nil] at hfl hcl
       refine aAk hk aZS (hf (fs.getD k aAm) (aC9 hlt) V (hm.rep (i:=4) rfl) (hm.rep (i:=0) rfl) (aIQ hsn k) (by omega)) ⟨rfl,rfl,rfl,rfl,trivial⟩ rfl fun v8 w a hR hk=>?_
       have hm:=hm.rowNew hR
       obtain⟨pzb,czb,rfl⟩:=aDx (hm.row (i:=0) rfl)
       have hm:=hm.freezeBytes (i:=0) rfl rfl
       refine aAb (cT0 ⟨fun _=>hm.tail.tail,?_⟩)
       refine aAt (k:=7) (by kernel_rfl) rfl rfl ?_
       refine oA0 hk rfl rfl fun a hk=>?_
       refine aAb (cT0 ⟨fun h=>Bool.noConfusion (show true=false from h),?_⟩)
       refine aBh (by kernel_rfl) ?_ _
       refine cT0 ?_
       refine cR0 ?_
       refine oM0 hk rfl rfl fun a hk=>?_
       refine oM0 hk rfl rfl fun a hk=>?_
       refine aAG (c:=((tg:Nat):Int)) hk aVd aHE rfl (by rw[IntKind.wrap_u64];omega) rfl fun a hk=>?_
       refine aAk hk aTp (aIr (Y:=Y) tg (by omega)) ⟨rfl,trivial⟩ rfl fun v9 w a hR hk=>?_
       have hm:=hm.rowNew hR
       have hul:=aBX tg (by omega)
       refine aBs (i:=7) hk hm aEZ rfl rfl rfl (aIZ aA9 (hm.row (i:=0) rfl) (aHH _)) (aCK (by simp only[List.length_append] at *;omega)) (aD3 (by simp only[List.length_append] at *;omega)) rfl fun a v10 w hk hm _=>?_
       have hm:=hm.rowEq (i:=7) (n':=((aIu fs V flex t tg k).flatten++(uvarint tg)).length) (xs':=bv ((aIu fs V flex t tg k).flatten++(uvarint tg))) rfl List.length_append.symm (aCx _ _).symm
       refine oM0 hk rfl rfl fun a hk=>?_
       refine oL0 hk aA9 rfl rfl fun a hk=>?_
       refine aAG (c:=(((aBt (fs.getD k aAm) V flex (t.at_ k)).length:Nat):Int)) hk aVd aHE rfl (by rw[IntKind.wrap_u64];omega) rfl fun a hk=>?_
       refine aAk hk aTp (aIr (Y:=Y) ((aBt (fs.getD k aAm) V flex (t.at_ k)).length) (by omega)) ⟨rfl,trivial⟩ rfl fun v11 w a hR hk=>?_
       have hm:=hm.rowNew hR
       have hul:=aBX ((aBt (fs.getD k aAm) V flex (t.at_ k)).length) (by omega)
       refine aBs (i:=8) hk hm aEZ rfl rfl rfl (aIZ aA9 (hm.row (i:=0) rfl) (aHH _)) (aCK (by simp only[List.length_append] at *;omega)) (aD3 (by simp only[List.length_append] at *;omega)) rfl fun a v12 w hk hm _=>?_
       have hm:=hm.rowEq (i:=8) (n':=((aIu fs V flex t tg k).flatten++(uvarint tg)++(uvarint ((aBt (fs.getD k aAm) V flex (t.at_ k)).length))).length) (xs':=bv ((aIu fs V flex t tg k).flatten++(uvarint tg)++(uvarint ((aBt (fs.getD k aAm) V flex (t.at_ k)).length)))) rfl List.length_append.symm (aCx _ _).symm
       refine oM0 hk rfl rfl fun a hk=>?_
       refine aBs (i:=8) hk hm aEZ rfl rfl rfl (aLb aA9 (hm.rep (i:=2) rfl)) (aCK (by simp only[List.length_append] at *;omega)) (aD3 (by simp only[List.length_append] at *;omega)) rfl fun a v13 w hk hm _=>?_
       have hm:=hm.rowEq (i:=8) (n':=((aIu fs V flex t tg k).flatten++(uvarint tg)++(uvarint ((aBt (fs.getD k aAm) V flex (t.at_ k)).length))++(aBt (fs.getD k aAm) V flex (t.at_ k))).length) (xs':=bv ((aIu fs V flex t tg k).flatten++(uvarint tg)++(uvarint ((aBt (fs.getD k aAm) V flex (t.at_ k)).length))++(aBt (fs.getD k aAm) V flex (t.at_ k)))) rfl List.length_append.symm (aCx _ _).symm
       refine oA0 hk rfl rfl fun a hk=>?_
       refine cE0 ?_
       refine aC2 ?_
       refine oM0 hk rfl rfl fun a hk=>?_
       refine aCj (c:=((((aIu fs V flex t tg k).length+1):Nat):Int)) hk rfl rfl rfl (by rw[IntWalk.i64_in _ (by omega)];omega) rfl fun a hk=>?_
       refine oA0 hk rfl rfl fun a hk=>?_
       refine aAb ?_
       refine cN0 ?_
       rw[show (((aIu fs V flex t tg k).length+1):Nat)=(aIu fs V flex t tg (k+1)).length from by rw[hsucc,List.length_append];rfl] at hk
       have hm:=hm.rowEq (i:=8) (n':=((aIu fs V flex t tg (k+1)).flatten).length) (xs':=bv ((aIu fs V flex t tg (k+1)).flatten)) rfl (by rw[hsucc];simp only[aDt,List.flatten_append,List.flatten_cons,List.flatten_nil,List.append_nil,List.append_assoc]) (by rw[hsucc];simp only[aDt,List.flatten_append,List.flatten_cons,List.flatten_nil,List.append_nil,List.append_assoc])
       exact aBb (L':=[(0,.slice p fs.length cap),(1,.int .i64 V),(2,.bool flex),(7,.pointer (some ⟨b1,0,none⟩)),(9,vz),(10,v13),(11,.int .i64 (((aIu fs V flex t tg (k+1)).length:Nat):Int)),(14,.int .i64 ((tg:Nat):Int)),(51,.int .i64 (((known fs):Nat):Int)),(52,.int .i64 ((tg:Nat):Int)),(55,.slice p fs.length cap)]) hk ⟨rfl,rfl,rfl,rfl,rfl,rfl,rfl,rfl,rfl,rfl,rfl,rfl,rfl,trivial⟩ rfl ⟨_,rfl,hm.pick [8,9,10,11,12] rfl rfl⟩
      ·refine wp_skip ?_
       refine cN0 ?_
       have hone:aKz fs V flex t tg k=[]:=aQo ((Bool.not_eq_false' _).mp hc)
       rw[hone,List.append_nil] at hsucc
       rw[← hsucc] at hk
       have hm:=hm.rowEq (i:=4) (n':=((aIu fs V flex t tg (k+1)).flatten).length) (xs':=bv ((aIu fs V flex t tg (k+1)).flatten)) rfl (by rw[hsucc]) (by rw[hsucc])
       exact aBb (L':=[(0,.slice p fs.length cap),(1,.int .i64 V),(2,.bool flex),(7,.pointer (some ⟨b1,0,none⟩)),(9,vz),(10,vu),(11,.int .i64 (((aIu fs V flex t tg (k+1)).length:Nat):Int)),(14,.int .i64 ((tg:Nat):Int)),(51,.int .i64 (((known fs):Nat):Int)),(52,.int .i64 ((tg:Nat):Int)),(55,.slice p fs.length cap)]) hk ⟨rfl,rfl,rfl,rfl,rfl,rfl,rfl,rfl,rfl,rfl,rfl,rfl,rfl,trivial⟩ rfl ⟨_,rfl,hm.pick [4,5,6,7,8] rfl rfl⟩
     ·rw[hb7] at hk
      refine aBQ (i:=5) rfl ⟨_,_,_,_,rfl,rfl,rfl,aAT⟩ rfl (by kernel_rfl) (fun _ _ _ h=>h) hk rfl hm fun a hk=>?_
      refine aBQ (i:=6) rfl ⟨_,_,_,_,rfl,rfl,rfl,aAT⟩ rfl (by kernel_rfl) (fun _ _ _ h=>h) hk rfl hm fun a hk=>?_
      refine aCU (k:=7) (by kernel_rfl) rfl hk ⟨_,_,_,_,rfl,rfl,rfl,aAT⟩ rfl rfl hm fun a hk=>?_
      refine aCU (k:=8) (by kernel_rfl) rfl hk ⟨_,_,_,_,rfl,rfl,rfl,aAT⟩ rfl rfl hm fun a hk=>?_
      refine aCU (k:=9) (by kernel_rfl) rfl hk ⟨_,_,_,_,rfl,rfl,rfl,aAT⟩ rfl rfl hm fun a hk=>?_
      refine aCU (k:=10) (by kernel_rfl) rfl hk ⟨_,_,_,_,rfl,rfl,rfl,aAT⟩ rfl rfl hm fun a hk=>?_
      refine aAt (k:=11) (by kernel_rfl) rfl rfl ?_
      refine aAI hk rfl rfl rfl rfl rfl fun a hk=>?_
      refine aAb (cT0 ⟨fun h=>Bool.noConfusion (show true=false from h),?_⟩)
      refine aBh (by kernel_rfl) ?_ _
      refine cT0 ?_
      refine aB9 hk rfl ?_
      refine wp_skip ?_
      refine cN0 ?_
      have hone:aKz fs V flex t tg k=[]:=aWu (beq_eq_false_iff_ne.1 hb7)
      rw[hone,List.append_nil] at hsucc
      rw[← hsucc] at hk
      have hm:=hm.rowEq (i:=3) (n':=((aIu fs V flex t tg (k+1)).flatten).length) (xs':=bv ((aIu fs V flex t tg (k+1)).flatten)) rfl (by rw[hsucc]) (by rw[hsucc])
      exact aBb (L':=[(0,.slice p fs.length cap),(1,.int .i64 V),(2,.bool flex),(7,.pointer (some ⟨b1,0,none⟩)),(9,vz),(10,vu),(11,.int .i64 (((aIu fs V flex t tg (k+1)).length:Nat):Int)),(14,.int .i64 ((tg:Nat):Int)),(51,.int .i64 (((known fs):Nat):Int)),(52,.int .i64 ((tg:Nat):Int)),(55,.slice p fs.length cap)]) hk ⟨rfl,rfl,rfl,rfl,rfl,rfl,rfl,rfl,rfl,rfl,rfl,rfl,rfl,trivial⟩ rfl ⟨_,rfl,hm.pick [3,4,5,6,7] rfl rfl⟩
    ·obtain⟨vuz,rfl,hm⟩:=hR
     rw[aUg] at hk hm
     refine cN0 ?_
     exact aBb (L':=[(0,.slice p fs.length cap),(1,.int .i64 V),(2,.bool flex),(7,.pointer (some ⟨b1,0,none⟩)),(9,vz),(10,vuz),(11,.int .i64 (((aIu fs V flex t (tg+1) 0).length:Nat):Int))]) hk ⟨rfl,rfl,rfl,rfl,rfl,rfl,rfl,rfl,rfl,trivial⟩ rfl ⟨_,rfl,hm.pick [0,1,2,3,4] rfl rfl⟩
   ·obtain⟨vtz,rfl,hm⟩:=hR
    rw[aVl] at hk hm
    refine cT0 ?_
    refine wp_seq ?_
    refine cR0 ?_
    refine oM0 hk rfl rfl fun a hk=>?_
    refine oF0 hk aGC rfl rfl fun a hk=>?_
    refine aAq hk aL7 rfl (hm.cell_blk (i:=2) rfl rfl) rfl fun a hk=>?_
    refine aAk hk aW1 (aLf (hm.rep (i:=3) rfl) (aKl (hm.rep (i:=4) rfl)) (by omega) hok) ⟨rfl,rfl,trivial⟩ rfl fun v w a hR hk=>?_
    obtain⟨hp,puu,cuu,rfl,hR⟩:=hR
    have hm:=hm.result hp hR
    refine oL0 hk aE0 rfl rfl fun a hk=>?_
    refine oM0 hk rfl rfl fun a hk=>?_
    refine cE0 ?_
    have hm:=hm.rowEq (i:=1) (n':=((aEd fs V flex t).flatten++((aAo fs t.u).take 0).flatMap (fun u=>aDt u.1 (whole u.2))).length) (xs':=bv ((aEd fs V flex t).flatten++((aAo fs t.u).take 0).flatMap (fun u=>aDt u.1 (whole u.2)))) rfl (by simp) (by simp)
    refine aCF (L0:=[(9,vz),(10,vtz),(11,.int .i64 (((aEd fs V flex t).length:Nat):Int)),(100,.slice puu ((aAo fs t.u).length) cuu)]) (N:=(aAo fs t.u).length) (by omega) (fun k L w=>∃ vr,L=[(9,vz),(10,vr),(11,.int .i64 (((aEd fs V flex t).length+k:Nat):Int)),(100,.slice puu ((aAo fs t.u).length) cuu)]∧Mem w0 Nob Y [.row 5 1 vr (((aEd fs V flex t).flatten++((aAo fs t.u).take k).flatMap (fun u=>aDt u.1 (whole u.2))).length) (bv ((aEd fs V flex t).flatten++((aAo fs t.u).take k).flatMap (fun u=>aDt u.1 (whole u.2)))),.rep (aBR (aAo fs t.u)) [.slice puu ((aAo fs t.u).length) cuu],.row 5 1 vz (((List.range fs.length).flatMap (pie fs V flex t)).length) (bv ((List.range fs.length).flatMap (pie fs V flex t))),.blk b1 [.int .i64 t.n,.slice pst t.s.length capst,.bool t.z,.slice pt t.l.length capt,.slice put t.u.length caput] 26,.rep (.sl false 8 (fs.map aBg)) [.slice p fs.length cap],.rep (ddT t) [.int .i64 t.n,.slice pst t.s.length capst,.bool t.z,.slice pt t.l.length capt,.slice put t.u.length caput]] w) (hk.sub ⟨rfl,rfl,rfl,rfl,rfl,rfl,trivial⟩) ⟨_,rfl,hm.pick [1,0,2,3,4,5] rfl rfl⟩ rfl rfl rfl rfl rfl rfl rfl (fun k L a w hlt hR hk=>?_) rfl (fun L a w hR hk=>?_)
    ·obtain⟨vr,rfl,hm⟩:=hR
     have hfl:=aJB (fun u=>aDt u.1 (whole u.2)) (aAo fs t.u) k (0,[]) hlt
     have hsucc:=aFR (fun u=>aDt u.1 (whole u.2)) (aAo fs t.u) k (0,[]) hlt
     obtain⟨hlty,bly,offy,ey,hply,hely,hRey,hCey⟩:=aBa (hm.rep (i:=1) rfl) (aBw aBT (aAo fs t.u) k (0,[]) hlt)
     obtain⟨pty,capty,rfl,-⟩:=aG4 hRey
     have hm:=hm.add (e:=.rep (aBT ((aAo fs t.u).getD k (0,[]))) [.int .u32 ((((aAo fs t.u).getD k (0,[])).1:Nat):Int),.slice pty (((aAo fs t.u).getD k (0,[])).2.length) capty]) rfl hRey
     have hm:=hm.add (e:=.cel bly (offy+k*2) [.int .u32 ((((aAo fs t.u).getD k (0,[])).1:Nat):Int),.slice pty (((aAo fs t.u).getD k (0,[])).2.length) capty]) rfl hCey
     have hkx:=aYf (fs:=fs) hsn hlt
     have htl:=aMe ((aAo fs t.u).getD k (0,[])).1 (whole ((aAo fs t.u).getD k (0,[])).2)
     have hwl:=aBG ((aAo fs t.u).getD k (0,[])).2
     refine cR0 ?_
     refine oI0 (j:=k) (b:=bly) (off:=offy) hk aE0 aGA (by rw[← hply];rfl) rfl hlty rfl fun a hk=>?_
     refine aAM (cs:=[.int .u32 ((((aAo fs t.u).getD k (0,[])).1:Nat):Int),.slice pty (((aAo fs t.u).getD k (0,[])).2.length) capty]) hk aGA rfl (hm.cells_cel (i:=0) (k:=0) rfl rfl) rfl fun a hk=>?_
     refine aA5 hk hm aPR rfl rfl fun a b14 w hk hm=>?_
     refine aAz (i:=0) hk hm aGA rfl rfl rfl rfl rfl rfl (Nat.le_of_ble_eq_true rfl) fun a w hk hm=>?_
     refine cE0 ?_
     refine cR0 ?_
     refine oF0 hk aON rfl rfl fun a hk=>?_
     refine aAq hk aBy rfl (hm.cell_blk (i:=0) rfl rfl) rfl fun a hk=>?_
     refine aAk hk aSE (aLu (aOS (hm.rep (i:=2) rfl))) ⟨rfl,trivial⟩ rfl fun v w a hR hk=>?_
     obtain⟨hp,rfl,hR⟩:=hR
     have hm:=hm.result hp hR
     have hwl:=aBG (((aAo fs t.u).getD k (0,[])).2)
     refine oA0 hk rfl rfl fun a hk=>?_
     refine cE0 ?_
     refine cR0 ?_
     refine oM0 hk rfl rfl fun a hk=>?_
     refine oF0 hk aJi rfl rfl fun a hk=>?_
     refine aAq hk aLv rfl (hm.cell_blk (i:=1) rfl rfl) rfl fun a hk=>?_
     refine aAG (c:=((((aAo fs t.u).getD k (0,[])).1:Nat):Int)) hk aQY aHE rfl (by rw[IntKind.wrap_u64];omega) rfl fun a hk=>?_
     refine aAk hk aTp (aIr (Y:=Y) (((aAo fs t.u).getD k (0,[])).1) (by omega)) ⟨rfl,trivial⟩ rfl fun v15 w a hR hk=>?_
     have hm:=hm.rowNew hR
     have hul:=aBX (((aAo fs t.u).getD k (0,[])).1) (by omega)
     refine aBs (i:=5) hk hm aEZ rfl rfl rfl (aIZ aA9 (hm.row (i:=0) rfl) (aHH _)) (aCK (by simp only[List.length_append] at *;omega)) (aD3 (by simp only[List.length_append] at *;omega)) rfl fun a v16 w hk hm _=>?_
     have hm:=hm.rowEq (i:=5) (n':=((aEd fs V flex t).flatten++((aAo fs t.u).take k).flatMap (fun u=>aDt u.1 (whole u.2))++(uvarint (((aAo fs t.u).getD k (0,[])).1))).length) (xs':=bv ((aEd fs V flex t).flatten++((aAo fs t.u).take k).flatMap (fun u=>aDt u.1 (whole u.2))++(uvarint (((aAo fs t.u).getD k (0,[])).1)))) rfl List.length_append.symm (aCx _ _).symm
     refine oM0 hk rfl rfl fun a hk=>?_
     refine oL0 hk aA9 rfl rfl fun a hk=>?_
     refine aAG (c:=(((whole ((aAo fs t.u).getD k (0,[])).2).length:Nat):Int)) hk aVd aHE rfl (by rw[IntKind.wrap_u64];omega) rfl fun a hk=>?_
     refine aAk hk aTp (aIr (Y:=Y) ((whole ((aAo fs t.u).getD k (0,[])).2).length) (by omega)) ⟨rfl,trivial⟩ rfl fun v17 w a hR hk=>?_
     have hm:=hm.rowNew hR
     have hul:=aBX ((whole ((aAo fs t.u).getD k (0,[])).2).length) (by omega)
     refine aBs (i:=6) hk hm aEZ rfl rfl rfl (aIZ aA9 (hm.row (i:=0) rfl) (aHH _)) (aCK (by simp only[List.length_append] at *;omega)) (aD3 (by simp only[List.length_append] at *;omega)) rfl fun a v18 w hk hm _=>?_
     have hm:=hm.rowEq (i:=6) (n':=((aEd fs V flex t).flatten++((aAo fs t.u).take k).flatMap (fun u=>aDt u.1 (whole u.2))++(uvarint (((aAo fs t.u).getD k (0,[])).1))++(uvarint ((whole ((aAo fs t.u).getD k (0,[])).2).length))).length) (xs':=bv ((aEd fs V flex t).flatten++((aAo fs t.u).take k).flatMap (fun u=>aDt u.1 (whole u.2))++(uvarint (((aAo fs t.u).getD k (0,[])).1))++(uvarint ((whole ((aAo fs t.u).getD k (0,[])).2).length)))) rfl List.length_append.symm (aCx _ _).symm
     refine oM0 hk rfl rfl fun a hk=>?_
     refine aBs (i:=6) hk hm aEZ rfl rfl rfl (aLb aA9 (hm.rep (i:=2) rfl)) (aCK (by simp only[List.length_append] at *;omega)) (aD3 (by simp only[List.length_append] at *;omega)) rfl fun a v19 w hk hm _=>?_
     have hm:=hm.rowEq (i:=6) (n':=((aEd fs V flex t).flatten++((aAo fs t.u).take k).flatMap (fun u=>aDt u.1 (whole u.2))++(uvarint (((aAo fs t.u).getD k (0,[])).1))++(uvarint ((whole ((aAo fs t.u).getD k (0,[])).2).length))++(whole (((aAo fs t.u).getD k (0,[])).2))).length) (xs':=bv ((aEd fs V flex t).flatten++((aAo fs t.u).take k).flatMap (fun u=>aDt u.1 (whole u.2))++(uvarint (((aAo fs t.u).getD k (0,[])).1))++(uvarint ((whole ((aAo fs t.u).getD k (0,[])).2).length))++(whole (((aAo fs t.u).getD k (0,[])).2)))) rfl List.length_append.symm (aCx _ _).symm
     refine oA0 hk rfl rfl fun a hk=>?_
     refine cE0 ?_
     refine aC2 ?_
     refine oM0 hk rfl rfl fun a hk=>?_
     refine aCj (c:=(((aEd fs V flex t).length+(k+1):Nat):Int)) hk rfl rfl rfl (by rw[IntWalk.i64_in _ (by omega)];omega) rfl fun a hk=>?_
     refine oA0 hk rfl rfl fun a hk=>?_
     refine aAb ?_
     refine cN0 ?_
     have hm:=hm.rowEq (i:=6) (n':=((aEd fs V flex t).flatten++((aAo fs t.u).take (k+1)).flatMap (fun u=>aDt u.1 (whole u.2))).length) (xs':=bv ((aEd fs V flex t).flatten++((aAo fs t.u).take (k+1)).flatMap (fun u=>aDt u.1 (whole u.2)))) rfl (by rw[hsucc];simp only[aDt,List.append_assoc]) (by rw[hsucc];simp only[aDt,List.append_assoc])
     exact aBb (L':=[(9,vz),(10,v19),(11,.int .i64 (((aEd fs V flex t).length+(k+1):Nat):Int)),(100,.slice puu ((aAo fs t.u).length) cuu)]) hk ⟨rfl,rfl,rfl,rfl,rfl,rfl,trivial⟩ rfl ⟨_,rfl,hm.pick [6,7,8,9,10,11] rfl rfl⟩
    ·obtain⟨vy,rfl,hm⟩:=hR
     rw[List.take_length] at hm
     refine cT0 ?_
     refine cR0 ?_
     refine oM0 hk rfl rfl fun a hk=>?_
     refine oM0 hk rfl rfl fun a hk=>?_
     refine aAG (c:=(((aEd fs V flex t).length+(aAo fs t.u).length:Nat):Int)) hk aVd aHE rfl (by rw[IntKind.wrap_u64];omega) rfl fun a hk=>?_
     refine aAk hk aTp (aIr (Y:=Y) ((aEd fs V flex t).length+(aAo fs t.u).length) (by omega)) ⟨rfl,trivial⟩ rfl fun v20 w a hR hk=>?_
     have hm:=hm.rowNew hR
     have hul:=aBX ((aEd fs V flex t).length+(aAo fs t.u).length) (by omega)
     refine aBs (i:=3) hk hm aEZ rfl rfl rfl (aIZ aA9 (hm.row (i:=0) rfl) (aHH _)) (aCK (by first|omega|(simp only[List.length_append] at *;omega))) (aD3 (by first|omega|(simp only[List.length_append] at *;omega))) rfl fun a v21 w hk hm _=>?_
     have hm:=hm.rowEq (i:=3) (n':=((List.range fs.length).flatMap (pie fs V flex t)++(uvarint ((aEd fs V flex t).length+(aAo fs t.u).length))).length) (xs':=bv ((List.range fs.length).flatMap (pie fs V flex t)++(uvarint ((aEd fs V flex t).length+(aAo fs t.u).length)))) rfl List.length_append.symm (aCx _ _).symm
     refine oM0 hk rfl rfl fun a hk=>?_
     refine aBs (i:=3) hk hm aEZ rfl rfl rfl (aIZ aA9 (hm.row (i:=1) rfl) (aHH _)) (aCK (by first|omega|(simp only[List.length_append] at *;omega))) (aD3 (by first|omega|(simp only[List.length_append] at *;omega))) rfl fun a v22 w hk hm _=>?_
     have hm:=hm.rowEq (i:=3) (n':=((List.range fs.length).flatMap (pie fs V flex t)++(uvarint ((aEd fs V flex t).length+(aAo fs t.u).length))++((aEd fs V flex t).flatten++(aAo fs t.u).flatMap (fun u=>aDt u.1 (whole u.2)))).length) (xs':=bv ((List.range fs.length).flatMap (pie fs V flex t)++(uvarint ((aEd fs V flex t).length+(aAo fs t.u).length))++((aEd fs V flex t).flatten++(aAo fs t.u).flatMap (fun u=>aDt u.1 (whole u.2))))) rfl List.length_append.symm (aCx _ _).symm
     refine oA0 hk rfl rfl fun a hk=>?_
     refine cE0 ?_
     refine wp_ret ?_
     refine bT0 rfl hk rfl ?_
     have hr:=hm.rowOut (i:=3) rfl
     exact hr
theorem aWR {flex:Bool}:∀ f:Fld,aKh f=true→aUn flex f:=aEW fun f ih h=>by
 have ht:=aDT h
 have hp:aTd flex f.sub:=@aN2 flex f.sub (fun g hg=>ih g hg (aBC ht.2.2.2.2 g hg)) (fun g hg=>aQQ g (aBC ht.2.2.2.2 g hg)) ht.2.2.2.1 (aIm ht.2.2.2.2)
 have hv:∀ kind,aUw flex kind f.sub:=fun kind=>@aSB flex kind f.sub hp
 exact @aTr flex f hv hp
theorem aOy {flex:Bool}{fs:List Fld}(h:aFa fs=true)(hl:fs.length≤1000):aTd flex fs :=
 @aN2 flex fs (fun f hf=>aWR f (aBC h f hf)) (fun f hf=>aQQ f (aBC h f hf)) hl (aIm h)
end Go.Proofs.YtipgdlbbmlnfiaaGreatDoor
