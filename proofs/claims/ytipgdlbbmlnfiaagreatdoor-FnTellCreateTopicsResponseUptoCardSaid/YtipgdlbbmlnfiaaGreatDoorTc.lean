/- Walks of functions that the seat's laws reach. -/
import Derived.Test.YtipgdlbbmlnfiaaGreatDoorL4
import Derived.Test.YtipgdlbbmlnfiaaGreatDoorRows
import Derived.Test.YtipgdlbbmlnfiaaGreatDoorFa
import Derived.Test.YtipgdlbbmlnfiaaGreatDoorTa
namespace Go.Proofs.YtipgdlbbmlnfiaaGreatDoor
open Go Go.Mk
def aY9 (fs:List Fld):Prop:=∀ {w0:World} {Y:Nat→Prop} {t:T} {ct:List Value} {p:Option Addr} {cap:Nat},Rep w0 Y (.sl false 8 (fs.map aBg)) [.slice p fs.length cap]→Rep w0 Y (ddT t) ct→t.sane=true →
 Ret Tryz.prog 38 [.slice p fs.length cap,.agg ct.toArray] w0 fun v w'=>Agr Nob w0 w'∧v=.bool (t.u.isEmpty&&aIS fs t.l 0)
theorem aSa {fs:List Fld}(hu:∀ f ∈ fs,aY9 f.sub)(hlen:fs.length≤1000):aY9 fs:=by
 intro w0 Y t ct p cap hF hT hsn
 have hsl:∀ j,(t.l.getD j T.nil).s.length<4611686018427387904:=fun j=>by have:=(aBD (aCG (aBD hsn).2.2.2 j)).1;omega
 obtain⟨pst,capst,pt,capt,put,caput,rfl⟩:=aB6 hT
 refine aAy Tryz.func38 rfl rfl fun a hk=>?_
 have hk:Kn 89 [(0,.slice p fs.length cap),(1,.agg #[.int .i64 t.n,.slice pst t.s.length capst,.bool t.z,.slice pt t.l.length capt,.slice put t.u.length caput])] a:=hk
 have hm:Mem w0 Nob Y [.rep (.sl false 8 (fs.map aBg)) [.slice p fs.length cap],.rep (ddT t) [.int .i64 t.n,.slice pst t.s.length capst,.bool t.z,.slice pt t.l.length capt,.slice put t.u.length caput]] w0:=Mem.start rfl (by simp only[List.forall_mem_cons,List.not_mem_nil,false_imp_iff,implies_true,and_true];exact⟨hF,hT⟩)
 refine cR0 ?_
 refine aFB hk hm rfl rfl rfl fun a b1 w hk hm=>?_
 refine oA0 hk rfl rfl fun a hk=>?_
 refine cE0 ?_
 refine wp_seq ?_
 refine cR0 ?_
 refine oF0 hk aGC rfl rfl fun a hk=>?_
 refine aAq hk aL7 rfl (hm.cell_blk (i:=0) rfl rfl) rfl fun a hk=>?_
 refine oL0 hk aE0 rfl rfl fun a hk=>?_
 refine aAx hk rfl rfl rfl rfl fun a hk=>?_
 refine cE0 ?_
 refine aAA hk rfl (fun hc=>?_) (fun hc=>?_)
 ·have hc2:=of_decide_eq_true hc
  refine cR0 ?_
  refine oA0 hk rfl rfl fun a hk=>?_
  refine cE0 ?_
  refine wp_ret ?_
  refine cQ0 ?_
  refine bT0 rfl hk rfl ?_
  exact⟨hm.agr,by rw[aMf hc];rfl⟩
 ·have hc3:=of_decide_eq_false hc
  refine wp_skip ?_
  refine cT0 ?_
  refine wp_seq ?_
  refine cR0 ?_
  refine oM0 hk rfl rfl fun a hk=>?_
  refine oL0 hk aKe rfl rfl fun a hk=>?_
  refine oM0 hk rfl rfl fun a hk=>?_
  refine cE0 ?_
  have hue:t.u.isEmpty=true:=aMh hc
  refine aCF (L0:=[(3,.pointer (some ⟨b1,0,none⟩)),(12,.slice p fs.length cap)]) (N:=fs.length) (by omega) (fun k L w=>L=[(3,.pointer (some ⟨b1,0,none⟩)),(12,.slice p fs.length cap)]∧(List.range k).all (aEX fs t)=true∧Mem w0 Nob Y [.blk b1 [.int .i64 t.n,.slice pst t.s.length capst,.bool t.z,.slice pt t.l.length capt,.slice put t.u.length caput] 26,.rep (.sl false 8 (fs.map aBg)) [.slice p fs.length cap],.rep (ddT t) [.int .i64 t.n,.slice pst t.s.length capst,.bool t.z,.slice pt t.l.length capt,.slice put t.u.length caput]] w) (hk.sub ⟨rfl,rfl,rfl,rfl,trivial⟩) ⟨rfl,rfl,hm⟩ rfl rfl rfl rfl rfl rfl rfl (fun k L a w hlt hR hk=>?_) rfl (fun L a w hR hk=>?_)
  ·obtain⟨rfl,hI0,hm⟩:=hR
   obtain⟨hlty,bly,offy,ey,hply,hely,hRey,hCey⟩:=aBa (hm.rep (i:=1) rfl) (aBw aBg fs k aAm hlt)
   obtain⟨pfy,capfy,rfl,-⟩:=aIn hRey
   have hm:=hm.add (e:=.rep (aBg (fs.getD k aAm)) [.int .i64 (((fs.getD k aAm).kind:Nat):Int),.int .i64 ((fs.getD k aAm).fr),.int .i64 ((fs.getD k aAm).to),.int .i64 ((fs.getD k aAm).nu),.int .i64 ((fs.getD k aAm).tag),.int .i64 ((fs.getD k aAm).df),.int .i64 (((fs.getD k aAm).of:Nat):Int),.slice pfy ((fs.getD k aAm).sub.length) capfy]) rfl hRey
   have hm:=hm.add (e:=.cel bly (offy+k*8) [.int .i64 (((fs.getD k aAm).kind:Nat):Int),.int .i64 ((fs.getD k aAm).fr),.int .i64 ((fs.getD k aAm).to),.int .i64 ((fs.getD k aAm).nu),.int .i64 ((fs.getD k aAm).tag),.int .i64 ((fs.getD k aAm).df),.int .i64 (((fs.getD k aAm).of:Nat):Int),.slice pfy ((fs.getD k aAm).sub.length) capfy]) rfl hCey
   have hkk:(0:Int)≤(((fs.getD k aAm).kind:Nat):Int):=Int.natCast_nonneg _
   refine cR0 ?_
   refine oM0 hk rfl rfl fun a hk=>?_
   refine oI0 (j:=k) (b:=bly) (off:=offy) hk aKe aDq (by rw[← hply];rfl) rfl hlty rfl fun a hk=>?_
   refine aAM (cs:=[.int .i64 (((fs.getD k aAm).kind:Nat):Int),.int .i64 ((fs.getD k aAm).fr),.int .i64 ((fs.getD k aAm).to),.int .i64 ((fs.getD k aAm).nu),.int .i64 ((fs.getD k aAm).tag),.int .i64 ((fs.getD k aAm).df),.int .i64 (((fs.getD k aAm).of:Nat):Int),.slice pfy ((fs.getD k aAm).sub.length) capfy]) hk aDq rfl (hm.cells_cel (i:=0) (k:=0) rfl rfl) rfl fun a hk=>?_
   refine aA5 hk hm aBm rfl rfl fun a b4 w hk hm=>?_
   refine oA0 hk rfl rfl fun a hk=>?_
   refine aAz (i:=0) hk hm aDq rfl rfl rfl rfl rfl rfl (Nat.le_of_ble_eq_true rfl) fun a w hk hm=>?_
   refine cE0 ?_
   refine cR0 ?_
   refine aAM (cs:=[.int .i64 t.n,.slice pst t.s.length capst,.bool t.z,.slice pt t.l.length capt,.slice put t.u.length caput]) hk aBF rfl (hm.cells_blk (i:=3) rfl rfl) rfl fun a hk=>?_
   refine oM0 hk rfl rfl fun a hk=>?_
   refine aAk hk aQz (aKc (t:=t) k (hm.rep (i:=5) rfl)) ⟨rfl,rfl,trivial⟩ rfl fun v w a hR hk=>?_
   obtain⟨hp,ca1,rfl,hR⟩:=hR
   obtain⟨psa1,capsa1,pa1,capa1,pua1,capua1,rfl⟩:=aB6 hR
   have hm:=hm.result hp hR
   refine aA5 hk hm aLn rfl rfl fun a b5 w hk hm=>?_
   refine aAz (i:=0) hk hm aBF rfl rfl rfl rfl rfl rfl (Nat.le_of_ble_eq_true rfl) fun a w hk hm=>?_
   refine cE0 ?_
   refine cR0 ?_
   refine oF0 hk aDD rfl rfl fun a hk=>?_
   refine aAq hk aF6 rfl (hm.cell_blk (i:=2) rfl rfl) rfl fun a hk=>?_
   refine cE0 ?_
   refine wp_block ?_
   refine cR0 ?_
   refine aAx hk rfl rfl rfl rfl fun a hk=>?_
   refine oA0 hk rfl rfl fun a hk=>?_
   refine cE0 ?_
   refine aAA hk rfl (fun hc=>?_) (fun hc=>?_)
   ·have hc6:=eq_of_beq hc
    refine cR0 ?_
    refine oF0 hk aIY rfl rfl fun a hk=>?_
    refine aAq hk aHp rfl (hm.cell_blk (i:=0) rfl rfl) rfl fun a hk=>?_
    refine oF0 hk aEA rfl rfl fun a hk=>?_
    refine aAq hk aF6 rfl (hm.cell_blk (i:=2) rfl rfl) rfl fun a hk=>?_
    refine aAx hk rfl rfl rfl rfl fun a hk=>?_
    refine aMd hk bA5 rfl rfl rfl fun a hk=>?_
    refine oM0 hk rfl rfl fun a hk=>?_
    rcases Bool.eq_false_or_eq_true ((((t.at_ k).z) != (decide (((fs.getD k aAm).nu:Int)≥0)))) with hb7|hb7
    ·rw[hb7] at hk
     refine oS0 hk ⟨_,_,_,_,rfl,rfl,rfl,aB0⟩ rfl rfl fun a hk=>?_
     refine oS0 hk ⟨_,_,_,_,rfl,rfl,rfl,aB0⟩ rfl rfl fun a hk=>?_
     refine oS0 hk ⟨_,_,_,_,rfl,rfl,rfl,aB0⟩ rfl rfl fun a hk=>?_
     refine oS0 hk ⟨_,_,_,_,rfl,rfl,rfl,aB0⟩ rfl rfl fun a hk=>?_
     refine aAI hk rfl rfl rfl rfl rfl fun a hk=>?_
     refine cE0 ?_
     refine aEm hk rfl ?_
     refine cR0 ?_
     refine oA0 hk rfl rfl fun a hk=>?_
     refine cE0 ?_
     refine wp_ret ?_
     refine aAE ?_
     refine aAE ?_
     refine aA7 ?_
     refine cQ0 ?_
     refine bT0 rfl hk rfl ?_
     have hv:aEX fs t k=false:=by
      show aFd (fs.getD k aAm) (t.l.getD k T.nil)=false
      first|exact aCC (by omega) (by assumption)|exact aCz (by omega) (by assumption)|exact aDy (by omega) (by assumption)|exact aCI (by omega) (by assumption)|exact aCD (by omega) (by assumption)|exact aB8 (by omega) (by assumption) (by assumption)|exact aCb (by omega) (by assumption) (by assumption)|exact aDM (by omega) (by omega) (by omega) (by omega) (by omega) (by assumption)|(exfalso;omega)
     exact⟨hm.agr,by rw[aCq,aAR hlt hv,Bool.and_false]⟩
    ·rw[hb7] at hk
     refine aAu (o':=_) hk ⟨_,_,_,rfl,rfl,rfl⟩ rfl ?_
     refine oF0 hk aDw rfl rfl fun a hk=>?_
     refine aAu (o':=_) hk ⟨_,_,_,rfl,rfl,rfl⟩ rfl ?_
     refine aAq hk aBy rfl (hm.cell_blk (i:=0) rfl rfl) rfl fun a hk=>?_
     refine aAu (o':=_) hk ⟨_,_,_,rfl,rfl,rfl⟩ rfl ?_
     refine oL0 hk aA9 rfl rfl fun a hk=>?_
     refine aAu (o':=_) hk ⟨_,_,_,rfl,rfl,rfl⟩ rfl ?_
     refine aAx hk rfl rfl rfl rfl fun a hk=>?_
     refine aAI hk rfl rfl rfl rfl rfl fun a hk=>?_
     refine cE0 ?_
     refine aAA hk rfl (fun hc=>?_) (fun hc=>?_)
     ·have hc8:=of_decide_eq_true hc
      refine cR0 ?_
      refine oA0 hk rfl rfl fun a hk=>?_
      refine cE0 ?_
      refine wp_ret ?_
      refine aAE ?_
      refine aAE ?_
      refine aA7 ?_
      refine cQ0 ?_
      refine bT0 rfl hk rfl ?_
      have hv:aEX fs t k=false:=by
       show aFd (fs.getD k aAm) (t.l.getD k T.nil)=false
       first|exact aCC (by omega) (by assumption)|exact aCz (by omega) (by assumption)|exact aDy (by omega) (by assumption)|exact aCI (by omega) (by assumption)|exact aCD (by omega) (by assumption)|exact aB8 (by omega) (by assumption) (by assumption)|exact aCb (by omega) (by assumption) (by assumption)|exact aDM (by omega) (by omega) (by omega) (by omega) (by omega) (by assumption)|(exfalso;omega)
      exact⟨hm.agr,by rw[aCq,aAR hlt hv,Bool.and_false]⟩
     ·have hc9:=of_decide_eq_false hc
      refine wp_skip ?_
      refine cN0 ?_
      refine cN0 ?_
      have hv:aEX fs t k=true:=by
       show aFd (fs.getD k aAm) (t.l.getD k T.nil)=true
       first|exact aFz (by omega) (by assumption) (by assumption)|exact aFm (by omega) (by assumption)|exact aFr (by omega) (by assumption) (by assumption)|exact aCZ (by omega) (by assumption) (by assumption)|exact aCX (by omega) (by assumption) (by assumption)|exact aFk (by omega) (by omega) (by omega) (by omega) (by omega) (by assumption)|(exfalso;omega)
      exact aBb (L':=[(3,.pointer (some ⟨b1,0,none⟩)),(12,.slice p fs.length cap)]) hk ⟨rfl,rfl,rfl,rfl,trivial⟩ rfl ⟨rfl,(aAO hI0 hv),hm.tail.tail.tail.tail.tail⟩
   ·have hc10:=beq_eq_false_iff_ne.1 hc
    refine cR0 ?_
    refine aAx hk rfl rfl rfl rfl fun a hk=>?_
    refine oA0 hk rfl rfl fun a hk=>?_
    refine cE0 ?_
    refine aAA hk rfl (fun hc=>?_) (fun hc=>?_)
    ·have hc11:=eq_of_beq hc
     refine wp_seq ?_
     refine aAW (K:=4) mixed hm fun w hm=>?_
     refine aAh (i:=0) rfl rfl rfl (by kernel_rfl) (fun _ _ _ h=>h) hk rfl (fun w hm=>rF0 hk aDw rfl) hm fun a hk=>?_
     refine aAh (i:=1) rfl rfl rfl (by kernel_rfl) (fun _ _ _ h=>h) hk rfl (fun w hm=>aAL hk aBy rfl (hm.cell_blk (i:=0) rfl rfl)) hm fun a hk=>?_
     refine aAt (k:=2) (by kernel_rfl) rfl rfl ?_
     refine aOI hk hm aEZ aWB rfl rfl rfl rfl fun a b12 w hk hm=>?_
     refine aAb (cT0 ⟨fun _=>hm.tail,?_⟩)
     refine aAt (k:=3) (by kernel_rfl) rfl rfl ?_
     have hz16:List.replicate 16 (Value.int .u8 0)=bv (List.replicate 16 (0:UInt8)):=by simp[bv]
     rw[hz16] at hm
     have hm:=hm.blkRow (i:=0) (n:=16) (sz:=1) rfl (by rw[aCV];rfl) (by decide)
     have hm:=hm.freezeBytes (i:=0) (s:=List.replicate 16 0) rfl rfl
     refine aAk hk aPY (aLQ (sb:=List.replicate 16 0) (aD2 (hm.rep (i:=2) rfl)) (hm.rep (i:=0) rfl) (hsl _)) ⟨rfl,rfl,trivial⟩ rfl fun v w a hR hk=>?_
     obtain⟨hp,rfl⟩:=hR
     have hm:=hm.pure hp
     refine aAb (cT0 ⟨fun _=>hm.tail,?_⟩)
     refine aAt (k:=4) (by kernel_rfl) rfl rfl ?_
     refine aES hk rfl rfl fun a hk=>?_
     refine aAb (cT0 ⟨fun h=>Bool.noConfusion (show true=false from h),?_⟩)
     refine aBh (by kernel_rfl) ?_ _
     refine cT0 ?_
     refine aAA hk rfl (fun hc=>?_) (fun hc=>?_)
     ·have hc13:=hc
      refine cR0 ?_
      refine oA0 hk rfl rfl fun a hk=>?_
      refine cE0 ?_
      refine wp_ret ?_
      refine aAE ?_
      refine aAE ?_
      refine aA7 ?_
      refine cQ0 ?_
      refine bT0 rfl hk rfl ?_
      have hv:aEX fs t k=false:=by
       show aFd (fs.getD k aAm) (t.l.getD k T.nil)=false
       first|exact aCC (by omega) (by assumption)|exact aCz (by omega) (by assumption)|exact aDy (by omega) (by assumption)|exact aCI (by omega) (by assumption)|exact aCD (by omega) (by assumption)|exact aB8 (by omega) (by assumption) (by assumption)|exact aCb (by omega) (by assumption) (by assumption)|exact aDM (by omega) (by omega) (by omega) (by omega) (by omega) (by assumption)|(exfalso;omega)
      exact⟨hm.agr,by rw[aCq,aAR hlt hv,Bool.and_false]⟩
     ·have hc14:=hc
      refine wp_skip ?_
      refine cN0 ?_
      refine cN0 ?_
      have hv:aEX fs t k=true:=by
       show aFd (fs.getD k aAm) (t.l.getD k T.nil)=true
       first|exact aFz (by omega) (by assumption) (by assumption)|exact aFm (by omega) (by assumption)|exact aFr (by omega) (by assumption) (by assumption)|exact aCZ (by omega) (by assumption) (by assumption)|exact aCX (by omega) (by assumption) (by assumption)|exact aFk (by omega) (by omega) (by omega) (by omega) (by omega) (by assumption)|(exfalso;omega)
      exact aBb (L':=[(3,.pointer (some ⟨b1,0,none⟩)),(12,.slice p fs.length cap)]) hk ⟨rfl,rfl,rfl,rfl,trivial⟩ rfl ⟨rfl,(aAO hI0 hv),hm.tail.tail.tail.tail.tail.tail⟩
    ·have hc15:=beq_eq_false_iff_ne.1 hc
     refine wp_seq ?_
     refine cR0 ?_
     refine aAx hk rfl rfl rfl rfl fun a hk=>?_
     refine oA0 hk rfl rfl fun a hk=>?_
     refine cE0 ?_
     refine aAA hk rfl (fun hc=>?_) (fun hc=>?_)
     ·have hc16:=eq_of_beq hc
      refine wp_skip ?_
      refine cT0 ?_
      refine aAA hk rfl (fun hc=>?_) (fun hc=>?_)
      ·have hc17:=eq_of_beq hc
       refine cR0 ?_
       refine oF0 hk aDw rfl rfl fun a hk=>?_
       refine aAq hk aBy rfl (hm.cell_blk (i:=0) rfl rfl) rfl fun a hk=>?_
       refine oL0 hk aA9 rfl rfl fun a hk=>?_
       refine aAx hk rfl rfl rfl rfl fun a hk=>?_
       refine oM0 hk rfl rfl fun a hk=>?_
       rcases Bool.eq_false_or_eq_true (decide (((((t.at_ k).s.length:Nat):Int):Int) > 0)) with hb18|hb18
       ·rw[hb18] at hk
        have hb18d:=of_decide_eq_true hb18
        refine oS0 hk ⟨_,_,_,_,rfl,rfl,rfl,aB0⟩ rfl rfl fun a hk=>?_
        refine oS0 hk ⟨_,_,_,_,rfl,rfl,rfl,aB0⟩ rfl rfl fun a hk=>?_
        refine oS0 hk ⟨_,_,_,_,rfl,rfl,rfl,aB0⟩ rfl rfl fun a hk=>?_
        refine oS0 hk ⟨_,_,_,_,rfl,rfl,rfl,aB0⟩ rfl rfl fun a hk=>?_
        refine aAI hk rfl rfl rfl rfl rfl fun a hk=>?_
        refine cE0 ?_
        refine aEm hk rfl ?_
        refine cR0 ?_
        refine oA0 hk rfl rfl fun a hk=>?_
        refine cE0 ?_
        refine wp_ret ?_
        refine aAE ?_
        refine aAE ?_
        refine aA7 ?_
        refine cQ0 ?_
        refine bT0 rfl hk rfl ?_
        have hv:aEX fs t k=false:=by
         show aFd (fs.getD k aAm) (t.l.getD k T.nil)=false
         first|exact aCC (by omega) (by assumption)|exact aCz (by omega) (by assumption)|exact aDy (by omega) (by assumption)|exact aCI (by omega) (by assumption)|exact aCD (by omega) (by assumption)|exact aB8 (by omega) (by assumption) (by assumption)|exact aCb (by omega) (by assumption) (by assumption)|exact aDM (by omega) (by omega) (by omega) (by omega) (by omega) (by assumption)|(exfalso;omega)
        exact⟨hm.agr,by rw[aCq,aAR hlt hv,Bool.and_false]⟩
       ·rw[hb18] at hk
        have hb18d:=of_decide_eq_false hb18
        refine aAu (o':=_) hk ⟨_,_,_,rfl,rfl,rfl⟩ rfl ?_
        refine oF0 hk aDB rfl rfl fun a hk=>?_
        refine aAu (o':=_) hk ⟨_,_,_,rfl,rfl,rfl⟩ rfl ?_
        refine aAq hk aIw rfl (hm.cell_blk (i:=0) rfl rfl) rfl fun a hk=>?_
        refine aAu (o':=_) hk ⟨_,_,_,rfl,rfl,rfl⟩ rfl ?_
        refine oL0 hk aGn rfl rfl fun a hk=>?_
        refine aAu (o':=_) hk ⟨_,_,_,rfl,rfl,rfl⟩ rfl ?_
        refine aAx hk rfl rfl rfl rfl fun a hk=>?_
        refine aAI hk rfl rfl rfl rfl rfl fun a hk=>?_
        refine cE0 ?_
        refine aAA hk rfl (fun hc=>?_) (fun hc=>?_)
        ·have hc19:=of_decide_eq_true hc
         refine cR0 ?_
         refine oA0 hk rfl rfl fun a hk=>?_
         refine cE0 ?_
         refine wp_ret ?_
         refine aAE ?_
         refine aAE ?_
         refine aA7 ?_
         refine cQ0 ?_
         refine bT0 rfl hk rfl ?_
         have hv:aEX fs t k=false:=by
          show aFd (fs.getD k aAm) (t.l.getD k T.nil)=false
          first|exact aCC (by omega) (by assumption)|exact aCz (by omega) (by assumption)|exact aDy (by omega) (by assumption)|exact aCI (by omega) (by assumption)|exact aCD (by omega) (by assumption)|exact aB8 (by omega) (by assumption) (by assumption)|exact aCb (by omega) (by assumption) (by assumption)|exact aDM (by omega) (by omega) (by omega) (by omega) (by omega) (by assumption)|(exfalso;omega)
         exact⟨hm.agr,by rw[aCq,aAR hlt hv,Bool.and_false]⟩
        ·have hc20:=of_decide_eq_false hc
         refine wp_skip ?_
         refine cN0 ?_
         refine cN0 ?_
         have hv:aEX fs t k=true:=by
          show aFd (fs.getD k aAm) (t.l.getD k T.nil)=true
          first|exact aFz (by omega) (by assumption) (by assumption)|exact aFm (by omega) (by assumption)|exact aFr (by omega) (by assumption) (by assumption)|exact aCZ (by omega) (by assumption) (by assumption)|exact aCX (by omega) (by assumption) (by assumption)|exact aFk (by omega) (by omega) (by omega) (by omega) (by omega) (by assumption)|(exfalso;omega)
         exact aBb (L':=[(3,.pointer (some ⟨b1,0,none⟩)),(12,.slice p fs.length cap)]) hk ⟨rfl,rfl,rfl,rfl,trivial⟩ rfl ⟨rfl,(aAO hI0 hv),hm.tail.tail.tail.tail.tail⟩
      ·have hc21:=beq_eq_false_iff_ne.1 hc
       refine cR0 ?_
       refine aAx hk rfl rfl rfl rfl fun a hk=>?_
       refine oA0 hk rfl rfl fun a hk=>?_
       refine cE0 ?_
       refine aAA hk rfl (fun hc=>?_) (fun hc=>?_)
       ·have hc22:=eq_of_beq hc
        refine cR0 ?_
        refine oF0 hk aEA rfl rfl fun a hk=>?_
        refine aAq hk aF6 rfl (hm.cell_blk (i:=2) rfl rfl) rfl fun a hk=>?_
        refine aAx hk rfl rfl rfl rfl fun a hk=>?_
        refine oM0 hk rfl rfl fun a hk=>?_
        rcases Bool.eq_false_or_eq_true (decide (((fs.getD k aAm).nu:Int)≥0)) with hb23|hb23
        ·rw[hb23] at hk
         have hb23d:=of_decide_eq_true hb23
         refine aAu (o':=_) hk ⟨_,_,_,rfl,rfl,rfl⟩ rfl ?_
         refine oF0 hk aIY rfl rfl fun a hk=>?_
         refine aAu (o':=_) hk ⟨_,_,_,rfl,rfl,rfl⟩ rfl ?_
         refine aAq hk aHp rfl (hm.cell_blk (i:=0) rfl rfl) rfl fun a hk=>?_
         refine aAu (o':=_) hk ⟨_,_,_,rfl,rfl,rfl⟩ rfl ?_
         refine aES hk rfl rfl fun a hk=>?_
         refine aAI hk rfl rfl rfl rfl rfl fun a hk=>?_
         refine oM0 hk rfl rfl fun a hk=>?_
         rcases Bool.eq_false_or_eq_true ((!((t.at_ k).z))) with hb24|hb24
         ·rw[hb24] at hk
          refine oS0 hk ⟨_,_,_,_,rfl,rfl,rfl,aB0⟩ rfl rfl fun a hk=>?_
          refine oS0 hk ⟨_,_,_,_,rfl,rfl,rfl,aB0⟩ rfl rfl fun a hk=>?_
          refine oS0 hk ⟨_,_,_,_,rfl,rfl,rfl,aB0⟩ rfl rfl fun a hk=>?_
          refine oS0 hk ⟨_,_,_,_,rfl,rfl,rfl,aB0⟩ rfl rfl fun a hk=>?_
          refine oS0 hk ⟨_,_,_,_,rfl,rfl,rfl,(aLK _)⟩ rfl rfl fun a hk=>?_
          refine oS0 hk ⟨_,_,_,_,rfl,rfl,rfl,(aLK _)⟩ rfl rfl fun a hk=>?_
          refine oS0 hk ⟨_,_,_,_,rfl,rfl,rfl,(aLK _)⟩ rfl rfl fun a hk=>?_
          refine oS0 hk ⟨_,_,_,_,rfl,rfl,rfl,(aLK _)⟩ rfl rfl fun a hk=>?_
          refine oS0 hk ⟨_,_,_,_,rfl,rfl,rfl,(aLK _)⟩ rfl rfl fun a hk=>?_
          refine oS0 hk ⟨_,_,_,_,rfl,rfl,rfl,aB0⟩ rfl rfl fun a hk=>?_
          refine aAI hk rfl rfl rfl rfl rfl fun a hk=>?_
          refine cE0 ?_
          refine aEm hk rfl ?_
          refine cR0 ?_
          refine oA0 hk rfl rfl fun a hk=>?_
          refine cE0 ?_
          refine wp_ret ?_
          refine aAE ?_
          refine aAE ?_
          refine aA7 ?_
          refine cQ0 ?_
          refine bT0 rfl hk rfl ?_
          have hv:aEX fs t k=false:=by
           show aFd (fs.getD k aAm) (t.l.getD k T.nil)=false
           first|exact aCC (by omega) (by assumption)|exact aCz (by omega) (by assumption)|exact aDy (by omega) (by assumption)|exact aCI (by omega) (by assumption)|exact aCD (by omega) (by assumption)|exact aB8 (by omega) (by assumption) (by assumption)|exact aCb (by omega) (by assumption) (by assumption)|exact aDM (by omega) (by omega) (by omega) (by omega) (by omega) (by assumption)|(exfalso;omega)
          exact⟨hm.agr,by rw[aCq,aAR hlt hv,Bool.and_false]⟩
         ·rw[hb24] at hk
          refine aAu (o':=_) hk ⟨_,_,_,rfl,rfl,rfl⟩ rfl ?_
          refine oF0 hk aEA rfl rfl fun a hk=>?_
          refine aAu (o':=_) hk ⟨_,_,_,rfl,rfl,rfl⟩ rfl ?_
          refine aAq hk aF6 rfl (hm.cell_blk (i:=2) rfl rfl) rfl fun a hk=>?_
          refine aAu (o':=_) hk ⟨_,_,_,rfl,rfl,rfl⟩ rfl ?_
          refine aAx hk rfl rfl rfl rfl fun a hk=>?_
          refine aAu (o':=_) hk ⟨_,_,_,rfl,rfl,rfl⟩ rfl ?_
          refine oM0 hk rfl rfl fun a hk=>?_
          rcases Bool.eq_false_or_eq_true (decide (((fs.getD k aAm).nu:Int)<0)) with hb25|hb25
          ·rw[hb25] at hk
           have hb25d:=of_decide_eq_true hb25
           refine aAu (o':=_) hk ⟨_,_,_,rfl,rfl,rfl⟩ rfl ?_
           refine oF0 hk aFv rfl rfl fun a hk=>?_
           refine aAu (o':=_) hk ⟨_,_,_,rfl,rfl,rfl⟩ rfl ?_
           refine aAq hk aIH rfl (hm.cell_blk (i:=2) rfl rfl) rfl fun a hk=>?_
           refine aAu (o':=_) hk ⟨_,_,_,rfl,rfl,rfl⟩ rfl ?_
           refine aAM (cs:=[.int .i64 ((t.at_ k).n),.slice psa1 ((t.at_ k).s.length) capsa1,.bool ((t.at_ k).z),.slice pa1 ((t.at_ k).l.length) capa1,.slice pua1 ((t.at_ k).u.length) capua1]) hk aBF rfl (hm.cells_blk (i:=0) rfl rfl) rfl fun a hk=>?_
           refine aAu (o':=_) hk ⟨_,_,_,rfl,rfl,rfl⟩ rfl ?_
           refine aAk hk aQu (hu (fs.getD k aAm) (aC9 hlt) (aEB (hm.rep (i:=4) rfl)) (hm.rep (i:=1) rfl) (aCG (aBD hsn).2.2.2 k)) ⟨rfl,rfl,trivial⟩ rfl fun v w a hR hk=>?_
           obtain⟨hp,rfl⟩:=hR
           have hm:=hm.pure hp
           refine aAu (o':=_) hk ⟨_,_,_,rfl,rfl,rfl⟩ rfl ?_
           refine aES hk rfl rfl fun a hk=>?_
           refine aAu (o':=_) hk ⟨_,_,_,rfl,rfl,rfl⟩ rfl ?_
           refine aAI hk rfl rfl rfl rfl rfl fun a hk=>?_
           refine aAI hk rfl rfl rfl rfl rfl fun a hk=>?_
           refine cE0 ?_
           refine aAA hk rfl (fun hc=>?_) (fun hc=>?_)
           ·have hc26:=hc
            refine cR0 ?_
            refine oA0 hk rfl rfl fun a hk=>?_
            refine cE0 ?_
            refine wp_ret ?_
            refine aAE ?_
            refine aAE ?_
            refine aA7 ?_
            refine cQ0 ?_
            refine bT0 rfl hk rfl ?_
            have hv:aEX fs t k=false:=by
             show aFd (fs.getD k aAm) (t.l.getD k T.nil)=false
             first|exact aCC (by omega) (by assumption)|exact aCz (by omega) (by assumption)|exact aDy (by omega) (by assumption)|exact aCI (by omega) (by assumption)|exact aCD (by omega) (by assumption)|exact aB8 (by omega) (by assumption) (by assumption)|exact aCb (by omega) (by assumption) (by assumption)|exact aDM (by omega) (by omega) (by omega) (by omega) (by omega) (by assumption)|(exfalso;omega)
            exact⟨hm.agr,by rw[aCq,aAR hlt hv,Bool.and_false]⟩
           ·have hc27:=hc
            refine wp_skip ?_
            refine cN0 ?_
            refine cN0 ?_
            have hv:aEX fs t k=true:=by
             show aFd (fs.getD k aAm) (t.l.getD k T.nil)=true
             first|exact aFz (by omega) (by assumption) (by assumption)|exact aFm (by omega) (by assumption)|exact aFr (by omega) (by assumption) (by assumption)|exact aCZ (by omega) (by assumption) (by assumption)|exact aCX (by omega) (by assumption) (by assumption)|exact aFk (by omega) (by omega) (by omega) (by omega) (by omega) (by assumption)|(exfalso;omega)
            exact aBb (L':=[(3,.pointer (some ⟨b1,0,none⟩)),(12,.slice p fs.length cap)]) hk ⟨rfl,rfl,rfl,rfl,trivial⟩ rfl ⟨rfl,(aAO hI0 hv),hm.tail.tail.tail.tail.tail⟩
          ·rw[hb25] at hk
           have hb25d:=of_decide_eq_false hb25
           refine oS0 hk ⟨_,_,_,_,rfl,rfl,rfl,aAT⟩ rfl rfl fun a hk=>?_
           refine oS0 hk ⟨_,_,_,_,rfl,rfl,rfl,aAT⟩ rfl rfl fun a hk=>?_
           refine oS0 hk ⟨_,_,_,_,rfl,rfl,rfl,aAT⟩ rfl rfl fun a hk=>?_
           refine oS0 hk ⟨_,_,_,_,rfl,rfl,rfl,aAT⟩ rfl rfl fun a hk=>?_
           refine oS0 hk ⟨_,_,_,_,rfl,rfl,rfl,aAT⟩ rfl rfl fun a hk=>?_
           refine aAu (o':=_) hk ⟨_,_,_,rfl,rfl,rfl⟩ rfl ?_
           refine aAI hk rfl rfl rfl rfl rfl fun a hk=>?_
           refine aAI hk rfl rfl rfl rfl rfl fun a hk=>?_
           refine cE0 ?_
           refine aB9 hk rfl ?_
           refine wp_skip ?_
           refine cN0 ?_
           refine cN0 ?_
           have hv:aEX fs t k=true:=by
            show aFd (fs.getD k aAm) (t.l.getD k T.nil)=true
            first|exact aFz (by omega) (by assumption) (by assumption)|exact aFm (by omega) (by assumption)|exact aFr (by omega) (by assumption) (by assumption)|exact aCZ (by omega) (by assumption) (by assumption)|exact aCX (by omega) (by assumption) (by assumption)|exact aFk (by omega) (by omega) (by omega) (by omega) (by omega) (by assumption)|(exfalso;omega)
           exact aBb (L':=[(3,.pointer (some ⟨b1,0,none⟩)),(12,.slice p fs.length cap)]) hk ⟨rfl,rfl,rfl,rfl,trivial⟩ rfl ⟨rfl,(aAO hI0 hv),hm.tail.tail.tail.tail.tail⟩
        ·rw[hb23] at hk
         have hb23d:=of_decide_eq_false hb23
         refine oS0 hk ⟨_,_,_,_,rfl,rfl,rfl,aAT⟩ rfl rfl fun a hk=>?_
         refine oS0 hk ⟨_,_,_,_,rfl,rfl,rfl,aAT⟩ rfl rfl fun a hk=>?_
         refine oS0 hk ⟨_,_,_,_,rfl,rfl,rfl,aAT⟩ rfl rfl fun a hk=>?_
         refine aAI hk rfl rfl rfl rfl rfl fun a hk=>?_
         refine oM0 hk rfl rfl fun a hk=>?_
         refine aAu (o':=_) hk ⟨_,_,_,rfl,rfl,rfl⟩ rfl ?_
         refine oF0 hk aEA rfl rfl fun a hk=>?_
         refine aAu (o':=_) hk ⟨_,_,_,rfl,rfl,rfl⟩ rfl ?_
         refine aAq hk aF6 rfl (hm.cell_blk (i:=2) rfl rfl) rfl fun a hk=>?_
         refine aAu (o':=_) hk ⟨_,_,_,rfl,rfl,rfl⟩ rfl ?_
         refine aAx hk rfl rfl rfl rfl fun a hk=>?_
         refine aAu (o':=_) hk ⟨_,_,_,rfl,rfl,rfl⟩ rfl ?_
         refine oM0 hk rfl rfl fun a hk=>?_
         rcases Bool.eq_false_or_eq_true (decide (((fs.getD k aAm).nu:Int)<0)) with hb28|hb28
         ·rw[hb28] at hk
          have hb28d:=of_decide_eq_true hb28
          refine aAu (o':=_) hk ⟨_,_,_,rfl,rfl,rfl⟩ rfl ?_
          refine oF0 hk aFv rfl rfl fun a hk=>?_
          refine aAu (o':=_) hk ⟨_,_,_,rfl,rfl,rfl⟩ rfl ?_
          refine aAq hk aIH rfl (hm.cell_blk (i:=2) rfl rfl) rfl fun a hk=>?_
          refine aAu (o':=_) hk ⟨_,_,_,rfl,rfl,rfl⟩ rfl ?_
          refine aAM (cs:=[.int .i64 ((t.at_ k).n),.slice psa1 ((t.at_ k).s.length) capsa1,.bool ((t.at_ k).z),.slice pa1 ((t.at_ k).l.length) capa1,.slice pua1 ((t.at_ k).u.length) capua1]) hk aBF rfl (hm.cells_blk (i:=0) rfl rfl) rfl fun a hk=>?_
          refine aAu (o':=_) hk ⟨_,_,_,rfl,rfl,rfl⟩ rfl ?_
          refine aAk hk aQu (hu (fs.getD k aAm) (aC9 hlt) (aEB (hm.rep (i:=4) rfl)) (hm.rep (i:=1) rfl) (aCG (aBD hsn).2.2.2 k)) ⟨rfl,rfl,trivial⟩ rfl fun v w a hR hk=>?_
          obtain⟨hp,rfl⟩:=hR
          have hm:=hm.pure hp
          refine aAu (o':=_) hk ⟨_,_,_,rfl,rfl,rfl⟩ rfl ?_
          refine aES hk rfl rfl fun a hk=>?_
          refine aAu (o':=_) hk ⟨_,_,_,rfl,rfl,rfl⟩ rfl ?_
          refine aAI hk rfl rfl rfl rfl rfl fun a hk=>?_
          refine aAI hk rfl rfl rfl rfl rfl fun a hk=>?_
          refine cE0 ?_
          refine aAA hk rfl (fun hc=>?_) (fun hc=>?_)
          ·have hc29:=hc
           refine cR0 ?_
           refine oA0 hk rfl rfl fun a hk=>?_
           refine cE0 ?_
           refine wp_ret ?_
           refine aAE ?_
           refine aAE ?_
           refine aA7 ?_
           refine cQ0 ?_
           refine bT0 rfl hk rfl ?_
           have hv:aEX fs t k=false:=by
            show aFd (fs.getD k aAm) (t.l.getD k T.nil)=false
            first|exact aCC (by omega) (by assumption)|exact aCz (by omega) (by assumption)|exact aDy (by omega) (by assumption)|exact aCI (by omega) (by assumption)|exact aCD (by omega) (by assumption)|exact aB8 (by omega) (by assumption) (by assumption)|exact aCb (by omega) (by assumption) (by assumption)|exact aDM (by omega) (by omega) (by omega) (by omega) (by omega) (by assumption)|(exfalso;omega)
           exact⟨hm.agr,by rw[aCq,aAR hlt hv,Bool.and_false]⟩
          ·have hc30:=hc
           refine wp_skip ?_
           refine cN0 ?_
           refine cN0 ?_
           have hv:aEX fs t k=true:=by
            show aFd (fs.getD k aAm) (t.l.getD k T.nil)=true
            first|exact aFz (by omega) (by assumption) (by assumption)|exact aFm (by omega) (by assumption)|exact aFr (by omega) (by assumption) (by assumption)|exact aCZ (by omega) (by assumption) (by assumption)|exact aCX (by omega) (by assumption) (by assumption)|exact aFk (by omega) (by omega) (by omega) (by omega) (by omega) (by assumption)|(exfalso;omega)
           exact aBb (L':=[(3,.pointer (some ⟨b1,0,none⟩)),(12,.slice p fs.length cap)]) hk ⟨rfl,rfl,rfl,rfl,trivial⟩ rfl ⟨rfl,(aAO hI0 hv),hm.tail.tail.tail.tail.tail⟩
         ·rw[hb28] at hk
          have hb28d:=of_decide_eq_false hb28
          refine oS0 hk ⟨_,_,_,_,rfl,rfl,rfl,aAT⟩ rfl rfl fun a hk=>?_
          refine oS0 hk ⟨_,_,_,_,rfl,rfl,rfl,aAT⟩ rfl rfl fun a hk=>?_
          refine oS0 hk ⟨_,_,_,_,rfl,rfl,rfl,aAT⟩ rfl rfl fun a hk=>?_
          refine oS0 hk ⟨_,_,_,_,rfl,rfl,rfl,aAT⟩ rfl rfl fun a hk=>?_
          refine oS0 hk ⟨_,_,_,_,rfl,rfl,rfl,aAT⟩ rfl rfl fun a hk=>?_
          refine aAu (o':=_) hk ⟨_,_,_,rfl,rfl,rfl⟩ rfl ?_
          refine aAI hk rfl rfl rfl rfl rfl fun a hk=>?_
          refine aAI hk rfl rfl rfl rfl rfl fun a hk=>?_
          refine cE0 ?_
          refine aB9 hk rfl ?_
          refine wp_skip ?_
          refine cN0 ?_
          refine cN0 ?_
          have hv:aEX fs t k=true:=by
           show aFd (fs.getD k aAm) (t.l.getD k T.nil)=true
           first|exact aFz (by omega) (by assumption) (by assumption)|exact aFm (by omega) (by assumption)|exact aFr (by omega) (by assumption) (by assumption)|exact aCZ (by omega) (by assumption) (by assumption)|exact aCX (by omega) (by assumption) (by assumption)|exact aFk (by omega) (by omega) (by omega) (by omega) (by omega) (by assumption)|(exfalso;omega)
          exact aBb (L':=[(3,.pointer (some ⟨b1,0,none⟩)),(12,.slice p fs.length cap)]) hk ⟨rfl,rfl,rfl,rfl,trivial⟩ rfl ⟨rfl,(aAO hI0 hv),hm.tail.tail.tail.tail.tail⟩
       ·have hc31:=beq_eq_false_iff_ne.1 hc
        refine wp_seq ?_
        refine aAW (K:=7) mixed hm fun w hm=>?_
        refine aAh (i:=0) rfl rfl rfl (by kernel_rfl) (fun _ _ _ h=>h) hk rfl (fun w hm=>rF0 hk aHm rfl) hm fun a hk=>?_
        refine aAh (i:=1) rfl rfl rfl (by kernel_rfl) (fun _ _ _ h=>h) hk rfl (fun w hm=>aAL hk aOX rfl (hm.cell_blk (i:=0) rfl rfl)) hm fun a hk=>?_
        refine aAh (i:=2) rfl rfl rfl (by kernel_rfl) (fun _ _ _ h=>h) hk rfl (fun w hm=>rF0 hk aDD rfl) hm fun a hk=>?_
        refine aAh (i:=3) rfl rfl rfl (by kernel_rfl) (fun _ _ _ h=>h) hk rfl (fun w hm=>aAL hk aF6 rfl (hm.cell_blk (i:=2) rfl rfl)) hm fun a hk=>?_
        refine aAt (k:=4) (by kernel_rfl) rfl rfl ?_
        refine oF0 hk aMZ rfl rfl fun a hk=>?_
        refine aAb (cT0 ⟨fun _=>hm,?_⟩)
        refine aAt (k:=5) (by kernel_rfl) rfl rfl ?_
        refine aAq hk aOX rfl (hm.cell_blk (i:=2) rfl rfl) rfl fun a hk=>?_
        refine aAb (cT0 ⟨fun _=>hm,?_⟩)
        refine aAt (k:=6) (by kernel_rfl) rfl rfl ?_
        refine aAk hk aW7 (aMz (Y:=Y) (fs.getD k aAm).kind) ⟨rfl,rfl,trivial⟩ rfl fun v w a hR hk=>?_
        obtain⟨hp,rfl⟩:=hR
        have hm:=hm.pure hp
        refine aAb (cT0 ⟨fun _=>hm,?_⟩)
        refine aAt (k:=7) (by kernel_rfl) rfl rfl ?_
        refine aAx hk rfl rfl rfl rfl fun a hk=>?_
        refine aAb (cT0 ⟨fun h=>Bool.noConfusion (show true=false from h),?_⟩)
        refine aBh (by kernel_rfl) ?_ _
        refine cT0 ?_
        refine aAA hk rfl (fun hc=>?_) (fun hc=>?_)
        ·have hc32:=bne_iff_ne.1 hc
         refine cR0 ?_
         refine oA0 hk rfl rfl fun a hk=>?_
         refine cE0 ?_
         refine wp_ret ?_
         refine aAE ?_
         refine aAE ?_
         refine aA7 ?_
         refine cQ0 ?_
         refine bT0 rfl hk rfl ?_
         have hv:aEX fs t k=false:=by
          show aFd (fs.getD k aAm) (t.l.getD k T.nil)=false
          first|exact aCC (by omega) (by assumption)|exact aCz (by omega) (by assumption)|exact aDy (by omega) (by assumption)|exact aCI (by omega) (by assumption)|exact aCD (by omega) (by assumption)|exact aB8 (by omega) (by assumption) (by assumption)|exact aCb (by omega) (by assumption) (by assumption)|exact aDM (by omega) (by omega) (by omega) (by omega) (by omega) (by assumption)|(exfalso;omega)
         exact⟨hm.agr,by rw[aCq,aAR hlt hv,Bool.and_false]⟩
        ·have hc33:=bne_eq_false_iff_eq.1 hc
         refine wp_skip ?_
         refine cN0 ?_
         refine cN0 ?_
         have hv:aEX fs t k=true:=by
          show aFd (fs.getD k aAm) (t.l.getD k T.nil)=true
          first|exact aFz (by omega) (by assumption) (by assumption)|exact aFm (by omega) (by assumption)|exact aFr (by omega) (by assumption) (by assumption)|exact aCZ (by omega) (by assumption) (by assumption)|exact aCX (by omega) (by assumption) (by assumption)|exact aFk (by omega) (by omega) (by omega) (by omega) (by omega) (by assumption)|(exfalso;omega)
         exact aBb (L':=[(3,.pointer (some ⟨b1,0,none⟩)),(12,.slice p fs.length cap)]) hk ⟨rfl,rfl,rfl,rfl,trivial⟩ rfl ⟨rfl,(aAO hI0 hv),hm.tail.tail.tail.tail.tail⟩
     ·have hc34:=beq_eq_false_iff_ne.1 hc
      refine aC2 ?_
      refine aAx hk rfl rfl rfl rfl fun a hk=>?_
      refine oA0 hk rfl rfl fun a hk=>?_
      refine aAb ?_
      refine cT0 ?_
      refine aAA hk rfl (fun hc=>?_) (fun hc=>?_)
      ·have hc35:=eq_of_beq hc
       refine cR0 ?_
       refine oF0 hk aDw rfl rfl fun a hk=>?_
       refine aAq hk aBy rfl (hm.cell_blk (i:=0) rfl rfl) rfl fun a hk=>?_
       refine oL0 hk aA9 rfl rfl fun a hk=>?_
       refine aAx hk rfl rfl rfl rfl fun a hk=>?_
       refine oM0 hk rfl rfl fun a hk=>?_
       rcases Bool.eq_false_or_eq_true (decide (((((t.at_ k).s.length:Nat):Int):Int) > 0)) with hb36|hb36
       ·rw[hb36] at hk
        have hb36d:=of_decide_eq_true hb36
        refine oS0 hk ⟨_,_,_,_,rfl,rfl,rfl,aB0⟩ rfl rfl fun a hk=>?_
        refine oS0 hk ⟨_,_,_,_,rfl,rfl,rfl,aB0⟩ rfl rfl fun a hk=>?_
        refine oS0 hk ⟨_,_,_,_,rfl,rfl,rfl,aB0⟩ rfl rfl fun a hk=>?_
        refine oS0 hk ⟨_,_,_,_,rfl,rfl,rfl,aB0⟩ rfl rfl fun a hk=>?_
        refine aAI hk rfl rfl rfl rfl rfl fun a hk=>?_
        refine cE0 ?_
        refine aEm hk rfl ?_
        refine cR0 ?_
        refine oA0 hk rfl rfl fun a hk=>?_
        refine cE0 ?_
        refine wp_ret ?_
        refine aAE ?_
        refine aAE ?_
        refine aA7 ?_
        refine cQ0 ?_
        refine bT0 rfl hk rfl ?_
        have hv:aEX fs t k=false:=by
         show aFd (fs.getD k aAm) (t.l.getD k T.nil)=false
         first|exact aCC (by omega) (by assumption)|exact aCz (by omega) (by assumption)|exact aDy (by omega) (by assumption)|exact aCI (by omega) (by assumption)|exact aCD (by omega) (by assumption)|exact aB8 (by omega) (by assumption) (by assumption)|exact aCb (by omega) (by assumption) (by assumption)|exact aDM (by omega) (by omega) (by omega) (by omega) (by omega) (by assumption)|(exfalso;omega)
        exact⟨hm.agr,by rw[aCq,aAR hlt hv,Bool.and_false]⟩
       ·rw[hb36] at hk
        have hb36d:=of_decide_eq_false hb36
        refine aAu (o':=_) hk ⟨_,_,_,rfl,rfl,rfl⟩ rfl ?_
        refine oF0 hk aDB rfl rfl fun a hk=>?_
        refine aAu (o':=_) hk ⟨_,_,_,rfl,rfl,rfl⟩ rfl ?_
        refine aAq hk aIw rfl (hm.cell_blk (i:=0) rfl rfl) rfl fun a hk=>?_
        refine aAu (o':=_) hk ⟨_,_,_,rfl,rfl,rfl⟩ rfl ?_
        refine oL0 hk aGn rfl rfl fun a hk=>?_
        refine aAu (o':=_) hk ⟨_,_,_,rfl,rfl,rfl⟩ rfl ?_
        refine aAx hk rfl rfl rfl rfl fun a hk=>?_
        refine aAI hk rfl rfl rfl rfl rfl fun a hk=>?_
        refine cE0 ?_
        refine aAA hk rfl (fun hc=>?_) (fun hc=>?_)
        ·have hc37:=of_decide_eq_true hc
         refine cR0 ?_
         refine oA0 hk rfl rfl fun a hk=>?_
         refine cE0 ?_
         refine wp_ret ?_
         refine aAE ?_
         refine aAE ?_
         refine aA7 ?_
         refine cQ0 ?_
         refine bT0 rfl hk rfl ?_
         have hv:aEX fs t k=false:=by
          show aFd (fs.getD k aAm) (t.l.getD k T.nil)=false
          first|exact aCC (by omega) (by assumption)|exact aCz (by omega) (by assumption)|exact aDy (by omega) (by assumption)|exact aCI (by omega) (by assumption)|exact aCD (by omega) (by assumption)|exact aB8 (by omega) (by assumption) (by assumption)|exact aCb (by omega) (by assumption) (by assumption)|exact aDM (by omega) (by omega) (by omega) (by omega) (by omega) (by assumption)|(exfalso;omega)
         exact⟨hm.agr,by rw[aCq,aAR hlt hv,Bool.and_false]⟩
        ·have hc38:=of_decide_eq_false hc
         refine wp_skip ?_
         refine cN0 ?_
         refine cN0 ?_
         have hv:aEX fs t k=true:=by
          show aFd (fs.getD k aAm) (t.l.getD k T.nil)=true
          first|exact aFz (by omega) (by assumption) (by assumption)|exact aFm (by omega) (by assumption)|exact aFr (by omega) (by assumption) (by assumption)|exact aCZ (by omega) (by assumption) (by assumption)|exact aCX (by omega) (by assumption) (by assumption)|exact aFk (by omega) (by omega) (by omega) (by omega) (by omega) (by assumption)|(exfalso;omega)
         exact aBb (L':=[(3,.pointer (some ⟨b1,0,none⟩)),(12,.slice p fs.length cap)]) hk ⟨rfl,rfl,rfl,rfl,trivial⟩ rfl ⟨rfl,(aAO hI0 hv),hm.tail.tail.tail.tail.tail⟩
      ·have hc39:=beq_eq_false_iff_ne.1 hc
       refine cR0 ?_
       refine aAx hk rfl rfl rfl rfl fun a hk=>?_
       refine oA0 hk rfl rfl fun a hk=>?_
       refine cE0 ?_
       refine aAA hk rfl (fun hc=>?_) (fun hc=>?_)
       ·have hc40:=eq_of_beq hc
        refine cR0 ?_
        refine oF0 hk aEA rfl rfl fun a hk=>?_
        refine aAq hk aF6 rfl (hm.cell_blk (i:=2) rfl rfl) rfl fun a hk=>?_
        refine aAx hk rfl rfl rfl rfl fun a hk=>?_
        refine oM0 hk rfl rfl fun a hk=>?_
        rcases Bool.eq_false_or_eq_true (decide (((fs.getD k aAm).nu:Int)≥0)) with hb41|hb41
        ·rw[hb41] at hk
         have hb41d:=of_decide_eq_true hb41
         refine aAu (o':=_) hk ⟨_,_,_,rfl,rfl,rfl⟩ rfl ?_
         refine oF0 hk aIY rfl rfl fun a hk=>?_
         refine aAu (o':=_) hk ⟨_,_,_,rfl,rfl,rfl⟩ rfl ?_
         refine aAq hk aHp rfl (hm.cell_blk (i:=0) rfl rfl) rfl fun a hk=>?_
         refine aAu (o':=_) hk ⟨_,_,_,rfl,rfl,rfl⟩ rfl ?_
         refine aES hk rfl rfl fun a hk=>?_
         refine aAI hk rfl rfl rfl rfl rfl fun a hk=>?_
         refine oM0 hk rfl rfl fun a hk=>?_
         rcases Bool.eq_false_or_eq_true ((!((t.at_ k).z))) with hb42|hb42
         ·rw[hb42] at hk
          refine oS0 hk ⟨_,_,_,_,rfl,rfl,rfl,aB0⟩ rfl rfl fun a hk=>?_
          refine oS0 hk ⟨_,_,_,_,rfl,rfl,rfl,aB0⟩ rfl rfl fun a hk=>?_
          refine oS0 hk ⟨_,_,_,_,rfl,rfl,rfl,aB0⟩ rfl rfl fun a hk=>?_
          refine oS0 hk ⟨_,_,_,_,rfl,rfl,rfl,aB0⟩ rfl rfl fun a hk=>?_
          refine oS0 hk ⟨_,_,_,_,rfl,rfl,rfl,(aLK _)⟩ rfl rfl fun a hk=>?_
          refine oS0 hk ⟨_,_,_,_,rfl,rfl,rfl,(aLK _)⟩ rfl rfl fun a hk=>?_
          refine oS0 hk ⟨_,_,_,_,rfl,rfl,rfl,(aLK _)⟩ rfl rfl fun a hk=>?_
          refine oS0 hk ⟨_,_,_,_,rfl,rfl,rfl,(aLK _)⟩ rfl rfl fun a hk=>?_
          refine oS0 hk ⟨_,_,_,_,rfl,rfl,rfl,(aLK _)⟩ rfl rfl fun a hk=>?_
          refine oS0 hk ⟨_,_,_,_,rfl,rfl,rfl,aB0⟩ rfl rfl fun a hk=>?_
          refine aAI hk rfl rfl rfl rfl rfl fun a hk=>?_
          refine cE0 ?_
          refine aEm hk rfl ?_
          refine cR0 ?_
          refine oA0 hk rfl rfl fun a hk=>?_
          refine cE0 ?_
          refine wp_ret ?_
          refine aAE ?_
          refine aAE ?_
          refine aA7 ?_
          refine cQ0 ?_
          refine bT0 rfl hk rfl ?_
          have hv:aEX fs t k=false:=by
           show aFd (fs.getD k aAm) (t.l.getD k T.nil)=false
           first|exact aCC (by omega) (by assumption)|exact aCz (by omega) (by assumption)|exact aDy (by omega) (by assumption)|exact aCI (by omega) (by assumption)|exact aCD (by omega) (by assumption)|exact aB8 (by omega) (by assumption) (by assumption)|exact aCb (by omega) (by assumption) (by assumption)|exact aDM (by omega) (by omega) (by omega) (by omega) (by omega) (by assumption)|(exfalso;omega)
          exact⟨hm.agr,by rw[aCq,aAR hlt hv,Bool.and_false]⟩
         ·rw[hb42] at hk
          refine aAu (o':=_) hk ⟨_,_,_,rfl,rfl,rfl⟩ rfl ?_
          refine oF0 hk aEA rfl rfl fun a hk=>?_
          refine aAu (o':=_) hk ⟨_,_,_,rfl,rfl,rfl⟩ rfl ?_
          refine aAq hk aF6 rfl (hm.cell_blk (i:=2) rfl rfl) rfl fun a hk=>?_
          refine aAu (o':=_) hk ⟨_,_,_,rfl,rfl,rfl⟩ rfl ?_
          refine aAx hk rfl rfl rfl rfl fun a hk=>?_
          refine aAu (o':=_) hk ⟨_,_,_,rfl,rfl,rfl⟩ rfl ?_
          refine oM0 hk rfl rfl fun a hk=>?_
          rcases Bool.eq_false_or_eq_true (decide (((fs.getD k aAm).nu:Int)<0)) with hb43|hb43
          ·rw[hb43] at hk
           have hb43d:=of_decide_eq_true hb43
           refine aAu (o':=_) hk ⟨_,_,_,rfl,rfl,rfl⟩ rfl ?_
           refine oF0 hk aFv rfl rfl fun a hk=>?_
           refine aAu (o':=_) hk ⟨_,_,_,rfl,rfl,rfl⟩ rfl ?_
           refine aAq hk aIH rfl (hm.cell_blk (i:=2) rfl rfl) rfl fun a hk=>?_
           refine aAu (o':=_) hk ⟨_,_,_,rfl,rfl,rfl⟩ rfl ?_
           refine aAM (cs:=[.int .i64 ((t.at_ k).n),.slice psa1 ((t.at_ k).s.length) capsa1,.bool ((t.at_ k).z),.slice pa1 ((t.at_ k).l.length) capa1,.slice pua1 ((t.at_ k).u.length) capua1]) hk aBF rfl (hm.cells_blk (i:=0) rfl rfl) rfl fun a hk=>?_
           refine aAu (o':=_) hk ⟨_,_,_,rfl,rfl,rfl⟩ rfl ?_
           refine aAk hk aQu (hu (fs.getD k aAm) (aC9 hlt) (aEB (hm.rep (i:=4) rfl)) (hm.rep (i:=1) rfl) (aCG (aBD hsn).2.2.2 k)) ⟨rfl,rfl,trivial⟩ rfl fun v w a hR hk=>?_
           obtain⟨hp,rfl⟩:=hR
           have hm:=hm.pure hp
           refine aAu (o':=_) hk ⟨_,_,_,rfl,rfl,rfl⟩ rfl ?_
           refine aES hk rfl rfl fun a hk=>?_
           refine aAu (o':=_) hk ⟨_,_,_,rfl,rfl,rfl⟩ rfl ?_
           refine aAI hk rfl rfl rfl rfl rfl fun a hk=>?_
           refine aAI hk rfl rfl rfl rfl rfl fun a hk=>?_
           refine cE0 ?_
           refine aAA hk rfl (fun hc=>?_) (fun hc=>?_)
           ·have hc44:=hc
            refine cR0 ?_
            refine oA0 hk rfl rfl fun a hk=>?_
            refine cE0 ?_
            refine wp_ret ?_
            refine aAE ?_
            refine aAE ?_
            refine aA7 ?_
            refine cQ0 ?_
            refine bT0 rfl hk rfl ?_
            have hv:aEX fs t k=false:=by
             show aFd (fs.getD k aAm) (t.l.getD k T.nil)=false
             first|exact aCC (by omega) (by assumption)|exact aCz (by omega) (by assumption)|exact aDy (by omega) (by assumption)|exact aCI (by omega) (by assumption)|exact aCD (by omega) (by assumption)|exact aB8 (by omega) (by assumption) (by assumption)|exact aCb (by omega) (by assumption) (by assumption)|exact aDM (by omega) (by omega) (by omega) (by omega) (by omega) (by assumption)|(exfalso;omega)
            exact⟨hm.agr,by rw[aCq,aAR hlt hv,Bool.and_false]⟩
           ·have hc45:=hc
            refine wp_skip ?_
            refine cN0 ?_
            refine cN0 ?_
            have hv:aEX fs t k=true:=by
             show aFd (fs.getD k aAm) (t.l.getD k T.nil)=true
             first|exact aFz (by omega) (by assumption) (by assumption)|exact aFm (by omega) (by assumption)|exact aFr (by omega) (by assumption) (by assumption)|exact aCZ (by omega) (by assumption) (by assumption)|exact aCX (by omega) (by assumption) (by assumption)|exact aFk (by omega) (by omega) (by omega) (by omega) (by omega) (by assumption)|(exfalso;omega)
            exact aBb (L':=[(3,.pointer (some ⟨b1,0,none⟩)),(12,.slice p fs.length cap)]) hk ⟨rfl,rfl,rfl,rfl,trivial⟩ rfl ⟨rfl,(aAO hI0 hv),hm.tail.tail.tail.tail.tail⟩
          ·rw[hb43] at hk
           have hb43d:=of_decide_eq_false hb43
           refine oS0 hk ⟨_,_,_,_,rfl,rfl,rfl,aAT⟩ rfl rfl fun a hk=>?_
           refine oS0 hk ⟨_,_,_,_,rfl,rfl,rfl,aAT⟩ rfl rfl fun a hk=>?_
           refine oS0 hk ⟨_,_,_,_,rfl,rfl,rfl,aAT⟩ rfl rfl fun a hk=>?_
           refine oS0 hk ⟨_,_,_,_,rfl,rfl,rfl,aAT⟩ rfl rfl fun a hk=>?_
           refine oS0 hk ⟨_,_,_,_,rfl,rfl,rfl,aAT⟩ rfl rfl fun a hk=>?_
           refine aAu (o':=_) hk ⟨_,_,_,rfl,rfl,rfl⟩ rfl ?_
           refine aAI hk rfl rfl rfl rfl rfl fun a hk=>?_
           refine aAI hk rfl rfl rfl rfl rfl fun a hk=>?_
           refine cE0 ?_
           refine aB9 hk rfl ?_
           refine wp_skip ?_
           refine cN0 ?_
           refine cN0 ?_
           have hv:aEX fs t k=true:=by
            show aFd (fs.getD k aAm) (t.l.getD k T.nil)=true
            first|exact aFz (by omega) (by assumption) (by assumption)|exact aFm (by omega) (by assumption)|exact aFr (by omega) (by assumption) (by assumption)|exact aCZ (by omega) (by assumption) (by assumption)|exact aCX (by omega) (by assumption) (by assumption)|exact aFk (by omega) (by omega) (by omega) (by omega) (by omega) (by assumption)|(exfalso;omega)
           exact aBb (L':=[(3,.pointer (some ⟨b1,0,none⟩)),(12,.slice p fs.length cap)]) hk ⟨rfl,rfl,rfl,rfl,trivial⟩ rfl ⟨rfl,(aAO hI0 hv),hm.tail.tail.tail.tail.tail⟩
        ·rw[hb41] at hk
         have hb41d:=of_decide_eq_false hb41
         refine oS0 hk ⟨_,_,_,_,rfl,rfl,rfl,aAT⟩ rfl rfl fun a hk=>?_
         refine oS0 hk ⟨_,_,_,_,rfl,rfl,rfl,aAT⟩ rfl rfl fun a hk=>?_
         refine oS0 hk ⟨_,_,_,_,rfl,rfl,rfl,aAT⟩ rfl rfl fun a hk=>?_
         refine aAI hk rfl rfl rfl rfl rfl fun a hk=>?_
         refine oM0 hk rfl rfl fun a hk=>?_
         refine aAu (o':=_) hk ⟨_,_,_,rfl,rfl,rfl⟩ rfl ?_
         refine oF0 hk aEA rfl rfl fun a hk=>?_
         refine aAu (o':=_) hk ⟨_,_,_,rfl,rfl,rfl⟩ rfl ?_
         refine aAq hk aF6 rfl (hm.cell_blk (i:=2) rfl rfl) rfl fun a hk=>?_
         refine aAu (o':=_) hk ⟨_,_,_,rfl,rfl,rfl⟩ rfl ?_
         refine aAx hk rfl rfl rfl rfl fun a hk=>?_
         refine aAu (o':=_) hk ⟨_,_,_,rfl,rfl,rfl⟩ rfl ?_
         refine oM0 hk rfl rfl fun a hk=>?_
         rcases Bool.eq_false_or_eq_true (decide (((fs.getD k aAm).nu:Int)<0)) with hb46|hb46
         ·rw[hb46] at hk
          have hb46d:=of_decide_eq_true hb46
          refine aAu (o':=_) hk ⟨_,_,_,rfl,rfl,rfl⟩ rfl ?_
          refine oF0 hk aFv rfl rfl fun a hk=>?_
          refine aAu (o':=_) hk ⟨_,_,_,rfl,rfl,rfl⟩ rfl ?_
          refine aAq hk aIH rfl (hm.cell_blk (i:=2) rfl rfl) rfl fun a hk=>?_
          refine aAu (o':=_) hk ⟨_,_,_,rfl,rfl,rfl⟩ rfl ?_
          refine aAM (cs:=[.int .i64 ((t.at_ k).n),.slice psa1 ((t.at_ k).s.length) capsa1,.bool ((t.at_ k).z),.slice pa1 ((t.at_ k).l.length) capa1,.slice pua1 ((t.at_ k).u.length) capua1]) hk aBF rfl (hm.cells_blk (i:=0) rfl rfl) rfl fun a hk=>?_
          refine aAu (o':=_) hk ⟨_,_,_,rfl,rfl,rfl⟩ rfl ?_
          refine aAk hk aQu (hu (fs.getD k aAm) (aC9 hlt) (aEB (hm.rep (i:=4) rfl)) (hm.rep (i:=1) rfl) (aCG (aBD hsn).2.2.2 k)) ⟨rfl,rfl,trivial⟩ rfl fun v w a hR hk=>?_
          obtain⟨hp,rfl⟩:=hR
          have hm:=hm.pure hp
          refine aAu (o':=_) hk ⟨_,_,_,rfl,rfl,rfl⟩ rfl ?_
          refine aES hk rfl rfl fun a hk=>?_
          refine aAu (o':=_) hk ⟨_,_,_,rfl,rfl,rfl⟩ rfl ?_
          refine aAI hk rfl rfl rfl rfl rfl fun a hk=>?_
          refine aAI hk rfl rfl rfl rfl rfl fun a hk=>?_
          refine cE0 ?_
          refine aAA hk rfl (fun hc=>?_) (fun hc=>?_)
          ·have hc47:=hc
           refine cR0 ?_
           refine oA0 hk rfl rfl fun a hk=>?_
           refine cE0 ?_
           refine wp_ret ?_
           refine aAE ?_
           refine aAE ?_
           refine aA7 ?_
           refine cQ0 ?_
           refine bT0 rfl hk rfl ?_
           have hv:aEX fs t k=false:=by
            show aFd (fs.getD k aAm) (t.l.getD k T.nil)=false
            first|exact aCC (by omega) (by assumption)|exact aCz (by omega) (by assumption)|exact aDy (by omega) (by assumption)|exact aCI (by omega) (by assumption)|exact aCD (by omega) (by assumption)|exact aB8 (by omega) (by assumption) (by assumption)|exact aCb (by omega) (by assumption) (by assumption)|exact aDM (by omega) (by omega) (by omega) (by omega) (by omega) (by assumption)|(exfalso;omega)
           exact⟨hm.agr,by rw[aCq,aAR hlt hv,Bool.and_false]⟩
          ·have hc48:=hc
           refine wp_skip ?_
           refine cN0 ?_
           refine cN0 ?_
           have hv:aEX fs t k=true:=by
            show aFd (fs.getD k aAm) (t.l.getD k T.nil)=true
            first|exact aFz (by omega) (by assumption) (by assumption)|exact aFm (by omega) (by assumption)|exact aFr (by omega) (by assumption) (by assumption)|exact aCZ (by omega) (by assumption) (by assumption)|exact aCX (by omega) (by assumption) (by assumption)|exact aFk (by omega) (by omega) (by omega) (by omega) (by omega) (by assumption)|(exfalso;omega)
           exact aBb (L':=[(3,.pointer (some ⟨b1,0,none⟩)),(12,.slice p fs.length cap)]) hk ⟨rfl,rfl,rfl,rfl,trivial⟩ rfl ⟨rfl,(aAO hI0 hv),hm.tail.tail.tail.tail.tail⟩
         ·rw[hb46] at hk
          have hb46d:=of_decide_eq_false hb46
          refine oS0 hk ⟨_,_,_,_,rfl,rfl,rfl,aAT⟩ rfl rfl fun a hk=>?_
          refine oS0 hk ⟨_,_,_,_,rfl,rfl,rfl,aAT⟩ rfl rfl fun a hk=>?_
          refine oS0 hk ⟨_,_,_,_,rfl,rfl,rfl,aAT⟩ rfl rfl fun a hk=>?_
          refine oS0 hk ⟨_,_,_,_,rfl,rfl,rfl,aAT⟩ rfl rfl fun a hk=>?_
          refine oS0 hk ⟨_,_,_,_,rfl,rfl,rfl,aAT⟩ rfl rfl fun a hk=>?_
          refine aAu (o':=_) hk ⟨_,_,_,rfl,rfl,rfl⟩ rfl ?_
          refine aAI hk rfl rfl rfl rfl rfl fun a hk=>?_
          refine aAI hk rfl rfl rfl rfl rfl fun a hk=>?_
          refine cE0 ?_
          refine aB9 hk rfl ?_
          refine wp_skip ?_
          refine cN0 ?_
          refine cN0 ?_
          have hv:aEX fs t k=true:=by
           show aFd (fs.getD k aAm) (t.l.getD k T.nil)=true
           first|exact aFz (by omega) (by assumption) (by assumption)|exact aFm (by omega) (by assumption)|exact aFr (by omega) (by assumption) (by assumption)|exact aCZ (by omega) (by assumption) (by assumption)|exact aCX (by omega) (by assumption) (by assumption)|exact aFk (by omega) (by omega) (by omega) (by omega) (by omega) (by assumption)|(exfalso;omega)
          exact aBb (L':=[(3,.pointer (some ⟨b1,0,none⟩)),(12,.slice p fs.length cap)]) hk ⟨rfl,rfl,rfl,rfl,trivial⟩ rfl ⟨rfl,(aAO hI0 hv),hm.tail.tail.tail.tail.tail⟩
       ·have hc49:=beq_eq_false_iff_ne.1 hc
        refine wp_seq ?_
        refine aAW (K:=7) mixed hm fun w hm=>?_
        refine aAh (i:=0) rfl rfl rfl (by kernel_rfl) (fun _ _ _ h=>h) hk rfl (fun w hm=>rF0 hk aHm rfl) hm fun a hk=>?_
        refine aAh (i:=1) rfl rfl rfl (by kernel_rfl) (fun _ _ _ h=>h) hk rfl (fun w hm=>aAL hk aOX rfl (hm.cell_blk (i:=0) rfl rfl)) hm fun a hk=>?_
        refine aAh (i:=2) rfl rfl rfl (by kernel_rfl) (fun _ _ _ h=>h) hk rfl (fun w hm=>rF0 hk aDD rfl) hm fun a hk=>?_
        refine aAh (i:=3) rfl rfl rfl (by kernel_rfl) (fun _ _ _ h=>h) hk rfl (fun w hm=>aAL hk aF6 rfl (hm.cell_blk (i:=2) rfl rfl)) hm fun a hk=>?_
        refine aAt (k:=4) (by kernel_rfl) rfl rfl ?_
        refine oF0 hk aMZ rfl rfl fun a hk=>?_
        refine aAb (cT0 ⟨fun _=>hm,?_⟩)
        refine aAt (k:=5) (by kernel_rfl) rfl rfl ?_
        refine aAq hk aOX rfl (hm.cell_blk (i:=2) rfl rfl) rfl fun a hk=>?_
        refine aAb (cT0 ⟨fun _=>hm,?_⟩)
        refine aAt (k:=6) (by kernel_rfl) rfl rfl ?_
        refine aAk hk aW7 (aMz (Y:=Y) (fs.getD k aAm).kind) ⟨rfl,rfl,trivial⟩ rfl fun v w a hR hk=>?_
        obtain⟨hp,rfl⟩:=hR
        have hm:=hm.pure hp
        refine aAb (cT0 ⟨fun _=>hm,?_⟩)
        refine aAt (k:=7) (by kernel_rfl) rfl rfl ?_
        refine aAx hk rfl rfl rfl rfl fun a hk=>?_
        refine aAb (cT0 ⟨fun h=>Bool.noConfusion (show true=false from h),?_⟩)
        refine aBh (by kernel_rfl) ?_ _
        refine cT0 ?_
        refine aAA hk rfl (fun hc=>?_) (fun hc=>?_)
        ·have hc50:=bne_iff_ne.1 hc
         refine cR0 ?_
         refine oA0 hk rfl rfl fun a hk=>?_
         refine cE0 ?_
         refine wp_ret ?_
         refine aAE ?_
         refine aAE ?_
         refine aA7 ?_
         refine cQ0 ?_
         refine bT0 rfl hk rfl ?_
         have hv:aEX fs t k=false:=by
          show aFd (fs.getD k aAm) (t.l.getD k T.nil)=false
          first|exact aCC (by omega) (by assumption)|exact aCz (by omega) (by assumption)|exact aDy (by omega) (by assumption)|exact aCI (by omega) (by assumption)|exact aCD (by omega) (by assumption)|exact aB8 (by omega) (by assumption) (by assumption)|exact aCb (by omega) (by assumption) (by assumption)|exact aDM (by omega) (by omega) (by omega) (by omega) (by omega) (by assumption)|(exfalso;omega)
         exact⟨hm.agr,by rw[aCq,aAR hlt hv,Bool.and_false]⟩
        ·have hc51:=bne_eq_false_iff_eq.1 hc
         refine wp_skip ?_
         refine cN0 ?_
         refine cN0 ?_
         have hv:aEX fs t k=true:=by
          show aFd (fs.getD k aAm) (t.l.getD k T.nil)=true
          first|exact aFz (by omega) (by assumption) (by assumption)|exact aFm (by omega) (by assumption)|exact aFr (by omega) (by assumption) (by assumption)|exact aCZ (by omega) (by assumption) (by assumption)|exact aCX (by omega) (by assumption) (by assumption)|exact aFk (by omega) (by omega) (by omega) (by omega) (by omega) (by assumption)|(exfalso;omega)
         exact aBb (L':=[(3,.pointer (some ⟨b1,0,none⟩)),(12,.slice p fs.length cap)]) hk ⟨rfl,rfl,rfl,rfl,trivial⟩ rfl ⟨rfl,(aAO hI0 hv),hm.tail.tail.tail.tail.tail⟩
  ·obtain⟨rfl,hI0,hm⟩:=hR
   refine cT0 ?_
   refine cR0 ?_
   refine oA0 hk rfl rfl fun a hk=>?_
   refine cE0 ?_
   refine wp_ret ?_
   refine bT0 rfl hk rfl ?_
   exact⟨hm.agr,by rw[hue,aCq,hI0];rfl⟩
theorem aZO:∀ f:Fld,aKh f=true→aY9 f.sub:=aEW fun f ih h=>by
 have ht:=aDT h
 exact @aSa f.sub (fun g hg=>ih g hg (aBC ht.2.2.2.2 g hg)) ht.2.2.2.1
theorem bBd {fs:List Fld}(h:aFa fs=true)(hl:fs.length≤1000):aY9 fs:=@aSa fs (fun f hf=>aZO f (aBC h f hf)) hl
end Go.Proofs.YtipgdlbbmlnfiaaGreatDoor
