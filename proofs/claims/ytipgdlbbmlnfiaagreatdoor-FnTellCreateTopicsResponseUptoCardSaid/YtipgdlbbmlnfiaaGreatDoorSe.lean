/- Walks of functions that the seat's laws reach. -/
import Derived.Test.YtipgdlbbmlnfiaaGreatDoorL1
import Derived.Test.YtipgdlbbmlnfiaaGreatDoorRows
import Derived.Test.YtipgdlbbmlnfiaaGreatDoorFa
import Derived.Test.YtipgdlbbmlnfiaaGreatDoorSd
namespace Go.Proofs.YtipgdlbbmlnfiaaGreatDoor
open Go Go.Mk
def aTd (flex:Bool)(fs:List Fld):Prop:=∀ {w0:World} {Y:Nat→Prop} {t:T} {ct:List Value} {p:Option Addr} {cap:Nat} (V:Int),Rep w0 Y (.sl false 8 (fs.map aBg)) [.slice p fs.length cap]→Rep w0 Y (ddT t) ct→t.sane=true→(aBk fs V flex t).length≤room →
 Ret Tryz.prog 33 [.slice p fs.length cap,.int .i64 V,.bool flex,.agg ct.toArray] w0 fun v w'=>aNA w0 5 1 (.slice none 0 0) (aBk fs V flex t).length (bv (aBk fs V flex t)) v w'
def aUw (flex:Bool)(kind:Nat)(sub:List Fld):Prop:=∀ {w0:World} {Y:Nat→Prop} {t:T} {ct:List Value} {p:Option Addr} {cap:Nat} (null:Bool) (V:Int),Rep w0 Y (.sl false 8 (sub.map aBg)) [.slice p sub.length cap]→Rep w0 Y (ddT t) ct→t.sane=true→(aC5 kind (aBk sub V flex) null flex t).length≤room →
 Ret Tryz.prog 119 [.int .i64 (kind:Int),.slice p sub.length cap,.bool null,.int .i64 V,.bool flex,.agg ct.toArray] w0 fun v w'=>aNA w0 5 1 (.slice none 0 0) (aC5 kind (aBk sub V flex) null flex t).length (bv (aC5 kind (aBk sub V flex) null flex t)) v w'
def aUn (flex:Bool)(f:Fld):Prop:=∀ {w0:World} {Y:Nat→Prop} {t:T} {cf ct:List Value} (V:Int),Rep w0 Y (aBg f) cf→Rep w0 Y (ddT t) ct→t.sane=true→(aBt f V flex t).length≤room →
 Ret Tryz.prog 70 [.agg cf.toArray,.int .i64 V,.bool flex,.agg ct.toArray] w0 fun v w'=>aNA w0 5 1 (.slice none 0 0) (aBt f V flex t).length (bv (aBt f V flex t)) v w'
theorem aSB {flex:Bool}{kind:Nat}{sub:List Fld}(hp:aTd flex sub):aUw flex kind sub:=by
 intro w0 Y t ct p cap null V hF hT hsn hroom
 obtain⟨pst,capst,pt,capt,put,caput,rfl⟩:=aB6 hT
 refine aAy Tryz.func119 rfl rfl fun a hk=>?_
 have hk:Kn 70 [(0,.int .i64 ((kind:Nat):Int)),(1,.slice p sub.length cap),(2,.bool null),(3,.int .i64 V),(4,.bool flex),(5,.agg #[.int .i64 t.n,.slice pst t.s.length capst,.bool t.z,.slice pt t.l.length capt,.slice put t.u.length caput])] a:=hk
 have hm:Mem w0 Nob Y [.rep (.sl false 8 (sub.map aBg)) [.slice p sub.length cap],.rep (ddT t) [.int .i64 t.n,.slice pst t.s.length capst,.bool t.z,.slice pt t.l.length capt,.slice put t.u.length caput]] w0:=Mem.start rfl (by simp only[List.forall_mem_cons,List.not_mem_nil,false_imp_iff,implies_true,and_true];exact⟨hF,hT⟩)
 refine cR0 ?_
 refine aFB hk hm rfl rfl rfl fun a b1 w hk hm=>?_
 refine oA0 hk rfl rfl fun a hk=>?_
 refine cE0 ?_
 refine wp_seq ?_
 refine cR0 ?_
 refine oM0 hk rfl rfl fun a hk=>?_
 refine cE0 ?_
 refine wp_block ?_
 refine cR0 ?_
 refine aAx hk rfl rfl rfl rfl fun a hk=>?_
 refine oA0 hk rfl rfl fun a hk=>?_
 refine cE0 ?_
 refine aAA hk rfl (fun hc=>?_) (fun hc=>?_)
 ·have hc2:=eq_of_beq hc
  refine cR0 ?_
  refine oF0 hk aHm rfl rfl fun a hk=>?_
  refine aAq hk aOX rfl (hm.cell_blk (i:=0) rfl rfl) rfl fun a hk=>?_
  refine aDc (c:=t.n%2) hk rfl rfl (aOk _) rfl fun a hk=>?_
  refine aAG (c:=IntKind.u8.wrap (t.n%2)) hk aZD bA4 rfl rfl rfl fun a hk=>?_
  refine aAP (r:=[.int .u8 (IntKind.u8.wrap (t.n%2))]) hk hm aEZ aWB rfl rfl rfl ⟨_,_,_,rfl,rfl,rfl,rfl,rfl⟩ rfl fun a b3 w hk hm=>?_
  refine oA0 hk rfl rfl fun a hk=>?_
  refine cE0 ?_
  refine wp_ret ?_
  refine aAE ?_
  refine cQ0 ?_
  refine bT0 rfl hk rfl ?_
  have hk0:kind=0:=by omega
  subst hk0
  have hm:=hm.blkRow (i:=0) (n:=1) (sz:=1) rfl rfl (by decide)
  have hr:=hm.rowOut (i:=0) rfl
  simp only[aC5,bAF,List.length_cons,List.length_nil];exact hr
 ·have hc4:=beq_eq_false_iff_ne.1 hc
  refine cR0 ?_
  refine aAx hk rfl rfl rfl rfl fun a hk=>?_
  refine oA0 hk rfl rfl fun a hk=>?_
  refine cE0 ?_
  refine aAA hk rfl (fun hc=>?_) (fun hc=>?_)
  ·have hc5:=eq_of_beq hc
   refine cR0 ?_
   refine aOI hk hm aEZ aWB rfl rfl rfl rfl fun a b6 w hk hm=>?_
   refine oA0 hk rfl rfl fun a hk=>?_
   refine cE0 ?_
   refine cR0 ?_
   refine oM0 hk rfl rfl fun a hk=>?_
   refine oF0 hk aDw rfl rfl fun a hk=>?_
   refine aAq hk aBy rfl (hm.cell_blk (i:=1) rfl rfl) rfl fun a hk=>?_
   refine aOl (i:=0) hk hm aA9 bA1 rfl rfl (by simp) rfl (aD2 (hm.rep (i:=3) rfl)) rfl fun a w hk hm=>?_
   rw[aCT] at hm
   refine cE0 ?_
   refine cR0 ?_
   refine oM0 hk rfl rfl fun a hk=>?_
   refine oA0 hk rfl rfl fun a hk=>?_
   refine cE0 ?_
   refine wp_ret ?_
   refine aAE ?_
   refine cQ0 ?_
   refine bT0 rfl hk rfl ?_
   have hk7:kind=7:=by omega
   subst hk7
   have hm:=hm.blkRow (i:=0) (n:=16) (sz:=1) rfl (by rw[aCV,aAK]) (by decide)
   have hr:=hm.rowOut (i:=0) rfl
   have e:(aC5 7 (aBk sub V flex) null flex t).length=16:=aAK t.s
   rw[e];exact hr
  ·have hc7:=beq_eq_false_iff_ne.1 hc
   refine cR0 ?_
   refine aAx hk rfl rfl rfl rfl fun a hk=>?_
   refine oA0 hk rfl rfl fun a hk=>?_
   refine cE0 ?_
   refine aAA hk rfl (fun hc=>?_) (fun hc=>?_)
   ·have hc8:=eq_of_beq hc
    refine cR0 ?_
    refine oF0 hk aDw rfl rfl fun a hk=>?_
    refine aAq hk aBy rfl (hm.cell_blk (i:=0) rfl rfl) rfl fun a hk=>?_
    refine aAk hk aSE (aLu (aD2 (hm.rep (i:=2) rfl))) ⟨rfl,trivial⟩ rfl fun v w a hR hk=>?_
    obtain⟨hp,rfl,hR⟩:=hR
    have hm:=hm.result hp hR
    have hwl:=aBG t.s
    refine oA0 hk rfl rfl fun a hk=>?_
    refine cE0 ?_
    refine wp_seq ?_
    refine cR0 ?_
    refine oM0 hk rfl rfl fun a hk=>?_
    refine cE0 ?_
    have hkd:kind=8:=by omega
    subst hkd
    refine aRq (fun a w=>∃ (pj:Option Addr) (cj:Nat) (ls:List UInt8),ls=(if null then [] else whole t.s)∧Kn 70 [(14,.slice pj ls.length cj),(0,.int .i64 ((8:Nat):Int)),(2,.bool null),(4,.bool flex),(11,.pointer (some ⟨b1,0,none⟩))] a∧Mem w0 Nob Y [.rep (aDJ ls) [.slice pj ls.length cj],.rep (aDJ (whole t.s)) [.slice pst ((whole t.s).length) capst],.blk b1 [.int .i64 t.n,.slice pst t.s.length capst,.bool t.z,.slice pt t.l.length capt,.slice put t.u.length caput] 26,.rep (.sl false 8 (sub.map aBg)) [.slice p sub.length cap],.rep (ddT t) [.int .i64 t.n,.slice pst t.s.length capst,.bool t.z,.slice pt t.l.length capt,.slice put t.u.length caput]] w) ?_ (fun a w hJ=>?_)
    ·refine aAA hk rfl (fun hc=>?_) (fun hc=>?_)
     ·refine aC2 ?_
      refine oA0 hk rfl rfl fun a hk=>?_
      refine aAb ?_
      refine cT0 ?_
      have hm:=hm.add (e:=.rep (aDJ []) [.slice none 0 0]) rfl (by simp[Ent.holds,Rep,aDJ])
      exact⟨none,0,[],by rw[if_pos hc],hk.sub ⟨rfl,rfl,rfl,rfl,rfl,trivial⟩,hm⟩
     ·refine wp_skip ?_
      refine cT0 ?_
      have hcf : ¬ null=true:=by rw[hc];exact Bool.false_ne_true
      have hm:=hm.add (e:=.rep (aDJ (whole t.s)) [.slice pst ((whole t.s).length) capst]) rfl (hm.rep (i:=0) rfl)
      exact⟨_,_,_,by rw[if_neg hcf],hk.sub ⟨rfl,rfl,rfl,rfl,rfl,trivial⟩,hm⟩
    obtain⟨pj,cj,ls,hls,hk,hm⟩:=hJ
    have hjl:ls.length≤32767:=by rw[hls];split;exact Nat.zero_le _;exact aBG t.s
    refine cR0 ?_
    refine oM0 hk rfl rfl fun a hk=>?_
    refine oM0 hk rfl rfl fun a hk=>?_
    refine oM0 hk rfl rfl fun a hk=>?_
    refine oL0 hk aA9 rfl rfl fun a hk=>?_
    refine aAk hk aT8 (aM3 (Y:=Y) flex null ls.length 2 (by unfold room;omega) (by decide)) ⟨rfl,rfl,rfl,rfl,trivial⟩ rfl fun v9 w a hR hk=>?_
    have hm:=hm.rowNew hR
    have hcl:=aII (flex:=flex) (null:=null) (n:=ls.length) (size:=2) (by decide) (by unfold room;omega)
    refine oM0 hk rfl rfl fun a hk=>?_
    refine aBs (i:=0) hk hm aEZ rfl rfl rfl (aLb aA9 (hm.rep (i:=1) rfl)) (aCK (by unfold room;omega)) (aD3 (by unfold room;omega)) rfl fun a v10 w hk hm _=>?_
    have hm:=hm.rowEq (i:=0) (n':=(counted flex null ls.length 2++ls).length) (xs':=bv (counted flex null ls.length 2++ls)) rfl List.length_append.symm (aCx _ _).symm
    refine oA0 hk rfl rfl fun a hk=>?_
    refine cE0 ?_
    refine wp_ret ?_
    refine aAE ?_
    refine cQ0 ?_
    refine bT0 rfl hk rfl ?_
    have hr:=hm.rowOut (i:=0) rfl
    rw[hls] at hr;exact hr
   ·have hc11:=beq_eq_false_iff_ne.1 hc
    refine cR0 ?_
    refine aAx hk rfl rfl rfl rfl fun a hk=>?_
    refine oA0 hk rfl rfl fun a hk=>?_
    refine cE0 ?_
    refine aAA hk rfl (fun hc=>?_) (fun hc=>?_)
    ·have hc12:=eq_of_beq hc
     refine cR0 ?_
     refine oF0 hk aDw rfl rfl fun a hk=>?_
     refine aAq hk aBy rfl (hm.cell_blk (i:=0) rfl rfl) rfl fun a hk=>?_
     refine aAk hk aSE (aLu (aD2 (hm.rep (i:=2) rfl))) ⟨rfl,trivial⟩ rfl fun v w a hR hk=>?_
     obtain⟨hp,rfl,hR⟩:=hR
     have hm:=hm.result hp hR
     have hwl:=aBG t.s
     refine oA0 hk rfl rfl fun a hk=>?_
     refine cE0 ?_
     refine wp_seq ?_
     refine cR0 ?_
     refine oM0 hk rfl rfl fun a hk=>?_
     refine cE0 ?_
     have hkd:kind=9:=by omega
     subst hkd
     refine aRq (fun a w=>∃ (pj:Option Addr) (cj:Nat) (ls:List UInt8),ls=(if null then [] else whole t.s)∧Kn 70 [(15,.slice pj ls.length cj),(0,.int .i64 ((9:Nat):Int)),(2,.bool null),(4,.bool flex),(11,.pointer (some ⟨b1,0,none⟩))] a∧Mem w0 Nob Y [.rep (aDJ ls) [.slice pj ls.length cj],.rep (aDJ (whole t.s)) [.slice pst ((whole t.s).length) capst],.blk b1 [.int .i64 t.n,.slice pst t.s.length capst,.bool t.z,.slice pt t.l.length capt,.slice put t.u.length caput] 26,.rep (.sl false 8 (sub.map aBg)) [.slice p sub.length cap],.rep (ddT t) [.int .i64 t.n,.slice pst t.s.length capst,.bool t.z,.slice pt t.l.length capt,.slice put t.u.length caput]] w) ?_ (fun a w hJ=>?_)
     ·refine aAA hk rfl (fun hc=>?_) (fun hc=>?_)
      ·refine aC2 ?_
       refine oA0 hk rfl rfl fun a hk=>?_
       refine aAb ?_
       refine cT0 ?_
       have hm:=hm.add (e:=.rep (aDJ []) [.slice none 0 0]) rfl (by simp[Ent.holds,Rep,aDJ])
       exact⟨none,0,[],by rw[if_pos hc],hk.sub ⟨rfl,rfl,rfl,rfl,rfl,trivial⟩,hm⟩
      ·refine wp_skip ?_
       refine cT0 ?_
       have hcf : ¬ null=true:=by rw[hc];exact Bool.false_ne_true
       have hm:=hm.add (e:=.rep (aDJ (whole t.s)) [.slice pst ((whole t.s).length) capst]) rfl (hm.rep (i:=0) rfl)
       exact⟨_,_,_,by rw[if_neg hcf],hk.sub ⟨rfl,rfl,rfl,rfl,rfl,trivial⟩,hm⟩
     obtain⟨pj,cj,ls,hls,hk,hm⟩:=hJ
     have hjl:ls.length≤32767:=by rw[hls];split;exact Nat.zero_le _;exact aBG t.s
     refine cR0 ?_
     refine oM0 hk rfl rfl fun a hk=>?_
     refine oM0 hk rfl rfl fun a hk=>?_
     refine oM0 hk rfl rfl fun a hk=>?_
     refine oL0 hk aA9 rfl rfl fun a hk=>?_
     refine aAk hk aT8 (aM3 (Y:=Y) flex null ls.length 4 (by unfold room;omega) (by decide)) ⟨rfl,rfl,rfl,rfl,trivial⟩ rfl fun v13 w a hR hk=>?_
     have hm:=hm.rowNew hR
     have hcl:=aII (flex:=flex) (null:=null) (n:=ls.length) (size:=4) (by decide) (by unfold room;omega)
     refine oM0 hk rfl rfl fun a hk=>?_
     refine aBs (i:=0) hk hm aEZ rfl rfl rfl (aLb aA9 (hm.rep (i:=1) rfl)) (aCK (by unfold room;omega)) (aD3 (by unfold room;omega)) rfl fun a v14 w hk hm _=>?_
     have hm:=hm.rowEq (i:=0) (n':=(counted flex null ls.length 4++ls).length) (xs':=bv (counted flex null ls.length 4++ls)) rfl List.length_append.symm (aCx _ _).symm
     refine oA0 hk rfl rfl fun a hk=>?_
     refine cE0 ?_
     refine wp_ret ?_
     refine aAE ?_
     refine cQ0 ?_
     refine bT0 rfl hk rfl ?_
     have hr:=hm.rowOut (i:=0) rfl
     rw[hls] at hr;exact hr
    ·have hc15:=beq_eq_false_iff_ne.1 hc
     refine cR0 ?_
     refine aAx hk rfl rfl rfl rfl fun a hk=>?_
     refine oA0 hk rfl rfl fun a hk=>?_
     refine cE0 ?_
     refine aAA hk rfl (fun hc=>?_) (fun hc=>?_)
     ·have hc16:=eq_of_beq hc
      refine cR0 ?_
      refine oM0 hk rfl rfl fun a hk=>?_
      refine oM0 hk rfl rfl fun a hk=>?_
      refine oM0 hk rfl rfl fun a hk=>?_
      refine aAM (cs:=[.int .i64 t.n,.slice pst t.s.length capst,.bool t.z,.slice pt t.l.length capt,.slice put t.u.length caput]) hk aBF rfl (hm.cells_blk (i:=0) rfl rfl) rfl fun a hk=>?_
      have hk10:kind=10:=by omega
      subst hk10
      refine aAk hk aWx (hp V (hm.rep (i:=1) rfl) (hm.rep (i:=2) rfl) hsn hroom) ⟨rfl,rfl,rfl,rfl,trivial⟩ rfl fun v17 w a hR hk=>?_
      have hm:=hm.rowNew hR
      refine oA0 hk rfl rfl fun a hk=>?_
      refine cE0 ?_
      refine wp_ret ?_
      refine aAE ?_
      refine cQ0 ?_
      refine bT0 rfl hk rfl ?_
      have hr:=hm.rowOut (i:=0) rfl
      exact hr
     ·have hc18:=beq_eq_false_iff_ne.1 hc
      refine wp_skip ?_
      refine cN0 ?_
      refine cT0 ?_
      refine wp_seq ?_
      refine aAW (K:=5) mixed hm fun w hm=>?_
      refine aAh (i:=0) rfl rfl rfl (by kernel_rfl) (fun _ _ _ h=>h) hk rfl (fun w hm=>rF0 hk aHm rfl) hm fun a hk=>?_
      refine aAh (i:=1) rfl rfl rfl (by kernel_rfl) (fun _ _ _ h=>h) hk rfl (fun w hm=>aAL hk aOX rfl (hm.cell_blk (i:=0) rfl rfl)) hm fun a hk=>?_
      refine aAt (k:=2) (by kernel_rfl) rfl rfl ?_
      refine oM0 hk rfl rfl fun a hk=>?_
      refine aAb (cT0 ⟨fun _=>hm,?_⟩)
      refine aAt (k:=3) (by kernel_rfl) rfl rfl ?_
      refine aAk hk aVa (aNq (Y:=Y) kind) ⟨rfl,trivial⟩ rfl fun v w a hR hk=>?_
      obtain⟨hp,rfl⟩:=hR
      have hm:=hm.pure hp
      refine aAb (cT0 ⟨fun _=>hm,?_⟩)
      refine aAt (k:=4) (by kernel_rfl) rfl rfl ?_
      refine aAk hk aPb (aIL (Y:=Y) t.n (width kind) (aHK _)) ⟨rfl,rfl,trivial⟩ rfl fun v19 w a hR hk=>?_
      have hm:=hm.rowNew hR
      refine aAb (cT0 ⟨fun _=>hm.tail,?_⟩)
      refine aAt (k:=5) (by kernel_rfl) rfl rfl ?_
      refine oA0 hk rfl rfl fun a hk=>?_
      refine aAb (cT0 ⟨fun h=>Bool.noConfusion (show true=false from h),?_⟩)
      refine aBh (by kernel_rfl) ?_ _
      refine cT0 ?_
      refine wp_ret ?_
      refine bT0 rfl hk rfl ?_
      have hr:=hm.rowOut (i:=0) rfl
      rw[aJW (by omega) (by omega) (by omega) (by omega) (by omega)];exact hr
end Go.Proofs.YtipgdlbbmlnfiaaGreatDoor
