/- Walks of functions that the seat's laws reach. -/
import Derived.Test.YtipgdlbbmlnfiaaGreatDoorL2
import Derived.Test.YtipgdlbbmlnfiaaGreatDoorRows
import Derived.Test.YtipgdlbbmlnfiaaGreatDoorFa
import Derived.Test.YtipgdlbbmlnfiaaGreatDoorSe
namespace Go.Proofs.YtipgdlbbmlnfiaaGreatDoor
open Go Go.Mk
theorem aTr {flex:Bool}{f:Fld}(hv:∀ kind,aUw flex kind f.sub)(hpt:aTd flex f.sub):aUn flex f:=by
 intro w0 Y t cf ct V hF hT hsn hroom
 obtain⟨out,hout⟩ : ∃ y,y=aBt f V flex t:=⟨_,rfl⟩
 rw[← hout] at hroom ⊢
 rw[aK1] at hout
 unfold aI2 at hout
 obtain⟨pf,capf,rfl,-⟩:=aIn hF
 obtain⟨pst,capst,pt,capt,put,caput,rfl⟩:=aB6 hT
 refine aAy Tryz.func70 rfl rfl fun a hk=>?_
 have hk:Kn 76 [(0,.agg #[.int .i64 ((f.kind:Nat):Int),.int .i64 f.fr,.int .i64 f.to,.int .i64 f.nu,.int .i64 f.tag,.int .i64 f.df,.int .i64 ((f.of:Nat):Int),.slice pf f.sub.length capf]),(1,.int .i64 V),(2,.bool flex),(3,.agg #[.int .i64 t.n,.slice pst t.s.length capst,.bool t.z,.slice pt t.l.length capt,.slice put t.u.length caput])] a:=hk
 have hm:Mem w0 Nob Y [.rep (aBg f) [.int .i64 ((f.kind:Nat):Int),.int .i64 f.fr,.int .i64 f.to,.int .i64 f.nu,.int .i64 f.tag,.int .i64 f.df,.int .i64 ((f.of:Nat):Int),.slice pf f.sub.length capf],.rep (ddT t) [.int .i64 t.n,.slice pst t.s.length capst,.bool t.z,.slice pt t.l.length capt,.slice put t.u.length caput]] w0:=Mem.start rfl (by simp only[List.forall_mem_cons,List.not_mem_nil,false_imp_iff,implies_true,and_true];exact⟨hF,hT⟩)
 refine cR0 ?_
 refine aFB hk hm rfl rfl rfl fun a b1 w hk hm=>?_
 refine aFB hk hm rfl rfl rfl fun a b2 w hk hm=>?_
 refine oA0 hk rfl rfl fun a hk=>?_
 refine cE0 ?_
 refine cR0 ?_
 refine aAM (cs:=[.int .i64 ((f.kind:Nat):Int),.int .i64 f.fr,.int .i64 f.to,.int .i64 f.nu,.int .i64 f.tag,.int .i64 f.df,.int .i64 ((f.of:Nat):Int),.slice pf f.sub.length capf]) hk aDq rfl (hm.cells_blk (i:=1) rfl rfl) rfl fun a hk=>?_
 refine oM0 hk rfl rfl fun a hk=>?_
 refine aAM (cs:=[.int .i64 t.n,.slice pst t.s.length capst,.bool t.z,.slice pt t.l.length capt,.slice put t.u.length caput]) hk aBF rfl (hm.cells_blk (i:=0) rfl rfl) rfl fun a hk=>?_
 refine aAk hk bAE (aXD V (hm.rep (i:=2) rfl) (hm.rep (i:=3) rfl)) ⟨rfl,rfl,rfl,trivial⟩ rfl fun v w a hR hk=>?_
 obtain⟨hp,rfl⟩:=hR
 have hm:=hm.pure hp
 refine oA0 hk rfl rfl fun a hk=>?_
 refine cE0 ?_
 refine wp_seq ?_
 refine cR0 ?_
 refine oF0 hk aDD rfl rfl fun a hk=>?_
 refine aAq hk aF6 rfl (hm.cell_blk (i:=1) rfl rfl) rfl fun a hk=>?_
 refine aAx hk rfl rfl rfl rfl fun a hk=>?_
 refine cE0 ?_
 refine aAA hk rfl (fun hc=>?_) (fun hc=>?_)
 ·simp only[beq_iff_eq,beq_eq_false_iff_ne,ne_eq] at hc
  have h11:f.kind=11:=by omega
  refine cR0 ?_
  refine oF0 hk aDB rfl rfl fun a hk=>?_
  refine aAq hk aIw rfl (hm.cell_blk (i:=0) rfl rfl) rfl fun a hk=>?_
  refine aAk hk aYC (aOG (aKF (hm.rep (i:=3) rfl))) ⟨rfl,trivial⟩ rfl fun v w a hR hk=>?_
  obtain⟨hp,rfl,hR⟩:=hR
  have hm:=hm.result hp hR
  have htl:=aE6 t.l
  refine oA0 hk rfl rfl fun a hk=>?_
  refine cE0 ?_
  refine wp_seq ?_
  refine cR0 ?_
  refine oM0 hk rfl rfl fun a hk=>?_
  refine cE0 ?_
  refine aRq (fun a w=>∃ (pj:Option Addr) (cj:Nat) (ls:List T),ls=(if f.null V t then [] else things t.l)∧Kn 76 [(10,.slice pj ls.length cj),(1,.int .i64 V),(2,.bool flex),(4,.pointer (some ⟨b1,0,none⟩)),(7,.pointer (some ⟨b2,0,none⟩)),(9,.bool (f.null V t))] a∧Mem w0 Nob Y [.rep (.sl false 5 (ls.map ddT)) [.slice pj ls.length cj],.rep (.sl false 5 ((things t.l).map ddT)) [.slice pt ((things t.l).length) capt],.blk b2 [.int .i64 t.n,.slice pst t.s.length capst,.bool t.z,.slice pt t.l.length capt,.slice put t.u.length caput] 26,.blk b1 [.int .i64 ((f.kind:Nat):Int),.int .i64 f.fr,.int .i64 f.to,.int .i64 f.nu,.int .i64 f.tag,.int .i64 f.df,.int .i64 ((f.of:Nat):Int),.slice pf f.sub.length capf] 51,.rep (aBg f) [.int .i64 ((f.kind:Nat):Int),.int .i64 f.fr,.int .i64 f.to,.int .i64 f.nu,.int .i64 f.tag,.int .i64 f.df,.int .i64 ((f.of:Nat):Int),.slice pf f.sub.length capf],.rep (ddT t) [.int .i64 t.n,.slice pst t.s.length capst,.bool t.z,.slice pt t.l.length capt,.slice put t.u.length caput]] w) ?_ (fun a w hJ=>?_)
  ·refine aAA hk rfl (fun hc=>?_) (fun hc=>?_)
   ·refine aC2 ?_
    refine oA0 hk rfl rfl fun a hk=>?_
    refine aAb ?_
    refine cT0 ?_
    have hm:=hm.add (e:=.rep (.sl false 5 (([]:List T).map ddT)) [.slice none 0 0]) rfl (by simp[Ent.holds,Rep])
    exact⟨none,0,[],by rw[if_pos hc],hk.sub ⟨rfl,rfl,rfl,rfl,rfl,rfl,trivial⟩,hm⟩
   ·refine wp_skip ?_
    refine cT0 ?_
    have hcf : ¬ f.null V t=true:=by rw[hc];exact Bool.false_ne_true
    have hm:=hm.add (e:=.rep (.sl false 5 ((things t.l).map ddT)) [.slice pt ((things t.l).length) capt]) rfl (hm.rep (i:=0) rfl)
    exact⟨_,_,_,by rw[if_neg hcf],hk.sub ⟨rfl,rfl,rfl,rfl,rfl,rfl,trivial⟩,hm⟩
  obtain⟨pj,cj,ls,hls,hk,hm⟩:=hJ
  have hjl:ls.length≤32767:=by rw[hls];split;exact Nat.zero_le _;exact aE6 t.l
  have hsl:∀ x ∈ ls,x.sane=true:=by rw[hls];split;exact (fun x hx=>by cases hx);exact fun x hx=>(aBD hsn).2.2.2 x (List.mem_of_mem_take hx)
  rw[if_pos h11,← hls] at hout
  have hro:=hroom
  rw[hout,List.length_append] at hro
  refine cR0 ?_
  refine oM0 hk rfl rfl fun a hk=>?_
  refine oM0 hk rfl rfl fun a hk=>?_
  refine oM0 hk rfl rfl fun a hk=>?_
  refine oL0 hk aGn rfl rfl fun a hk=>?_
  refine aAk hk aT8 (aM3 (Y:=Y) flex (f.null V t) ls.length 4 (by unfold room;omega) (by decide)) ⟨rfl,rfl,rfl,rfl,trivial⟩ rfl fun v3 w a hR hk=>?_
  have hm:=hm.rowNew hR
  have hcl:=aII (flex:=flex) (null:=f.null V t) (n:=ls.length) (size:=4) (by decide) (by unfold room;omega)
  refine oA0 hk rfl rfl fun a hk=>?_
  refine cE0 ?_
  refine wp_seq ?_
  refine cR0 ?_
  refine oM0 hk rfl rfl fun a hk=>?_
  refine oL0 hk aGn rfl rfl fun a hk=>?_
  refine oM0 hk rfl rfl fun a hk=>?_
  refine cE0 ?_
  have hm:=hm.rowEq (i:=0) (n':=(counted flex (f.null V t) ls.length 4++(ls.take 0).flatMap (aC5 f.of (aBk f.sub V flex) false flex)).length) (xs':=bv (counted flex (f.null V t) ls.length 4++(ls.take 0).flatMap (aC5 f.of (aBk f.sub V flex) false flex))) rfl (by simp) (by simp)
  refine aCF (L0:=[(1,.int .i64 V),(2,.bool flex),(4,.pointer (some ⟨b1,0,none⟩)),(7,.pointer (some ⟨b2,0,none⟩)),(9,.bool (f.null V t)),(10,.slice pj ls.length cj),(11,v3)]) (N:=ls.length) (by omega) (fun k L w=>∃ vr,L=[(1,.int .i64 V),(2,.bool flex),(4,.pointer (some ⟨b1,0,none⟩)),(7,.pointer (some ⟨b2,0,none⟩)),(9,.bool (f.null V t)),(10,.slice pj ls.length cj),(11,vr)]∧Mem w0 Nob Y [.row 5 1 vr ((counted flex (f.null V t) ls.length 4++(ls.take k).flatMap (aC5 f.of (aBk f.sub V flex) false flex)).length) (bv (counted flex (f.null V t) ls.length 4++(ls.take k).flatMap (aC5 f.of (aBk f.sub V flex) false flex))),.rep (.sl false 5 (ls.map ddT)) [.slice pj ls.length cj],.rep (.sl false 5 ((things t.l).map ddT)) [.slice pt ((things t.l).length) capt],.blk b2 [.int .i64 t.n,.slice pst t.s.length capst,.bool t.z,.slice pt t.l.length capt,.slice put t.u.length caput] 26,.blk b1 [.int .i64 ((f.kind:Nat):Int),.int .i64 f.fr,.int .i64 f.to,.int .i64 f.nu,.int .i64 f.tag,.int .i64 f.df,.int .i64 ((f.of:Nat):Int),.slice pf f.sub.length capf] 51,.rep (aBg f) [.int .i64 ((f.kind:Nat):Int),.int .i64 f.fr,.int .i64 f.to,.int .i64 f.nu,.int .i64 f.tag,.int .i64 f.df,.int .i64 ((f.of:Nat):Int),.slice pf f.sub.length capf],.rep (ddT t) [.int .i64 t.n,.slice pst t.s.length capst,.bool t.z,.slice pt t.l.length capt,.slice put t.u.length caput]] w) (hk.sub ⟨rfl,rfl,rfl,rfl,rfl,rfl,rfl,rfl,rfl,trivial⟩) ⟨_,rfl,hm.pick [0,1,2,3,4,5,6] rfl rfl⟩ rfl rfl rfl rfl rfl rfl rfl (fun k L a w hlt hR hk=>?_) rfl (fun L a w hR hk=>?_)
  ·obtain⟨vr,rfl,hm⟩:=hR
   have hfl:=aJB (aC5 f.of (aBk f.sub V flex) false flex) ls k T.nil hlt
   obtain⟨hltx,blx,offx,ex,hplx,helx,hRex,hCex⟩:=aBa (hm.rep (i:=1) rfl) (aBw ddT ls k T.nil hlt)
   obtain⟨psx,capsx,px,capx,pux,capux,rfl⟩:=aB6 hRex
   have hm:=hm.add (e:=.rep (ddT (ls.getD k T.nil)) [.int .i64 ((ls.getD k T.nil).n),.slice psx ((ls.getD k T.nil).s.length) capsx,.bool ((ls.getD k T.nil).z),.slice px ((ls.getD k T.nil).l.length) capx,.slice pux ((ls.getD k T.nil).u.length) capux]) rfl hRex
   have hm:=hm.add (e:=.cel blx (offx+k*5) [.int .i64 ((ls.getD k T.nil).n),.slice psx ((ls.getD k T.nil).s.length) capsx,.bool ((ls.getD k T.nil).z),.slice px ((ls.getD k T.nil).l.length) capx,.slice pux ((ls.getD k T.nil).u.length) capux]) rfl hCex
   refine cR0 ?_
   refine oM0 hk rfl rfl fun a hk=>?_
   refine oA0 hk rfl rfl fun a hk=>?_
   refine cE0 ?_
   refine aAW (K:=12) mixed hm fun w hm=>?_
   refine aAh (i:=0) rfl rfl rfl (by kernel_rfl) (fun _ _ _ h=>h) hk rfl (fun w hm=>aA6 hk rfl) hm fun a hk=>?_
   refine aAh (i:=1) rfl rfl rfl (by kernel_rfl) (fun _ _ _ h=>h) hk rfl (fun w hm=>rF0 hk aQl rfl) hm fun a hk=>?_
   refine aAh (i:=2) rfl rfl rfl (by kernel_rfl) (fun _ _ _ h=>h) hk rfl (fun w hm=>aAL hk aF6 rfl (hm.cell_blk (i:=6) rfl rfl)) hm fun a hk=>?_
   refine aAh (i:=3) rfl rfl rfl (by kernel_rfl) (fun _ _ _ h=>h) hk rfl (fun w hm=>rF0 hk aFv rfl) hm fun a hk=>?_
   refine aAh (i:=4) rfl rfl rfl (by kernel_rfl) (fun _ _ _ h=>h) hk rfl (fun w hm=>aAL hk aIH rfl (hm.cell_blk (i:=6) rfl rfl)) hm fun a hk=>?_
   refine aAh (i:=5) rfl rfl rfl (by kernel_rfl) (fun _ _ _ h=>h) hk rfl (fun w hm=>aA6 hk rfl) hm fun a hk=>?_
   refine aAh (i:=6) rfl rfl rfl (by kernel_rfl) (fun _ _ _ h=>h) hk rfl (fun w hm=>aA6 hk rfl) hm fun a hk=>?_
   refine aAh (i:=7) rfl rfl rfl (by kernel_rfl) (fun _ _ _ h=>h) hk rfl (fun w hm=>aA6 hk rfl) hm fun a hk=>?_
   refine aAt (k:=8) (by kernel_rfl) rfl rfl ?_
   refine oM0 hk rfl rfl fun a hk=>?_
   refine aAb (cT0 ⟨fun _=>hm,?_⟩)
   refine aAt (k:=9) (by kernel_rfl) rfl rfl ?_
   refine oI0 (j:=k) (b:=blx) (off:=offx) hk aGn aBF (by rw[← hplx];rfl) rfl hltx rfl fun a hk=>?_
   refine aAb (cT0 ⟨fun _=>hm,?_⟩)
   refine aAt (k:=10) (by kernel_rfl) rfl rfl ?_
   refine aAM (cs:=[.int .i64 ((ls.getD k T.nil).n),.slice psx ((ls.getD k T.nil).s.length) capsx,.bool ((ls.getD k T.nil).z),.slice px ((ls.getD k T.nil).l.length) capx,.slice pux ((ls.getD k T.nil).u.length) capux]) hk aBF rfl (hm.cells_cel (i:=0) (k:=0) rfl rfl) rfl fun a hk=>?_
   refine aAb (cT0 ⟨fun _=>hm,?_⟩)
   refine aAt (k:=11) (by kernel_rfl) rfl rfl ?_
   refine aAk hk aT7 (hv f.of false V (aEB (hm.rep (i:=7) rfl)) (hm.rep (i:=1) rfl) (aCG hsl k) (by omega)) ⟨rfl,rfl,rfl,rfl,rfl,rfl,trivial⟩ rfl fun v4 w a hR hk=>?_
   have hm:=hm.rowNew hR
   refine aAb (cT0 ⟨fun _=>hm.tail,?_⟩)
   refine aAt (k:=12) (by kernel_rfl) rfl rfl ?_
   refine aBs (i:=3) hk hm aEZ rfl rfl rfl (aIZ aA9 (hm.row (i:=0) rfl) (aHH _)) (aCK (by simp only[List.length_append];omega)) (aD3 (by simp only[List.length_append];omega)) rfl fun a v5 w hk hm _=>?_
   have hm:=hm.rowEq (i:=3) (n':=(counted flex (f.null V t) ls.length 4++(ls.take k).flatMap (aC5 f.of (aBk f.sub V flex) false flex)++(aC5 f.of (aBk f.sub V flex) false flex (ls.getD k T.nil))).length) (xs':=bv (counted flex (f.null V t) ls.length 4++(ls.take k).flatMap (aC5 f.of (aBk f.sub V flex) false flex)++(aC5 f.of (aBk f.sub V flex) false flex (ls.getD k T.nil)))) rfl List.length_append.symm (aCx _ _).symm
   refine aAb (cT0 ⟨fun h=>Bool.noConfusion (show true=false from h),?_⟩)
   refine aAt (k:=13) (by kernel_rfl) rfl rfl ?_
   refine oA0 hk rfl rfl fun a hk=>?_
   refine aAb (cT0 ⟨fun h=>Bool.noConfusion (show true=false from h),?_⟩)
   refine aBh (by kernel_rfl) ?_ _
   refine cN0 ?_
   have hsucc:=aFR (aC5 f.of (aBk f.sub V flex) false flex) ls k T.nil hlt
   have hm:=hm.rowEq (i:=3) (n':=(counted flex (f.null V t) ls.length 4++(ls.take (k+1)).flatMap (aC5 f.of (aBk f.sub V flex) false flex)).length) (xs':=bv (counted flex (f.null V t) ls.length 4++(ls.take (k+1)).flatMap (aC5 f.of (aBk f.sub V flex) false flex))) rfl (by rw[hsucc,List.append_assoc]) (by rw[hsucc,List.append_assoc])
   exact aBb (L':=[(1,.int .i64 V),(2,.bool flex),(4,.pointer (some ⟨b1,0,none⟩)),(7,.pointer (some ⟨b2,0,none⟩)),(9,.bool (f.null V t)),(10,.slice pj ls.length cj),(11,v5)]) hk ⟨rfl,rfl,rfl,rfl,rfl,rfl,rfl,rfl,rfl,trivial⟩ rfl ⟨_,rfl,hm.pick [3,4,5,6,7,8,9] rfl rfl⟩
  ·obtain⟨vz,rfl,hm⟩:=hR
   rw[List.take_length] at hm
   refine cT0 ?_
   refine cR0 ?_
   refine oM0 hk rfl rfl fun a hk=>?_
   refine oA0 hk rfl rfl fun a hk=>?_
   refine cE0 ?_
   refine wp_ret ?_
   refine cQ0 ?_
   refine bT0 rfl hk rfl ?_
   have hr:=hm.rowOut (i:=0) rfl
   rw[hout];exact hr
 ·simp only[beq_iff_eq,beq_eq_false_iff_ne,ne_eq] at hc
  have h11 : ¬ f.kind=11:=by omega
  refine wp_skip ?_
  refine cT0 ?_
  refine wp_seq ?_
  refine cR0 ?_
  refine oF0 hk aDD rfl rfl fun a hk=>?_
  refine aAq hk aF6 rfl (hm.cell_blk (i:=1) rfl rfl) rfl fun a hk=>?_
  refine aAx hk rfl rfl rfl rfl fun a hk=>?_
  refine oM0 hk rfl rfl fun a hk=>?_
  rcases Bool.eq_false_or_eq_true (((((f.kind:Nat):Int):Int)==10)) with hb6|hb6
  ·rw[hb6] at hk
   have h10:f.kind=10:=by simp only[beq_iff_eq,beq_eq_false_iff_ne,ne_eq] at hb6;omega
   refine aAu (o':=_) hk ⟨_,_,_,rfl,rfl,rfl⟩ rfl ?_
   refine oF0 hk aEA rfl rfl fun a hk=>?_
   refine aAu (o':=_) hk ⟨_,_,_,rfl,rfl,rfl⟩ rfl ?_
   refine aAq hk aF6 rfl (hm.cell_blk (i:=1) rfl rfl) rfl fun a hk=>?_
   refine aAu (o':=_) hk ⟨_,_,_,rfl,rfl,rfl⟩ rfl ?_
   refine aAx hk rfl rfl rfl rfl fun a hk=>?_
   refine aAI hk rfl rfl rfl rfl rfl fun a hk=>?_
   refine cE0 ?_
   refine aAA hk rfl (fun hc=>?_) (fun hc=>?_)
   ·have hnu:f.nu≥0:=by simpa using hc
    refine wp_seq ?_
    refine cR0 ?_
    refine oM0 hk rfl rfl fun a hk=>?_
    refine cE0 ?_
    refine aAA hk rfl (fun hc=>?_) (fun hc=>?_)
    ·have hnl:f.null V t=true:=hc
     refine cR0 ?_
     refine aAk hk aPb (aIL (Y:=Y) (-1) 1 (by decide)) ⟨rfl,rfl,trivial⟩ rfl fun v7 w a hR hk=>?_
     have hm:=hm.rowNew hR
     refine oA0 hk rfl rfl fun a hk=>?_
     refine cE0 ?_
     refine wp_ret ?_
     refine cQ0 ?_
     refine cQ0 ?_
     refine bT0 rfl hk rfl ?_
     have hr:=hm.rowOut (i:=0) rfl
     rw[if_neg h11,if_pos ⟨h10,hnu⟩,hnl] at hout
     simp only[if_true] at hout
     rw[hout];exact hr
    ·have hnl:f.null V t=false:=hc
     refine wp_skip ?_
     refine cT0 ?_
     refine wp_seq ?_
     refine aAW (K:=7) mixed hm fun w hm=>?_
     refine aAh (i:=1) rfl rfl rfl (by kernel_rfl) (fun _ _ _ h=>h) hk rfl (fun w hm=>rF0 hk aFv rfl) hm fun a hk=>?_
     refine aAh (i:=2) rfl rfl rfl (by kernel_rfl) (fun _ _ _ h=>h) hk rfl (fun w hm=>aAL hk aIH rfl (hm.cell_blk (i:=1) rfl rfl)) hm fun a hk=>?_
     refine aAh (i:=3) rfl rfl rfl (by kernel_rfl) (fun _ _ _ h=>h) hk rfl (fun w hm=>aA6 hk rfl) hm fun a hk=>?_
     refine aAh (i:=4) rfl rfl rfl (by kernel_rfl) (fun _ _ _ h=>h) hk rfl (fun w hm=>aA6 hk rfl) hm fun a hk=>?_
     refine aAh (i:=5) rfl rfl rfl (by kernel_rfl) (fun _ _ _ h=>h) hk rfl (fun w hm=>aBq (cs:=[.int .i64 t.n,.slice pst t.s.length capst,.bool t.z,.slice pt t.l.length capt,.slice put t.u.length caput]) hk aBF rfl (hm.cells_blk (i:=0) rfl rfl)) hm fun a hk=>?_
     refine aAt (k:=0) (by kernel_rfl) rfl rfl ?_
     refine aAk hk aPb (aIL (Y:=Y) 1 1 (by decide)) ⟨rfl,rfl,trivial⟩ rfl fun v8 w a hR hk=>?_
     have hm:=hm.rowNew hR
     refine aAb (cT0 ⟨fun _=>hm.tail,?_⟩)
     refine aAt (k:=6) (by kernel_rfl) rfl rfl ?_
     rw[if_neg h11,if_pos ⟨h10,hnu⟩,hnl] at hout
     simp only[Bool.false_eq_true,if_false] at hout
     have hro:=hroom
     rw[hout,List.length_append] at hro
     refine aAk hk aWx (hpt V (aEB (hm.rep (i:=3) rfl)) (hm.rep (i:=4) rfl) hsn (by omega)) ⟨rfl,rfl,rfl,rfl,trivial⟩ rfl fun v9 w a hR hk=>?_
     have hm:=hm.rowNew hR
     refine aAb (cT0 ⟨fun _=>hm.tail.tail,?_⟩)
     refine aAt (k:=7) (by kernel_rfl) rfl rfl ?_
     refine aBs (i:=1) hk hm aEZ rfl rfl rfl (aIZ aA9 (hm.row (i:=0) rfl) (aHH _)) (aCK (by omega)) (aD3 (by omega)) rfl fun a v10 w hk hm _=>?_
     have hm:=hm.rowEq (i:=1) (n':=(fixed 1 1++(aBk f.sub V flex t)).length) (xs':=bv (fixed 1 1++(aBk f.sub V flex t))) rfl List.length_append.symm (aCx _ _).symm
     refine aAb (cT0 ⟨fun h=>Bool.noConfusion (show true=false from h),?_⟩)
     refine aAt (k:=8) (by kernel_rfl) rfl rfl ?_
     refine oA0 hk rfl rfl fun a hk=>?_
     refine aAb (cT0 ⟨fun h=>Bool.noConfusion (show true=false from h),?_⟩)
     refine aBh (by kernel_rfl) ?_ _
     refine cT0 ?_
     refine wp_ret ?_
     refine cQ0 ?_
     refine bT0 rfl hk rfl ?_
     have hr:=hm.rowOut (i:=1) rfl
     rw[hout];exact hr
   ·have hnu : ¬ f.nu≥0:=by simpa using hc
    refine wp_skip ?_
    refine cT0 ?_
    refine cR0 ?_
    refine oF0 hk aDD rfl rfl fun a hk=>?_
    refine aAq hk aF6 rfl (hm.cell_blk (i:=1) rfl rfl) rfl fun a hk=>?_
    refine oF0 hk aFv rfl rfl fun a hk=>?_
    refine aAq hk aIH rfl (hm.cell_blk (i:=1) rfl rfl) rfl fun a hk=>?_
    refine oM0 hk rfl rfl fun a hk=>?_
    refine oM0 hk rfl rfl fun a hk=>?_
    refine oM0 hk rfl rfl fun a hk=>?_
    refine aAM (cs:=[.int .i64 t.n,.slice pst t.s.length capst,.bool t.z,.slice pt t.l.length capt,.slice put t.u.length caput]) hk aBF rfl (hm.cells_blk (i:=0) rfl rfl) rfl fun a hk=>?_
    rw[if_neg h11,if_neg (fun e=>hnu e.2)] at hout
    refine aAk hk aT7 (hv f.kind (f.null V t) V (aEB (hm.rep (i:=2) rfl)) (hm.rep (i:=3) rfl) hsn (hout ▸ hroom)) ⟨rfl,rfl,rfl,rfl,rfl,rfl,trivial⟩ rfl fun v11 w a hR hk=>?_
    have hm:=hm.rowNew hR
    refine oA0 hk rfl rfl fun a hk=>?_
    refine cE0 ?_
    refine wp_ret ?_
    refine bT0 rfl hk rfl ?_
    have hr:=hm.rowOut (i:=0) rfl
    rw[hout];exact hr
  ·rw[hb6] at hk
   have h10 : ¬ f.kind=10:=by simp only[beq_iff_eq,beq_eq_false_iff_ne,ne_eq] at hb6;omega
   refine oS0 hk ⟨_,_,_,_,rfl,rfl,rfl,aAT⟩ rfl rfl fun a hk=>?_
   refine oS0 hk ⟨_,_,_,_,rfl,rfl,rfl,aAT⟩ rfl rfl fun a hk=>?_
   refine oS0 hk ⟨_,_,_,_,rfl,rfl,rfl,aAT⟩ rfl rfl fun a hk=>?_
   refine aAI hk rfl rfl rfl rfl rfl fun a hk=>?_
   refine cE0 ?_
   refine aB9 hk rfl ?_
   refine wp_skip ?_
   refine cT0 ?_
   refine cR0 ?_
   refine oF0 hk aDD rfl rfl fun a hk=>?_
   refine aAq hk aF6 rfl (hm.cell_blk (i:=1) rfl rfl) rfl fun a hk=>?_
   refine oF0 hk aFv rfl rfl fun a hk=>?_
   refine aAq hk aIH rfl (hm.cell_blk (i:=1) rfl rfl) rfl fun a hk=>?_
   refine oM0 hk rfl rfl fun a hk=>?_
   refine oM0 hk rfl rfl fun a hk=>?_
   refine oM0 hk rfl rfl fun a hk=>?_
   refine aAM (cs:=[.int .i64 t.n,.slice pst t.s.length capst,.bool t.z,.slice pt t.l.length capt,.slice put t.u.length caput]) hk aBF rfl (hm.cells_blk (i:=0) rfl rfl) rfl fun a hk=>?_
   rw[if_neg h11,if_neg (fun e=>h10 e.1)] at hout
   refine aAk hk aT7 (hv f.kind (f.null V t) V (aEB (hm.rep (i:=2) rfl)) (hm.rep (i:=3) rfl) hsn (hout ▸ hroom)) ⟨rfl,rfl,rfl,rfl,rfl,rfl,trivial⟩ rfl fun v12 w a hR hk=>?_
   have hm:=hm.rowNew hR
   refine oA0 hk rfl rfl fun a hk=>?_
   refine cE0 ?_
   refine wp_ret ?_
   refine bT0 rfl hk rfl ?_
   have hr:=hm.rowOut (i:=0) rfl
   rw[hout];exact hr
end Go.Proofs.YtipgdlbbmlnfiaaGreatDoor
