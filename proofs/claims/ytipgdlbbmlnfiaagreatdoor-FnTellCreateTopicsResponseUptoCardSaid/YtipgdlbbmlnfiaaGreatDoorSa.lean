/- Walks of functions that the seat's laws reach. -/
import Derived.Test.YtipgdlbbmlnfiaaGreatDoorL2
import Derived.Test.YtipgdlbbmlnfiaaGreatDoorRows
import Derived.Test.YtipgdlbbmlnfiaaGreatDoorFa
namespace Go.Proofs.YtipgdlbbmlnfiaaGreatDoor
open Go Go.Mk
theorem aZz {w0:World}{Y:Nat→Prop}{u:Nat × List UInt8}{c:List Value}(hU:Rep w0 Y (aBT u) c):Ret Tryz.prog 61 [.agg c.toArray] w0 fun v w'=>Agr Nob w0 w'∧v=.bool (aTD u):=by
 obtain⟨pt,capt,rfl,-⟩:=aG4 hU
 refine aAy Tryz.func61 rfl rfl fun a hk=>?_
 have hk:Kn 7 [(0,.agg #[.int .u32 ((u.1:Nat):Int),.slice pt u.2.length capt])] a:=hk
 have hm:Mem w0 Nob Y [.rep (aBT u) [.int .u32 ((u.1:Nat):Int),.slice pt u.2.length capt]] w0:=Mem.start rfl (by simp only[List.forall_mem_cons,List.not_mem_nil,false_imp_iff,implies_true,and_true];exact hU)
 refine cR0 ?_
 refine aFB hk hm rfl rfl rfl fun a b1 w hk hm=>?_
 refine oA0 hk rfl rfl fun a hk=>?_
 refine cE0 ?_
 refine wp_seq ?_
 refine cR0 ?_
 refine oF0 hk aON rfl rfl fun a hk=>?_
 refine aAq hk aBy rfl (hm.cell_blk (i:=0) rfl rfl) rfl fun a hk=>?_
 refine oL0 hk aA9 rfl rfl fun a hk=>?_
 refine aAx hk rfl rfl rfl rfl fun a hk=>?_
 refine cE0 ?_
 refine aAA hk rfl (fun hc=>?_) (fun hc=>?_)
 ·refine cR0 ?_
  refine oA0 hk rfl rfl fun a hk=>?_
  refine cE0 ?_
  refine wp_ret ?_
  refine cQ0 ?_
  refine bT0 rfl hk rfl ?_
  exact⟨hm.agr,by simp only[aTD,hc];rfl⟩
 ·refine wp_skip ?_
  refine cT0 ?_
  refine cR0 ?_
  refine oA0 hk rfl rfl fun a hk=>?_
  refine cE0 ?_
  refine wp_ret ?_
  refine bT0 rfl hk rfl ?_
  exact⟨hm.agr,by simp only[aTD,hc];rfl⟩
theorem aYe {w0:World}{Y:Nat→Prop}{us:List (Nat × List UInt8)}{p:Option Addr}{cap:Nat}(hU:Rep w0 Y (aBR us) [.slice p us.length cap]):Ret Tryz.prog 25 [.slice p us.length cap] w0 fun v w'=>Agr Nob w0 w'∧v=.bool (aUP us):=by
 refine aAy Tryz.func25 rfl rfl fun a hk=>?_
 have hk:Kn 18 [(0,.slice p us.length cap)] a:=hk
 have hm:Mem w0 Nob Y [.rep (aBR us) [.slice p us.length cap]] w0:=Mem.start rfl (by simp only[List.forall_mem_cons,List.not_mem_nil,false_imp_iff,implies_true,and_true];exact hU)
 refine cR0 ?_
 refine oA0 hk rfl rfl fun a hk=>?_
 refine cE0 ?_
 refine wp_seq ?_
 refine cR0 ?_
 refine oM0 hk rfl rfl fun a hk=>?_
 refine oL0 hk aE0 rfl rfl fun a hk=>?_
 refine aAx hk rfl rfl rfl rfl fun a hk=>?_
 refine cE0 ?_
 refine aAA hk rfl (fun hc=>?_) (fun hc=>?_)
 ·refine cR0 ?_
  refine oA0 hk rfl rfl fun a hk=>?_
  refine cE0 ?_
  refine wp_ret ?_
  refine cQ0 ?_
  refine bT0 rfl hk rfl ?_
  exact⟨hm.agr,by simp only[aUP,hc];rfl⟩
 ·refine wp_skip ?_
  refine cT0 ?_
  refine wp_seq ?_
  refine cR0 ?_
  refine oM0 hk rfl rfl fun a hk=>?_
  refine oL0 hk aE0 rfl rfl fun a hk=>?_
  refine oM0 hk rfl rfl fun a hk=>?_
  refine cE0 ?_
  have hg:=hc
  refine aCF (L0:=[(8,.slice p us.length cap)]) (N:=us.length) (by simp only[decide_eq_false_iff_not] at hc;omega) (fun k L w=>L=[(8,.slice p us.length cap)]∧(us.take k).all aTD=true∧Mem w0 Nob Y [.rep (aBR us) [.slice p us.length cap]] w) (hk.sub ⟨rfl,rfl,rfl,trivial⟩) ⟨rfl,rfl,hm⟩ rfl rfl rfl rfl rfl rfl rfl (fun k L a w hlt hR hk=>?_) rfl (fun L a w hR hk=>?_)
  ·obtain⟨rfl,hI0,hm⟩:=hR
   obtain⟨hlt1,bl1,off1,e1,hpl1,hel1,hRe1,hCe1⟩:=aBa (hm.rep (i:=0) rfl) (aBw aBT us k (0,[]) hlt)
   obtain⟨pt1,capt1,rfl,-⟩:=aG4 hRe1
   have hm:=hm.add (e:=.rep (aBT (us.getD k (0,[]))) [.int .u32 (((us.getD k (0,[])).1:Nat):Int),.slice pt1 ((us.getD k (0,[])).2.length) capt1]) rfl hRe1
   have hm:=hm.add (e:=.cel bl1 (off1+k*2) [.int .u32 (((us.getD k (0,[])).1:Nat):Int),.slice pt1 ((us.getD k (0,[])).2.length) capt1]) rfl hCe1
   refine cR0 ?_
   refine oI0 (j:=k) (b:=bl1) (off:=off1) hk aE0 aGA (by rw[← hpl1];rfl) rfl hlt1 rfl fun a hk=>?_
   refine aAM (cs:=[.int .u32 (((us.getD k (0,[])).1:Nat):Int),.slice pt1 ((us.getD k (0,[])).2.length) capt1]) hk aGA rfl (hm.cells_cel (i:=0) (k:=0) rfl rfl) rfl fun a hk=>?_
   refine aA5 hk hm aPR rfl rfl fun a b1 w hk hm=>?_
   refine aAz (i:=0) hk hm aGA rfl rfl rfl rfl rfl rfl (Nat.le_of_ble_eq_true rfl) fun a w hk hm=>?_
   refine cE0 ?_
   refine cR0 ?_
   refine aAM (cs:=[.int .u32 (((us.getD k (0,[])).1:Nat):Int),.slice pt1 ((us.getD k (0,[])).2.length) capt1]) hk aGA rfl (hm.cells_blk (i:=0) rfl rfl) rfl fun a hk=>?_
   refine aAk hk bBo (aZz (hm.rep (i:=2) rfl)) ⟨rfl,trivial⟩ rfl fun v w a hR hk=>?_
   obtain⟨hp,rfl⟩:=hR
   have hm:=hm.pure hp
   refine aES hk rfl rfl fun a hk=>?_
   refine cE0 ?_
   refine aAA hk rfl (fun hc=>?_) (fun hc=>?_)
   ·refine cR0 ?_
    refine oA0 hk rfl rfl fun a hk=>?_
    refine cE0 ?_
    refine wp_ret ?_
    refine aAE ?_
    refine aA7 ?_
    refine cQ0 ?_
    refine bT0 rfl hk rfl ?_
    exact⟨hm.agr,by simp only[aUP];rw[aTT hlt hc];simp⟩
   ·refine wp_skip ?_
    refine cN0 ?_
    exact aBb (L':=[(8,.slice p us.length cap)]) hk ⟨rfl,rfl,rfl,trivial⟩ rfl ⟨rfl,(aVQ hI0 hlt hc),hm.tail.tail.tail⟩
  ·obtain⟨rfl,hI0,hm⟩:=hR
   refine cT0 ?_
   refine cR0 ?_
   refine oA0 hk rfl rfl fun a hk=>?_
   refine cE0 ?_
   refine wp_ret ?_
   refine bT0 rfl hk rfl ?_
   exact⟨hm.agr,by have:=hI0;simp only[List.take_length] at this;simp[aUP,hg,this]⟩
theorem aOn {w0:World}{Y:Nat→Prop}{t:T}{c:List Value}(hT:Rep w0 Y (ddT t) c):Ret Tryz.prog 7 [.agg c.toArray] w0 fun v w'=>Agr Nob w0 w'∧v=.bool (aZL t):=by
 obtain⟨ps,caps,p,cap,pu,capu,rfl⟩:=aB6 hT
 refine aAy Tryz.func7 rfl rfl fun a hk=>?_
 have hk:Kn 15 [(0,.agg #[.int .i64 t.n,.slice ps t.s.length caps,.bool t.z,.slice p t.l.length cap,.slice pu t.u.length capu])] a:=hk
 have hm:Mem w0 Nob Y [.rep (ddT t) [.int .i64 t.n,.slice ps t.s.length caps,.bool t.z,.slice p t.l.length cap,.slice pu t.u.length capu]] w0:=Mem.start rfl (by simp only[List.forall_mem_cons,List.not_mem_nil,false_imp_iff,implies_true,and_true];exact hT)
 refine cR0 ?_
 refine aFB hk hm rfl rfl rfl fun a b1 w hk hm=>?_
 refine oA0 hk rfl rfl fun a hk=>?_
 refine cE0 ?_
 refine wp_seq ?_
 refine cR0 ?_
 refine oF0 hk aDw rfl rfl fun a hk=>?_
 refine aAq hk aBy rfl (hm.cell_blk (i:=0) rfl rfl) rfl fun a hk=>?_
 refine oL0 hk aA9 rfl rfl fun a hk=>?_
 refine aAx hk rfl rfl rfl rfl fun a hk=>?_
 refine cE0 ?_
 refine aAA hk rfl (fun hc=>?_) (fun hc=>?_)
 ·have hc1:=hc
  refine cR0 ?_
  refine oA0 hk rfl rfl fun a hk=>?_
  refine cE0 ?_
  refine wp_ret ?_
  refine cQ0 ?_
  refine bT0 rfl hk rfl ?_
  exact⟨hm.agr,by simp_all [aZL]⟩
 ·have hc2:=hc
  refine wp_skip ?_
  refine cT0 ?_
  refine wp_seq ?_
  refine cR0 ?_
  refine oF0 hk aDB rfl rfl fun a hk=>?_
  refine aAq hk aIw rfl (hm.cell_blk (i:=0) rfl rfl) rfl fun a hk=>?_
  refine oL0 hk aGn rfl rfl fun a hk=>?_
  refine aAx hk rfl rfl rfl rfl fun a hk=>?_
  refine cE0 ?_
  refine aAA hk rfl (fun hc=>?_) (fun hc=>?_)
  ·have hc3:=hc
   refine cR0 ?_
   refine oA0 hk rfl rfl fun a hk=>?_
   refine cE0 ?_
   refine wp_ret ?_
   refine cQ0 ?_
   refine bT0 rfl hk rfl ?_
   exact⟨hm.agr,by simp_all [aZL]⟩
  ·have hc4:=hc
   refine wp_skip ?_
   refine cT0 ?_
   refine wp_seq ?_
   refine cR0 ?_
   refine oF0 hk aGC rfl rfl fun a hk=>?_
   refine aAq hk aL7 rfl (hm.cell_blk (i:=0) rfl rfl) rfl fun a hk=>?_
   refine aAk hk bBu (aYe (aKl (hm.rep (i:=1) rfl))) ⟨rfl,trivial⟩ rfl fun v w a hR hk=>?_
   obtain⟨hp,rfl⟩:=hR
   have hm:=hm.pure hp
   refine aES hk rfl rfl fun a hk=>?_
   refine cE0 ?_
   refine aAA hk rfl (fun hc=>?_) (fun hc=>?_)
   ·have hc5:=hc
    refine cR0 ?_
    refine oA0 hk rfl rfl fun a hk=>?_
    refine cE0 ?_
    refine wp_ret ?_
    refine cQ0 ?_
    refine bT0 rfl hk rfl ?_
    exact⟨hm.agr,by simp_all [aZL]⟩
   ·have hc6:=hc
    refine wp_skip ?_
    refine cT0 ?_
    refine cR0 ?_
    refine oA0 hk rfl rfl fun a hk=>?_
    refine cE0 ?_
    refine wp_ret ?_
    refine bT0 rfl hk rfl ?_
    exact⟨hm.agr,by simp_all [aZL]⟩
theorem aKc {w0:World}{Y:Nat→Prop}{t:T}{c:List Value}(i:Nat)(hT:Rep w0 Y (ddT t) c) :
  Ret Tryz.prog 34 [.agg c.toArray,.int .i64 (i:Int)] w0 fun v w'=>Agr Nob w0 w'∧∃ c',v=.agg c'.toArray∧Rep w' (fun b=>b<w0.heap.size∧Y b) (ddT (t.at_ i)) c':=by
 obtain⟨cs,cl,cu,rfl,h1,h2,h3⟩:=aSV hT
 obtain⟨p,cap,rfl⟩:=aCS h2
 rw[List.length_map] at h2 hT ⊢
 refine aAy Tryz.func34 rfl rfl fun a hk=>?_
 have hk:Kn 16 [(0,.agg #[.int .i64 t.n,cs,.bool t.z,.slice p t.l.length cap,cu]),(1,.int .i64 (i:Int))] a:=hk
 have hm:Mem w0 Nob Y [.rep (.sl false 5 (t.l.map ddT)) [.slice p t.l.length cap]] w0:=Mem.start rfl (by simp only[List.forall_mem_cons,List.not_mem_nil,false_imp_iff,implies_true,and_true];exact h2)
 refine cR0 ?_
 refine aFB hk hm rfl rfl rfl fun a b1 w hk hm=>?_
 refine aA5 hk hm aLn rfl rfl fun a b2 w hk hm=>?_
 refine cE0 ?_
 refine wp_seq ?_
 refine cR0 ?_
 refine oM0 hk rfl rfl fun a hk=>?_
 refine oF0 hk aDB rfl rfl fun a hk=>?_
 refine aAq hk aIw rfl (hm.cell_blk (i:=1) rfl rfl) rfl fun a hk=>?_
 refine oL0 hk aGn rfl rfl fun a hk=>?_
 refine aAx hk rfl rfl rfl rfl fun a hk=>?_
 refine cE0 ?_
 refine aAA hk rfl (fun hc=>?_) (fun hc=>?_)
 ·have hi:i<t.l.length:=by simpa using hc
  obtain⟨_,b,off,cs5,rfl,hl,hR,hC⟩:=aBa (hm.rep (i:=2) rfl) (aBw ddT t.l i T.nil hi)
  obtain⟨cs',cl',cu',rfl,-⟩:=aSV hR
  have hm:=hm.add (e:=.rep (ddT (t.l.getD i T.nil)) [.int .i64 ((t.l.getD i T.nil).n),cs',.bool ((t.l.getD i T.nil).z),cl',cu']) rfl hR
  refine cR0 ?_
  refine oF0 hk aDB rfl rfl fun a hk=>?_
  refine aAq hk aIw rfl (hm.cell_blk (i:=2) rfl rfl) rfl fun a hk=>?_
  refine oM0 hk rfl rfl fun a hk=>?_
  refine oI0 (j:=i) hk aGn aBF rfl rfl hi rfl fun a hk=>?_
  refine aAM (cs:=[.int .i64 ((t.l.getD i T.nil).n),cs',.bool ((t.l.getD i T.nil).z),cl',cu']) hk aBF rfl (hC.at_) rfl fun a hk=>?_
  refine aAz (i:=1) hk hm aBF rfl rfl rfl rfl (aEK hR) rfl (Nat.le_of_ble_eq_true rfl) fun a w hk hm=>?_
  refine cE0 ?_
  refine wp_ret ?_
  refine cQ0 ?_
  refine aDf (i:=1) (cs:=[.int .i64 ((t.l.getD i T.nil).n),cs',.bool ((t.l.getD i T.nil).z),cl',cu']) rfl aBF hk hm rfl rfl ?_
  refine⟨hm.agr,_,rfl,?_⟩
  have e:t.at_ i=t.l.getD i T.nil:=rfl
  rw[e]
  exact Mem.yof (hm.rep (i:=0) rfl)
 ·have hi:t.l.length≤i:=by simpa using hc
  refine wp_skip ?_
  refine cT0 ?_
  refine cR0 ?_
  refine aAJ (r:=[.int .i64 0,.slice none 0 0,.bool false,.slice none 0 0,.slice none 0 0]) hk aLn rfl aQd rfl rfl fun a hk=>?_
  refine aAz (i:=0) hk hm aBF rfl rfl rfl rfl rfl rfl (Nat.le_of_ble_eq_true rfl) fun a w hk hm=>?_
  refine cE0 ?_
  refine wp_ret ?_
  refine aDf (i:=0) (cs:=[.int .i64 0,.slice none 0 0,.bool false,.slice none 0 0,.slice none 0 0]) rfl aBF hk hm rfl rfl ?_
  refine⟨hm.agr,_,rfl,?_⟩
  have e:t.at_ i=T.nil:=by simp[T.at_,hi]
  rw[e]
  exact aUl
theorem aKN {w0:World}{Y:Nat→Prop}{n:Nat}{most:Int}(hn:n<256)(h0 : 0≤most)(h1:most<1000000):Ret Tryz.prog 10 [.int .u8 (n:Int),.int .i64 most] w0 fun v w'=>Agr Nob w0 w'∧v=.int .i64 ((n:Int)%(most+1)):=by
 refine aAy Tryz.func10 rfl rfl fun a hk=>?_
 have hk:Kn 10 [(0,.int .u8 (n:Int)),(1,.int .i64 most)] a:=hk
 have hm:Mem w0 Nob Y [] w0:=Mem.start rfl (by simp)
 refine cR0 ?_
 refine oA0 hk rfl rfl fun a hk=>?_
 refine cE0 ?_
 refine cR0 ?_
 refine oM0 hk rfl rfl fun a hk=>?_
 refine aAG (c:=(n:Int)) hk aNF aTb rfl (IntWalk.i64_in _ (by omega)) rfl fun a hk=>?_
 refine oM0 hk rfl rfl fun a hk=>?_
 refine aCj (c:=most+1) hk rfl rfl rfl (IntWalk.i64_in _ (by omega)) rfl fun a hk=>?_
 refine bBh (c:=(n:Int)%(most+1)) hk rfl rfl (by omega) (Int.tmod_eq_emod_of_nonneg (by omega)) rfl fun a hk=>?_
 refine oA0 hk rfl rfl fun a hk=>?_
 refine cE0 ?_
 refine wp_ret ?_
 refine bT0 rfl hk rfl ?_
 exact⟨hm.agr,rfl⟩
theorem bAp {w0:World}{Y:Nat→Prop}{f:Fld}{c:List Value}(V:Int)(hF:Rep w0 Y (aBg f) c):Ret Tryz.prog 35 [.agg c.toArray,.int .i64 V] w0 fun v w'=>Agr Nob w0 w'∧v=.bool (f.has V):=by
 obtain⟨pf,capf,rfl,-⟩:=aIn hF
 refine aAy Tryz.func35 rfl rfl fun a hk=>?_
 have hk:Kn 20 [(0,.agg #[.int .i64 ((f.kind:Nat):Int),.int .i64 f.fr,.int .i64 f.to,.int .i64 f.nu,.int .i64 f.tag,.int .i64 f.df,.int .i64 ((f.of:Nat):Int),.slice pf f.sub.length capf]),(1,.int .i64 V)] a:=hk
 have hm:Mem w0 Nob Y [.rep (aBg f) [.int .i64 ((f.kind:Nat):Int),.int .i64 f.fr,.int .i64 f.to,.int .i64 f.nu,.int .i64 f.tag,.int .i64 f.df,.int .i64 ((f.of:Nat):Int),.slice pf f.sub.length capf]] w0:=Mem.start rfl (by simp only[List.forall_mem_cons,List.not_mem_nil,false_imp_iff,implies_true,and_true];exact hF)
 refine cR0 ?_
 refine aFB hk hm rfl rfl rfl fun a b1 w hk hm=>?_
 refine oA0 hk rfl rfl fun a hk=>?_
 refine cE0 ?_
 refine cR0 ?_
 refine oF0 hk aYJ rfl rfl fun a hk=>?_
 refine aAq hk aF6 rfl (hm.cell_blk (i:=0) rfl rfl) rfl fun a hk=>?_
 refine oM0 hk rfl rfl fun a hk=>?_
 refine aAx hk rfl rfl rfl rfl fun a hk=>?_
 refine oM0 hk rfl rfl fun a hk=>?_
 rcases Bool.eq_false_or_eq_true (decide ((f.fr:Int)≤V)) with hb2|hb2
 ·rw[hb2] at hk
  refine aAu (o':=_) hk ⟨_,_,_,rfl,rfl,rfl⟩ rfl ?_
  refine oF0 hk aTu rfl rfl fun a hk=>?_
  refine aAu (o':=_) hk ⟨_,_,_,rfl,rfl,rfl⟩ rfl ?_
  refine aAq hk aF6 rfl (hm.cell_blk (i:=0) rfl rfl) rfl fun a hk=>?_
  refine aAu (o':=_) hk ⟨_,_,_,rfl,rfl,rfl⟩ rfl ?_
  refine aAx hk rfl rfl rfl rfl fun a hk=>?_
  refine aAu (o':=_) hk ⟨_,_,_,rfl,rfl,rfl⟩ rfl ?_
  refine oM0 hk rfl rfl fun a hk=>?_
  rcases Bool.eq_false_or_eq_true (decide ((f.to:Int)<0)) with hb3|hb3
  ·rw[hb3] at hk
   refine oS0 hk ⟨_,_,_,_,rfl,rfl,rfl,aB0⟩ rfl rfl fun a hk=>?_
   refine oS0 hk ⟨_,_,_,_,rfl,rfl,rfl,aB0⟩ rfl rfl fun a hk=>?_
   refine oS0 hk ⟨_,_,_,_,rfl,rfl,rfl,aB0⟩ rfl rfl fun a hk=>?_
   refine oS0 hk ⟨_,_,_,_,rfl,rfl,rfl,aB0⟩ rfl rfl fun a hk=>?_
   refine aAu (o':=_) hk ⟨_,_,_,rfl,rfl,rfl⟩ rfl ?_
   refine aAI hk rfl rfl rfl rfl rfl fun a hk=>?_
   refine aAI hk rfl rfl rfl rfl rfl fun a hk=>?_
   refine oA0 hk rfl rfl fun a hk=>?_
   refine cE0 ?_
   refine wp_ret ?_
   refine bT0 rfl hk rfl ?_
   exact⟨hm.agr,by simp[Fld.has,hb2,hb3]⟩
  ·rw[hb3] at hk
   refine aAu (o':=_) hk ⟨_,_,_,rfl,rfl,rfl⟩ rfl ?_
   refine oM0 hk rfl rfl fun a hk=>?_
   refine aAu (o':=_) hk ⟨_,_,_,rfl,rfl,rfl⟩ rfl ?_
   refine oF0 hk aTu rfl rfl fun a hk=>?_
   refine aAu (o':=_) hk ⟨_,_,_,rfl,rfl,rfl⟩ rfl ?_
   refine aAq hk aF6 rfl (hm.cell_blk (i:=0) rfl rfl) rfl fun a hk=>?_
   refine aAu (o':=_) hk ⟨_,_,_,rfl,rfl,rfl⟩ rfl ?_
   refine aAx hk rfl rfl rfl rfl fun a hk=>?_
   refine aAu (o':=_) hk ⟨_,_,_,rfl,rfl,rfl⟩ rfl ?_
   refine aAI hk rfl rfl rfl rfl rfl fun a hk=>?_
   refine aAI hk rfl rfl rfl rfl rfl fun a hk=>?_
   refine oA0 hk rfl rfl fun a hk=>?_
   refine cE0 ?_
   refine wp_ret ?_
   refine bT0 rfl hk rfl ?_
   exact⟨hm.agr,by simp[Fld.has,hb2,hb3]⟩
 ·rw[hb2] at hk
  refine oS0 hk ⟨_,_,_,_,rfl,rfl,rfl,aAT⟩ rfl rfl fun a hk=>?_
  refine oS0 hk ⟨_,_,_,_,rfl,rfl,rfl,aAT⟩ rfl rfl fun a hk=>?_
  refine oS0 hk ⟨_,_,_,_,rfl,rfl,rfl,aAT⟩ rfl rfl fun a hk=>?_
  refine oS0 hk ⟨_,_,_,_,rfl,rfl,rfl,aAT⟩ rfl rfl fun a hk=>?_
  refine oS0 hk ⟨_,_,_,_,rfl,rfl,rfl,(aLK _)⟩ rfl rfl fun a hk=>?_
  refine oS0 hk ⟨_,_,_,_,rfl,rfl,rfl,(aLK _)⟩ rfl rfl fun a hk=>?_
  refine oS0 hk ⟨_,_,_,_,rfl,rfl,rfl,(aLK _)⟩ rfl rfl fun a hk=>?_
  refine oS0 hk ⟨_,_,_,_,rfl,rfl,rfl,(aLK _)⟩ rfl rfl fun a hk=>?_
  refine oS0 hk ⟨_,_,_,_,rfl,rfl,rfl,aAT⟩ rfl rfl fun a hk=>?_
  refine aAI hk rfl rfl rfl rfl rfl fun a hk=>?_
  refine oA0 hk rfl rfl fun a hk=>?_
  refine cE0 ?_
  refine wp_ret ?_
  refine bT0 rfl hk rfl ?_
  exact⟨hm.agr,by simp[Fld.has,hb2]⟩
theorem aXD {w0:World}{Y:Nat→Prop}{f:Fld}{t:T}{c ct:List Value}(V:Int)(hF:Rep w0 Y (aBg f) c)(hT:Rep w0 Y (ddT t) ct):Ret Tryz.prog 75 [.agg c.toArray,.int .i64 V,.agg ct.toArray] w0 fun v w'=>Agr Nob w0 w'∧v=.bool (f.null V t):=by
 obtain⟨pf,capf,rfl,-⟩:=aIn hF
 obtain⟨ps,caps,p,cap,pu,capu,rfl⟩:=aB6 hT
 refine aAy Tryz.func75 rfl rfl fun a hk=>?_
 have hk:Kn 20 [(0,.agg #[.int .i64 ((f.kind:Nat):Int),.int .i64 f.fr,.int .i64 f.to,.int .i64 f.nu,.int .i64 f.tag,.int .i64 f.df,.int .i64 ((f.of:Nat):Int),.slice pf f.sub.length capf]),(1,.int .i64 V),(2,.agg #[.int .i64 t.n,.slice ps t.s.length caps,.bool t.z,.slice p t.l.length cap,.slice pu t.u.length capu])] a:=hk
 have hm:Mem w0 Nob Y [.rep (aBg f) [.int .i64 ((f.kind:Nat):Int),.int .i64 f.fr,.int .i64 f.to,.int .i64 f.nu,.int .i64 f.tag,.int .i64 f.df,.int .i64 ((f.of:Nat):Int),.slice pf f.sub.length capf],.rep (ddT t) [.int .i64 t.n,.slice ps t.s.length caps,.bool t.z,.slice p t.l.length cap,.slice pu t.u.length capu]] w0:=Mem.start rfl (by simp only[List.forall_mem_cons,List.not_mem_nil,false_imp_iff,implies_true,and_true];exact⟨hF,hT⟩)
 refine cR0 ?_
 refine aFB hk hm rfl rfl rfl fun a b1 w hk hm=>?_
 refine aFB hk hm rfl rfl rfl fun a b2 w hk hm=>?_
 refine oA0 hk rfl rfl fun a hk=>?_
 refine cE0 ?_
 refine cR0 ?_
 refine oF0 hk aIY rfl rfl fun a hk=>?_
 refine aAq hk aHp rfl (hm.cell_blk (i:=0) rfl rfl) rfl fun a hk=>?_
 refine oM0 hk rfl rfl fun a hk=>?_
 rcases Bool.eq_false_or_eq_true (t.z) with hb3|hb3
 ·rw[hb3] at hk
  refine aAu (o':=_) hk ⟨_,_,_,rfl,rfl,rfl⟩ rfl ?_
  refine oF0 hk aEA rfl rfl fun a hk=>?_
  refine aAu (o':=_) hk ⟨_,_,_,rfl,rfl,rfl⟩ rfl ?_
  refine aAq hk aF6 rfl (hm.cell_blk (i:=1) rfl rfl) rfl fun a hk=>?_
  refine aAu (o':=_) hk ⟨_,_,_,rfl,rfl,rfl⟩ rfl ?_
  refine aAx hk rfl rfl rfl rfl fun a hk=>?_
  refine aAI hk rfl rfl rfl rfl rfl fun a hk=>?_
  refine oM0 hk rfl rfl fun a hk=>?_
  rcases Bool.eq_false_or_eq_true (decide ((f.nu:Int)≥0)) with hb4|hb4
  ·rw[hb4] at hk
   refine aAu (o':=_) hk ⟨_,_,_,rfl,rfl,rfl⟩ rfl ?_
   refine oM0 hk rfl rfl fun a hk=>?_
   refine aAu (o':=_) hk ⟨_,_,_,rfl,rfl,rfl⟩ rfl ?_
   refine oF0 hk aEA rfl rfl fun a hk=>?_
   refine aAu (o':=_) hk ⟨_,_,_,rfl,rfl,rfl⟩ rfl ?_
   refine aAq hk aF6 rfl (hm.cell_blk (i:=1) rfl rfl) rfl fun a hk=>?_
   refine aAu (o':=_) hk ⟨_,_,_,rfl,rfl,rfl⟩ rfl ?_
   refine aAx hk rfl rfl rfl rfl fun a hk=>?_
   refine aAI hk rfl rfl rfl rfl rfl fun a hk=>?_
   refine oA0 hk rfl rfl fun a hk=>?_
   refine cE0 ?_
   refine wp_ret ?_
   refine bT0 rfl hk rfl ?_
   exact⟨hm.agr,by simp[Fld.null,hb3,hb4]⟩
  ·rw[hb4] at hk
   refine oS0 hk ⟨_,_,_,_,rfl,rfl,rfl,aAT⟩ rfl rfl fun a hk=>?_
   refine oS0 hk ⟨_,_,_,_,rfl,rfl,rfl,aAT⟩ rfl rfl fun a hk=>?_
   refine oS0 hk ⟨_,_,_,_,rfl,rfl,rfl,aAT⟩ rfl rfl fun a hk=>?_
   refine oS0 hk ⟨_,_,_,_,rfl,rfl,rfl,aAT⟩ rfl rfl fun a hk=>?_
   refine aAI hk rfl rfl rfl rfl rfl fun a hk=>?_
   refine oA0 hk rfl rfl fun a hk=>?_
   refine cE0 ?_
   refine wp_ret ?_
   refine bT0 rfl hk rfl ?_
   exact⟨hm.agr,by simp[Fld.null,hb3,hb4]⟩
 ·rw[hb3] at hk
  refine oS0 hk ⟨_,_,_,_,rfl,rfl,rfl,aAT⟩ rfl rfl fun a hk=>?_
  refine oS0 hk ⟨_,_,_,_,rfl,rfl,rfl,aAT⟩ rfl rfl fun a hk=>?_
  refine oS0 hk ⟨_,_,_,_,rfl,rfl,rfl,aAT⟩ rfl rfl fun a hk=>?_
  refine aAI hk rfl rfl rfl rfl rfl fun a hk=>?_
  refine oM0 hk rfl rfl fun a hk=>?_
  refine oS0 hk ⟨_,_,_,_,rfl,rfl,rfl,aAT⟩ rfl rfl fun a hk=>?_
  refine oS0 hk ⟨_,_,_,_,rfl,rfl,rfl,aAT⟩ rfl rfl fun a hk=>?_
  refine oS0 hk ⟨_,_,_,_,rfl,rfl,rfl,aAT⟩ rfl rfl fun a hk=>?_
  refine oS0 hk ⟨_,_,_,_,rfl,rfl,rfl,aAT⟩ rfl rfl fun a hk=>?_
  refine aAI hk rfl rfl rfl rfl rfl fun a hk=>?_
  refine oA0 hk rfl rfl fun a hk=>?_
  refine cE0 ?_
  refine wp_ret ?_
  refine bT0 rfl hk rfl ?_
  exact⟨hm.agr,by simp[Fld.null,hb3]⟩
theorem aLu {w0:World}{Y:Nat→Prop}{s:List UInt8}{p:Option Addr}{cap:Nat}(hS:Rep w0 Y (aDJ s) [.slice p s.length cap]):Ret Tryz.prog 41 [.slice p s.length cap] w0 fun v w'=>Agr Nob w0 w'∧v=.slice p (whole s).length cap∧Rep w' (fun b=>b<w0.heap.size∧Y b) (aDJ (whole s)) [.slice p (whole s).length cap]:=by
 obtain⟨hcap,hT⟩:=aKd hS (whole s).length (by simp only[whole,List.length_take];omega)
 refine aAy Tryz.func41 rfl rfl fun a hk=>?_
 have hk:Kn 8 [(0,.slice p s.length cap)] a:=hk
 have hm:Mem w0 Nob Y [.rep (aDJ (whole s)) [.slice p ((whole s).length) cap]] w0:=Mem.start rfl (by simp only[List.forall_mem_cons,List.not_mem_nil,false_imp_iff,implies_true,and_true];exact (aVb hT))
 refine cR0 ?_
 refine oA0 hk rfl rfl fun a hk=>?_
 refine cE0 ?_
 refine cR0 ?_
 refine oM0 hk rfl rfl fun a hk=>?_
 refine oM0 hk rfl rfl fun a hk=>?_
 refine oL0 hk aA9 rfl rfl fun a hk=>?_
 refine aYD (c:=(((whole s).length:Nat):Int)) hk rfl rfl (by simp only[whole,List.length_take];omega) rfl fun a hk=>?_
 refine aKO (k:=((whole s).length)) hk aA9 aDQ rfl rfl hcap rfl fun a hk=>?_
 refine oA0 hk rfl rfl fun a hk=>?_
 refine cE0 ?_
 refine wp_ret ?_
 refine bT0 rfl hk rfl ?_
 exact⟨hm.agr,rfl,hm.out (hm.rep (i:=0) rfl)⟩
theorem aOG {w0:World}{Y:Nat→Prop}{s:List T}{p:Option Addr}{cap:Nat}(hS:Rep w0 Y (.sl false 5 (s.map ddT)) [.slice p s.length cap]):Ret Tryz.prog 76 [.slice p s.length cap] w0 fun v w'=>Agr Nob w0 w'∧v=.slice p (things s).length cap∧Rep w' (fun b=>b<w0.heap.size∧Y b) (.sl false 5 ((things s).map ddT)) [.slice p (things s).length cap]:=by
 obtain⟨hcap,hT⟩:=aKd hS (things s).length (by simp only[things,List.length_take];omega)
 refine aAy Tryz.func76 rfl rfl fun a hk=>?_
 have hk:Kn 8 [(0,.slice p s.length cap)] a:=hk
 have hm:Mem w0 Nob Y [.rep (.sl false 5 ((things s).map ddT)) [.slice p ((things s).length) cap]] w0:=Mem.start rfl (by simp only[List.forall_mem_cons,List.not_mem_nil,false_imp_iff,implies_true,and_true];exact (aSG hT))
 refine cR0 ?_
 refine oA0 hk rfl rfl fun a hk=>?_
 refine cE0 ?_
 refine cR0 ?_
 refine oM0 hk rfl rfl fun a hk=>?_
 refine oM0 hk rfl rfl fun a hk=>?_
 refine oL0 hk aGn rfl rfl fun a hk=>?_
 refine aYD (c:=(((things s).length:Nat):Int)) hk rfl rfl (by simp only[things,List.length_take];omega) rfl fun a hk=>?_
 refine aKO (k:=((things s).length)) hk aGn aBF rfl rfl hcap rfl fun a hk=>?_
 refine oA0 hk rfl rfl fun a hk=>?_
 refine cE0 ?_
 refine wp_ret ?_
 refine bT0 rfl hk rfl ?_
 exact⟨hm.agr,rfl,hm.out (hm.rep (i:=0) rfl)⟩
theorem aNq {w0:World}{Y:Nat→Prop}(k:Nat):Ret Tryz.prog 74 [.int .i64 (k:Int)] w0 fun v w'=>Agr Nob w0 w'∧v=.int .i64 ((width k:Nat):Int):=by
 refine aAy Tryz.func74 rfl rfl fun a hk=>?_
 have hk:Kn 11 [(0,.int .i64 (k:Int))] a:=hk
 have hm:Mem w0 Nob Y [] w0:=Mem.start rfl (by simp)
 refine cR0 ?_
 refine oA0 hk rfl rfl fun a hk=>?_
 refine cE0 ?_
 refine wp_seq ?_
 refine cR0 ?_
 refine oM0 hk rfl rfl fun a hk=>?_
 refine cE0 ?_
 refine wp_block ?_
 refine cR0 ?_
 refine aAx hk rfl rfl rfl rfl fun a hk=>?_
 refine oA0 hk rfl rfl fun a hk=>?_
 refine cE0 ?_
 refine aAA hk rfl (fun hc=>?_) (fun hc=>?_)
 ·have hc1:=eq_of_beq hc
  refine cR0 ?_
  refine oA0 hk rfl rfl fun a hk=>?_
  refine cE0 ?_
  refine wp_ret ?_
  refine aAE ?_
  refine cQ0 ?_
  refine bT0 rfl hk rfl ?_
  refine⟨hm.agr,?_⟩
  rw[aHL];congr 1;(repeat' split)<;>omega
 ·have hc2:=beq_eq_false_iff_ne.1 hc
  refine wp_seq ?_
  refine cR0 ?_
  refine aAx hk rfl rfl rfl rfl fun a hk=>?_
  refine oA0 hk rfl rfl fun a hk=>?_
  refine cE0 ?_
  refine aAA hk rfl (fun hc=>?_) (fun hc=>?_)
  ·have hc3:=eq_of_beq hc
   refine wp_skip ?_
   refine cT0 ?_
   refine aAA hk rfl (fun hc=>?_) (fun hc=>?_)
   ·have hc4:=eq_of_beq hc
    refine cR0 ?_
    refine oA0 hk rfl rfl fun a hk=>?_
    refine cE0 ?_
    refine wp_ret ?_
    refine aAE ?_
    refine cQ0 ?_
    refine bT0 rfl hk rfl ?_
    refine⟨hm.agr,?_⟩
    rw[aHL];congr 1;(repeat' split)<;>omega
   ·have hc5:=beq_eq_false_iff_ne.1 hc
    refine cR0 ?_
    refine aAx hk rfl rfl rfl rfl fun a hk=>?_
    refine oA0 hk rfl rfl fun a hk=>?_
    refine cE0 ?_
    refine aAA hk rfl (fun hc=>?_) (fun hc=>?_)
    ·have hc6:=eq_of_beq hc
     refine cR0 ?_
     refine oA0 hk rfl rfl fun a hk=>?_
     refine cE0 ?_
     refine wp_ret ?_
     refine aAE ?_
     refine cQ0 ?_
     refine bT0 rfl hk rfl ?_
     refine⟨hm.agr,?_⟩
     rw[aHL];congr 1;(repeat' split)<;>omega
    ·have hc7:=beq_eq_false_iff_ne.1 hc
     refine wp_skip ?_
     refine cN0 ?_
     refine cT0 ?_
     refine cR0 ?_
     refine oA0 hk rfl rfl fun a hk=>?_
     refine cE0 ?_
     refine wp_ret ?_
     refine bT0 rfl hk rfl ?_
     refine⟨hm.agr,?_⟩
     rw[aHL];congr 1;(repeat' split)<;>omega
  ·have hc8:=beq_eq_false_iff_ne.1 hc
   refine aC2 ?_
   refine aAx hk rfl rfl rfl rfl fun a hk=>?_
   refine oA0 hk rfl rfl fun a hk=>?_
   refine aAb ?_
   refine cT0 ?_
   refine aAA hk rfl (fun hc=>?_) (fun hc=>?_)
   ·have hc9:=eq_of_beq hc
    refine cR0 ?_
    refine oA0 hk rfl rfl fun a hk=>?_
    refine cE0 ?_
    refine wp_ret ?_
    refine aAE ?_
    refine cQ0 ?_
    refine bT0 rfl hk rfl ?_
    refine⟨hm.agr,?_⟩
    rw[aHL];congr 1;(repeat' split)<;>omega
   ·have hc10:=beq_eq_false_iff_ne.1 hc
    refine cR0 ?_
    refine aAx hk rfl rfl rfl rfl fun a hk=>?_
    refine oA0 hk rfl rfl fun a hk=>?_
    refine cE0 ?_
    refine aAA hk rfl (fun hc=>?_) (fun hc=>?_)
    ·have hc11:=eq_of_beq hc
     refine cR0 ?_
     refine oA0 hk rfl rfl fun a hk=>?_
     refine cE0 ?_
     refine wp_ret ?_
     refine aAE ?_
     refine cQ0 ?_
     refine bT0 rfl hk rfl ?_
     refine⟨hm.agr,?_⟩
     rw[aHL];congr 1;(repeat' split)<;>omega
    ·have hc12:=beq_eq_false_iff_ne.1 hc
     refine wp_skip ?_
     refine cN0 ?_
     refine cT0 ?_
     refine cR0 ?_
     refine oA0 hk rfl rfl fun a hk=>?_
     refine cE0 ?_
     refine wp_ret ?_
     refine bT0 rfl hk rfl ?_
     refine⟨hm.agr,?_⟩
     rw[aHL];congr 1;(repeat' split)<;>omega
theorem aLQ {w0:World}{Y:Nat→Prop}{sa sb:List UInt8}{p q:Option Addr}{cp cq:Nat}(hA:Rep w0 Y (aDJ sa) [.slice p sa.length cp])(hB:Rep w0 Y (aDJ sb) [.slice q sb.length cq])(hl:sa.length<4611686018427387904):Ret Tryz.prog 40 [.slice p sa.length cp,.slice q sb.length cq] w0 fun v w'=>Agr Nob w0 w'∧v=.bool (decide (sa=sb)):=by
 refine aAy Tryz.func40 rfl rfl fun a hk=>?_
 have hk:Kn 26 [(0,.slice p sa.length cp),(1,.slice q sb.length cq)] a:=hk
 have hm:Mem w0 Nob Y [.rep (aDJ sa) [.slice p sa.length cp],.rep (aDJ sb) [.slice q sb.length cq]] w0:=Mem.start rfl (by simp only[List.forall_mem_cons,List.not_mem_nil,false_imp_iff,implies_true,and_true];exact⟨hA,hB⟩)
 refine cR0 ?_
 refine oA0 hk rfl rfl fun a hk=>?_
 refine cE0 ?_
 refine wp_seq ?_
 refine cR0 ?_
 refine oM0 hk rfl rfl fun a hk=>?_
 refine oL0 hk aA9 rfl rfl fun a hk=>?_
 refine oM0 hk rfl rfl fun a hk=>?_
 refine oL0 hk aA9 rfl rfl fun a hk=>?_
 refine aAx hk rfl rfl rfl rfl fun a hk=>?_
 refine cE0 ?_
 refine aAA hk rfl (fun hc=>?_) (fun hc=>?_)
 ·refine cR0 ?_
  refine oA0 hk rfl rfl fun a hk=>?_
  refine cE0 ?_
  refine wp_ret ?_
  refine cQ0 ?_
  refine bT0 rfl hk rfl ?_
  exact⟨hm.agr,by rw[decide_eq_false];intro e;subst e;simp at hc⟩
 ·refine wp_skip ?_
  refine cT0 ?_
  refine wp_seq ?_
  refine cR0 ?_
  refine oM0 hk rfl rfl fun a hk=>?_
  refine oL0 hk aA9 rfl rfl fun a hk=>?_
  refine oM0 hk rfl rfl fun a hk=>?_
  refine cE0 ?_
  have hL:sa.length=sb.length:=by simp only[bne_eq_false_iff_eq] at hc;omega
  refine aCF (L0:=[(0,.slice p sa.length cp),(1,.slice q sb.length cq)]) (N:=sa.length) (by omega) (fun k L w=>L=[(0,.slice p sa.length cp),(1,.slice q sb.length cq)]∧sa.take k=sb.take k∧Mem w0 Nob Y [.rep (aDJ sa) [.slice p sa.length cp],.rep (aDJ sb) [.slice q sb.length cq]] w) (hk.sub ⟨rfl,rfl,rfl,rfl,trivial⟩) ⟨rfl,rfl,hm⟩ rfl rfl rfl rfl rfl rfl rfl (fun k L a w hlt hR hk=>?_) rfl (fun L a w hR hk=>?_)
  ·obtain⟨rfl,hI0,hm⟩:=hR
   obtain⟨hlt1,bl1,off1,e1,hpl1,hel1,hRe1,hCe1⟩:=aBa (hm.rep (i:=0) rfl) (aBw ddB sa k 0 hlt)
   obtain rfl:=aYd hRe1
   have hm:=hm.add (e:=.rep (ddB (sa.getD k 0)) [.int .u8 (((sa.getD k 0).toNat:Nat):Int)]) rfl hRe1
   have hm:=hm.add (e:=.cel bl1 (off1+k*1) [.int .u8 (((sa.getD k 0).toNat:Nat):Int)]) rfl hCe1
   obtain⟨hlt2,bl2,off2,e2,hpl2,hel2,hRe2,hCe2⟩:=aBa (hm.rep (i:=3) rfl) (aBw ddB sb k 0 (hL ▸ hlt))
   obtain rfl:=aYd hRe2
   have hm:=hm.add (e:=.rep (ddB (sb.getD k 0)) [.int .u8 (((sb.getD k 0).toNat:Nat):Int)]) rfl hRe2
   have hm:=hm.add (e:=.cel bl2 (off2+k*1) [.int .u8 (((sb.getD k 0).toNat:Nat):Int)]) rfl hCe2
   refine cR0 ?_
   refine oM0 hk rfl rfl fun a hk=>?_
   refine oA0 hk rfl rfl fun a hk=>?_
   refine cE0 ?_
   refine wp_seq ?_
   refine aAW (K:=8) mixed hm fun w hm=>?_
   refine aAh (i:=0) rfl rfl rfl (by kernel_rfl) (fun _ _ _ h=>h) hk rfl (fun w hm=>aA6 hk rfl) hm fun a hk=>?_
   refine aAh (i:=1) rfl rfl rfl (by kernel_rfl) (fun _ _ _ h=>h) hk rfl (fun w hm=>aA6 hk rfl) hm fun a hk=>?_
   refine aAh (i:=2) rfl rfl rfl (by kernel_rfl) (fun _ _ _ h=>h) hk rfl (fun w hm=>aA4 (j:=k) (b:=bl1) (off:=off1) hk aA9 aDQ (by rw[← hpl1];rfl) rfl hlt1) hm fun a hk=>?_
   refine aAh (i:=3) rfl rfl rfl (by kernel_rfl) (fun _ _ _ h=>h) hk rfl (fun w hm=>aAL hk aDQ rfl (hm.cell_cel (i:=2) (j:=0) rfl rfl)) hm fun a hk=>?_
   refine aAh (i:=4) rfl rfl rfl (by kernel_rfl) (fun _ _ _ h=>h) hk rfl (fun w hm=>aA6 hk rfl) hm fun a hk=>?_
   refine aAt (k:=5) (by kernel_rfl) rfl rfl ?_
   refine oM0 hk rfl rfl fun a hk=>?_
   refine aAb (cT0 ⟨fun _=>hm,?_⟩)
   refine aAt (k:=6) (by kernel_rfl) rfl rfl ?_
   refine oI0 (j:=k) (b:=bl2) (off:=off2) hk aA9 aDQ (by rw[← hpl2];rfl) rfl hlt2 rfl fun a hk=>?_
   refine aAb (cT0 ⟨fun _=>hm,?_⟩)
   refine aAt (k:=7) (by kernel_rfl) rfl rfl ?_
   refine aAq hk aDQ rfl (hm.cell_cel (i:=0) (j:=0) rfl rfl) rfl fun a hk=>?_
   refine aAb (cT0 ⟨fun _=>hm,?_⟩)
   refine aAt (k:=8) (by kernel_rfl) rfl rfl ?_
   refine aAx hk rfl rfl rfl rfl fun a hk=>?_
   refine aAb (cT0 ⟨fun h=>Bool.noConfusion (show true=false from h),?_⟩)
   refine aBh (by kernel_rfl) ?_ _
   refine cT0 ?_
   refine aAA hk rfl (fun hc=>?_) (fun hc=>?_)
   ·refine cR0 ?_
    refine oA0 hk rfl rfl fun a hk=>?_
    refine cE0 ?_
    refine wp_ret ?_
    refine aAE ?_
    refine aA7 ?_
    refine cQ0 ?_
    refine bT0 rfl hk rfl ?_
    exact⟨hm.agr,by rw[decide_eq_false];intro e;subst e;simp at hc⟩
   ·refine wp_skip ?_
    refine cN0 ?_
    exact aBb (L':=[(0,.slice p sa.length cp),(1,.slice q sb.length cq)]) hk ⟨rfl,rfl,rfl,rfl,trivial⟩ rfl ⟨rfl,(aPn hI0 hL hlt (aRP (by simpa using hc))),hm.tail.tail.tail.tail⟩
  ·obtain⟨rfl,hI0,hm⟩:=hR
   refine cT0 ?_
   refine cR0 ?_
   refine oA0 hk rfl rfl fun a hk=>?_
   refine cE0 ?_
   refine wp_ret ?_
   refine bT0 rfl hk rfl ?_
   exact⟨hm.agr,by rw[List.take_length,hL,List.take_length] at hI0;rw[decide_eq_true hI0]⟩
theorem aTY {w0:World}{Y:Nat→Prop}{fs:List Fld}{p:Option Addr}{cap:Nat}(hF:Rep w0 Y (.sl false 8 (fs.map aBg)) [.slice p fs.length cap])(hl:fs.length≤32767)(hok:aIt fs=true):Ret Tryz.prog 71 [.slice p fs.length cap] w0 fun v w'=>Agr Nob w0 w'∧v=.int .u32 ((known fs:Nat):Int):=by
 refine aAy Tryz.func71 rfl rfl fun a hk=>?_
 have hk:Kn 23 [(0,.slice p fs.length cap)] a:=hk
 have hm:Mem w0 Nob Y [.rep (.sl false 8 (fs.map aBg)) [.slice p fs.length cap]] w0:=Mem.start rfl (by simp only[List.forall_mem_cons,List.not_mem_nil,false_imp_iff,implies_true,and_true];exact hF)
 refine cR0 ?_
 refine oA0 hk rfl rfl fun a hk=>?_
 refine cE0 ?_
 refine cR0 ?_
 refine oA0 hk rfl rfl fun a hk=>?_
 refine cE0 ?_
 refine wp_seq ?_
 refine cR0 ?_
 refine oM0 hk rfl rfl fun a hk=>?_
 refine oL0 hk aKe rfl rfl fun a hk=>?_
 refine oM0 hk rfl rfl fun a hk=>?_
 refine cE0 ?_
 refine aCF (L0:=[(3,.int .u32 ((known (fs.take 0):Nat):Int)),(6,.slice p fs.length cap)]) (N:=fs.length) (by omega) (fun k L w=>L=[(3,.int .u32 ((known (fs.take k):Nat):Int)),(6,.slice p fs.length cap)]∧Mem w0 Nob Y [.rep (.sl false 8 (fs.map aBg)) [.slice p fs.length cap]] w) (hk.sub ⟨rfl,rfl,rfl,rfl,trivial⟩) ⟨rfl,hm⟩ rfl rfl rfl rfl rfl rfl rfl (fun k L a w hlt hR hk=>?_) rfl (fun L a w hR hk=>?_)
 ·obtain⟨rfl,hm⟩:=hR
  have hkl:=aO4 hok k
  have hkt:=aQR hok hlt aAm
  have hks:=aMJ fs k aAm hlt
  obtain⟨hlt1,bl1,off1,e1,hpl1,hel1,hRe1,hCe1⟩:=aBa (hm.rep (i:=0) rfl) (aBw aBg fs k aAm hlt)
  obtain⟨pf1,capf1,rfl,-⟩:=aIn hRe1
  have hm:=hm.add (e:=.rep (aBg (fs.getD k aAm)) [.int .i64 (((fs.getD k aAm).kind:Nat):Int),.int .i64 ((fs.getD k aAm).fr),.int .i64 ((fs.getD k aAm).to),.int .i64 ((fs.getD k aAm).nu),.int .i64 ((fs.getD k aAm).tag),.int .i64 ((fs.getD k aAm).df),.int .i64 (((fs.getD k aAm).of:Nat):Int),.slice pf1 ((fs.getD k aAm).sub.length) capf1]) rfl hRe1
  have hm:=hm.add (e:=.cel bl1 (off1+k*8) [.int .i64 (((fs.getD k aAm).kind:Nat):Int),.int .i64 ((fs.getD k aAm).fr),.int .i64 ((fs.getD k aAm).to),.int .i64 ((fs.getD k aAm).nu),.int .i64 ((fs.getD k aAm).tag),.int .i64 ((fs.getD k aAm).df),.int .i64 (((fs.getD k aAm).of:Nat):Int),.slice pf1 ((fs.getD k aAm).sub.length) capf1]) rfl hCe1
  refine cR0 ?_
  refine oI0 (j:=k) (b:=bl1) (off:=off1) hk aKe aDq (by rw[← hpl1];rfl) rfl hlt1 rfl fun a hk=>?_
  refine aAM (cs:=[.int .i64 (((fs.getD k aAm).kind:Nat):Int),.int .i64 ((fs.getD k aAm).fr),.int .i64 ((fs.getD k aAm).to),.int .i64 ((fs.getD k aAm).nu),.int .i64 ((fs.getD k aAm).tag),.int .i64 ((fs.getD k aAm).df),.int .i64 (((fs.getD k aAm).of:Nat):Int),.slice pf1 ((fs.getD k aAm).sub.length) capf1]) hk aDq rfl (hm.cells_cel (i:=0) (k:=0) rfl rfl) rfl fun a hk=>?_
  refine aA5 hk hm aBm rfl rfl fun a b1 w hk hm=>?_
  refine aAz (i:=0) hk hm aDq rfl rfl rfl rfl rfl rfl (Nat.le_of_ble_eq_true rfl) fun a w hk hm=>?_
  refine cE0 ?_
  refine cR0 ?_
  refine oF0 hk aIx rfl rfl fun a hk=>?_
  refine aAq hk aF6 rfl (hm.cell_blk (i:=0) rfl rfl) rfl fun a hk=>?_
  refine aAx hk rfl rfl rfl rfl fun a hk=>?_
  refine cE0 ?_
  refine aAA hk rfl (fun hc=>?_) (fun hc=>?_)
  ·refine aC2 ?_
   refine oM0 hk rfl rfl fun a hk=>?_
   refine oF0 hk aIx rfl rfl fun a hk=>?_
   refine aAq hk aF6 rfl (hm.cell_blk (i:=0) rfl rfl) rfl fun a hk=>?_
   refine aAG (c:=((fs.getD k aAm).tag)) hk aVd aNJ rfl (by rw[IntKind.wrap_u32];simp only[decide_eq_true_eq] at hc;omega) rfl fun a hk=>?_
   refine aCj (c:=((fs.getD k aAm).tag+1)) hk rfl rfl rfl (by rw[IntKind.wrap_u32];simp only[decide_eq_true_eq] at hc;omega) rfl fun a hk=>?_
   refine bBl (c:=((known (fs.take (k+1)):Nat):Int)) hk rfl rfl (by simp only[decide_eq_true_eq] at hc;rw[hks,if_pos hc];omega) rfl fun a hk=>?_
   refine oA0 hk rfl rfl fun a hk=>?_
   refine aAb ?_
   refine cN0 ?_
   exact aBb (L':=[(3,.int .u32 ((known (fs.take (k+1)):Nat):Int)),(6,.slice p fs.length cap)]) hk ⟨rfl,rfl,rfl,rfl,trivial⟩ rfl ⟨rfl,hm.tail.tail.tail⟩
  ·refine wp_skip ?_
   refine cN0 ?_
   have hks2:known (fs.take k)=known (fs.take (k+1)):=by simp only[decide_eq_false_iff_not] at hc;rw[hks,if_neg hc];omega
   rw[hks2] at hk
   exact aBb (L':=[(3,.int .u32 ((known (fs.take (k+1)):Nat):Int)),(6,.slice p fs.length cap)]) hk ⟨rfl,rfl,rfl,rfl,trivial⟩ rfl ⟨rfl,hm.tail.tail.tail⟩
 ·obtain⟨rfl,hm⟩:=hR
  rw[List.take_length] at hk
  refine cT0 ?_
  refine cR0 ?_
  refine oM0 hk rfl rfl fun a hk=>?_
  refine oA0 hk rfl rfl fun a hk=>?_
  refine cE0 ?_
  refine wp_ret ?_
  refine bT0 rfl hk rfl ?_
  exact⟨hm.agr,rfl⟩
end Go.Proofs.YtipgdlbbmlnfiaaGreatDoor
