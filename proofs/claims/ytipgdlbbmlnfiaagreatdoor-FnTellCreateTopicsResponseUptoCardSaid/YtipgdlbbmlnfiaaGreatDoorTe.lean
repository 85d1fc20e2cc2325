/- Walks of functions that the seat's laws reach. -/
import Derived.Test.YtipgdlbbmlnfiaaGreatDoorL5
import Derived.Test.YtipgdlbbmlnfiaaGreatDoorRows
import Derived.Test.YtipgdlbbmlnfiaaGreatDoorFa
import Derived.Test.YtipgdlbbmlnfiaaGreatDoorTd
import Derived.Test.YtipgdlbbmlnfiaaGreatDoorSu
namespace Go.Proofs.YtipgdlbbmlnfiaaGreatDoor
open Go Go.Mk
set_option maxRecDepth 100000 in
theorem aUd {fs:List Fld}(hF:∀ f ∈ fs,aN6 f)(hU:∀ f ∈ fs,aY9 [f])(hUs:∀ f ∈ fs,aNe f)(hok:aIt fs=true)(hlen:fs.length≤1000){w0:World}{Y:Nat→Prop}{t g:T}{p:Option Addr}{cap:Nat}{ct cg:List Value}(V:Int)(flex:Bool)(hFs:Rep w0 Y (.sl false 8 (fs.map aBg)) [.slice p fs.length cap])(hT:Rep w0 Y (ddT t) ct)(hG:Rep w0 Y (ddT g) cg)(hsn:t.sane=true)(hgn:g.sane=true)(hgm:g.small=true) :
  Ret Tryz.prog 13 [.slice p fs.length cap,.int .i64 V,.bool flex,.agg ct.toArray,.agg cg.toArray] w0 fun v w'=>Agr Nob w0 w'∧v=.bool (aH5 fs V flex t g):=by
 have hgs:=aBD hgn
 have hts:=aBD hsn
 obtain⟨pst,capst,pt,capt,put,caput,rfl⟩:=aB6 hT
 obtain⟨psg,capsg,pg,capg,pug,capug,rfl⟩:=aB6 hG
 refine aAy Tryz.func13 rfl rfl fun a hk=>?_
 have hk:Kn 120 [(0,.slice p fs.length cap),(1,.int .i64 V),(2,.bool flex),(3,.agg #[.int .i64 t.n,.slice pst t.s.length capst,.bool t.z,.slice pt t.l.length capt,.slice put t.u.length caput]),(4,.agg #[.int .i64 g.n,.slice psg g.s.length capsg,.bool g.z,.slice pg g.l.length capg,.slice pug g.u.length capug])] a:=hk
 have hm:Mem w0 Nob Y [.rep (.sl false 8 (fs.map aBg)) [.slice p fs.length cap],.rep (ddT t) [.int .i64 t.n,.slice pst t.s.length capst,.bool t.z,.slice pt t.l.length capt,.slice put t.u.length caput],.rep (ddT g) [.int .i64 g.n,.slice psg g.s.length capsg,.bool g.z,.slice pg g.l.length capg,.slice pug g.u.length capug]] w0:=Mem.start rfl (by simp only[List.forall_mem_cons,List.not_mem_nil,false_imp_iff,implies_true,and_true];exact⟨hFs,hT,hG⟩)
 have hus:∀ k,(g.u.getD k (0,[])).2.length<4611686018427387904:=aT6 hgm
 refine cR0 ?_
 refine aFB hk hm rfl rfl rfl fun a b1 w hk hm=>?_
 refine aFB hk hm rfl rfl rfl fun a b2 w hk hm=>?_
 refine oA0 hk rfl rfl fun a hk=>?_
 refine cE0 ?_
 refine wp_seq ?_
 refine cR0 ?_
 refine oF0 hk aDB rfl rfl fun a hk=>?_
 refine aAq hk aIw rfl (hm.cell_blk (i:=0) rfl rfl) rfl fun a hk=>?_
 refine oL0 hk aGn rfl rfl fun a hk=>?_
 refine oM0 hk rfl rfl fun a hk=>?_
 refine oL0 hk aKe rfl rfl fun a hk=>?_
 refine aAx hk rfl rfl rfl rfl fun a hk=>?_
 refine cE0 ?_
 refine aAA hk rfl (fun hc=>?_) (fun hc=>?_)
 ·refine cR0 ?_
  refine oA0 hk rfl rfl fun a hk=>?_
  refine cE0 ?_
  refine wp_ret ?_
  refine cQ0 ?_
  refine bT0 rfl hk rfl ?_
  first|exact⟨hm.agr,congrArg Value.bool (aLt (by rw[hL];first|exact hc|simpa using hc))⟩|exact⟨hm.agr,congrArg Value.bool (aNc hc)⟩
 ·refine wp_skip ?_
  refine cT0 ?_
  refine wp_seq ?_
  refine cR0 ?_
  refine oM0 hk rfl rfl fun a hk=>?_
  refine oL0 hk aKe rfl rfl fun a hk=>?_
  refine oM0 hk rfl rfl fun a hk=>?_
  refine cE0 ?_
  have hglen:g.l.length=fs.length:=by have:=bne_eq_false_iff_eq.1 hc;omega
  have hl0:=hc
  refine aCF (L0:=[(0,.slice p fs.length cap),(1,.int .i64 V),(2,.bool flex),(8,.pointer (some ⟨b1,0,none⟩)),(9,.pointer (some ⟨b2,0,none⟩)),(23,.slice p fs.length cap)]) (N:=fs.length) (by omega) (fun k L w=>L=[(0,.slice p fs.length cap),(1,.int .i64 V),(2,.bool flex),(8,.pointer (some ⟨b1,0,none⟩)),(9,.pointer (some ⟨b2,0,none⟩)),(23,.slice p fs.length cap)]∧(List.range k).all (aVv fs V flex t g)=true∧Mem w0 Nob Y [.blk b2 [.int .i64 g.n,.slice psg g.s.length capsg,.bool g.z,.slice pg g.l.length capg,.slice pug g.u.length capug] 26,.blk b1 [.int .i64 t.n,.slice pst t.s.length capst,.bool t.z,.slice pt t.l.length capt,.slice put t.u.length caput] 26,.rep (.sl false 8 (fs.map aBg)) [.slice p fs.length cap],.rep (ddT t) [.int .i64 t.n,.slice pst t.s.length capst,.bool t.z,.slice pt t.l.length capt,.slice put t.u.length caput],.rep (ddT g) [.int .i64 g.n,.slice psg g.s.length capsg,.bool g.z,.slice pg g.l.length capg,.slice pug g.u.length capug]] w) (hk.sub ⟨rfl,rfl,rfl,rfl,rfl,rfl,rfl,rfl,trivial⟩) ⟨rfl,rfl,hm⟩ rfl rfl rfl rfl rfl rfl rfl (fun k L a w hlt hR hk=>?_) rfl (fun L a w hR hk=>?_)
  ·obtain⟨rfl,hI0,hm⟩:=hR
   obtain⟨hlty,bly,offy,ey,hply,hely,hRey,hCey⟩:=aBa (hm.rep (i:=2) rfl) (aBw aBg fs k aAm hlt)
   obtain⟨pfy,capfy,rfl,-⟩:=aIn hRey
   have hm:=hm.add (e:=.rep (aBg (fs.getD k aAm)) [.int .i64 (((fs.getD k aAm).kind:Nat):Int),.int .i64 ((fs.getD k aAm).fr),.int .i64 ((fs.getD k aAm).to),.int .i64 ((fs.getD k aAm).nu),.int .i64 ((fs.getD k aAm).tag),.int .i64 ((fs.getD k aAm).df),.int .i64 (((fs.getD k aAm).of:Nat):Int),.slice pfy ((fs.getD k aAm).sub.length) capfy]) rfl hRey
   have hm:=hm.add (e:=.cel bly (offy+k*8) [.int .i64 (((fs.getD k aAm).kind:Nat):Int),.int .i64 ((fs.getD k aAm).fr),.int .i64 ((fs.getD k aAm).to),.int .i64 ((fs.getD k aAm).nu),.int .i64 ((fs.getD k aAm).tag),.int .i64 ((fs.getD k aAm).df),.int .i64 (((fs.getD k aAm).of:Nat):Int),.slice pfy ((fs.getD k aAm).sub.length) capfy]) rfl hCey
   have hltg:k<g.l.length:=by omega
   obtain⟨hltz,blz,offz,ez,hplz,helz,hRez,hCez⟩:=aBa (aKF (hm.rep (i:=6) rfl)) (aBw ddT g.l k T.nil hltg)
   obtain⟨psz,capsz,pz,capz,puz,capuz,rfl⟩:=aB6 hRez
   have hm:=hm.add (e:=.rep (ddT (g.l.getD k T.nil)) [.int .i64 ((g.l.getD k T.nil).n),.slice psz ((g.l.getD k T.nil).s.length) capsz,.bool ((g.l.getD k T.nil).z),.slice pz ((g.l.getD k T.nil).l.length) capz,.slice puz ((g.l.getD k T.nil).u.length) capuz]) rfl hRez
   have hm:=hm.add (e:=.cel blz (offz+k*5) [.int .i64 ((g.l.getD k T.nil).n),.slice psz ((g.l.getD k T.nil).s.length) capsz,.bool ((g.l.getD k T.nil).z),.slice pz ((g.l.getD k T.nil).l.length) capz,.slice puz ((g.l.getD k T.nil).u.length) capuz]) rfl hCez
   refine cR0 ?_
   refine oM0 hk rfl rfl fun a hk=>?_
   refine oI0 (j:=k) (b:=bly) (off:=offy) hk aKe aDq (by rw[← hply];rfl) rfl hlty rfl fun a hk=>?_
   refine aAM (cs:=[.int .i64 (((fs.getD k aAm).kind:Nat):Int),.int .i64 ((fs.getD k aAm).fr),.int .i64 ((fs.getD k aAm).to),.int .i64 ((fs.getD k aAm).nu),.int .i64 ((fs.getD k aAm).tag),.int .i64 ((fs.getD k aAm).df),.int .i64 (((fs.getD k aAm).of:Nat):Int),.slice pfy ((fs.getD k aAm).sub.length) capfy]) hk aDq rfl (hm.cells_cel (i:=2) (k:=0) rfl rfl) rfl fun a hk=>?_
   refine aA5 hk hm aBm rfl rfl fun a b3 w hk hm=>?_
   refine oA0 hk rfl rfl fun a hk=>?_
   refine aAz (i:=0) hk hm aDq rfl rfl rfl rfl rfl rfl (Nat.le_of_ble_eq_true rfl) fun a w hk hm=>?_
   refine cE0 ?_
   refine cR0 ?_
   refine aAM (cs:=[.int .i64 t.n,.slice pst t.s.length capst,.bool t.z,.slice pt t.l.length capt,.slice put t.u.length caput]) hk aBF rfl (hm.cells_blk (i:=6) rfl rfl) rfl fun a hk=>?_
   refine oM0 hk rfl rfl fun a hk=>?_
   refine aAk hk aQz (aKc (t:=t) k (hm.rep (i:=8) rfl)) ⟨rfl,rfl,trivial⟩ rfl fun v w a hR hk=>?_
   obtain⟨hp,ca1,rfl,hR⟩:=hR
   obtain⟨psa1,capsa1,pa1,capa1,pua1,capua1,rfl⟩:=aB6 hR
   have hm:=hm.result hp hR
   refine aA5 hk hm aLn rfl rfl fun a b4 w hk hm=>?_
   refine aAz (i:=0) hk hm aBF rfl rfl rfl rfl rfl rfl (Nat.le_of_ble_eq_true rfl) fun a w hk hm=>?_
   refine cE0 ?_
   refine wp_seq ?_
   refine aUT (fun a w=>Kn 120 [(54,.bool ((fs.getD k aAm).gets V flex (t.at_ k))),(0,.slice p fs.length cap),(1,.int .i64 V),(2,.bool flex),(8,.pointer (some ⟨b1,0,none⟩)),(9,.pointer (some ⟨b2,0,none⟩)),(11,.int .i64 ((k:Nat):Int)),(12,.pointer (some ⟨b3,0,none⟩)),(13,.pointer (some ⟨b4,0,none⟩)),(23,.slice p fs.length cap),(24,.int .i64 ((fs.length:Nat):Int)),(25,.int .i64 ((k:Nat):Int))] a∧Mem w0 Nob Y [.blk b4 [.int .i64 ((t.at_ k).n),.slice psa1 ((t.at_ k).s.length) capsa1,.bool ((t.at_ k).z),.slice pa1 ((t.at_ k).l.length) capa1,.slice pua1 ((t.at_ k).u.length) capua1] 26,.rep (ddT (t.at_ k)) [.int .i64 ((t.at_ k).n),.slice psa1 ((t.at_ k).s.length) capsa1,.bool ((t.at_ k).z),.slice pa1 ((t.at_ k).l.length) capa1,.slice pua1 ((t.at_ k).u.length) capua1],.blk b3 [.int .i64 (((fs.getD k aAm).kind:Nat):Int),.int .i64 ((fs.getD k aAm).fr),.int .i64 ((fs.getD k aAm).to),.int .i64 ((fs.getD k aAm).nu),.int .i64 ((fs.getD k aAm).tag),.int .i64 ((fs.getD k aAm).df),.int .i64 (((fs.getD k aAm).of:Nat):Int),.slice pfy ((fs.getD k aAm).sub.length) capfy] 51,.cel blz (offz+k*5) [.int .i64 ((g.l.getD k T.nil).n),.slice psz ((g.l.getD k T.nil).s.length) capsz,.bool ((g.l.getD k T.nil).z),.slice pz ((g.l.getD k T.nil).l.length) capz,.slice puz ((g.l.getD k T.nil).u.length) capuz],.rep (ddT (g.l.getD k T.nil)) [.int .i64 ((g.l.getD k T.nil).n),.slice psz ((g.l.getD k T.nil).s.length) capsz,.bool ((g.l.getD k T.nil).z),.slice pz ((g.l.getD k T.nil).l.length) capz,.slice puz ((g.l.getD k T.nil).u.length) capuz],.cel bly (offy+k*8) [.int .i64 (((fs.getD k aAm).kind:Nat):Int),.int .i64 ((fs.getD k aAm).fr),.int .i64 ((fs.getD k aAm).to),.int .i64 ((fs.getD k aAm).nu),.int .i64 ((fs.getD k aAm).tag),.int .i64 ((fs.getD k aAm).df),.int .i64 (((fs.getD k aAm).of:Nat):Int),.slice pfy ((fs.getD k aAm).sub.length) capfy],.rep (aBg (fs.getD k aAm)) [.int .i64 (((fs.getD k aAm).kind:Nat):Int),.int .i64 ((fs.getD k aAm).fr),.int .i64 ((fs.getD k aAm).to),.int .i64 ((fs.getD k aAm).nu),.int .i64 ((fs.getD k aAm).tag),.int .i64 ((fs.getD k aAm).df),.int .i64 (((fs.getD k aAm).of:Nat):Int),.slice pfy ((fs.getD k aAm).sub.length) capfy],.blk b2 [.int .i64 g.n,.slice psg g.s.length capsg,.bool g.z,.slice pg g.l.length capg,.slice pug g.u.length capug] 26,.blk b1 [.int .i64 t.n,.slice pst t.s.length capst,.bool t.z,.slice pt t.l.length capt,.slice put t.u.length caput] 26,.rep (.sl false 8 (fs.map aBg)) [.slice p fs.length cap],.rep (ddT t) [.int .i64 t.n,.slice pst t.s.length capst,.bool t.z,.slice pt t.l.length capt,.slice put t.u.length caput],.rep (ddT g) [.int .i64 g.n,.slice psg g.s.length capsg,.bool g.z,.slice pg g.l.length capg,.slice pug g.u.length capug]] w) ?_ (fun a w hJ=>?_)
   ·refine aC2 ?_
    refine oF0 hk aIx rfl rfl fun a hk=>?_
    refine aAq hk aF6 rfl (hm.cell_blk (i:=2) rfl rfl) rfl fun a hk=>?_
    refine aAx hk rfl rfl rfl rfl fun a hk=>?_
    refine oM0 hk rfl rfl fun a hk=>?_
    rcases Bool.eq_false_or_eq_true (decide (((fs.getD k aAm).tag:Int)<0)) with hb5|hb5
    ·rw[hb5] at hk
     have hb5d:=of_decide_eq_true hb5
     refine aAu (o':=_) hk ⟨_,_,_,rfl,rfl,rfl⟩ rfl ?_
     refine aAM (cs:=[.int .i64 (((fs.getD k aAm).kind:Nat):Int),.int .i64 ((fs.getD k aAm).fr),.int .i64 ((fs.getD k aAm).to),.int .i64 ((fs.getD k aAm).nu),.int .i64 ((fs.getD k aAm).tag),.int .i64 ((fs.getD k aAm).df),.int .i64 (((fs.getD k aAm).of:Nat):Int),.slice pfy ((fs.getD k aAm).sub.length) capfy]) hk aDq rfl (hm.cells_blk (i:=2) rfl rfl) rfl fun a hk=>?_
     refine aAu (o':=_) hk ⟨_,_,_,rfl,rfl,rfl⟩ rfl ?_
     refine oM0 hk rfl rfl fun a hk=>?_
     refine aAu (o':=_) hk ⟨_,_,_,rfl,rfl,rfl⟩ rfl ?_
     refine aAk hk bAi (bAp V (hm.rep (i:=6) rfl)) ⟨rfl,rfl,trivial⟩ rfl fun v w a hR hk=>?_
     obtain⟨hp,rfl⟩:=hR
     have hm:=hm.pure hp
     refine aAI hk rfl rfl rfl rfl rfl fun a hk=>?_
     refine oM0 hk rfl rfl fun a hk=>?_
     rcases Bool.eq_false_or_eq_true ((fs.getD k aAm).has V) with hb6|hb6
     ·rw[hb6] at hk
      refine oS0 hk ⟨_,_,_,_,rfl,rfl,rfl,aB0⟩ rfl rfl fun a hk=>?_
      refine oS0 hk ⟨_,_,_,_,rfl,rfl,rfl,aB0⟩ rfl rfl fun a hk=>?_
      refine oS0 hk ⟨_,_,_,_,rfl,rfl,rfl,aB0⟩ rfl rfl fun a hk=>?_
      refine oS0 hk ⟨_,_,_,_,rfl,rfl,rfl,aB0⟩ rfl rfl fun a hk=>?_
      refine oS0 hk ⟨_,_,_,_,rfl,rfl,rfl,(aLK _)⟩ rfl rfl fun a hk=>?_
      refine oS0 hk ⟨_,_,_,_,rfl,rfl,rfl,aB0⟩ rfl rfl fun a hk=>?_
      refine oS0 hk ⟨_,_,_,_,rfl,rfl,rfl,aB0⟩ rfl rfl fun a hk=>?_
      refine oS0 hk ⟨_,_,_,_,rfl,rfl,rfl,(aLK _)⟩ rfl rfl fun a hk=>?_
      refine oS0 hk ⟨_,_,_,_,rfl,rfl,rfl,(aLK _)⟩ rfl rfl fun a hk=>?_
      refine oS0 hk ⟨_,_,_,_,rfl,rfl,rfl,(aLK _)⟩ rfl rfl fun a hk=>?_
      refine oS0 hk ⟨_,_,_,_,rfl,rfl,rfl,(aLK _)⟩ rfl rfl fun a hk=>?_
      refine oS0 hk ⟨_,_,_,_,rfl,rfl,rfl,aB0⟩ rfl rfl fun a hk=>?_
      refine aAI hk rfl rfl rfl rfl rfl fun a hk=>?_
      refine aAb ?_
      refine cT0 ?_
      have e:(.bool (true):Value)=.bool ((fs.getD k aAm).gets V flex (t.at_ k)):=by first|exact aIM (by assumption) (by assumption)|exact aKf (by assumption) (by assumption)|exact aFX (by assumption) (by assumption)|exact aG2 (by assumption) (by assumption)|exact aIG (by assumption) (by assumption)|exact aHk (by assumption) (by assumption)
      exact⟨hk.sub ⟨(Eq.trans (b:=some (.bool (true))) rfl (congrArg some e)),rfl,rfl,rfl,rfl,rfl,rfl,rfl,rfl,rfl,rfl,rfl,trivial⟩,hm⟩
     ·rw[hb6] at hk
      refine aAu (o':=_) hk ⟨_,_,_,rfl,rfl,rfl⟩ rfl ?_
      refine oF0 hk aIx rfl rfl fun a hk=>?_
      refine aAu (o':=_) hk ⟨_,_,_,rfl,rfl,rfl⟩ rfl ?_
      refine aAq hk aF6 rfl (hm.cell_blk (i:=2) rfl rfl) rfl fun a hk=>?_
      refine aAu (o':=_) hk ⟨_,_,_,rfl,rfl,rfl⟩ rfl ?_
      refine aAx hk rfl rfl rfl rfl fun a hk=>?_
      refine aAu (o':=_) hk ⟨_,_,_,rfl,rfl,rfl⟩ rfl ?_
      refine oM0 hk rfl rfl fun a hk=>?_
      rcases Bool.eq_false_or_eq_true (decide (((fs.getD k aAm).tag:Int)≥0)) with hb7|hb7
      ·rw[hb7] at hk
       have hb7d:=of_decide_eq_true hb7
       refine aAu (o':=_) hk ⟨_,_,_,rfl,rfl,rfl⟩ rfl ?_
       refine oM0 hk rfl rfl fun a hk=>?_
       refine aAu (o':=_) hk ⟨_,_,_,rfl,rfl,rfl⟩ rfl ?_
       refine aAI hk rfl rfl rfl rfl rfl fun a hk=>?_
       refine aAu (o':=_) hk ⟨_,_,_,rfl,rfl,rfl⟩ rfl ?_
       refine oM0 hk rfl rfl fun a hk=>?_
       rcases Bool.eq_false_or_eq_true (flex) with hb8|hb8
       ·rw[hb8] at hk
        refine aAu (o':=_) hk ⟨_,_,_,rfl,rfl,rfl⟩ rfl ?_
        refine aAM (cs:=[.int .i64 (((fs.getD k aAm).kind:Nat):Int),.int .i64 ((fs.getD k aAm).fr),.int .i64 ((fs.getD k aAm).to),.int .i64 ((fs.getD k aAm).nu),.int .i64 ((fs.getD k aAm).tag),.int .i64 ((fs.getD k aAm).df),.int .i64 (((fs.getD k aAm).of:Nat):Int),.slice pfy ((fs.getD k aAm).sub.length) capfy]) hk aDq rfl (hm.cells_blk (i:=2) rfl rfl) rfl fun a hk=>?_
        refine aAu (o':=_) hk ⟨_,_,_,rfl,rfl,rfl⟩ rfl ?_
        refine aAM (cs:=[.int .i64 ((t.at_ k).n),.slice psa1 ((t.at_ k).s.length) capsa1,.bool ((t.at_ k).z),.slice pa1 ((t.at_ k).l.length) capa1,.slice pua1 ((t.at_ k).u.length) capua1]) hk aBF rfl (hm.cells_blk (i:=0) rfl rfl) rfl fun a hk=>?_
        refine aAu (o':=_) hk ⟨_,_,_,rfl,rfl,rfl⟩ rfl ?_
        refine aAk hk aTO (hUs (fs.getD k aAm) (aC9 hlt) (hm.rep (i:=6) rfl) (hm.rep (i:=1) rfl) (aIQ hsn k)) ⟨rfl,rfl,trivial⟩ rfl fun v w a hR hk=>?_
        obtain⟨hp,rfl⟩:=hR
        have hm:=hm.pure hp
        refine aAu (o':=_) hk ⟨_,_,_,rfl,rfl,rfl⟩ rfl ?_
        refine aES hk rfl rfl fun a hk=>?_
        refine aAu (o':=_) hk ⟨_,_,_,rfl,rfl,rfl⟩ rfl ?_
        refine aAI hk rfl rfl rfl rfl rfl fun a hk=>?_
        refine aAI hk rfl rfl rfl rfl rfl fun a hk=>?_
        refine aAb ?_
        refine cT0 ?_
        have e:(.bool ((!(aD8 (fs.getD k aAm) (t.at_ k)))):Value)=.bool ((fs.getD k aAm).gets V flex (t.at_ k)):=by first|exact aIM (by assumption) (by assumption)|exact aKf (by assumption) (by assumption)|exact aFX (by assumption) (by assumption)|exact aG2 (by assumption) (by assumption)|exact aIG (by assumption) (by assumption)|exact aHk (by assumption) (by assumption)
        exact⟨hk.sub ⟨(Eq.trans (b:=some (.bool ((!(aD8 (fs.getD k aAm) (t.at_ k)))))) rfl (congrArg some e)),rfl,rfl,(by first|rfl|(rw[hb5];rfl)|(rw[hb6];rfl)|(rw[hb7];rfl)|(rw[hb8];rfl)),rfl,rfl,rfl,rfl,rfl,rfl,rfl,rfl,trivial⟩,hm⟩
       ·rw[hb8] at hk
        refine oS0 hk ⟨_,_,_,_,rfl,rfl,rfl,aAT⟩ rfl rfl fun a hk=>?_
        refine oS0 hk ⟨_,_,_,_,rfl,rfl,rfl,aAT⟩ rfl rfl fun a hk=>?_
        refine oS0 hk ⟨_,_,_,_,rfl,rfl,rfl,aAT⟩ rfl rfl fun a hk=>?_
        refine oS0 hk ⟨_,_,_,_,rfl,rfl,rfl,aAT⟩ rfl rfl fun a hk=>?_
        refine aAu (o':=_) hk ⟨_,_,_,rfl,rfl,rfl⟩ rfl ?_
        refine aAI hk rfl rfl rfl rfl rfl fun a hk=>?_
        refine aAI hk rfl rfl rfl rfl rfl fun a hk=>?_
        refine aAb ?_
        refine cT0 ?_
        have e:(.bool (false):Value)=.bool ((fs.getD k aAm).gets V flex (t.at_ k)):=by first|exact aIM (by assumption) (by assumption)|exact aKf (by assumption) (by assumption)|exact aFX (by assumption) (by assumption)|exact aG2 (by assumption) (by assumption)|exact aIG (by assumption) (by assumption)|exact aHk (by assumption) (by assumption)
        exact⟨hk.sub ⟨(Eq.trans (b:=some (.bool (false))) rfl (congrArg some e)),rfl,rfl,(by first|rfl|(rw[hb5];rfl)|(rw[hb6];rfl)|(rw[hb7];rfl)|(rw[hb8];rfl)),rfl,rfl,rfl,rfl,rfl,rfl,rfl,rfl,trivial⟩,hm⟩
      ·rw[hb7] at hk
       have hb7d:=of_decide_eq_false hb7
       refine oS0 hk ⟨_,_,_,_,rfl,rfl,rfl,aAT⟩ rfl rfl fun a hk=>?_
       refine aAu (o':=_) hk ⟨_,_,_,rfl,rfl,rfl⟩ rfl ?_
       refine aAI hk rfl rfl rfl rfl rfl fun a hk=>?_
       refine aAu (o':=_) hk ⟨_,_,_,rfl,rfl,rfl⟩ rfl ?_
       refine oM0 hk rfl rfl fun a hk=>?_
       refine oS0 hk ⟨_,_,_,_,rfl,rfl,rfl,aAT⟩ rfl rfl fun a hk=>?_
       refine oS0 hk ⟨_,_,_,_,rfl,rfl,rfl,aAT⟩ rfl rfl fun a hk=>?_
       refine oS0 hk ⟨_,_,_,_,rfl,rfl,rfl,aAT⟩ rfl rfl fun a hk=>?_
       refine oS0 hk ⟨_,_,_,_,rfl,rfl,rfl,aAT⟩ rfl rfl fun a hk=>?_
       refine aAu (o':=_) hk ⟨_,_,_,rfl,rfl,rfl⟩ rfl ?_
       refine aAI hk rfl rfl rfl rfl rfl fun a hk=>?_
       refine aAI hk rfl rfl rfl rfl rfl fun a hk=>?_
       refine aAb ?_
       refine cT0 ?_
       have e:(.bool (false):Value)=.bool ((fs.getD k aAm).gets V flex (t.at_ k)):=by first|exact aIM (by assumption) (by assumption)|exact aKf (by assumption) (by assumption)|exact aFX (by assumption) (by assumption)|exact aG2 (by assumption) (by assumption)|exact aIG (by assumption) (by assumption)|exact aHk (by assumption) (by assumption)
       exact⟨hk.sub ⟨(Eq.trans (b:=some (.bool (false))) rfl (congrArg some e)),rfl,rfl,rfl,rfl,rfl,rfl,rfl,rfl,rfl,rfl,rfl,trivial⟩,hm⟩
    ·rw[hb5] at hk
     have hb5d:=of_decide_eq_false hb5
     refine oS0 hk ⟨_,_,_,_,rfl,rfl,rfl,aAT⟩ rfl rfl fun a hk=>?_
     refine oS0 hk ⟨_,_,_,_,rfl,rfl,rfl,aAT⟩ rfl rfl fun a hk=>?_
     refine oS0 hk ⟨_,_,_,_,rfl,rfl,rfl,aAT⟩ rfl rfl fun a hk=>?_
     refine aAI hk rfl rfl rfl rfl rfl fun a hk=>?_
     refine oM0 hk rfl rfl fun a hk=>?_
     refine aAu (o':=_) hk ⟨_,_,_,rfl,rfl,rfl⟩ rfl ?_
     refine oF0 hk aIx rfl rfl fun a hk=>?_
     refine aAu (o':=_) hk ⟨_,_,_,rfl,rfl,rfl⟩ rfl ?_
     refine aAq hk aF6 rfl (hm.cell_blk (i:=2) rfl rfl) rfl fun a hk=>?_
     refine aAu (o':=_) hk ⟨_,_,_,rfl,rfl,rfl⟩ rfl ?_
     refine aAx hk rfl rfl rfl rfl fun a hk=>?_
     refine aAu (o':=_) hk ⟨_,_,_,rfl,rfl,rfl⟩ rfl ?_
     refine oM0 hk rfl rfl fun a hk=>?_
     rcases Bool.eq_false_or_eq_true (decide (((fs.getD k aAm).tag:Int)≥0)) with hb9|hb9
     ·rw[hb9] at hk
      have hb9d:=of_decide_eq_true hb9
      refine aAu (o':=_) hk ⟨_,_,_,rfl,rfl,rfl⟩ rfl ?_
      refine oM0 hk rfl rfl fun a hk=>?_
      refine aAu (o':=_) hk ⟨_,_,_,rfl,rfl,rfl⟩ rfl ?_
      refine aAI hk rfl rfl rfl rfl rfl fun a hk=>?_
      refine aAu (o':=_) hk ⟨_,_,_,rfl,rfl,rfl⟩ rfl ?_
      refine oM0 hk rfl rfl fun a hk=>?_
      rcases Bool.eq_false_or_eq_true (flex) with hb10|hb10
      ·rw[hb10] at hk
       refine aAu (o':=_) hk ⟨_,_,_,rfl,rfl,rfl⟩ rfl ?_
       refine aAM (cs:=[.int .i64 (((fs.getD k aAm).kind:Nat):Int),.int .i64 ((fs.getD k aAm).fr),.int .i64 ((fs.getD k aAm).to),.int .i64 ((fs.getD k aAm).nu),.int .i64 ((fs.getD k aAm).tag),.int .i64 ((fs.getD k aAm).df),.int .i64 (((fs.getD k aAm).of:Nat):Int),.slice pfy ((fs.getD k aAm).sub.length) capfy]) hk aDq rfl (hm.cells_blk (i:=2) rfl rfl) rfl fun a hk=>?_
       refine aAu (o':=_) hk ⟨_,_,_,rfl,rfl,rfl⟩ rfl ?_
       refine aAM (cs:=[.int .i64 ((t.at_ k).n),.slice psa1 ((t.at_ k).s.length) capsa1,.bool ((t.at_ k).z),.slice pa1 ((t.at_ k).l.length) capa1,.slice pua1 ((t.at_ k).u.length) capua1]) hk aBF rfl (hm.cells_blk (i:=0) rfl rfl) rfl fun a hk=>?_
       refine aAu (o':=_) hk ⟨_,_,_,rfl,rfl,rfl⟩ rfl ?_
       refine aAk hk aTO (hUs (fs.getD k aAm) (aC9 hlt) (hm.rep (i:=6) rfl) (hm.rep (i:=1) rfl) (aIQ hsn k)) ⟨rfl,rfl,trivial⟩ rfl fun v w a hR hk=>?_
       obtain⟨hp,rfl⟩:=hR
       have hm:=hm.pure hp
       refine aAu (o':=_) hk ⟨_,_,_,rfl,rfl,rfl⟩ rfl ?_
       refine aES hk rfl rfl fun a hk=>?_
       refine aAu (o':=_) hk ⟨_,_,_,rfl,rfl,rfl⟩ rfl ?_
       refine aAI hk rfl rfl rfl rfl rfl fun a hk=>?_
       refine aAI hk rfl rfl rfl rfl rfl fun a hk=>?_
       refine aAb ?_
       refine cT0 ?_
       have e:(.bool ((!(aD8 (fs.getD k aAm) (t.at_ k)))):Value)=.bool ((fs.getD k aAm).gets V flex (t.at_ k)):=by first|exact aIM (by assumption) (by assumption)|exact aKf (by assumption) (by assumption)|exact aFX (by assumption) (by assumption)|exact aG2 (by assumption) (by assumption)|exact aIG (by assumption) (by assumption)|exact aHk (by assumption) (by assumption)
       exact⟨hk.sub ⟨(Eq.trans (b:=some (.bool ((!(aD8 (fs.getD k aAm) (t.at_ k)))))) rfl (congrArg some e)),rfl,rfl,(by first|rfl|(rw[hb5];rfl)|(rw[hb9];rfl)|(rw[hb10];rfl)),rfl,rfl,rfl,rfl,rfl,rfl,rfl,rfl,trivial⟩,hm⟩
      ·rw[hb10] at hk
       refine oS0 hk ⟨_,_,_,_,rfl,rfl,rfl,aAT⟩ rfl rfl fun a hk=>?_
       refine oS0 hk ⟨_,_,_,_,rfl,rfl,rfl,aAT⟩ rfl rfl fun a hk=>?_
       refine oS0 hk ⟨_,_,_,_,rfl,rfl,rfl,aAT⟩ rfl rfl fun a hk=>?_
       refine oS0 hk ⟨_,_,_,_,rfl,rfl,rfl,aAT⟩ rfl rfl fun a hk=>?_
       refine aAu (o':=_) hk ⟨_,_,_,rfl,rfl,rfl⟩ rfl ?_
       refine aAI hk rfl rfl rfl rfl rfl fun a hk=>?_
       refine aAI hk rfl rfl rfl rfl rfl fun a hk=>?_
       refine aAb ?_
       refine cT0 ?_
       have e:(.bool (false):Value)=.bool ((fs.getD k aAm).gets V flex (t.at_ k)):=by first|exact aIM (by assumption) (by assumption)|exact aKf (by assumption) (by assumption)|exact aFX (by assumption) (by assumption)|exact aG2 (by assumption) (by assumption)|exact aIG (by assumption) (by assumption)|exact aHk (by assumption) (by assumption)
       exact⟨hk.sub ⟨(Eq.trans (b:=some (.bool (false))) rfl (congrArg some e)),rfl,rfl,(by first|rfl|(rw[hb5];rfl)|(rw[hb9];rfl)|(rw[hb10];rfl)),rfl,rfl,rfl,rfl,rfl,rfl,rfl,rfl,trivial⟩,hm⟩
     ·rw[hb9] at hk
      have hb9d:=of_decide_eq_false hb9
      refine oS0 hk ⟨_,_,_,_,rfl,rfl,rfl,aAT⟩ rfl rfl fun a hk=>?_
      refine aAu (o':=_) hk ⟨_,_,_,rfl,rfl,rfl⟩ rfl ?_
      refine aAI hk rfl rfl rfl rfl rfl fun a hk=>?_
      refine aAu (o':=_) hk ⟨_,_,_,rfl,rfl,rfl⟩ rfl ?_
      refine oM0 hk rfl rfl fun a hk=>?_
      refine oS0 hk ⟨_,_,_,_,rfl,rfl,rfl,aAT⟩ rfl rfl fun a hk=>?_
      refine oS0 hk ⟨_,_,_,_,rfl,rfl,rfl,aAT⟩ rfl rfl fun a hk=>?_
      refine oS0 hk ⟨_,_,_,_,rfl,rfl,rfl,aAT⟩ rfl rfl fun a hk=>?_
      refine oS0 hk ⟨_,_,_,_,rfl,rfl,rfl,aAT⟩ rfl rfl fun a hk=>?_
      refine aAu (o':=_) hk ⟨_,_,_,rfl,rfl,rfl⟩ rfl ?_
      refine aAI hk rfl rfl rfl rfl rfl fun a hk=>?_
      refine aAI hk rfl rfl rfl rfl rfl fun a hk=>?_
      refine aAb ?_
      refine cT0 ?_
      have e:(.bool (false):Value)=.bool ((fs.getD k aAm).gets V flex (t.at_ k)):=by first|exact aIM (by assumption) (by assumption)|exact aKf (by assumption) (by assumption)|exact aFX (by assumption) (by assumption)|exact aG2 (by assumption) (by assumption)|exact aIG (by assumption) (by assumption)|exact aHk (by assumption) (by assumption)
      exact⟨hk.sub ⟨(Eq.trans (b:=some (.bool (false))) rfl (congrArg some e)),rfl,rfl,rfl,rfl,rfl,rfl,rfl,rfl,rfl,rfl,rfl,trivial⟩,hm⟩
   obtain⟨hk,hm⟩:=hJ
   refine aAA hk rfl (fun hc=>?_) (fun hc=>?_)
   ·refine wp_seq ?_
    refine wp_seq ?_
    refine aAW (K:=10) mixed hm fun w hm=>?_
    refine aAh (i:=0) rfl rfl rfl (by kernel_rfl) (fun _ _ _ h=>h) hk rfl (fun w hm=>aBq (cs:=[.int .i64 (((fs.getD k aAm).kind:Nat):Int),.int .i64 ((fs.getD k aAm).fr),.int .i64 ((fs.getD k aAm).to),.int .i64 ((fs.getD k aAm).nu),.int .i64 ((fs.getD k aAm).tag),.int .i64 ((fs.getD k aAm).df),.int .i64 (((fs.getD k aAm).of:Nat):Int),.slice pfy ((fs.getD k aAm).sub.length) capfy]) hk aDq rfl (hm.cells_blk (i:=2) rfl rfl)) hm fun a hk=>?_
    refine aAh (i:=1) rfl rfl rfl (by kernel_rfl) (fun _ _ _ h=>h) hk rfl (fun w hm=>aA6 hk rfl) hm fun a hk=>?_
    refine aAh (i:=2) rfl rfl rfl (by kernel_rfl) (fun _ _ _ h=>h) hk rfl (fun w hm=>aA6 hk rfl) hm fun a hk=>?_
    refine aAh (i:=3) rfl rfl rfl (by kernel_rfl) (fun _ _ _ h=>h) hk rfl (fun w hm=>aBq (cs:=[.int .i64 ((t.at_ k).n),.slice psa1 ((t.at_ k).s.length) capsa1,.bool ((t.at_ k).z),.slice pa1 ((t.at_ k).l.length) capa1,.slice pua1 ((t.at_ k).u.length) capua1]) hk aBF rfl (hm.cells_blk (i:=0) rfl rfl)) hm fun a hk=>?_
    refine aAh (i:=4) rfl rfl rfl (by kernel_rfl) (fun _ _ _ h=>h) hk rfl (fun w hm=>rF0 hk aDB rfl) hm fun a hk=>?_
    refine aAh (i:=5) rfl rfl rfl (by kernel_rfl) (fun _ _ _ h=>h) hk rfl (fun w hm=>aAL hk aIw rfl (hm.cell_blk (i:=7) rfl rfl)) hm fun a hk=>?_
    refine aAt (k:=6) (by kernel_rfl) rfl rfl ?_
    refine oM0 hk rfl rfl fun a hk=>?_
    refine aAb (cT0 ⟨fun _=>hm,?_⟩)
    refine aAt (k:=7) (by kernel_rfl) rfl rfl ?_
    refine oI0 (j:=k) (b:=blz) (off:=offz) hk aGn aBF (by rw[← hplz];rfl) rfl hltz rfl fun a hk=>?_
    refine aAb (cT0 ⟨fun _=>hm,?_⟩)
    refine aAt (k:=8) (by kernel_rfl) rfl rfl ?_
    refine aAM (cs:=[.int .i64 ((g.l.getD k T.nil).n),.slice psz ((g.l.getD k T.nil).s.length) capsz,.bool ((g.l.getD k T.nil).z),.slice pz ((g.l.getD k T.nil).l.length) capz,.slice puz ((g.l.getD k T.nil).u.length) capuz]) hk aBF rfl (hm.cells_cel (i:=3) (k:=0) rfl rfl) rfl fun a hk=>?_
    refine aAb (cT0 ⟨fun _=>hm,?_⟩)
    refine aAt (k:=9) (by kernel_rfl) rfl rfl ?_
    refine aAk hk aYZ (hF (fs.getD k aAm) (aC9 hlt) V flex (hm.rep (i:=6) rfl) (hm.rep (i:=1) rfl) (hm.rep (i:=4) rfl) (aIQ hsn k) (aCG hgs.2.2.2 k) (aJJ hgm k)) ⟨rfl,rfl,rfl,rfl,rfl,trivial⟩ rfl fun v w a hR hk=>?_
    obtain⟨hp,rfl⟩:=hR
    have hm:=hm.pure hp
    refine aAb (cT0 ⟨fun _=>hm,?_⟩)
    refine aAt (k:=10) (by kernel_rfl) rfl rfl ?_
    refine aES hk rfl rfl fun a hk=>?_
    refine aAb (cT0 ⟨fun h=>Bool.noConfusion (show true=false from h),?_⟩)
    refine aBh (by kernel_rfl) ?_ _
    refine cT0 ?_
    refine aAA hk rfl (fun hc=>?_) (fun hc=>?_)
    ·refine cR0 ?_
     refine oA0 hk rfl rfl fun a hk=>?_
     refine cE0 ?_
     refine wp_ret ?_
     refine cQ0 ?_
     refine cQ0 ?_
     refine aAE ?_
     refine aA7 ?_
     refine cQ0 ?_
     refine bT0 rfl hk rfl ?_
     exact⟨hm.agr,congrArg Value.bool (aIO hlt (by first|exact (aHJ (by assumption)).trans ((Bool.not_eq_true' _).mp hc)|exact (aHC (by assumption)).trans ((Bool.not_eq_true' _).mp hc)))⟩
    ·refine wp_skip ?_
     refine cT0 ?_
     refine wp_exit ?_
     refine aBd ?_
     refine aD9 ?_
     exact aBb (L':=[(0,.slice p fs.length cap),(1,.int .i64 V),(2,.bool flex),(8,.pointer (some ⟨b1,0,none⟩)),(9,.pointer (some ⟨b2,0,none⟩)),(23,.slice p fs.length cap)]) hk ⟨rfl,rfl,rfl,rfl,rfl,rfl,rfl,rfl,trivial⟩ rfl ⟨rfl,(aAO hI0 (by first|exact (aHJ (by assumption)).trans ((Bool.not_eq_false' _).mp hc)|exact (aHC (by assumption)).trans ((Bool.not_eq_false' _).mp hc))),hm.tail.tail.tail.tail.tail.tail.tail⟩
   ·refine wp_skip ?_
    refine cT0 ?_
    refine wp_seq ?_
    refine aAW (K:=10) mixed hm fun w hm=>?_
    refine aAh (i:=0) rfl rfl rfl (by kernel_rfl) (fun _ _ _ h=>h) hk rfl (fun w hm=>aBq (cs:=[.int .i64 (((fs.getD k aAm).kind:Nat):Int),.int .i64 ((fs.getD k aAm).fr),.int .i64 ((fs.getD k aAm).to),.int .i64 ((fs.getD k aAm).nu),.int .i64 ((fs.getD k aAm).tag),.int .i64 ((fs.getD k aAm).df),.int .i64 (((fs.getD k aAm).of:Nat):Int),.slice pfy ((fs.getD k aAm).sub.length) capfy]) hk aDq rfl (hm.cells_blk (i:=2) rfl rfl)) hm fun a hk=>?_
    refine aAh (i:=2) rfl rfl rfl (by kernel_rfl) (fun _ _ _ h=>h) hk rfl (fun w hm=>rF0 hk aDB rfl) hm fun a hk=>?_
    refine aAh (i:=3) rfl rfl rfl (by kernel_rfl) (fun _ _ _ h=>h) hk rfl (fun w hm=>aAL hk aIw rfl (hm.cell_blk (i:=7) rfl rfl)) hm fun a hk=>?_
    refine aAh (i:=4) rfl rfl rfl (by kernel_rfl) (fun _ _ _ h=>h) hk rfl (fun w hm=>aA6 hk rfl) hm fun a hk=>?_
    refine aAh (i:=5) rfl rfl rfl (by kernel_rfl) (fun _ _ _ h=>h) hk rfl (fun w hm=>aA4 (j:=k) (b:=blz) (off:=offz) hk aGn aBF (by rw[← hplz];rfl) rfl hltz) hm fun a hk=>?_
    refine aAh (i:=6) rfl rfl rfl (by kernel_rfl) (fun _ _ _ h=>h) hk rfl (fun w hm=>aBq (cs:=[.int .i64 ((g.l.getD k T.nil).n),.slice psz ((g.l.getD k T.nil).s.length) capsz,.bool ((g.l.getD k T.nil).z),.slice pz ((g.l.getD k T.nil).l.length) capz,.slice puz ((g.l.getD k T.nil).u.length) capuz]) hk aBF rfl (hm.cells_cel (i:=3) (k:=0) rfl rfl)) hm fun a hk=>?_
    refine aWp (k:=1) (k2:=7) (by kernel_rfl) rfl rfl rfl rfl ?_ ?_
    ·refine aAP (r:=[.int .i64 (((fs.getD k aAm).kind:Nat):Int),.int .i64 ((fs.getD k aAm).fr),.int .i64 ((fs.getD k aAm).to),.int .i64 ((fs.getD k aAm).nu),.int .i64 ((fs.getD k aAm).tag),.int .i64 ((fs.getD k aAm).df),.int .i64 (((fs.getD k aAm).of:Nat):Int),.slice pfy ((fs.getD k aAm).sub.length) capfy]) hk hm aI6 aBm rfl rfl rfl ⟨_,_,_,rfl,rfl,rfl,rfl,rfl⟩ rfl fun a b11 w hk hm=>?_
     refine aAb (cT0 ⟨fun _=>hm.tail,?_⟩)
     refine aAt (k:=7) (by kernel_rfl) rfl rfl ?_
     refine aAP (r:=[.int .i64 ((g.l.getD k T.nil).n),.slice psz ((g.l.getD k T.nil).s.length) capsz,.bool ((g.l.getD k T.nil).z),.slice pz ((g.l.getD k T.nil).l.length) capz,.slice puz ((g.l.getD k T.nil).u.length) capuz]) hk hm aVB aLn rfl rfl rfl ⟨_,_,_,rfl,rfl,rfl,rfl,rfl⟩ rfl fun a b12 w hk hm=>?_
     refine aAb (cT0 ⟨fun _=>hm.tail.tail,?_⟩)
     refine aAt (k:=8) (by kernel_rfl) rfl rfl ?_
     refine aAJ (r:=[.int .i64 0,.slice none 0 0,.bool false,.slice (some ⟨b12,0,none⟩) 1 1,.slice none 0 0]) hk aLn rfl aQd ⟨_,_,_,rfl,rfl,aQ8,rfl,rfl⟩ rfl fun a hk=>?_
     refine aAb (cT0 ⟨fun _=>hm.tail.tail,?_⟩)
     refine aAt (k:=9) (by kernel_rfl) rfl rfl ?_
     have hm:=hm.freezeLit (i:=1) (n:=1) (sz:=8) (l:=[(fs.getD k aAm)].map aBg) rfl id rfl rfl (by decide) (show aBf _ _ 8 [aBg (fs.getD k aAm)] _ from aBf.consC (c1:=[.int .i64 (((fs.getD k aAm).kind:Nat):Int),.int .i64 ((fs.getD k aAm).fr),.int .i64 ((fs.getD k aAm).to),.int .i64 ((fs.getD k aAm).nu),.int .i64 ((fs.getD k aAm).tag),.int .i64 ((fs.getD k aAm).df),.int .i64 (((fs.getD k aAm).of:Nat):Int),.slice pfy ((fs.getD k aAm).sub.length) capfy]) rfl (hm.rep (i:=8) rfl) (aBf.nil _ _ _))
     have hm:=hm.freezeLit (i:=0) (n:=1) (sz:=5) (l:=[(g.l.getD k T.nil)].map ddT) rfl id rfl rfl (by decide) (show aBf _ _ 5 [ddT (g.l.getD k T.nil)] _ from aBf.consC (c1:=[.int .i64 ((g.l.getD k T.nil).n),.slice psz ((g.l.getD k T.nil).s.length) capsz,.bool ((g.l.getD k T.nil).z),.slice pz ((g.l.getD k T.nil).l.length) capz,.slice puz ((g.l.getD k T.nil).u.length) capuz]) rfl (hm.rep (i:=6) rfl) (aBf.nil _ _ _))
     refine aAk hk aQu (hU (fs.getD k aAm) (aC9 hlt) (t:=.mk 0 [] false [(g.l.getD k T.nil)] []) (hm.rep (i:=1) rfl) (aC8 (t:=.mk 0 [] false [(g.l.getD k T.nil)] []) (by simp[Rep,aDJ,T.s]) (hm.rep (i:=0) rfl) (by simp[Rep,aBR,T.u])) (aGH (by simp) (by simp) (by simp) (by simp) (by intro x hx;rw[List.mem_singleton.1 hx];exact aCG hgs.2.2.2 k))) ⟨rfl,rfl,trivial⟩ rfl fun v w a hR hk=>?_
     obtain⟨hp,rfl⟩:=hR
     have hm:=hm.pure hp
     rw[show ((T.mk 0 [] false [(g.l.getD k T.nil)] []).u.isEmpty&&aIS [(fs.getD k aAm)] (T.mk 0 [] false [(g.l.getD k T.nil)] []).l 0)=aFd (fs.getD k aAm) (g.l.getD k T.nil) from aLM] at hk
     refine aAb (cT0 ⟨fun _=>hm.tail.tail,?_⟩)
     refine aAt (k:=10) (by kernel_rfl) rfl rfl ?_
     refine aES hk rfl rfl fun a hk=>?_
     refine aAb (cT0 ⟨fun h=>Bool.noConfusion (show true=false from h),?_⟩)
     refine aBh (by kernel_rfl) ?_ _
     refine cT0 ?_
     refine aAA hk rfl (fun hc=>?_) (fun hc=>?_)
     ·refine cR0 ?_
      refine oA0 hk rfl rfl fun a hk=>?_
      refine cE0 ?_
      refine wp_ret ?_
      refine aAE ?_
      refine aA7 ?_
      refine cQ0 ?_
      refine bT0 rfl hk rfl ?_
      exact⟨hm.agr,congrArg Value.bool (aIO hlt (by first|exact (aHJ (by assumption)).trans ((Bool.not_eq_true' _).mp hc)|exact (aHC (by assumption)).trans ((Bool.not_eq_true' _).mp hc)))⟩
     ·refine wp_skip ?_
      refine cN0 ?_
      exact aBb (L':=[(0,.slice p fs.length cap),(1,.int .i64 V),(2,.bool flex),(8,.pointer (some ⟨b1,0,none⟩)),(9,.pointer (some ⟨b2,0,none⟩)),(23,.slice p fs.length cap)]) hk ⟨rfl,rfl,rfl,rfl,rfl,rfl,rfl,rfl,trivial⟩ rfl ⟨rfl,(aAO hI0 (by first|exact (aHJ (by assumption)).trans ((Bool.not_eq_false' _).mp hc)|exact (aHC (by assumption)).trans ((Bool.not_eq_false' _).mp hc))),hm.tail.tail.tail.tail.tail.tail.tail.tail.tail⟩
    ·refine aAP (r:=[.int .i64 ((g.l.getD k T.nil).n),.slice psz ((g.l.getD k T.nil).s.length) capsz,.bool ((g.l.getD k T.nil).z),.slice pz ((g.l.getD k T.nil).l.length) capz,.slice puz ((g.l.getD k T.nil).u.length) capuz]) hk hm aVB aLn rfl rfl rfl ⟨_,_,_,rfl,rfl,rfl,rfl,rfl⟩ rfl fun a b13 w hk hm=>?_
     refine aAb (cT0 ⟨fun _=>hm.tail,?_⟩)
     refine aWp (k:=1) (k2:=8) (by kernel_rfl) rfl rfl rfl rfl ?_ ?_
     ·refine aAP (r:=[.int .i64 (((fs.getD k aAm).kind:Nat):Int),.int .i64 ((fs.getD k aAm).fr),.int .i64 ((fs.getD k aAm).to),.int .i64 ((fs.getD k aAm).nu),.int .i64 ((fs.getD k aAm).tag),.int .i64 ((fs.getD k aAm).df),.int .i64 (((fs.getD k aAm).of:Nat):Int),.slice pfy ((fs.getD k aAm).sub.length) capfy]) hk hm aI6 aBm rfl rfl rfl ⟨_,_,_,rfl,rfl,rfl,rfl,rfl⟩ rfl fun a b14 w hk hm=>?_
      refine aAb (cT0 ⟨fun _=>hm.tail.tail,?_⟩)
      refine aAt (k:=8) (by kernel_rfl) rfl rfl ?_
      refine aAJ (r:=[.int .i64 0,.slice none 0 0,.bool false,.slice (some ⟨b13,0,none⟩) 1 1,.slice none 0 0]) hk aLn rfl aQd ⟨_,_,_,rfl,rfl,aQ8,rfl,rfl⟩ rfl fun a hk=>?_
      refine aAb (cT0 ⟨fun _=>hm.tail.tail,?_⟩)
      refine aAt (k:=9) (by kernel_rfl) rfl rfl ?_
      have hm:=hm.freezeLit (i:=0) (n:=1) (sz:=8) (l:=[(fs.getD k aAm)].map aBg) rfl id rfl rfl (by decide) (show aBf _ _ 8 [aBg (fs.getD k aAm)] _ from aBf.consC (c1:=[.int .i64 (((fs.getD k aAm).kind:Nat):Int),.int .i64 ((fs.getD k aAm).fr),.int .i64 ((fs.getD k aAm).to),.int .i64 ((fs.getD k aAm).nu),.int .i64 ((fs.getD k aAm).tag),.int .i64 ((fs.getD k aAm).df),.int .i64 (((fs.getD k aAm).of:Nat):Int),.slice pfy ((fs.getD k aAm).sub.length) capfy]) rfl (hm.rep (i:=8) rfl) (aBf.nil _ _ _))
      have hm:=hm.freezeLit (i:=1) (n:=1) (sz:=5) (l:=[(g.l.getD k T.nil)].map ddT) rfl id rfl rfl (by decide) (show aBf _ _ 5 [ddT (g.l.getD k T.nil)] _ from aBf.consC (c1:=[.int .i64 ((g.l.getD k T.nil).n),.slice psz ((g.l.getD k T.nil).s.length) capsz,.bool ((g.l.getD k T.nil).z),.slice pz ((g.l.getD k T.nil).l.length) capz,.slice puz ((g.l.getD k T.nil).u.length) capuz]) rfl (hm.rep (i:=6) rfl) (aBf.nil _ _ _))
      refine aAk hk aQu (hU (fs.getD k aAm) (aC9 hlt) (t:=.mk 0 [] false [(g.l.getD k T.nil)] []) (hm.rep (i:=0) rfl) (aC8 (t:=.mk 0 [] false [(g.l.getD k T.nil)] []) (by simp[Rep,aDJ,T.s]) (hm.rep (i:=1) rfl) (by simp[Rep,aBR,T.u])) (aGH (by simp) (by simp) (by simp) (by simp) (by intro x hx;rw[List.mem_singleton.1 hx];exact aCG hgs.2.2.2 k))) ⟨rfl,rfl,trivial⟩ rfl fun v w a hR hk=>?_
      obtain⟨hp,rfl⟩:=hR
      have hm:=hm.pure hp
      rw[show ((T.mk 0 [] false [(g.l.getD k T.nil)] []).u.isEmpty&&aIS [(fs.getD k aAm)] (T.mk 0 [] false [(g.l.getD k T.nil)] []).l 0)=aFd (fs.getD k aAm) (g.l.getD k T.nil) from aLM] at hk
      refine aAb (cT0 ⟨fun _=>hm.tail.tail,?_⟩)
      refine aAt (k:=10) (by kernel_rfl) rfl rfl ?_
      refine aES hk rfl rfl fun a hk=>?_
      refine aAb (cT0 ⟨fun h=>Bool.noConfusion (show true=false from h),?_⟩)
      refine aBh (by kernel_rfl) ?_ _
      refine cT0 ?_
      refine aAA hk rfl (fun hc=>?_) (fun hc=>?_)
      ·refine cR0 ?_
       refine oA0 hk rfl rfl fun a hk=>?_
       refine cE0 ?_
       refine wp_ret ?_
       refine aAE ?_
       refine aA7 ?_
       refine cQ0 ?_
       refine bT0 rfl hk rfl ?_
       exact⟨hm.agr,congrArg Value.bool (aIO hlt (by first|exact (aHJ (by assumption)).trans ((Bool.not_eq_true' _).mp hc)|exact (aHC (by assumption)).trans ((Bool.not_eq_true' _).mp hc)))⟩
      ·refine wp_skip ?_
       refine cN0 ?_
       exact aBb (L':=[(0,.slice p fs.length cap),(1,.int .i64 V),(2,.bool flex),(8,.pointer (some ⟨b1,0,none⟩)),(9,.pointer (some ⟨b2,0,none⟩)),(23,.slice p fs.length cap)]) hk ⟨rfl,rfl,rfl,rfl,rfl,rfl,rfl,rfl,trivial⟩ rfl ⟨rfl,(aAO hI0 (by first|exact (aHJ (by assumption)).trans ((Bool.not_eq_false' _).mp hc)|exact (aHC (by assumption)).trans ((Bool.not_eq_false' _).mp hc))),hm.tail.tail.tail.tail.tail.tail.tail.tail.tail⟩
     ·refine aAJ (r:=[.int .i64 0,.slice none 0 0,.bool false,.slice (some ⟨b13,0,none⟩) 1 1,.slice none 0 0]) hk aLn rfl aQd ⟨_,_,_,rfl,rfl,aQ8,rfl,rfl⟩ rfl fun a hk=>?_
      refine aAb (cT0 ⟨fun _=>hm.tail,?_⟩)
      refine aAt (k:=1) (by kernel_rfl) rfl rfl ?_
      refine aAP (r:=[.int .i64 (((fs.getD k aAm).kind:Nat):Int),.int .i64 ((fs.getD k aAm).fr),.int .i64 ((fs.getD k aAm).to),.int .i64 ((fs.getD k aAm).nu),.int .i64 ((fs.getD k aAm).tag),.int .i64 ((fs.getD k aAm).df),.int .i64 (((fs.getD k aAm).of:Nat):Int),.slice pfy ((fs.getD k aAm).sub.length) capfy]) hk hm aI6 aBm rfl rfl rfl ⟨_,_,_,rfl,rfl,rfl,rfl,rfl⟩ rfl fun a b15 w hk hm=>?_
      refine aAb (cT0 ⟨fun _=>hm.tail.tail,?_⟩)
      refine aAt (k:=9) (by kernel_rfl) rfl rfl ?_
      have hm:=hm.freezeLit (i:=0) (n:=1) (sz:=8) (l:=[(fs.getD k aAm)].map aBg) rfl id rfl rfl (by decide) (show aBf _ _ 8 [aBg (fs.getD k aAm)] _ from aBf.consC (c1:=[.int .i64 (((fs.getD k aAm).kind:Nat):Int),.int .i64 ((fs.getD k aAm).fr),.int .i64 ((fs.getD k aAm).to),.int .i64 ((fs.getD k aAm).nu),.int .i64 ((fs.getD k aAm).tag),.int .i64 ((fs.getD k aAm).df),.int .i64 (((fs.getD k aAm).of:Nat):Int),.slice pfy ((fs.getD k aAm).sub.length) capfy]) rfl (hm.rep (i:=8) rfl) (aBf.nil _ _ _))
      have hm:=hm.freezeLit (i:=1) (n:=1) (sz:=5) (l:=[(g.l.getD k T.nil)].map ddT) rfl id rfl rfl (by decide) (show aBf _ _ 5 [ddT (g.l.getD k T.nil)] _ from aBf.consC (c1:=[.int .i64 ((g.l.getD k T.nil).n),.slice psz ((g.l.getD k T.nil).s.length) capsz,.bool ((g.l.getD k T.nil).z),.slice pz ((g.l.getD k T.nil).l.length) capz,.slice puz ((g.l.getD k T.nil).u.length) capuz]) rfl (hm.rep (i:=6) rfl) (aBf.nil _ _ _))
      refine aAk hk aQu (hU (fs.getD k aAm) (aC9 hlt) (t:=.mk 0 [] false [(g.l.getD k T.nil)] []) (hm.rep (i:=0) rfl) (aC8 (t:=.mk 0 [] false [(g.l.getD k T.nil)] []) (by simp[Rep,aDJ,T.s]) (hm.rep (i:=1) rfl) (by simp[Rep,aBR,T.u])) (aGH (by simp) (by simp) (by simp) (by simp) (by intro x hx;rw[List.mem_singleton.1 hx];exact aCG hgs.2.2.2 k))) ⟨rfl,rfl,trivial⟩ rfl fun v w a hR hk=>?_
      obtain⟨hp,rfl⟩:=hR
      have hm:=hm.pure hp
      rw[show ((T.mk 0 [] false [(g.l.getD k T.nil)] []).u.isEmpty&&aIS [(fs.getD k aAm)] (T.mk 0 [] false [(g.l.getD k T.nil)] []).l 0)=aFd (fs.getD k aAm) (g.l.getD k T.nil) from aLM] at hk
      refine aAb (cT0 ⟨fun _=>hm.tail.tail,?_⟩)
      refine aAt (k:=10) (by kernel_rfl) rfl rfl ?_
      refine aES hk rfl rfl fun a hk=>?_
      refine aAb (cT0 ⟨fun h=>Bool.noConfusion (show true=false from h),?_⟩)
      refine aBh (by kernel_rfl) ?_ _
      refine cT0 ?_
      refine aAA hk rfl (fun hc=>?_) (fun hc=>?_)
      ·refine cR0 ?_
       refine oA0 hk rfl rfl fun a hk=>?_
       refine cE0 ?_
       refine wp_ret ?_
       refine aAE ?_
       refine aA7 ?_
       refine cQ0 ?_
       refine bT0 rfl hk rfl ?_
       exact⟨hm.agr,congrArg Value.bool (aIO hlt (by first|exact (aHJ (by assumption)).trans ((Bool.not_eq_true' _).mp hc)|exact (aHC (by assumption)).trans ((Bool.not_eq_true' _).mp hc)))⟩
      ·refine wp_skip ?_
       refine cN0 ?_
       exact aBb (L':=[(0,.slice p fs.length cap),(1,.int .i64 V),(2,.bool flex),(8,.pointer (some ⟨b1,0,none⟩)),(9,.pointer (some ⟨b2,0,none⟩)),(23,.slice p fs.length cap)]) hk ⟨rfl,rfl,rfl,rfl,rfl,rfl,rfl,rfl,trivial⟩ rfl ⟨rfl,(aAO hI0 (by first|exact (aHJ (by assumption)).trans ((Bool.not_eq_false' _).mp hc)|exact (aHC (by assumption)).trans ((Bool.not_eq_false' _).mp hc))),hm.tail.tail.tail.tail.tail.tail.tail.tail.tail⟩
  ·obtain⟨rfl,hI0,hm⟩:=hR
   have hall:=hI0
   refine cT0 ?_
   refine cR0 ?_
   refine oM0 hk rfl rfl fun a hk=>?_
   refine oF0 hk aGC rfl rfl fun a hk=>?_
   refine aAq hk aL7 rfl (hm.cell_blk (i:=1) rfl rfl) rfl fun a hk=>?_
   refine aAk hk aW1 (aLf (hm.rep (i:=2) rfl) (aKl (hm.rep (i:=3) rfl)) (by omega) hok) ⟨rfl,rfl,trivial⟩ rfl fun v w a hR hk=>?_
   obtain⟨hp,puu,cuu,rfl,hR⟩:=hR
   have hm:=hm.result hp hR
   refine oA0 hk rfl rfl fun a hk=>?_
   refine cE0 ?_
   refine wp_seq ?_
   refine cR0 ?_
   refine oM0 hk rfl rfl fun a hk=>?_
   refine aES hk rfl rfl fun a hk=>?_
   refine cE0 ?_
   refine aAA hk rfl (fun hc=>?_) (fun hc=>?_)
   ·have hL:tgL fs flex t=[]:=by unfold tgL;rw[if_neg (by simpa using hc)]
    refine aC2 ?_
    refine oA0 hk rfl rfl fun a hk=>?_
    refine aAb ?_
    refine cT0 ?_
    refine wp_seq ?_
    refine cR0 ?_
    refine oF0 hk aGC rfl rfl fun a hk=>?_
    refine aAq hk aL7 rfl (hm.cell_blk (i:=1) rfl rfl) rfl fun a hk=>?_
    refine oL0 hk aE0 rfl rfl fun a hk=>?_
    refine oM0 hk rfl rfl fun a hk=>?_
    refine oL0 hk aE0 rfl rfl fun a hk=>?_
    refine aAx hk rfl rfl rfl rfl fun a hk=>?_
    refine cE0 ?_
    refine aAA hk rfl (fun hc=>?_) (fun hc=>?_)
    ·refine cR0 ?_
     refine oA0 hk rfl rfl fun a hk=>?_
     refine cE0 ?_
     refine wp_ret ?_
     refine cQ0 ?_
     refine bT0 rfl hk rfl ?_
     first|exact⟨hm.agr,congrArg Value.bool (aLt (by rw[hL];first|exact hc|simpa using hc))⟩|exact⟨hm.agr,congrArg Value.bool (aNc hc)⟩
    ·refine wp_skip ?_
     refine cT0 ?_
     refine wp_seq ?_
     refine cR0 ?_
     refine oM0 hk rfl rfl fun a hk=>?_
     refine oL0 hk aE0 rfl rfl fun a hk=>?_
     refine oM0 hk rfl rfl fun a hk=>?_
     refine cE0 ?_
     have hg0:(((g.u.length:Nat):Int) != (((tgL fs flex t).length:Nat):Int))=false:=by rw[hL];simpa using hc
     have hall2:(List.range (tgL fs flex t).length).all (aTs (tgL fs flex t) g)=true:=by rw[hL];rfl
     refine aCF (L0:=[]) (N:=0) (by omega) (fun _ L w=>L=[]∧Mem w0 Nob Y [.rep (aBR (aAo fs t.u)) [.slice puu ((aAo fs t.u).length) cuu],.blk b2 [.int .i64 g.n,.slice psg g.s.length capsg,.bool g.z,.slice pg g.l.length capg,.slice pug g.u.length capug] 26,.blk b1 [.int .i64 t.n,.slice pst t.s.length capst,.bool t.z,.slice pt t.l.length capt,.slice put t.u.length caput] 26,.rep (.sl false 8 (fs.map aBg)) [.slice p fs.length cap],.rep (ddT t) [.int .i64 t.n,.slice pst t.s.length capst,.bool t.z,.slice pt t.l.length capt,.slice put t.u.length caput],.rep (ddT g) [.int .i64 g.n,.slice psg g.s.length capsg,.bool g.z,.slice pg g.l.length capg,.slice pug g.u.length capug]] w) (hk.sub ⟨rfl,rfl,trivial⟩) ⟨rfl,hm⟩ rfl rfl rfl rfl rfl rfl rfl (fun k L a w hlt hR hk=>absurd hlt (by omega)) rfl (fun L a w hR hk=>?_)
     obtain⟨rfl,hm⟩:=hR
     refine cT0 ?_
     refine cR0 ?_
     refine oA0 hk rfl rfl fun a hk=>?_
     refine cE0 ?_
     refine wp_ret ?_
     refine bT0 rfl hk rfl ?_
     exact⟨hm.agr,congrArg Value.bool (aTZ hl0 hall hg0 hall2)⟩
   ·have hL:tgL fs flex t=aAo fs t.u:=by unfold tgL;rw[if_pos (by simpa using hc)]
    refine wp_skip ?_
    refine cT0 ?_
    refine wp_seq ?_
    refine cR0 ?_
    refine oF0 hk aGC rfl rfl fun a hk=>?_
    refine aAq hk aL7 rfl (hm.cell_blk (i:=1) rfl rfl) rfl fun a hk=>?_
    refine oL0 hk aE0 rfl rfl fun a hk=>?_
    refine oM0 hk rfl rfl fun a hk=>?_
    refine oL0 hk aE0 rfl rfl fun a hk=>?_
    refine aAx hk rfl rfl rfl rfl fun a hk=>?_
    refine cE0 ?_
    refine aAA hk rfl (fun hc=>?_) (fun hc=>?_)
    ·refine cR0 ?_
     refine oA0 hk rfl rfl fun a hk=>?_
     refine cE0 ?_
     refine wp_ret ?_
     refine cQ0 ?_
     refine bT0 rfl hk rfl ?_
     first|exact⟨hm.agr,congrArg Value.bool (aLt (by rw[hL];first|exact hc|simpa using hc))⟩|exact⟨hm.agr,congrArg Value.bool (aNc hc)⟩
    ·refine wp_skip ?_
     refine cT0 ?_
     refine wp_seq ?_
     refine cR0 ?_
     refine oM0 hk rfl rfl fun a hk=>?_
     refine oL0 hk aE0 rfl rfl fun a hk=>?_
     refine oM0 hk rfl rfl fun a hk=>?_
     refine cE0 ?_
     have hulen:g.u.length=(aAo fs t.u).length:=by have:=bne_eq_false_iff_eq.1 hc;omega
     have hg0:(((g.u.length:Nat):Int) != (((tgL fs flex t).length:Nat):Int))=false:=by rw[hL];exact hc
     refine aCF (L0:=[(9,.pointer (some ⟨b2,0,none⟩)),(90,.slice puu ((aAo fs t.u).length) cuu)]) (N:=(aAo fs t.u).length) (by omega) (fun k L w=>L=[(9,.pointer (some ⟨b2,0,none⟩)),(90,.slice puu ((aAo fs t.u).length) cuu)]∧(List.range k).all (aTs (aAo fs t.u) g)=true∧Mem w0 Nob Y [.rep (aBR (aAo fs t.u)) [.slice puu ((aAo fs t.u).length) cuu],.blk b2 [.int .i64 g.n,.slice psg g.s.length capsg,.bool g.z,.slice pg g.l.length capg,.slice pug g.u.length capug] 26,.blk b1 [.int .i64 t.n,.slice pst t.s.length capst,.bool t.z,.slice pt t.l.length capt,.slice put t.u.length caput] 26,.rep (.sl false 8 (fs.map aBg)) [.slice p fs.length cap],.rep (ddT t) [.int .i64 t.n,.slice pst t.s.length capst,.bool t.z,.slice pt t.l.length capt,.slice put t.u.length caput],.rep (ddT g) [.int .i64 g.n,.slice psg g.s.length capsg,.bool g.z,.slice pg g.l.length capg,.slice pug g.u.length capug]] w) (hk.sub ⟨rfl,rfl,rfl,rfl,trivial⟩) ⟨rfl,rfl,hm⟩ rfl rfl rfl rfl rfl rfl rfl (fun k L a w hlt hR hk=>?_) rfl (fun L a w hR hk=>?_)
     ·obtain⟨rfl,hI0,hm⟩:=hR
      obtain⟨hltq,blq,offq,eq,hplq,helq,hReq,hCeq⟩:=aBa (hm.rep (i:=0) rfl) (aBw aBT (aAo fs t.u) k (0,[]) hlt)
      obtain⟨ptq,captq,rfl,-⟩:=aG4 hReq
      have hm:=hm.add (e:=.rep (aBT ((aAo fs t.u).getD k (0,[]))) [.int .u32 ((((aAo fs t.u).getD k (0,[])).1:Nat):Int),.slice ptq (((aAo fs t.u).getD k (0,[])).2.length) captq]) rfl hReq
      have hm:=hm.add (e:=.cel blq (offq+k*2) [.int .u32 ((((aAo fs t.u).getD k (0,[])).1:Nat):Int),.slice ptq (((aAo fs t.u).getD k (0,[])).2.length) captq]) rfl hCeq
      have hltu:k<g.u.length:=by omega
      obtain⟨hltr,blr,offr,er,hplr,helr,hRer,hCer⟩:=aBa (aKl (hm.rep (i:=7) rfl)) (aBw aBT g.u k (0,[]) hltu)
      obtain⟨ptr,captr,rfl,-⟩:=aG4 hRer
      have hm:=hm.add (e:=.rep (aBT (g.u.getD k (0,[]))) [.int .u32 (((g.u.getD k (0,[])).1:Nat):Int),.slice ptr ((g.u.getD k (0,[])).2.length) captr]) rfl hRer
      have hm:=hm.add (e:=.cel blr (offr+k*2) [.int .u32 (((g.u.getD k (0,[])).1:Nat):Int),.slice ptr ((g.u.getD k (0,[])).2.length) captr]) rfl hCer
      refine cR0 ?_
      refine oM0 hk rfl rfl fun a hk=>?_
      refine oI0 (j:=k) (b:=blq) (off:=offq) hk aE0 aGA (by rw[← hplq];rfl) rfl hltq rfl fun a hk=>?_
      refine aAM (cs:=[.int .u32 ((((aAo fs t.u).getD k (0,[])).1:Nat):Int),.slice ptq (((aAo fs t.u).getD k (0,[])).2.length) captq]) hk aGA rfl (hm.cells_cel (i:=2) (k:=0) rfl rfl) rfl fun a hk=>?_
      refine aA5 hk hm aPR rfl rfl fun a b16 w hk hm=>?_
      refine oA0 hk rfl rfl fun a hk=>?_
      refine aAz (i:=0) hk hm aGA rfl rfl rfl rfl rfl rfl (Nat.le_of_ble_eq_true rfl) fun a w hk hm=>?_
      refine cE0 ?_
      refine wp_seq ?_
      refine aAW (K:=21) mixed hm fun w hm=>?_
      refine aAh (i:=0) rfl rfl rfl (by kernel_rfl) (fun _ _ _ h=>h) hk rfl (fun w hm=>rF0 hk aGC rfl) hm fun a hk=>?_
      refine aAh (i:=1) rfl rfl rfl (by kernel_rfl) (fun _ _ _ h=>h) hk rfl (fun w hm=>aAL hk aL7 rfl (hm.cell_blk (i:=6) rfl rfl)) hm fun a hk=>?_
      refine aAh (i:=2) rfl rfl rfl (by kernel_rfl) (fun _ _ _ h=>h) hk rfl (fun w hm=>aA6 hk rfl) hm fun a hk=>?_
      refine aAh (i:=3) rfl rfl rfl (by kernel_rfl) (fun _ _ _ h=>h) hk rfl (fun w hm=>aA4 (j:=k) (b:=blr) (off:=offr) hk aE0 aGA (by rw[← hplr];rfl) rfl hltr) hm fun a hk=>?_
      refine aAh (i:=4) rfl rfl rfl (by kernel_rfl) (fun _ _ _ h=>h) hk rfl (fun w hm=>rF0 hk aJi rfl) hm fun a hk=>?_
      refine aAh (i:=5) rfl rfl rfl (by kernel_rfl) (fun _ _ _ h=>h) hk rfl (fun w hm=>aAL hk aLv rfl (hm.cell_cel (i:=1) (j:=0) rfl rfl)) hm fun a hk=>?_
      refine aAt (k:=6) (by kernel_rfl) rfl rfl ?_
      refine oF0 hk aJi rfl rfl fun a hk=>?_
      refine aAb (cT0 ⟨fun _=>hm,?_⟩)
      refine aAt (k:=7) (by kernel_rfl) rfl rfl ?_
      refine aAq hk aLv rfl (hm.cell_blk (i:=0) rfl rfl) rfl fun a hk=>?_
      refine aAb (cT0 ⟨fun _=>hm,?_⟩)
      refine aAt (k:=8) (by kernel_rfl) rfl rfl ?_
      refine aAx hk rfl rfl rfl rfl fun a hk=>?_
      refine aAb (cT0 ⟨fun _=>hm,?_⟩)
      refine aAt (k:=9) (by kernel_rfl) rfl rfl ?_
      refine oM0 hk rfl rfl fun a hk=>?_
      refine aAb (cT0 ⟨fun _=>hm,?_⟩)
      rcases Bool.eq_false_or_eq_true ((((((g.u.getD k (0,[])).1:Nat):Int):Int) != ((((aAo fs t.u).getD k (0,[])).1:Nat):Int))) with hb17|hb17
      ·rw[hb17] at hk
       refine aBQ (i:=10) rfl ⟨_,_,_,_,rfl,rfl,rfl,aB0⟩ rfl (by kernel_rfl) (fun _ _ _ h=>h) hk rfl hm fun a hk=>?_
       refine aBQ (i:=11) rfl ⟨_,_,_,_,rfl,rfl,rfl,aB0⟩ rfl (by kernel_rfl) (fun _ _ _ h=>h) hk rfl hm fun a hk=>?_
       refine aBQ (i:=12) rfl ⟨_,_,_,_,rfl,rfl,rfl,aB0⟩ rfl (by kernel_rfl) (fun _ _ _ h=>h) hk rfl hm fun a hk=>?_
       refine aBQ (i:=13) rfl ⟨_,_,_,_,rfl,rfl,rfl,aB0⟩ rfl (by kernel_rfl) (fun _ _ _ h=>h) hk rfl hm fun a hk=>?_
       refine aBQ (i:=14) rfl ⟨_,_,_,_,rfl,rfl,rfl,aB0⟩ rfl (by kernel_rfl) (fun _ _ _ h=>h) hk rfl hm fun a hk=>?_
       refine aBQ (i:=15) rfl ⟨_,_,_,_,rfl,rfl,rfl,aB0⟩ rfl (by kernel_rfl) (fun _ _ _ h=>h) hk rfl hm fun a hk=>?_
       refine aCU (k:=16) (by kernel_rfl) rfl hk ⟨_,_,_,_,rfl,rfl,rfl,aB0⟩ rfl rfl hm fun a hk=>?_
       refine aCU (k:=17) (by kernel_rfl) rfl hk ⟨_,_,_,_,rfl,rfl,rfl,aB0⟩ rfl rfl hm fun a hk=>?_
       refine aCU (k:=18) (by kernel_rfl) rfl hk ⟨_,_,_,_,rfl,rfl,rfl,aB0⟩ rfl rfl hm fun a hk=>?_
       refine aCU (k:=19) (by kernel_rfl) rfl hk ⟨_,_,_,_,rfl,rfl,rfl,aB0⟩ rfl rfl hm fun a hk=>?_
       refine aCU (k:=20) (by kernel_rfl) rfl hk ⟨_,_,_,_,rfl,rfl,rfl,aB0⟩ rfl rfl hm fun a hk=>?_
       refine aAt (k:=21) (by kernel_rfl) rfl rfl ?_
       refine aAI hk rfl rfl rfl rfl rfl fun a hk=>?_
       refine aAb (cT0 ⟨fun h=>Bool.noConfusion (show true=false from h),?_⟩)
       refine aBh (by kernel_rfl) ?_ _
       refine cT0 ?_
       refine aEm hk rfl ?_
       refine cR0 ?_
       refine oA0 hk rfl rfl fun a hk=>?_
       refine cE0 ?_
       refine wp_ret ?_
       refine aAE ?_
       refine aA7 ?_
       refine cQ0 ?_
       refine bT0 rfl hk rfl ?_
       exact⟨hm.agr,congrArg Value.bool (aNK (k:=k) (by rw[hL];exact hlt) (by rw[hL];first|exact aP0 (by assumption)|exact aPr (by assumption)))⟩
      ·rw[hb17] at hk
       refine aAX (i:=10) rfl ⟨_,_,_,rfl,rfl,rfl⟩ rfl (by kernel_rfl) (fun _ _ _ h=>h) hk rfl (fun w hm=>rF0 hk aGC rfl) hm fun a hk=>?_
       refine aAX (i:=11) rfl ⟨_,_,_,rfl,rfl,rfl⟩ rfl (by kernel_rfl) (fun _ _ _ h=>h) hk rfl (fun w hm=>aAL hk aL7 rfl (hm.cell_blk (i:=6) rfl rfl)) hm fun a hk=>?_
       refine aAX (i:=12) rfl ⟨_,_,_,rfl,rfl,rfl⟩ rfl (by kernel_rfl) (fun _ _ _ h=>h) hk rfl (fun w hm=>aA6 hk rfl) hm fun a hk=>?_
       refine aAX (i:=13) rfl ⟨_,_,_,rfl,rfl,rfl⟩ rfl (by kernel_rfl) (fun _ _ _ h=>h) hk rfl (fun w hm=>aA4 (j:=k) (b:=blr) (off:=offr) hk aE0 aGA (by rw[← hplr];rfl) rfl hltr) hm fun a hk=>?_
       refine aAX (i:=14) rfl ⟨_,_,_,rfl,rfl,rfl⟩ rfl (by kernel_rfl) (fun _ _ _ h=>h) hk rfl (fun w hm=>rF0 hk aON rfl) hm fun a hk=>?_
       refine aAX (i:=15) rfl ⟨_,_,_,rfl,rfl,rfl⟩ rfl (by kernel_rfl) (fun _ _ _ h=>h) hk rfl (fun w hm=>aAL hk aBy rfl (hm.cell_cel (i:=1) (j:=1) rfl rfl)) hm fun a hk=>?_
       refine aBU (k:=16) (by kernel_rfl) rfl hk ⟨_,_,_,rfl,rfl,rfl⟩ rfl ?_
       refine oF0 hk aON rfl rfl fun a hk=>?_
       refine aAb (cT0 ⟨fun _=>hm,?_⟩)
       refine aBU (k:=17) (by kernel_rfl) rfl hk ⟨_,_,_,rfl,rfl,rfl⟩ rfl ?_
       refine aAq hk aBy rfl (hm.cell_blk (i:=0) rfl rfl) rfl fun a hk=>?_
       refine aAb (cT0 ⟨fun _=>hm,?_⟩)
       refine aBU (k:=18) (by kernel_rfl) rfl hk ⟨_,_,_,rfl,rfl,rfl⟩ rfl ?_
       refine aAk hk aSE (aLu (aOS (hm.rep (i:=4) rfl))) ⟨rfl,trivial⟩ rfl fun v w a hR hk=>?_
       obtain⟨hp,rfl,hR⟩:=hR
       have hm:=hm.result hp hR
       have hwl:=aBG (((aAo fs t.u).getD k (0,[])).2)
       refine aAb (cT0 ⟨fun _=>hm.tail,?_⟩)
       refine aBU (k:=19) (by kernel_rfl) rfl hk ⟨_,_,_,rfl,rfl,rfl⟩ rfl ?_
       refine aAk hk aPY (aLQ (aOS (hm.rep (i:=3) rfl)) (hm.rep (i:=0) rfl) (by have:=hus k;omega)) ⟨rfl,rfl,trivial⟩ rfl fun v w a hR hk=>?_
       obtain⟨hp,rfl⟩:=hR
       have hm:=hm.pure hp
       refine aAb (cT0 ⟨fun _=>hm.tail,?_⟩)
       refine aBU (k:=20) (by kernel_rfl) rfl hk ⟨_,_,_,rfl,rfl,rfl⟩ rfl ?_
       refine aES hk rfl rfl fun a hk=>?_
       refine aAb (cT0 ⟨fun _=>hm.tail,?_⟩)
       refine aAt (k:=21) (by kernel_rfl) rfl rfl ?_
       refine aAI hk rfl rfl rfl rfl rfl fun a hk=>?_
       refine aAb (cT0 ⟨fun h=>Bool.noConfusion (show true=false from h),?_⟩)
       refine aBh (by kernel_rfl) ?_ _
       refine cT0 ?_
       refine aAA hk rfl (fun hc=>?_) (fun hc=>?_)
       ·refine cR0 ?_
        refine oA0 hk rfl rfl fun a hk=>?_
        refine cE0 ?_
        refine wp_ret ?_
        refine aAE ?_
        refine aA7 ?_
        refine cQ0 ?_
        refine bT0 rfl hk rfl ?_
        exact⟨hm.agr,congrArg Value.bool (aNK (k:=k) (by rw[hL];exact hlt) (by rw[hL];first|exact aP0 (by assumption)|exact aPr (by assumption)))⟩
       ·refine wp_skip ?_
        refine cN0 ?_
        exact aBb (L':=[(9,.pointer (some ⟨b2,0,none⟩)),(90,.slice puu ((aAo fs t.u).length) cuu)]) hk ⟨rfl,rfl,rfl,rfl,trivial⟩ rfl ⟨rfl,(aAO hI0 (aYc (by assumption) (by assumption))),hm.tail.tail.tail.tail.tail.tail⟩
     ·obtain⟨rfl,hI0,hm⟩:=hR
      have hall2:(List.range (tgL fs flex t).length).all (aTs (tgL fs flex t) g)=true:=by rw[hL];exact hI0
      refine cT0 ?_
      refine cR0 ?_
      refine oA0 hk rfl rfl fun a hk=>?_
      refine cE0 ?_
      refine wp_ret ?_
      refine bT0 rfl hk rfl ?_
      exact⟨hm.agr,congrArg Value.bool (aTZ hl0 hall hg0 hall2)⟩
theorem aUW {fs:List Fld}(hF:∀ f ∈ fs,aN6 f)(hU:∀ f ∈ fs,aY9 [f])(hUs:∀ f ∈ fs,aNe f)(hok:aIt fs=true)(hlen:fs.length≤1000):aVy fs :=
 fun V flex hFs hT hG hsn hgn hgm=>aUd hF hU hUs hok hlen V flex hFs hT hG hsn hgn hgm
theorem aUA {fs:List Fld}(h:aFa fs=true):∀ f ∈ fs,aY9 [f]:=fun f hf=>bBd (fs:=[f]) (by simp only[aFa,Bool.and_true];exact aBC h f hf) (by simp)
theorem aPW {fs:List Fld}(h:aFa fs=true):∀ f ∈ fs,aNe f:=fun f hf=>aQQ f (aBC h f hf)
theorem aYF:∀ f:Fld,aKh f=true→aN6 f:=aEW fun f ih h=>by
 have ht:=aDT h
 have hP:aVy f.sub:=aUW (fun g hg=>ih g hg (aBC ht.2.2.2.2 g hg)) (aUA ht.2.2.2.2) (aPW ht.2.2.2.2) (aIm ht.2.2.2.2) ht.2.2.2.1
 have hone:f.kind=11→aN6 (aKI f):=fun _=>@aPI (aKI f) hP (fun h11=>by
  have h2:f.of=11:=h11
  have:=ht.2.1
  omega) ht.2.1
 exact @aPI f hP hone ht.2.1
theorem aRA {fs:List Fld}(h:aFa fs=true)(hl:fs.length≤1000):aVy fs:=aUW (fun f hf=>aYF f (aBC h f hf)) (aUA h) (aPW h) (aIm h) hl
end Go.Proofs.YtipgdlbbmlnfiaaGreatDoor
