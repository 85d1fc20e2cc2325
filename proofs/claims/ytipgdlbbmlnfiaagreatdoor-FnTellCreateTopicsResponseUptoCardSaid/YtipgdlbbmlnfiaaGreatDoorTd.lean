/- Walks of functions that the seat's laws reach. -/
import Derived.Test.YtipgdlbbmlnfiaaGreatDoorL5
import Derived.Test.YtipgdlbbmlnfiaaGreatDoorRows
import Derived.Test.YtipgdlbbmlnfiaaGreatDoorFa
import Derived.Test.YtipgdlbbmlnfiaaGreatDoorSe
import Derived.Test.YtipgdlbbmlnfiaaGreatDoorTc
namespace Go.Proofs.YtipgdlbbmlnfiaaGreatDoor
open Go Go.Mk
def aN6 (f:Fld):Prop:=∀ {w0:World} {Y:Nat→Prop} {t g:T} {cf ct cg:List Value} (V:Int) (flex:Bool),Rep w0 Y (aBg f) cf→Rep w0 Y (ddT t) ct→Rep w0 Y (ddT g) cg→t.sane=true→g.sane=true→g.small=true →
 Ret Tryz.prog 37 [.agg cf.toArray,.int .i64 V,.bool flex,.agg ct.toArray,.agg cg.toArray] w0 fun v w'=>Agr Nob w0 w'∧v=.bool (aHs f V flex t g)
def aVy (fs:List Fld):Prop:=∀ {w0:World} {Y:Nat→Prop} {t g:T} {p:Option Addr} {cap:Nat} {ct cg:List Value} (V:Int) (flex:Bool),Rep w0 Y (.sl false 8 (fs.map aBg)) [.slice p fs.length cap]→Rep w0 Y (ddT t) ct→Rep w0 Y (ddT g) cg→t.sane=true→g.sane=true→g.small=true →
 Ret Tryz.prog 13 [.slice p fs.length cap,.int .i64 V,.bool flex,.agg ct.toArray,.agg cg.toArray] w0 fun v w'=>Agr Nob w0 w'∧v=.bool (aH5 fs V flex t g)
theorem aPI {f:Fld}(hP:aVy f.sub)(hone:f.kind=11→aN6 (aKI f))(hof:f.of≤10):aN6 f:=by
 intro w0 Y t g cf ct cg V flex hF hT hG hsn hgn hgm
 have hgs:=aBD hgn
 have hts:=aBD hsn
 have hkk:(0:Int)≤((f.kind:Nat):Int):=Int.natCast_nonneg _
 obtain⟨pf,capf,rfl,-⟩:=aIn hF
 obtain⟨pst,capst,pt,capt,put,caput,rfl⟩:=aB6 hT
 obtain⟨psg,capsg,pg,capg,pug,capug,rfl⟩:=aB6 hG
 refine aAy Tryz.func37 rfl rfl fun a hk=>?_
 have hk:Kn 124 [(0,.agg #[.int .i64 ((f.kind:Nat):Int),.int .i64 f.fr,.int .i64 f.to,.int .i64 f.nu,.int .i64 f.tag,.int .i64 f.df,.int .i64 ((f.of:Nat):Int),.slice pf f.sub.length capf]),(1,.int .i64 V),(2,.bool flex),(3,.agg #[.int .i64 t.n,.slice pst t.s.length capst,.bool t.z,.slice pt t.l.length capt,.slice put t.u.length caput]),(4,.agg #[.int .i64 g.n,.slice psg g.s.length capsg,.bool g.z,.slice pg g.l.length capg,.slice pug g.u.length capug])] a:=hk
 have hm:Mem w0 Nob Y [.rep (aBg f) [.int .i64 ((f.kind:Nat):Int),.int .i64 f.fr,.int .i64 f.to,.int .i64 f.nu,.int .i64 f.tag,.int .i64 f.df,.int .i64 ((f.of:Nat):Int),.slice pf f.sub.length capf],.rep (ddT t) [.int .i64 t.n,.slice pst t.s.length capst,.bool t.z,.slice pt t.l.length capt,.slice put t.u.length caput],.rep (ddT g) [.int .i64 g.n,.slice psg g.s.length capsg,.bool g.z,.slice pg g.l.length capg,.slice pug g.u.length capug]] w0:=Mem.start rfl (by simp only[List.forall_mem_cons,List.not_mem_nil,false_imp_iff,implies_true,and_true];exact⟨hF,hT,hG⟩)
 refine cR0 ?_
 refine aFB hk hm rfl rfl rfl fun a b1 w hk hm=>?_
 refine aFB hk hm rfl rfl rfl fun a b2 w hk hm=>?_
 refine aFB hk hm rfl rfl rfl fun a b3 w hk hm=>?_
 refine oA0 hk rfl rfl fun a hk=>?_
 refine cE0 ?_
 refine cR0 ?_
 refine aAM (cs:=[.int .i64 ((f.kind:Nat):Int),.int .i64 f.fr,.int .i64 f.to,.int .i64 f.nu,.int .i64 f.tag,.int .i64 f.df,.int .i64 ((f.of:Nat):Int),.slice pf f.sub.length capf]) hk aDq rfl (hm.cells_blk (i:=2) rfl rfl) rfl fun a hk=>?_
 refine oM0 hk rfl rfl fun a hk=>?_
 refine aAM (cs:=[.int .i64 t.n,.slice pst t.s.length capst,.bool t.z,.slice pt t.l.length capt,.slice put t.u.length caput]) hk aBF rfl (hm.cells_blk (i:=1) rfl rfl) rfl fun a hk=>?_
 refine aAk hk bAE (aXD V (hm.rep (i:=3) rfl) (hm.rep (i:=4) rfl)) ⟨rfl,rfl,rfl,trivial⟩ rfl fun v w a hR hk=>?_
 obtain⟨hp,rfl⟩:=hR
 have hm:=hm.pure hp
 refine oA0 hk rfl rfl fun a hk=>?_
 refine cE0 ?_
 refine aUT (fun a w=>Kn 124 [(12,.bool (aSX f V)),(1,.int .i64 V),(2,.bool flex),(5,.pointer (some ⟨b1,0,none⟩)),(8,.pointer (some ⟨b2,0,none⟩)),(9,.pointer (some ⟨b3,0,none⟩)),(11,.bool (f.null V t))] a∧Mem w0 Nob Y [.blk b3 [.int .i64 g.n,.slice psg g.s.length capsg,.bool g.z,.slice pg g.l.length capg,.slice pug g.u.length capug] 26,.blk b2 [.int .i64 t.n,.slice pst t.s.length capst,.bool t.z,.slice pt t.l.length capt,.slice put t.u.length caput] 26,.blk b1 [.int .i64 ((f.kind:Nat):Int),.int .i64 f.fr,.int .i64 f.to,.int .i64 f.nu,.int .i64 f.tag,.int .i64 f.df,.int .i64 ((f.of:Nat):Int),.slice pf f.sub.length capf] 51,.rep (aBg f) [.int .i64 ((f.kind:Nat):Int),.int .i64 f.fr,.int .i64 f.to,.int .i64 f.nu,.int .i64 f.tag,.int .i64 f.df,.int .i64 ((f.of:Nat):Int),.slice pf f.sub.length capf],.rep (ddT t) [.int .i64 t.n,.slice pst t.s.length capst,.bool t.z,.slice pt t.l.length capt,.slice put t.u.length caput],.rep (ddT g) [.int .i64 g.n,.slice psg g.s.length capsg,.bool g.z,.slice pg g.l.length capg,.slice pug g.u.length capug]] w) ?_ (fun a w hJ=>?_)
 ·refine aC2 ?_
  refine oF0 hk aEA rfl rfl fun a hk=>?_
  refine aAq hk aF6 rfl (hm.cell_blk (i:=2) rfl rfl) rfl fun a hk=>?_
  refine aAx hk rfl rfl rfl rfl fun a hk=>?_
  refine oM0 hk rfl rfl fun a hk=>?_
  rcases Bool.eq_false_or_eq_true (decide ((f.nu:Int)≥0)) with hb4|hb4
  ·rw[hb4] at hk
   have hb4d:=of_decide_eq_true hb4
   refine aAu (o':=_) hk ⟨_,_,_,rfl,rfl,rfl⟩ rfl ?_
   refine oM0 hk rfl rfl fun a hk=>?_
   refine aAu (o':=_) hk ⟨_,_,_,rfl,rfl,rfl⟩ rfl ?_
   refine oF0 hk aEA rfl rfl fun a hk=>?_
   refine aAu (o':=_) hk ⟨_,_,_,rfl,rfl,rfl⟩ rfl ?_
   refine aAq hk aF6 rfl (hm.cell_blk (i:=2) rfl rfl) rfl fun a hk=>?_
   refine aAu (o':=_) hk ⟨_,_,_,rfl,rfl,rfl⟩ rfl ?_
   refine aAx hk rfl rfl rfl rfl fun a hk=>?_
   refine aAI hk rfl rfl rfl rfl rfl fun a hk=>?_
   refine oA0 hk rfl rfl fun a hk=>?_
   refine aAb ?_
   refine cT0 ?_
   have e:(.bool (decide ((V:Int)≥f.nu)):Value)=.bool (aSX f V):=by first|(simp only[aJ8,hb4,Bool.true_and,Bool.false_and,Bool.or_true,Bool.true_or,Bool.or_false,Bool.false_or,Bool.and_true,Bool.and_false];done)|(simp only[aSX,hb4,Bool.true_and,Bool.false_and,Bool.or_true,Bool.true_or,Bool.or_false,Bool.false_or,Bool.and_true,Bool.and_false];done)
   exact⟨hk.sub ⟨(Eq.trans (b:=some (.bool (decide ((V:Int)≥f.nu)))) rfl (congrArg some e)),rfl,rfl,rfl,rfl,rfl,rfl,trivial⟩,hm⟩
  ·rw[hb4] at hk
   have hb4d:=of_decide_eq_false hb4
   refine oS0 hk ⟨_,_,_,_,rfl,rfl,rfl,aAT⟩ rfl rfl fun a hk=>?_
   refine oS0 hk ⟨_,_,_,_,rfl,rfl,rfl,aAT⟩ rfl rfl fun a hk=>?_
   refine oS0 hk ⟨_,_,_,_,rfl,rfl,rfl,aAT⟩ rfl rfl fun a hk=>?_
   refine oS0 hk ⟨_,_,_,_,rfl,rfl,rfl,aAT⟩ rfl rfl fun a hk=>?_
   refine aAI hk rfl rfl rfl rfl rfl fun a hk=>?_
   refine oA0 hk rfl rfl fun a hk=>?_
   refine aAb ?_
   refine cT0 ?_
   have e:(.bool (false):Value)=.bool (aSX f V):=by first|(simp only[aJ8,hb4,Bool.true_and,Bool.false_and,Bool.or_true,Bool.true_or,Bool.or_false,Bool.false_or,Bool.and_true,Bool.and_false];done)|(simp only[aSX,hb4,Bool.true_and,Bool.false_and,Bool.or_true,Bool.true_or,Bool.or_false,Bool.false_or,Bool.and_true,Bool.and_false];done)
   exact⟨hk.sub ⟨(Eq.trans (b:=some (.bool (false))) rfl (congrArg some e)),rfl,rfl,rfl,rfl,rfl,rfl,trivial⟩,hm⟩
 obtain⟨hk,hm⟩:=hJ
 refine wp_seq ?_
 refine aUT (fun a w=>Kn 124 [(46,.bool (aJ8 f V t g)),(1,.int .i64 V),(2,.bool flex),(5,.pointer (some ⟨b1,0,none⟩)),(8,.pointer (some ⟨b2,0,none⟩)),(9,.pointer (some ⟨b3,0,none⟩)),(11,.bool (f.null V t))] a∧Mem w0 Nob Y [.blk b3 [.int .i64 g.n,.slice psg g.s.length capsg,.bool g.z,.slice pg g.l.length capg,.slice pug g.u.length capug] 26,.blk b2 [.int .i64 t.n,.slice pst t.s.length capst,.bool t.z,.slice pt t.l.length capt,.slice put t.u.length caput] 26,.blk b1 [.int .i64 ((f.kind:Nat):Int),.int .i64 f.fr,.int .i64 f.to,.int .i64 f.nu,.int .i64 f.tag,.int .i64 f.df,.int .i64 ((f.of:Nat):Int),.slice pf f.sub.length capf] 51,.rep (aBg f) [.int .i64 ((f.kind:Nat):Int),.int .i64 f.fr,.int .i64 f.to,.int .i64 f.nu,.int .i64 f.tag,.int .i64 f.df,.int .i64 ((f.of:Nat):Int),.slice pf f.sub.length capf],.rep (ddT t) [.int .i64 t.n,.slice pst t.s.length capst,.bool t.z,.slice pt t.l.length capt,.slice put t.u.length caput],.rep (ddT g) [.int .i64 g.n,.slice psg g.s.length capsg,.bool g.z,.slice pg g.l.length capg,.slice pug g.u.length capug]] w) ?_ (fun a w hJ=>?_)
 ·refine aC2 ?_
  refine oF0 hk aDD rfl rfl fun a hk=>?_
  refine aAq hk aF6 rfl (hm.cell_blk (i:=2) rfl rfl) rfl fun a hk=>?_
  refine aAx hk rfl rfl rfl rfl fun a hk=>?_
  refine oM0 hk rfl rfl fun a hk=>?_
  rcases Bool.eq_false_or_eq_true (((((f.kind:Nat):Int):Int)==8)) with hb5|hb5
  ·rw[hb5] at hk
   have hb5d:=eq_of_beq hb5
   refine oS0 hk ⟨_,_,_,_,rfl,rfl,rfl,aB0⟩ rfl rfl fun a hk=>?_
   refine oS0 hk ⟨_,_,_,_,rfl,rfl,rfl,aB0⟩ rfl rfl fun a hk=>?_
   refine oS0 hk ⟨_,_,_,_,rfl,rfl,rfl,aB0⟩ rfl rfl fun a hk=>?_
   refine aAI hk rfl rfl rfl rfl rfl fun a hk=>?_
   refine oM0 hk rfl rfl fun a hk=>?_
   refine oS0 hk ⟨_,_,_,_,rfl,rfl,rfl,aB0⟩ rfl rfl fun a hk=>?_
   refine aAI hk rfl rfl rfl rfl rfl fun a hk=>?_
   refine oM0 hk rfl rfl fun a hk=>?_
   refine aAu (o':=_) hk ⟨_,_,_,rfl,rfl,rfl⟩ rfl ?_
   refine oF0 hk aIY rfl rfl fun a hk=>?_
   refine aAu (o':=_) hk ⟨_,_,_,rfl,rfl,rfl⟩ rfl ?_
   refine aAq hk aHp rfl (hm.cell_blk (i:=0) rfl rfl) rfl fun a hk=>?_
   refine aAu (o':=_) hk ⟨_,_,_,rfl,rfl,rfl⟩ rfl ?_
   refine oM0 hk rfl rfl fun a hk=>?_
   refine aAu (o':=_) hk ⟨_,_,_,rfl,rfl,rfl⟩ rfl ?_
   refine aMd hk bA5 rfl rfl rfl fun a hk=>?_
   refine aAI hk rfl rfl rfl rfl rfl fun a hk=>?_
   refine aAb ?_
   refine cT0 ?_
   have e:(.bool ((g.z != (f.null V t))):Value)=.bool (aJ8 f V t g):=by first|(simp only[aJ8,hb5,Bool.true_and,Bool.false_and,Bool.or_true,Bool.true_or,Bool.or_false,Bool.false_or,Bool.and_true,Bool.and_false];done)|(simp only[aSX,hb5,Bool.true_and,Bool.false_and,Bool.or_true,Bool.true_or,Bool.or_false,Bool.false_or,Bool.and_true,Bool.and_false];done)
   exact⟨hk.sub ⟨(Eq.trans (b:=some (.bool ((g.z != (f.null V t))))) rfl (congrArg some e)),rfl,rfl,rfl,rfl,rfl,rfl,trivial⟩,hm⟩
  ·rw[hb5] at hk
   have hb5d:=beq_eq_false_iff_ne.1 hb5
   refine aAu (o':=_) hk ⟨_,_,_,rfl,rfl,rfl⟩ rfl ?_
   refine oF0 hk aDD rfl rfl fun a hk=>?_
   refine aAu (o':=_) hk ⟨_,_,_,rfl,rfl,rfl⟩ rfl ?_
   refine aAq hk aF6 rfl (hm.cell_blk (i:=2) rfl rfl) rfl fun a hk=>?_
   refine aAu (o':=_) hk ⟨_,_,_,rfl,rfl,rfl⟩ rfl ?_
   refine aAx hk rfl rfl rfl rfl fun a hk=>?_
   refine aAI hk rfl rfl rfl rfl rfl fun a hk=>?_
   refine oM0 hk rfl rfl fun a hk=>?_
   rcases Bool.eq_false_or_eq_true (((((f.kind:Nat):Int):Int)==10)) with hb6|hb6
   ·rw[hb6] at hk
    have hb6d:=eq_of_beq hb6
    refine oS0 hk ⟨_,_,_,_,rfl,rfl,rfl,aB0⟩ rfl rfl fun a hk=>?_
    refine aAI hk rfl rfl rfl rfl rfl fun a hk=>?_
    refine oM0 hk rfl rfl fun a hk=>?_
    refine aAu (o':=_) hk ⟨_,_,_,rfl,rfl,rfl⟩ rfl ?_
    refine oF0 hk aIY rfl rfl fun a hk=>?_
    refine aAu (o':=_) hk ⟨_,_,_,rfl,rfl,rfl⟩ rfl ?_
    refine aAq hk aHp rfl (hm.cell_blk (i:=0) rfl rfl) rfl fun a hk=>?_
    refine aAu (o':=_) hk ⟨_,_,_,rfl,rfl,rfl⟩ rfl ?_
    refine oM0 hk rfl rfl fun a hk=>?_
    refine aAu (o':=_) hk ⟨_,_,_,rfl,rfl,rfl⟩ rfl ?_
    refine aMd hk bA5 rfl rfl rfl fun a hk=>?_
    refine aAI hk rfl rfl rfl rfl rfl fun a hk=>?_
    refine aAb ?_
    refine cT0 ?_
    have e:(.bool ((g.z != (f.null V t))):Value)=.bool (aJ8 f V t g):=by first|(simp only[aJ8,hb5,hb6,Bool.true_and,Bool.false_and,Bool.or_true,Bool.true_or,Bool.or_false,Bool.false_or,Bool.and_true,Bool.and_false];done)|(simp only[aSX,hb5,hb6,Bool.true_and,Bool.false_and,Bool.or_true,Bool.true_or,Bool.or_false,Bool.false_or,Bool.and_true,Bool.and_false];done)
    exact⟨hk.sub ⟨(Eq.trans (b:=some (.bool ((g.z != (f.null V t))))) rfl (congrArg some e)),rfl,rfl,rfl,rfl,rfl,rfl,trivial⟩,hm⟩
   ·rw[hb6] at hk
    have hb6d:=beq_eq_false_iff_ne.1 hb6
    refine aAu (o':=_) hk ⟨_,_,_,rfl,rfl,rfl⟩ rfl ?_
    refine oM0 hk rfl rfl fun a hk=>?_
    refine aAI hk rfl rfl rfl rfl rfl fun a hk=>?_
    refine oM0 hk rfl rfl fun a hk=>?_
    rcases Bool.eq_false_or_eq_true ((aSX f V)) with hb7|hb7
    ·rw[hb7] at hk
     refine aAu (o':=_) hk ⟨_,_,_,rfl,rfl,rfl⟩ rfl ?_
     refine oF0 hk aIY rfl rfl fun a hk=>?_
     refine aAu (o':=_) hk ⟨_,_,_,rfl,rfl,rfl⟩ rfl ?_
     refine aAq hk aHp rfl (hm.cell_blk (i:=0) rfl rfl) rfl fun a hk=>?_
     refine aAu (o':=_) hk ⟨_,_,_,rfl,rfl,rfl⟩ rfl ?_
     refine oM0 hk rfl rfl fun a hk=>?_
     refine aAu (o':=_) hk ⟨_,_,_,rfl,rfl,rfl⟩ rfl ?_
     refine aMd hk bA5 rfl rfl rfl fun a hk=>?_
     refine aAI hk rfl rfl rfl rfl rfl fun a hk=>?_
     refine aAb ?_
     refine cT0 ?_
     have e:(.bool ((g.z != (f.null V t))):Value)=.bool (aJ8 f V t g):=by first|(simp only[aJ8,hb5,hb6,hb7,Bool.true_and,Bool.false_and,Bool.or_true,Bool.true_or,Bool.or_false,Bool.false_or,Bool.and_true,Bool.and_false];done)|(simp only[aSX,hb5,hb6,hb7,Bool.true_and,Bool.false_and,Bool.or_true,Bool.true_or,Bool.or_false,Bool.false_or,Bool.and_true,Bool.and_false];done)
     exact⟨hk.sub ⟨(Eq.trans (b:=some (.bool ((g.z != (f.null V t))))) rfl (congrArg some e)),rfl,rfl,rfl,rfl,rfl,rfl,trivial⟩,hm⟩
    ·rw[hb7] at hk
     refine oS0 hk ⟨_,_,_,_,rfl,rfl,rfl,aAT⟩ rfl rfl fun a hk=>?_
     refine oS0 hk ⟨_,_,_,_,rfl,rfl,rfl,aAT⟩ rfl rfl fun a hk=>?_
     refine oS0 hk ⟨_,_,_,_,rfl,rfl,rfl,aAT⟩ rfl rfl fun a hk=>?_
     refine oS0 hk ⟨_,_,_,_,rfl,rfl,rfl,aAT⟩ rfl rfl fun a hk=>?_
     refine aAI hk rfl rfl rfl rfl rfl fun a hk=>?_
     refine aAb ?_
     refine cT0 ?_
     have e:(.bool (false):Value)=.bool (aJ8 f V t g):=by first|(simp only[aJ8,hb5,hb6,hb7,Bool.true_and,Bool.false_and,Bool.or_true,Bool.true_or,Bool.or_false,Bool.false_or,Bool.and_true,Bool.and_false];done)|(simp only[aSX,hb5,hb6,hb7,Bool.true_and,Bool.false_and,Bool.or_true,Bool.true_or,Bool.or_false,Bool.false_or,Bool.and_true,Bool.and_false];done)
     exact⟨hk.sub ⟨(Eq.trans (b:=some (.bool (false))) rfl (congrArg some e)),rfl,rfl,rfl,rfl,rfl,rfl,trivial⟩,hm⟩
 obtain⟨hk,hm⟩:=hJ
 refine aAA hk rfl (fun hc=>?_) (fun hc=>?_)
 ·have hbad:false=aHs f V flex t g:=aUI hof hc
  refine cR0 ?_
  refine oA0 hk rfl rfl fun a hk=>?_
  refine cE0 ?_
  refine wp_ret ?_
  refine cQ0 ?_
  refine bT0 rfl hk rfl ?_
  first|exact⟨hm.agr,congrArg Value.bool ((aHj h11 hlt hc).trans hq2.symm)⟩|exact⟨hm.agr,congrArg Value.bool ((aJg (by omega) (by assumption)).trans hq2.symm)⟩|exact⟨hm.agr,congrArg Value.bool hbad⟩
 ·have hq:aHs f V flex t g=if f.null V t then true else aHP f V flex t g:=aW8 hof hc
  refine wp_skip ?_
  refine cT0 ?_
  refine wp_seq ?_
  refine cR0 ?_
  refine oM0 hk rfl rfl fun a hk=>?_
  refine cE0 ?_
  refine aAA hk rfl (fun hc=>?_) (fun hc=>?_)
  ·have hq2:true=aHs f V flex t g:=by rw[hq,if_pos hc]
   refine cR0 ?_
   refine oA0 hk rfl rfl fun a hk=>?_
   refine cE0 ?_
   refine wp_ret ?_
   refine cQ0 ?_
   refine bT0 rfl hk rfl ?_
   first|exact⟨hm.agr,congrArg Value.bool hq2⟩|exact⟨hm.agr,congrArg Value.bool ((aKE (by omega) (by assumption) hall).trans hq2.symm)⟩
  ·have hq2:aHs f V flex t g=aHP f V flex t g:=by rw[hq,if_neg (by rw[hc];exact Bool.false_ne_true)]
   refine wp_skip ?_
   refine cT0 ?_
   refine wp_seq ?_
   refine cR0 ?_
   refine oF0 hk aDD rfl rfl fun a hk=>?_
   refine aAq hk aF6 rfl (hm.cell_blk (i:=2) rfl rfl) rfl fun a hk=>?_
   refine cE0 ?_
   refine wp_block ?_
   refine wp_seq ?_
   refine cR0 ?_
   refine aAx hk rfl rfl rfl rfl fun a hk=>?_
   refine oA0 hk rfl rfl fun a hk=>?_
   refine cE0 ?_
   refine aAA hk rfl (fun hc=>?_) (fun hc=>?_)
   ·have hc8:=eq_of_beq hc
    refine wp_skip ?_
    refine cT0 ?_
    refine aAA hk rfl (fun hc=>?_) (fun hc=>?_)
    ·have hc9:=eq_of_beq hc
     refine wp_seq ?_
     refine aAW (K:=6) mixed hm fun w hm=>?_
     refine aAh (i:=0) rfl rfl rfl (by kernel_rfl) (fun _ _ _ h=>h) hk rfl (fun w hm=>rF0 hk aDw rfl) hm fun a hk=>?_
     refine aAh (i:=1) rfl rfl rfl (by kernel_rfl) (fun _ _ _ h=>h) hk rfl (fun w hm=>aAL hk aBy rfl (hm.cell_blk (i:=0) rfl rfl)) hm fun a hk=>?_
     refine aAt (k:=2) (by kernel_rfl) rfl rfl ?_
     refine oF0 hk aDw rfl rfl fun a hk=>?_
     refine aAb (cT0 ⟨fun _=>hm,?_⟩)
     refine aAt (k:=3) (by kernel_rfl) rfl rfl ?_
     refine aAq hk aBy rfl (hm.cell_blk (i:=1) rfl rfl) rfl fun a hk=>?_
     refine aAb (cT0 ⟨fun _=>hm,?_⟩)
     refine aAt (k:=4) (by kernel_rfl) rfl rfl ?_
     refine aAk hk aSE (aLu (aD2 (hm.rep (i:=4) rfl))) ⟨rfl,trivial⟩ rfl fun v w a hR hk=>?_
     obtain⟨hp,rfl,hR⟩:=hR
     have hm:=hm.result hp hR
     have hwl:=aBG t.s
     refine aAb (cT0 ⟨fun _=>hm.tail,?_⟩)
     refine aAt (k:=5) (by kernel_rfl) rfl rfl ?_
     refine aAk hk aPY (aLQ (aD2 (hm.rep (i:=6) rfl)) (hm.rep (i:=0) rfl) (by omega)) ⟨rfl,rfl,trivial⟩ rfl fun v w a hR hk=>?_
     obtain⟨hp,rfl⟩:=hR
     have hm:=hm.pure hp
     refine aAb (cT0 ⟨fun _=>hm.tail,?_⟩)
     refine aAt (k:=6) (by kernel_rfl) rfl rfl ?_
     refine oA0 hk rfl rfl fun a hk=>?_
     refine aAb (cT0 ⟨fun h=>Bool.noConfusion (show true=false from h),?_⟩)
     refine aBh (by kernel_rfl) ?_ _
     refine cT0 ?_
     refine wp_ret ?_
     refine aAE ?_
     refine cQ0 ?_
     refine bT0 rfl hk rfl ?_
     exact⟨hm.agr,congrArg Value.bool ((aRF (by omega)).trans hq2.symm)⟩
    ·have hc10:=beq_eq_false_iff_ne.1 hc
     refine cR0 ?_
     refine aAx hk rfl rfl rfl rfl fun a hk=>?_
     refine oA0 hk rfl rfl fun a hk=>?_
     refine cE0 ?_
     refine aAA hk rfl (fun hc=>?_) (fun hc=>?_)
     ·have hc11:=eq_of_beq hc
      refine cR0 ?_
      refine aOI hk hm aEZ aWB rfl rfl rfl rfl fun a b12 w hk hm=>?_
      refine oA0 hk rfl rfl fun a hk=>?_
      refine cE0 ?_
      refine cR0 ?_
      refine oM0 hk rfl rfl fun a hk=>?_
      refine oF0 hk aDw rfl rfl fun a hk=>?_
      refine aAq hk aBy rfl (hm.cell_blk (i:=2) rfl rfl) rfl fun a hk=>?_
      refine aOl (i:=0) hk hm aA9 bA1 rfl rfl (by simp) rfl (aD2 (hm.rep (i:=5) rfl)) rfl fun a w hk hm=>?_
      rw[aCT] at hm
      refine cE0 ?_
      refine cR0 ?_
      refine oF0 hk aDw rfl rfl fun a hk=>?_
      refine aAq hk aBy rfl (hm.cell_blk (i:=1) rfl rfl) rfl fun a hk=>?_
      refine oM0 hk rfl rfl fun a hk=>?_
      have hm:=hm.blkRow (i:=0) (n:=16) (sz:=1) rfl (by rw[aCV,aAK]) (by decide)
      have hm:=hm.freezeBytes (i:=0) (s:=sixteen t.s) rfl (aAK t.s).symm
      have h16:Ret Tryz.prog 40 [.slice psg g.s.length capsg,.slice (some ⟨b12,0,none⟩) 16 16] w fun v w'=>Agr Nob w w'∧v=.bool (decide (g.s=sixteen t.s)):=by
       have h:=aLQ (sa:=g.s) (sb:=sixteen t.s) (q:=some ⟨b12,0,none⟩) (cq:=16) (aD2 (hm.rep (i:=6) rfl)) (by rw[aAK];exact hm.rep (i:=0) rfl) (by omega)
       rw[aAK] at h;exact h
      refine aAk hk aPY h16 ⟨rfl,rfl,trivial⟩ rfl fun v w a hR hk=>?_
      obtain⟨hp,rfl⟩:=hR
      have hm:=hm.pure hp
      refine oA0 hk rfl rfl fun a hk=>?_
      refine cE0 ?_
      refine wp_ret ?_
      refine aAE ?_
      refine cQ0 ?_
      refine bT0 rfl hk rfl ?_
      exact⟨hm.agr,congrArg Value.bool ((aTv (by omega)).trans hq2.symm)⟩
     ·have hc13:=beq_eq_false_iff_ne.1 hc
      refine cR0 ?_
      refine aAx hk rfl rfl rfl rfl fun a hk=>?_
      refine oA0 hk rfl rfl fun a hk=>?_
      refine cE0 ?_
      refine aAA hk rfl (fun hc=>?_) (fun hc=>?_)
      ·have hc14:=eq_of_beq hc
       refine cR0 ?_
       refine oF0 hk aFv rfl rfl fun a hk=>?_
       refine aAq hk aIH rfl (hm.cell_blk (i:=2) rfl rfl) rfl fun a hk=>?_
       refine oM0 hk rfl rfl fun a hk=>?_
       refine oM0 hk rfl rfl fun a hk=>?_
       refine aAM (cs:=[.int .i64 t.n,.slice pst t.s.length capst,.bool t.z,.slice pt t.l.length capt,.slice put t.u.length caput]) hk aBF rfl (hm.cells_blk (i:=1) rfl rfl) rfl fun a hk=>?_
       refine aAM (cs:=[.int .i64 g.n,.slice psg g.s.length capsg,.bool g.z,.slice pg g.l.length capg,.slice pug g.u.length capug]) hk aBF rfl (hm.cells_blk (i:=0) rfl rfl) rfl fun a hk=>?_
       refine aAk hk aTh (hP V flex (aEB (hm.rep (i:=3) rfl)) (hm.rep (i:=4) rfl) (hm.rep (i:=5) rfl) hsn hgn hgm) ⟨rfl,rfl,rfl,rfl,rfl,trivial⟩ rfl fun v w a hR hk=>?_
       obtain⟨hp,rfl⟩:=hR
       have hm:=hm.pure hp
       refine oA0 hk rfl rfl fun a hk=>?_
       refine cE0 ?_
       refine wp_ret ?_
       refine aAE ?_
       refine cQ0 ?_
       refine bT0 rfl hk rfl ?_
       exact⟨hm.agr,congrArg Value.bool ((aSo (by omega)).trans hq2.symm)⟩
      ·have hc15:=beq_eq_false_iff_ne.1 hc
       refine cR0 ?_
       refine aAx hk rfl rfl rfl rfl fun a hk=>?_
       refine oA0 hk rfl rfl fun a hk=>?_
       refine cE0 ?_
       refine aAA hk rfl (fun hc=>?_) (fun hc=>?_)
       ·have hc16:=eq_of_beq hc
        refine cR0 ?_
        refine oF0 hk aDB rfl rfl fun a hk=>?_
        refine aAq hk aIw rfl (hm.cell_blk (i:=1) rfl rfl) rfl fun a hk=>?_
        refine aAk hk aYC (aOG (aKF (hm.rep (i:=4) rfl))) ⟨rfl,trivial⟩ rfl fun v w a hR hk=>?_
        obtain⟨hp,rfl,hR⟩:=hR
        have hm:=hm.result hp hR
        have htl:=aE6 t.l
        refine oA0 hk rfl rfl fun a hk=>?_
        refine cE0 ?_
        refine wp_seq ?_
        refine cR0 ?_
        refine oF0 hk aDB rfl rfl fun a hk=>?_
        refine aAq hk aIw rfl (hm.cell_blk (i:=1) rfl rfl) rfl fun a hk=>?_
        refine oL0 hk aGn rfl rfl fun a hk=>?_
        refine oM0 hk rfl rfl fun a hk=>?_
        refine oL0 hk aGn rfl rfl fun a hk=>?_
        refine aAx hk rfl rfl rfl rfl fun a hk=>?_
        refine cE0 ?_
        refine aAA hk rfl (fun hc=>?_) (fun hc=>?_)
        ·have hc17:=bne_iff_ne.1 hc
         refine cR0 ?_
         refine oA0 hk rfl rfl fun a hk=>?_
         refine cE0 ?_
         refine wp_ret ?_
         refine cQ0 ?_
         refine aAE ?_
         refine cQ0 ?_
         refine bT0 rfl hk rfl ?_
         first|exact⟨hm.agr,congrArg Value.bool ((aHj h11 hlt hc).trans hq2.symm)⟩|exact⟨hm.agr,congrArg Value.bool ((aJg (by omega) (by assumption)).trans hq2.symm)⟩|exact⟨hm.agr,congrArg Value.bool hbad⟩
        ·have hc18:=bne_eq_false_iff_eq.1 hc
         refine wp_skip ?_
         refine cT0 ?_
         refine cR0 ?_
         refine aAM (cs:=[.int .i64 ((f.kind:Nat):Int),.int .i64 f.fr,.int .i64 f.to,.int .i64 f.nu,.int .i64 f.tag,.int .i64 f.df,.int .i64 ((f.of:Nat):Int),.slice pf f.sub.length capf]) hk aDq rfl (hm.cells_blk (i:=3) rfl rfl) rfl fun a hk=>?_
         refine aA5 hk hm aBm rfl rfl fun a b19 w hk hm=>?_
         refine aAz (i:=0) hk hm aDq rfl rfl rfl rfl rfl rfl (Nat.le_of_ble_eq_true rfl) fun a w hk hm=>?_
         refine cE0 ?_
         refine cR0 ?_
         refine oF0 hk aQl rfl rfl fun a hk=>?_
         refine aAq hk aF6 rfl (hm.cell_blk (i:=4) rfl rfl) rfl fun a hk=>?_
         refine oF0 hk aDD rfl rfl fun a hk=>?_
         refine aAz (i:=0) hk hm aF6 rfl rfl rfl rfl rfl rfl (Nat.le_of_ble_eq_true rfl) fun a w hk hm=>?_
         refine oF0 hk aEA rfl rfl fun a hk=>?_
         refine aAz (i:=0) hk hm aF6 rfl rfl rfl rfl rfl rfl (Nat.le_of_ble_eq_true rfl) fun a w hk hm=>?_
         refine oF0 hk aIx rfl rfl fun a hk=>?_
         refine aAz (i:=0) hk hm aF6 rfl rfl rfl rfl rfl rfl (Nat.le_of_ble_eq_true rfl) fun a w hk hm=>?_
         refine cE0 ?_
         refine wp_seq ?_
         refine cR0 ?_
         refine oM0 hk rfl rfl fun a hk=>?_
         refine oL0 hk aGn rfl rfl fun a hk=>?_
         refine oM0 hk rfl rfl fun a hk=>?_
         refine cE0 ?_
         have h11:f.kind=11:=by omega
         have hglen:g.l.length=(things t.l).length:=by have:=bne_eq_false_iff_eq.1 (by assumption:(((g.l.length:Nat):Int) != (((things t.l).length:Nat):Int))=false);omega
         have hm:=hm.add (e:=.rep (aBg (aKI f)) [.int .i64 ((f.of:Nat):Int),.int .i64 f.fr,.int .i64 f.to,.int .i64 (-1),.int .i64 (-1),.int .i64 f.df,.int .i64 ((f.of:Nat):Int),.slice pf f.sub.length capf]) rfl (aAF (aEB (hm.rep (i:=5) rfl)))
         refine aCF (L0:=[(1,.int .i64 V),(2,.bool flex),(5,.pointer (some ⟨b1,0,none⟩)),(8,.pointer (some ⟨b2,0,none⟩)),(9,.pointer (some ⟨b3,0,none⟩)),(14,.slice pt ((things t.l).length) capt),(15,.pointer (some ⟨b19,0,none⟩))]) (N:=(things t.l).length) (by omega) (fun k L w=>L=[(1,.int .i64 V),(2,.bool flex),(5,.pointer (some ⟨b1,0,none⟩)),(8,.pointer (some ⟨b2,0,none⟩)),(9,.pointer (some ⟨b3,0,none⟩)),(14,.slice pt ((things t.l).length) capt),(15,.pointer (some ⟨b19,0,none⟩))]∧(List.range k).all (aOh f V flex t g)=true∧Mem w0 Nob Y [.rep (aBg (aKI f)) [.int .i64 ((f.of:Nat):Int),.int .i64 f.fr,.int .i64 f.to,.int .i64 (-1),.int .i64 (-1),.int .i64 f.df,.int .i64 ((f.of:Nat):Int),.slice pf f.sub.length capf],.blk b19 [.int .i64 ((f.of:Nat):Int),.int .i64 f.fr,.int .i64 f.to,.int .i64 (-1),.int .i64 (-1),.int .i64 f.df,.int .i64 ((f.of:Nat):Int),.slice pf f.sub.length capf] 51,.rep (.sl false 5 ((things t.l).map ddT)) [.slice pt ((things t.l).length) capt],.blk b3 [.int .i64 g.n,.slice psg g.s.length capsg,.bool g.z,.slice pg g.l.length capg,.slice pug g.u.length capug] 26,.blk b2 [.int .i64 t.n,.slice pst t.s.length capst,.bool t.z,.slice pt t.l.length capt,.slice put t.u.length caput] 26,.blk b1 [.int .i64 ((f.kind:Nat):Int),.int .i64 f.fr,.int .i64 f.to,.int .i64 f.nu,.int .i64 f.tag,.int .i64 f.df,.int .i64 ((f.of:Nat):Int),.slice pf f.sub.length capf] 51,.rep (aBg f) [.int .i64 ((f.kind:Nat):Int),.int .i64 f.fr,.int .i64 f.to,.int .i64 f.nu,.int .i64 f.tag,.int .i64 f.df,.int .i64 ((f.of:Nat):Int),.slice pf f.sub.length capf],.rep (ddT t) [.int .i64 t.n,.slice pst t.s.length capst,.bool t.z,.slice pt t.l.length capt,.slice put t.u.length caput],.rep (ddT g) [.int .i64 g.n,.slice psg g.s.length capsg,.bool g.z,.slice pg g.l.length capg,.slice pug g.u.length capug]] w) (hk.sub ⟨rfl,rfl,rfl,rfl,rfl,rfl,rfl,rfl,rfl,trivial⟩) ⟨rfl,rfl,hm⟩ rfl rfl rfl rfl rfl rfl rfl (fun k L a w hlt hR hk=>?_) rfl (fun L a w hR hk=>?_)
         ·obtain⟨rfl,hI0,hm⟩:=hR
          obtain⟨hltx,blx,offx,ex,hplx,helx,hRex,hCex⟩:=aBa (hm.rep (i:=2) rfl) (aBw ddT (things t.l) k T.nil hlt)
          obtain⟨psx,capsx,px,capx,pux,capux,rfl⟩:=aB6 hRex
          have hm:=hm.add (e:=.rep (ddT ((things t.l).getD k T.nil)) [.int .i64 (((things t.l).getD k T.nil).n),.slice psx (((things t.l).getD k T.nil).s.length) capsx,.bool (((things t.l).getD k T.nil).z),.slice px (((things t.l).getD k T.nil).l.length) capx,.slice pux (((things t.l).getD k T.nil).u.length) capux]) rfl hRex
          have hm:=hm.add (e:=.cel blx (offx+k*5) [.int .i64 (((things t.l).getD k T.nil).n),.slice psx (((things t.l).getD k T.nil).s.length) capsx,.bool (((things t.l).getD k T.nil).z),.slice px (((things t.l).getD k T.nil).l.length) capx,.slice pux (((things t.l).getD k T.nil).u.length) capux]) rfl hCex
          have hltg:k<g.l.length:=by omega
          obtain⟨hltz,blz,offz,ez,hplz,helz,hRez,hCez⟩:=aBa (aKF (hm.rep (i:=10) rfl)) (aBw ddT g.l k T.nil hltg)
          obtain⟨psz,capsz,pz,capz,puz,capuz,rfl⟩:=aB6 hRez
          have hm:=hm.add (e:=.rep (ddT (g.l.getD k T.nil)) [.int .i64 ((g.l.getD k T.nil).n),.slice psz ((g.l.getD k T.nil).s.length) capsz,.bool ((g.l.getD k T.nil).z),.slice pz ((g.l.getD k T.nil).l.length) capz,.slice puz ((g.l.getD k T.nil).u.length) capuz]) rfl hRez
          have hm:=hm.add (e:=.cel blz (offz+k*5) [.int .i64 ((g.l.getD k T.nil).n),.slice psz ((g.l.getD k T.nil).s.length) capsz,.bool ((g.l.getD k T.nil).z),.slice pz ((g.l.getD k T.nil).l.length) capz,.slice puz ((g.l.getD k T.nil).u.length) capuz]) rfl hCez
          refine cR0 ?_
          refine oM0 hk rfl rfl fun a hk=>?_
          refine oA0 hk rfl rfl fun a hk=>?_
          refine cE0 ?_
          refine wp_seq ?_
          refine aAW (K:=13) mixed hm fun w hm=>?_
          refine aAh (i:=0) rfl rfl rfl (by kernel_rfl) (fun _ _ _ h=>h) hk rfl (fun w hm=>aBq (cs:=[.int .i64 ((f.of:Nat):Int),.int .i64 f.fr,.int .i64 f.to,.int .i64 (-1),.int .i64 (-1),.int .i64 f.df,.int .i64 ((f.of:Nat):Int),.slice pf f.sub.length capf]) hk aDq rfl (hm.cells_blk (i:=5) rfl rfl)) hm fun a hk=>?_
          refine aAh (i:=1) rfl rfl rfl (by kernel_rfl) (fun _ _ _ h=>h) hk rfl (fun w hm=>aA6 hk rfl) hm fun a hk=>?_
          refine aAh (i:=2) rfl rfl rfl (by kernel_rfl) (fun _ _ _ h=>h) hk rfl (fun w hm=>aA6 hk rfl) hm fun a hk=>?_
          refine aAh (i:=3) rfl rfl rfl (by kernel_rfl) (fun _ _ _ h=>h) hk rfl (fun w hm=>aA6 hk rfl) hm fun a hk=>?_
          refine aAh (i:=4) rfl rfl rfl (by kernel_rfl) (fun _ _ _ h=>h) hk rfl (fun w hm=>aA6 hk rfl) hm fun a hk=>?_
          refine aAh (i:=5) rfl rfl rfl (by kernel_rfl) (fun _ _ _ h=>h) hk rfl (fun w hm=>aA4 (j:=k) (b:=blx) (off:=offx) hk aGn aBF (by rw[← hplx];rfl) rfl hltx) hm fun a hk=>?_
          refine aAh (i:=6) rfl rfl rfl (by kernel_rfl) (fun _ _ _ h=>h) hk rfl (fun w hm=>aBq (cs:=[.int .i64 (((things t.l).getD k T.nil).n),.slice psx (((things t.l).getD k T.nil).s.length) capsx,.bool (((things t.l).getD k T.nil).z),.slice px (((things t.l).getD k T.nil).l.length) capx,.slice pux (((things t.l).getD k T.nil).u.length) capux]) hk aBF rfl (hm.cells_cel (i:=2) (k:=0) rfl rfl)) hm fun a hk=>?_
          refine aAh (i:=7) rfl rfl rfl (by kernel_rfl) (fun _ _ _ h=>h) hk rfl (fun w hm=>rF0 hk aDB rfl) hm fun a hk=>?_
          refine aAh (i:=8) rfl rfl rfl (by kernel_rfl) (fun _ _ _ h=>h) hk rfl (fun w hm=>aAL hk aIw rfl (hm.cell_blk (i:=7) rfl rfl)) hm fun a hk=>?_
          refine aAt (k:=9) (by kernel_rfl) rfl rfl ?_
          refine oM0 hk rfl rfl fun a hk=>?_
          refine aAb (cT0 ⟨fun _=>hm,?_⟩)
          refine aAt (k:=10) (by kernel_rfl) rfl rfl ?_
          refine oI0 (j:=k) (b:=blz) (off:=offz) hk aGn aBF (by rw[← hplz];rfl) rfl hltz rfl fun a hk=>?_
          refine aAb (cT0 ⟨fun _=>hm,?_⟩)
          refine aAt (k:=11) (by kernel_rfl) rfl rfl ?_
          refine aAM (cs:=[.int .i64 ((g.l.getD k T.nil).n),.slice psz ((g.l.getD k T.nil).s.length) capsz,.bool ((g.l.getD k T.nil).z),.slice pz ((g.l.getD k T.nil).l.length) capz,.slice puz ((g.l.getD k T.nil).u.length) capuz]) hk aBF rfl (hm.cells_cel (i:=0) (k:=0) rfl rfl) rfl fun a hk=>?_
          refine aAb (cT0 ⟨fun _=>hm,?_⟩)
          refine aAt (k:=12) (by kernel_rfl) rfl rfl ?_
          refine aAk hk aYZ (hone h11 V flex (hm.rep (i:=4) rfl) (hm.rep (i:=3) rfl) (hm.rep (i:=1) rfl) (aNm hsn k) (aCG hgs.2.2.2 k) (aJJ hgm k)) ⟨rfl,rfl,rfl,rfl,rfl,trivial⟩ rfl fun v w a hR hk=>?_
          obtain⟨hp,rfl⟩:=hR
          have hm:=hm.pure hp
          refine aAb (cT0 ⟨fun _=>hm,?_⟩)
          refine aAt (k:=13) (by kernel_rfl) rfl rfl ?_
          refine aES hk rfl rfl fun a hk=>?_
          refine aAb (cT0 ⟨fun h=>Bool.noConfusion (show true=false from h),?_⟩)
          refine aBh (by kernel_rfl) ?_ _
          refine cT0 ?_
          refine aAA hk rfl (fun hc=>?_) (fun hc=>?_)
          ·have hc20:=hc
           refine cR0 ?_
           refine oA0 hk rfl rfl fun a hk=>?_
           refine cE0 ?_
           refine wp_ret ?_
           refine aAE ?_
           refine aA7 ?_
           refine cQ0 ?_
           refine aAE ?_
           refine cQ0 ?_
           refine bT0 rfl hk rfl ?_
           first|exact⟨hm.agr,congrArg Value.bool ((aHj h11 hlt hc).trans hq2.symm)⟩|exact⟨hm.agr,congrArg Value.bool ((aJg (by omega) (by assumption)).trans hq2.symm)⟩|exact⟨hm.agr,congrArg Value.bool hbad⟩
          ·have hc21:=hc
           refine wp_skip ?_
           refine cN0 ?_
           exact aBb (L':=[(1,.int .i64 V),(2,.bool flex),(5,.pointer (some ⟨b1,0,none⟩)),(8,.pointer (some ⟨b2,0,none⟩)),(9,.pointer (some ⟨b3,0,none⟩)),(14,.slice pt ((things t.l).length) capt),(15,.pointer (some ⟨b19,0,none⟩))]) hk ⟨rfl,rfl,rfl,rfl,rfl,rfl,rfl,rfl,rfl,trivial⟩ rfl ⟨rfl,(aAO hI0 ((Bool.not_eq_false' _).mp hc)),hm.tail.tail.tail.tail⟩
         ·obtain⟨rfl,hI0,hm⟩:=hR
          have hall:=hI0
          refine cT0 ?_
          refine cR0 ?_
          refine oA0 hk rfl rfl fun a hk=>?_
          refine cE0 ?_
          refine wp_ret ?_
          refine aAE ?_
          refine cQ0 ?_
          refine bT0 rfl hk rfl ?_
          first|exact⟨hm.agr,congrArg Value.bool hq2⟩|exact⟨hm.agr,congrArg Value.bool ((aKE (by omega) (by assumption) hall).trans hq2.symm)⟩
       ·have hc22:=beq_eq_false_iff_ne.1 hc
        refine wp_skip ?_
        refine cN0 ?_
        refine cT0 ?_
        refine wp_seq ?_
        refine aAW (K:=8) mixed hm fun w hm=>?_
        refine aAh (i:=0) rfl rfl rfl (by kernel_rfl) (fun _ _ _ h=>h) hk rfl (fun w hm=>rF0 hk aHm rfl) hm fun a hk=>?_
        refine aAh (i:=1) rfl rfl rfl (by kernel_rfl) (fun _ _ _ h=>h) hk rfl (fun w hm=>aAL hk aOX rfl (hm.cell_blk (i:=0) rfl rfl)) hm fun a hk=>?_
        refine aAh (i:=2) rfl rfl rfl (by kernel_rfl) (fun _ _ _ h=>h) hk rfl (fun w hm=>rF0 hk aDD rfl) hm fun a hk=>?_
        refine aAh (i:=3) rfl rfl rfl (by kernel_rfl) (fun _ _ _ h=>h) hk rfl (fun w hm=>aAL hk aF6 rfl (hm.cell_blk (i:=2) rfl rfl)) hm fun a hk=>?_
        refine aAt (k:=4) (by kernel_rfl) rfl rfl ?_
        refine oF0 hk aHm rfl rfl fun a hk=>?_
        refine aAb (cT0 ⟨fun _=>hm,?_⟩)
        refine aAt (k:=5) (by kernel_rfl) rfl rfl ?_
        refine aAq hk aOX rfl (hm.cell_blk (i:=1) rfl rfl) rfl fun a hk=>?_
        refine aAb (cT0 ⟨fun _=>hm,?_⟩)
        refine aAt (k:=6) (by kernel_rfl) rfl rfl ?_
        refine aAk hk aW7 (aMz (Y:=Y) f.kind) ⟨rfl,rfl,trivial⟩ rfl fun v w a hR hk=>?_
        obtain⟨hp,rfl⟩:=hR
        have hm:=hm.pure hp
        refine aAb (cT0 ⟨fun _=>hm,?_⟩)
        refine aAt (k:=7) (by kernel_rfl) rfl rfl ?_
        refine aAx hk rfl rfl rfl rfl fun a hk=>?_
        refine aAb (cT0 ⟨fun _=>hm,?_⟩)
        refine aAt (k:=8) (by kernel_rfl) rfl rfl ?_
        refine oA0 hk rfl rfl fun a hk=>?_
        refine aAb (cT0 ⟨fun h=>Bool.noConfusion (show true=false from h),?_⟩)
        refine aBh (by kernel_rfl) ?_ _
        refine cT0 ?_
        refine wp_ret ?_
        refine bT0 rfl hk rfl ?_
        exact⟨hm.agr,congrArg Value.bool ((aUN (by omega) (by omega) (by omega) (by omega) (by omega)).trans hq2.symm)⟩
   ·have hc23:=beq_eq_false_iff_ne.1 hc
    refine aC2 ?_
    refine aAx hk rfl rfl rfl rfl fun a hk=>?_
    refine oA0 hk rfl rfl fun a hk=>?_
    refine aAb ?_
    refine cT0 ?_
    refine aAA hk rfl (fun hc=>?_) (fun hc=>?_)
    ·have hc24:=eq_of_beq hc
     refine wp_seq ?_
     refine aAW (K:=6) mixed hm fun w hm=>?_
     refine aAh (i:=0) rfl rfl rfl (by kernel_rfl) (fun _ _ _ h=>h) hk rfl (fun w hm=>rF0 hk aDw rfl) hm fun a hk=>?_
     refine aAh (i:=1) rfl rfl rfl (by kernel_rfl) (fun _ _ _ h=>h) hk rfl (fun w hm=>aAL hk aBy rfl (hm.cell_blk (i:=0) rfl rfl)) hm fun a hk=>?_
     refine aAt (k:=2) (by kernel_rfl) rfl rfl ?_
     refine oF0 hk aDw rfl rfl fun a hk=>?_
     refine aAb (cT0 ⟨fun _=>hm,?_⟩)
     refine aAt (k:=3) (by kernel_rfl) rfl rfl ?_
     refine aAq hk aBy rfl (hm.cell_blk (i:=1) rfl rfl) rfl fun a hk=>?_
     refine aAb (cT0 ⟨fun _=>hm,?_⟩)
     refine aAt (k:=4) (by kernel_rfl) rfl rfl ?_
     refine aAk hk aSE (aLu (aD2 (hm.rep (i:=4) rfl))) ⟨rfl,trivial⟩ rfl fun v w a hR hk=>?_
     obtain⟨hp,rfl,hR⟩:=hR
     have hm:=hm.result hp hR
     have hwl:=aBG t.s
     refine aAb (cT0 ⟨fun _=>hm.tail,?_⟩)
     refine aAt (k:=5) (by kernel_rfl) rfl rfl ?_
     refine aAk hk aPY (aLQ (aD2 (hm.rep (i:=6) rfl)) (hm.rep (i:=0) rfl) (by omega)) ⟨rfl,rfl,trivial⟩ rfl fun v w a hR hk=>?_
     obtain⟨hp,rfl⟩:=hR
     have hm:=hm.pure hp
     refine aAb (cT0 ⟨fun _=>hm.tail,?_⟩)
     refine aAt (k:=6) (by kernel_rfl) rfl rfl ?_
     refine oA0 hk rfl rfl fun a hk=>?_
     refine aAb (cT0 ⟨fun h=>Bool.noConfusion (show true=false from h),?_⟩)
     refine aBh (by kernel_rfl) ?_ _
     refine cT0 ?_
     refine wp_ret ?_
     refine aAE ?_
     refine cQ0 ?_
     refine bT0 rfl hk rfl ?_
     exact⟨hm.agr,congrArg Value.bool ((aRF (by omega)).trans hq2.symm)⟩
    ·have hc25:=beq_eq_false_iff_ne.1 hc
     refine cR0 ?_
     refine aAx hk rfl rfl rfl rfl fun a hk=>?_
     refine oA0 hk rfl rfl fun a hk=>?_
     refine cE0 ?_
     refine aAA hk rfl (fun hc=>?_) (fun hc=>?_)
     ·have hc26:=eq_of_beq hc
      refine cR0 ?_
      refine aOI hk hm aEZ aWB rfl rfl rfl rfl fun a b27 w hk hm=>?_
      refine oA0 hk rfl rfl fun a hk=>?_
      refine cE0 ?_
      refine cR0 ?_
      refine oM0 hk rfl rfl fun a hk=>?_
      refine oF0 hk aDw rfl rfl fun a hk=>?_
      refine aAq hk aBy rfl (hm.cell_blk (i:=2) rfl rfl) rfl fun a hk=>?_
      refine aOl (i:=0) hk hm aA9 bA1 rfl rfl (by simp) rfl (aD2 (hm.rep (i:=5) rfl)) rfl fun a w hk hm=>?_
      rw[aCT] at hm
      refine cE0 ?_
      refine cR0 ?_
      refine oF0 hk aDw rfl rfl fun a hk=>?_
      refine aAq hk aBy rfl (hm.cell_blk (i:=1) rfl rfl) rfl fun a hk=>?_
      refine oM0 hk rfl rfl fun a hk=>?_
      have hm:=hm.blkRow (i:=0) (n:=16) (sz:=1) rfl (by rw[aCV,aAK]) (by decide)
      have hm:=hm.freezeBytes (i:=0) (s:=sixteen t.s) rfl (aAK t.s).symm
      have h16:Ret Tryz.prog 40 [.slice psg g.s.length capsg,.slice (some ⟨b27,0,none⟩) 16 16] w fun v w'=>Agr Nob w w'∧v=.bool (decide (g.s=sixteen t.s)):=by
       have h:=aLQ (sa:=g.s) (sb:=sixteen t.s) (q:=some ⟨b27,0,none⟩) (cq:=16) (aD2 (hm.rep (i:=6) rfl)) (by rw[aAK];exact hm.rep (i:=0) rfl) (by omega)
       rw[aAK] at h;exact h
      refine aAk hk aPY h16 ⟨rfl,rfl,trivial⟩ rfl fun v w a hR hk=>?_
      obtain⟨hp,rfl⟩:=hR
      have hm:=hm.pure hp
      refine oA0 hk rfl rfl fun a hk=>?_
      refine cE0 ?_
      refine wp_ret ?_
      refine aAE ?_
      refine cQ0 ?_
      refine bT0 rfl hk rfl ?_
      exact⟨hm.agr,congrArg Value.bool ((aTv (by omega)).trans hq2.symm)⟩
     ·have hc28:=beq_eq_false_iff_ne.1 hc
      refine cR0 ?_
      refine aAx hk rfl rfl rfl rfl fun a hk=>?_
      refine oA0 hk rfl rfl fun a hk=>?_
      refine cE0 ?_
      refine aAA hk rfl (fun hc=>?_) (fun hc=>?_)
      ·have hc29:=eq_of_beq hc
       refine cR0 ?_
       refine oF0 hk aFv rfl rfl fun a hk=>?_
       refine aAq hk aIH rfl (hm.cell_blk (i:=2) rfl rfl) rfl fun a hk=>?_
       refine oM0 hk rfl rfl fun a hk=>?_
       refine oM0 hk rfl rfl fun a hk=>?_
       refine aAM (cs:=[.int .i64 t.n,.slice pst t.s.length capst,.bool t.z,.slice pt t.l.length capt,.slice put t.u.length caput]) hk aBF rfl (hm.cells_blk (i:=1) rfl rfl) rfl fun a hk=>?_
       refine aAM (cs:=[.int .i64 g.n,.slice psg g.s.length capsg,.bool g.z,.slice pg g.l.length capg,.slice pug g.u.length capug]) hk aBF rfl (hm.cells_blk (i:=0) rfl rfl) rfl fun a hk=>?_
       refine aAk hk aTh (hP V flex (aEB (hm.rep (i:=3) rfl)) (hm.rep (i:=4) rfl) (hm.rep (i:=5) rfl) hsn hgn hgm) ⟨rfl,rfl,rfl,rfl,rfl,trivial⟩ rfl fun v w a hR hk=>?_
       obtain⟨hp,rfl⟩:=hR
       have hm:=hm.pure hp
       refine oA0 hk rfl rfl fun a hk=>?_
       refine cE0 ?_
       refine wp_ret ?_
       refine aAE ?_
       refine cQ0 ?_
       refine bT0 rfl hk rfl ?_
       exact⟨hm.agr,congrArg Value.bool ((aSo (by omega)).trans hq2.symm)⟩
      ·have hc30:=beq_eq_false_iff_ne.1 hc
       refine cR0 ?_
       refine aAx hk rfl rfl rfl rfl fun a hk=>?_
       refine oA0 hk rfl rfl fun a hk=>?_
       refine cE0 ?_
       refine aAA hk rfl (fun hc=>?_) (fun hc=>?_)
       ·have hc31:=eq_of_beq hc
        refine cR0 ?_
        refine oF0 hk aDB rfl rfl fun a hk=>?_
        refine aAq hk aIw rfl (hm.cell_blk (i:=1) rfl rfl) rfl fun a hk=>?_
        refine aAk hk aYC (aOG (aKF (hm.rep (i:=4) rfl))) ⟨rfl,trivial⟩ rfl fun v w a hR hk=>?_
        obtain⟨hp,rfl,hR⟩:=hR
        have hm:=hm.result hp hR
        have htl:=aE6 t.l
        refine oA0 hk rfl rfl fun a hk=>?_
        refine cE0 ?_
        refine wp_seq ?_
        refine cR0 ?_
        refine oF0 hk aDB rfl rfl fun a hk=>?_
        refine aAq hk aIw rfl (hm.cell_blk (i:=1) rfl rfl) rfl fun a hk=>?_
        refine oL0 hk aGn rfl rfl fun a hk=>?_
        refine oM0 hk rfl rfl fun a hk=>?_
        refine oL0 hk aGn rfl rfl fun a hk=>?_
        refine aAx hk rfl rfl rfl rfl fun a hk=>?_
        refine cE0 ?_
        refine aAA hk rfl (fun hc=>?_) (fun hc=>?_)
        ·have hc32:=bne_iff_ne.1 hc
         refine cR0 ?_
         refine oA0 hk rfl rfl fun a hk=>?_
         refine cE0 ?_
         refine wp_ret ?_
         refine cQ0 ?_
         refine aAE ?_
         refine cQ0 ?_
         refine bT0 rfl hk rfl ?_
         first|exact⟨hm.agr,congrArg Value.bool ((aHj h11 hlt hc).trans hq2.symm)⟩|exact⟨hm.agr,congrArg Value.bool ((aJg (by omega) (by assumption)).trans hq2.symm)⟩|exact⟨hm.agr,congrArg Value.bool hbad⟩
        ·have hc33:=bne_eq_false_iff_eq.1 hc
         refine wp_skip ?_
         refine cT0 ?_
         refine cR0 ?_
         refine aAM (cs:=[.int .i64 ((f.kind:Nat):Int),.int .i64 f.fr,.int .i64 f.to,.int .i64 f.nu,.int .i64 f.tag,.int .i64 f.df,.int .i64 ((f.of:Nat):Int),.slice pf f.sub.length capf]) hk aDq rfl (hm.cells_blk (i:=3) rfl rfl) rfl fun a hk=>?_
         refine aA5 hk hm aBm rfl rfl fun a b34 w hk hm=>?_
         refine aAz (i:=0) hk hm aDq rfl rfl rfl rfl rfl rfl (Nat.le_of_ble_eq_true rfl) fun a w hk hm=>?_
         refine cE0 ?_
         refine cR0 ?_
         refine oF0 hk aQl rfl rfl fun a hk=>?_
         refine aAq hk aF6 rfl (hm.cell_blk (i:=4) rfl rfl) rfl fun a hk=>?_
         refine oF0 hk aDD rfl rfl fun a hk=>?_
         refine aAz (i:=0) hk hm aF6 rfl rfl rfl rfl rfl rfl (Nat.le_of_ble_eq_true rfl) fun a w hk hm=>?_
         refine oF0 hk aEA rfl rfl fun a hk=>?_
         refine aAz (i:=0) hk hm aF6 rfl rfl rfl rfl rfl rfl (Nat.le_of_ble_eq_true rfl) fun a w hk hm=>?_
         refine oF0 hk aIx rfl rfl fun a hk=>?_
         refine aAz (i:=0) hk hm aF6 rfl rfl rfl rfl rfl rfl (Nat.le_of_ble_eq_true rfl) fun a w hk hm=>?_
         refine cE0 ?_
         refine wp_seq ?_
         refine cR0 ?_
         refine oM0 hk rfl rfl fun a hk=>?_
         refine oL0 hk aGn rfl rfl fun a hk=>?_
         refine oM0 hk rfl rfl fun a hk=>?_
         refine cE0 ?_
         have h11:f.kind=11:=by omega
         have hglen:g.l.length=(things t.l).length:=by have:=bne_eq_false_iff_eq.1 (by assumption:(((g.l.length:Nat):Int) != (((things t.l).length:Nat):Int))=false);omega
         have hm:=hm.add (e:=.rep (aBg (aKI f)) [.int .i64 ((f.of:Nat):Int),.int .i64 f.fr,.int .i64 f.to,.int .i64 (-1),.int .i64 (-1),.int .i64 f.df,.int .i64 ((f.of:Nat):Int),.slice pf f.sub.length capf]) rfl (aAF (aEB (hm.rep (i:=5) rfl)))
         refine aCF (L0:=[(1,.int .i64 V),(2,.bool flex),(5,.pointer (some ⟨b1,0,none⟩)),(8,.pointer (some ⟨b2,0,none⟩)),(9,.pointer (some ⟨b3,0,none⟩)),(14,.slice pt ((things t.l).length) capt),(15,.pointer (some ⟨b34,0,none⟩))]) (N:=(things t.l).length) (by omega) (fun k L w=>L=[(1,.int .i64 V),(2,.bool flex),(5,.pointer (some ⟨b1,0,none⟩)),(8,.pointer (some ⟨b2,0,none⟩)),(9,.pointer (some ⟨b3,0,none⟩)),(14,.slice pt ((things t.l).length) capt),(15,.pointer (some ⟨b34,0,none⟩))]∧(List.range k).all (aOh f V flex t g)=true∧Mem w0 Nob Y [.rep (aBg (aKI f)) [.int .i64 ((f.of:Nat):Int),.int .i64 f.fr,.int .i64 f.to,.int .i64 (-1),.int .i64 (-1),.int .i64 f.df,.int .i64 ((f.of:Nat):Int),.slice pf f.sub.length capf],.blk b34 [.int .i64 ((f.of:Nat):Int),.int .i64 f.fr,.int .i64 f.to,.int .i64 (-1),.int .i64 (-1),.int .i64 f.df,.int .i64 ((f.of:Nat):Int),.slice pf f.sub.length capf] 51,.rep (.sl false 5 ((things t.l).map ddT)) [.slice pt ((things t.l).length) capt],.blk b3 [.int .i64 g.n,.slice psg g.s.length capsg,.bool g.z,.slice pg g.l.length capg,.slice pug g.u.length capug] 26,.blk b2 [.int .i64 t.n,.slice pst t.s.length capst,.bool t.z,.slice pt t.l.length capt,.slice put t.u.length caput] 26,.blk b1 [.int .i64 ((f.kind:Nat):Int),.int .i64 f.fr,.int .i64 f.to,.int .i64 f.nu,.int .i64 f.tag,.int .i64 f.df,.int .i64 ((f.of:Nat):Int),.slice pf f.sub.length capf] 51,.rep (aBg f) [.int .i64 ((f.kind:Nat):Int),.int .i64 f.fr,.int .i64 f.to,.int .i64 f.nu,.int .i64 f.tag,.int .i64 f.df,.int .i64 ((f.of:Nat):Int),.slice pf f.sub.length capf],.rep (ddT t) [.int .i64 t.n,.slice pst t.s.length capst,.bool t.z,.slice pt t.l.length capt,.slice put t.u.length caput],.rep (ddT g) [.int .i64 g.n,.slice psg g.s.length capsg,.bool g.z,.slice pg g.l.length capg,.slice pug g.u.length capug]] w) (hk.sub ⟨rfl,rfl,rfl,rfl,rfl,rfl,rfl,rfl,rfl,trivial⟩) ⟨rfl,rfl,hm⟩ rfl rfl rfl rfl rfl rfl rfl (fun k L a w hlt hR hk=>?_) rfl (fun L a w hR hk=>?_)
         ·obtain⟨rfl,hI0,hm⟩:=hR
          obtain⟨hltx,blx,offx,ex,hplx,helx,hRex,hCex⟩:=aBa (hm.rep (i:=2) rfl) (aBw ddT (things t.l) k T.nil hlt)
          obtain⟨psx,capsx,px,capx,pux,capux,rfl⟩:=aB6 hRex
          have hm:=hm.add (e:=.rep (ddT ((things t.l).getD k T.nil)) [.int .i64 (((things t.l).getD k T.nil).n),.slice psx (((things t.l).getD k T.nil).s.length) capsx,.bool (((things t.l).getD k T.nil).z),.slice px (((things t.l).getD k T.nil).l.length) capx,.slice pux (((things t.l).getD k T.nil).u.length) capux]) rfl hRex
          have hm:=hm.add (e:=.cel blx (offx+k*5) [.int .i64 (((things t.l).getD k T.nil).n),.slice psx (((things t.l).getD k T.nil).s.length) capsx,.bool (((things t.l).getD k T.nil).z),.slice px (((things t.l).getD k T.nil).l.length) capx,.slice pux (((things t.l).getD k T.nil).u.length) capux]) rfl hCex
          have hltg:k<g.l.length:=by omega
          obtain⟨hltz,blz,offz,ez,hplz,helz,hRez,hCez⟩:=aBa (aKF (hm.rep (i:=10) rfl)) (aBw ddT g.l k T.nil hltg)
          obtain⟨psz,capsz,pz,capz,puz,capuz,rfl⟩:=aB6 hRez
          have hm:=hm.add (e:=.rep (ddT (g.l.getD k T.nil)) [.int .i64 ((g.l.getD k T.nil).n),.slice psz ((g.l.getD k T.nil).s.length) capsz,.bool ((g.l.getD k T.nil).z),.slice pz ((g.l.getD k T.nil).l.length) capz,.slice puz ((g.l.getD k T.nil).u.length) capuz]) rfl hRez
          have hm:=hm.add (e:=.cel blz (offz+k*5) [.int .i64 ((g.l.getD k T.nil).n),.slice psz ((g.l.getD k T.nil).s.length) capsz,.bool ((g.l.getD k T.nil).z),.slice pz ((g.l.getD k T.nil).l.length) capz,.slice puz ((g.l.getD k T.nil).u.length) capuz]) rfl hCez
          refine cR0 ?_
          refine oM0 hk rfl rfl fun a hk=>?_
          refine oA0 hk rfl rfl fun a hk=>?_
          refine cE0 ?_
          refine wp_seq ?_
          refine aAW (K:=13) mixed hm fun w hm=>?_
          refine aAh (i:=0) rfl rfl rfl (by kernel_rfl) (fun _ _ _ h=>h) hk rfl (fun w hm=>aBq (cs:=[.int .i64 ((f.of:Nat):Int),.int .i64 f.fr,.int .i64 f.to,.int .i64 (-1),.int .i64 (-1),.int .i64 f.df,.int .i64 ((f.of:Nat):Int),.slice pf f.sub.length capf]) hk aDq rfl (hm.cells_blk (i:=5) rfl rfl)) hm fun a hk=>?_
          refine aAh (i:=1) rfl rfl rfl (by kernel_rfl) (fun _ _ _ h=>h) hk rfl (fun w hm=>aA6 hk rfl) hm fun a hk=>?_
          refine aAh (i:=2) rfl rfl rfl (by kernel_rfl) (fun _ _ _ h=>h) hk rfl (fun w hm=>aA6 hk rfl) hm fun a hk=>?_
          refine aAh (i:=3) rfl rfl rfl (by kernel_rfl) (fun _ _ _ h=>h) hk rfl (fun w hm=>aA6 hk rfl) hm fun a hk=>?_
          refine aAh (i:=4) rfl rfl rfl (by kernel_rfl) (fun _ _ _ h=>h) hk rfl (fun w hm=>aA6 hk rfl) hm fun a hk=>?_
          refine aAh (i:=5) rfl rfl rfl (by kernel_rfl) (fun _ _ _ h=>h) hk rfl (fun w hm=>aA4 (j:=k) (b:=blx) (off:=offx) hk aGn aBF (by rw[← hplx];rfl) rfl hltx) hm fun a hk=>?_
          refine aAh (i:=6) rfl rfl rfl (by kernel_rfl) (fun _ _ _ h=>h) hk rfl (fun w hm=>aBq (cs:=[.int .i64 (((things t.l).getD k T.nil).n),.slice psx (((things t.l).getD k T.nil).s.length) capsx,.bool (((things t.l).getD k T.nil).z),.slice px (((things t.l).getD k T.nil).l.length) capx,.slice pux (((things t.l).getD k T.nil).u.length) capux]) hk aBF rfl (hm.cells_cel (i:=2) (k:=0) rfl rfl)) hm fun a hk=>?_
          refine aAh (i:=7) rfl rfl rfl (by kernel_rfl) (fun _ _ _ h=>h) hk rfl (fun w hm=>rF0 hk aDB rfl) hm fun a hk=>?_
          refine aAh (i:=8) rfl rfl rfl (by kernel_rfl) (fun _ _ _ h=>h) hk rfl (fun w hm=>aAL hk aIw rfl (hm.cell_blk (i:=7) rfl rfl)) hm fun a hk=>?_
          refine aAt (k:=9) (by kernel_rfl) rfl rfl ?_
          refine oM0 hk rfl rfl fun a hk=>?_
          refine aAb (cT0 ⟨fun _=>hm,?_⟩)
          refine aAt (k:=10) (by kernel_rfl) rfl rfl ?_
          refine oI0 (j:=k) (b:=blz) (off:=offz) hk aGn aBF (by rw[← hplz];rfl) rfl hltz rfl fun a hk=>?_
          refine aAb (cT0 ⟨fun _=>hm,?_⟩)
          refine aAt (k:=11) (by kernel_rfl) rfl rfl ?_
          refine aAM (cs:=[.int .i64 ((g.l.getD k T.nil).n),.slice psz ((g.l.getD k T.nil).s.length) capsz,.bool ((g.l.getD k T.nil).z),.slice pz ((g.l.getD k T.nil).l.length) capz,.slice puz ((g.l.getD k T.nil).u.length) capuz]) hk aBF rfl (hm.cells_cel (i:=0) (k:=0) rfl rfl) rfl fun a hk=>?_
          refine aAb (cT0 ⟨fun _=>hm,?_⟩)
          refine aAt (k:=12) (by kernel_rfl) rfl rfl ?_
          refine aAk hk aYZ (hone h11 V flex (hm.rep (i:=4) rfl) (hm.rep (i:=3) rfl) (hm.rep (i:=1) rfl) (aNm hsn k) (aCG hgs.2.2.2 k) (aJJ hgm k)) ⟨rfl,rfl,rfl,rfl,rfl,trivial⟩ rfl fun v w a hR hk=>?_
          obtain⟨hp,rfl⟩:=hR
          have hm:=hm.pure hp
          refine aAb (cT0 ⟨fun _=>hm,?_⟩)
          refine aAt (k:=13) (by kernel_rfl) rfl rfl ?_
          refine aES hk rfl rfl fun a hk=>?_
          refine aAb (cT0 ⟨fun h=>Bool.noConfusion (show true=false from h),?_⟩)
          refine aBh (by kernel_rfl) ?_ _
          refine cT0 ?_
          refine aAA hk rfl (fun hc=>?_) (fun hc=>?_)
          ·have hc35:=hc
           refine cR0 ?_
           refine oA0 hk rfl rfl fun a hk=>?_
           refine cE0 ?_
           refine wp_ret ?_
           refine aAE ?_
           refine aA7 ?_
           refine cQ0 ?_
           refine aAE ?_
           refine cQ0 ?_
           refine bT0 rfl hk rfl ?_
           first|exact⟨hm.agr,congrArg Value.bool ((aHj h11 hlt hc).trans hq2.symm)⟩|exact⟨hm.agr,congrArg Value.bool ((aJg (by omega) (by assumption)).trans hq2.symm)⟩|exact⟨hm.agr,congrArg Value.bool hbad⟩
          ·have hc36:=hc
           refine wp_skip ?_
           refine cN0 ?_
           exact aBb (L':=[(1,.int .i64 V),(2,.bool flex),(5,.pointer (some ⟨b1,0,none⟩)),(8,.pointer (some ⟨b2,0,none⟩)),(9,.pointer (some ⟨b3,0,none⟩)),(14,.slice pt ((things t.l).length) capt),(15,.pointer (some ⟨b34,0,none⟩))]) hk ⟨rfl,rfl,rfl,rfl,rfl,rfl,rfl,rfl,rfl,trivial⟩ rfl ⟨rfl,(aAO hI0 ((Bool.not_eq_false' _).mp hc)),hm.tail.tail.tail.tail⟩
         ·obtain⟨rfl,hI0,hm⟩:=hR
          have hall:=hI0
          refine cT0 ?_
          refine cR0 ?_
          refine oA0 hk rfl rfl fun a hk=>?_
          refine cE0 ?_
          refine wp_ret ?_
          refine aAE ?_
          refine cQ0 ?_
          refine bT0 rfl hk rfl ?_
          first|exact⟨hm.agr,congrArg Value.bool hq2⟩|exact⟨hm.agr,congrArg Value.bool ((aKE (by omega) (by assumption) hall).trans hq2.symm)⟩
       ·have hc37:=beq_eq_false_iff_ne.1 hc
        refine wp_skip ?_
        refine cN0 ?_
        refine cT0 ?_
        refine wp_seq ?_
        refine aAW (K:=8) mixed hm fun w hm=>?_
        refine aAh (i:=0) rfl rfl rfl (by kernel_rfl) (fun _ _ _ h=>h) hk rfl (fun w hm=>rF0 hk aHm rfl) hm fun a hk=>?_
        refine aAh (i:=1) rfl rfl rfl (by kernel_rfl) (fun _ _ _ h=>h) hk rfl (fun w hm=>aAL hk aOX rfl (hm.cell_blk (i:=0) rfl rfl)) hm fun a hk=>?_
        refine aAh (i:=2) rfl rfl rfl (by kernel_rfl) (fun _ _ _ h=>h) hk rfl (fun w hm=>rF0 hk aDD rfl) hm fun a hk=>?_
        refine aAh (i:=3) rfl rfl rfl (by kernel_rfl) (fun _ _ _ h=>h) hk rfl (fun w hm=>aAL hk aF6 rfl (hm.cell_blk (i:=2) rfl rfl)) hm fun a hk=>?_
        refine aAt (k:=4) (by kernel_rfl) rfl rfl ?_
        refine oF0 hk aHm rfl rfl fun a hk=>?_
        refine aAb (cT0 ⟨fun _=>hm,?_⟩)
        refine aAt (k:=5) (by kernel_rfl) rfl rfl ?_
        refine aAq hk aOX rfl (hm.cell_blk (i:=1) rfl rfl) rfl fun a hk=>?_
        refine aAb (cT0 ⟨fun _=>hm,?_⟩)
        refine aAt (k:=6) (by kernel_rfl) rfl rfl ?_
        refine aAk hk aW7 (aMz (Y:=Y) f.kind) ⟨rfl,rfl,trivial⟩ rfl fun v w a hR hk=>?_
        obtain⟨hp,rfl⟩:=hR
        have hm:=hm.pure hp
        refine aAb (cT0 ⟨fun _=>hm,?_⟩)
        refine aAt (k:=7) (by kernel_rfl) rfl rfl ?_
        refine aAx hk rfl rfl rfl rfl fun a hk=>?_
        refine aAb (cT0 ⟨fun _=>hm,?_⟩)
        refine aAt (k:=8) (by kernel_rfl) rfl rfl ?_
        refine oA0 hk rfl rfl fun a hk=>?_
        refine aAb (cT0 ⟨fun h=>Bool.noConfusion (show true=false from h),?_⟩)
        refine aBh (by kernel_rfl) ?_ _
        refine cT0 ?_
        refine wp_ret ?_
        refine bT0 rfl hk rfl ?_
        exact⟨hm.agr,congrArg Value.bool ((aUN (by omega) (by omega) (by omega) (by omega) (by omega)).trans hq2.symm)⟩
end Go.Proofs.YtipgdlbbmlnfiaaGreatDoor
