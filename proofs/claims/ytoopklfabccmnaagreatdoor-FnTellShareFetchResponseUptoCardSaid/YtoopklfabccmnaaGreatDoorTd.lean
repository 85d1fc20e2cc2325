/- Walks of functions that the laws of this seat reach. No statement of the seat stands here. -/
import Derived.Test.YtoopklfabccmnaaGreatDoorL4
import Derived.Test.YtoopklfabccmnaaGreatDoorRows
import Derived.Test.YtoopklfabccmnaaGreatDoorFa
import Derived.Test.YtoopklfabccmnaaGreatDoorSe
import Derived.Test.YtoopklfabccmnaaGreatDoorTc
namespace Go.Proofs.YtoopklfabccmnaaGreatDoor
open Go Go.Mk
def ToldFC (f:Fld):Prop:=∀ {w0:World} {Y:Nat → Prop} {t g:T} {cf ct cg:List Value} (V:Int) (flex:Bool),Rep w0 Y (ddFd f) cf → Rep w0 Y (ddT t) ct → Rep w0 Y (ddT g) cg → t.sane = true → g.sane = true → g.small = true →
 Ret Tryz.prog 52 [.agg cf.toArray,.int .i64 V,.bool flex,.agg ct.toArray,.agg cg.toArray] w0 fun v w'=>Agr Nob w0 w' ∧ v = .bool (toldF f V flex t g)
def ToldC (fs:List Fld):Prop:=∀ {w0:World} {Y:Nat → Prop} {t g:T} {p:Option Addr} {cap:Nat} {ct cg:List Value} (V:Int) (flex:Bool),Rep w0 Y (.sl false 8 (fs.map ddFd)) [.slice p fs.length cap] → Rep w0 Y (ddT t) ct → Rep w0 Y (ddT g) cg → t.sane = true → g.sane = true → g.small = true →
 Ret Tryz.prog 17 [.slice p fs.length cap,.int .i64 V,.bool flex,.agg ct.toArray,.agg cg.toArray] w0 fun v w'=>Agr Nob w0 w' ∧ v = .bool (toldP fs V flex t g)
theorem told_walk {f:Fld} (hP:ToldC f.sub) (hone:f.kind = 11 → ToldFC (oneOf f)) (hof:f.of ≤ 10):ToldFC f:=by
 intro w0 Y t g cf ct cg V flex hF hT hG hsn hgn hgm
 have hgs:=sane_spec hgn
 have hts:=sane_spec hsn
 have hkk:(0:Int) ≤ ((f.kind:Nat):Int):=Int.natCast_nonneg _
 obtain ⟨pf,capf,rfl,-⟩:=rep_Fd hF
 obtain ⟨pst,capst,pt,capt,put,caput,rfl⟩:=rep_T7 hT
 obtain ⟨psg,capsg,pg,capg,pug,capug,rfl⟩:=rep_T7 hG
 refine c_call Tryz.func52 rfl rfl fun a hk=>?_
 have hk:Kn 124 [(0,.agg #[.int .i64 ((f.kind:Nat):Int),.int .i64 f.fr,.int .i64 f.to,.int .i64 f.nu,.int .i64 f.tag,.int .i64 f.df,.int .i64 ((f.of:Nat):Int),.slice pf f.sub.length capf]),(1,.int .i64 V),(2,.bool flex),(3,.agg #[.int .i64 t.n,.slice pst t.s.length capst,.bool t.z,.slice pt t.l.length capt,.slice put t.u.length caput]),(4,.agg #[.int .i64 g.n,.slice psg g.s.length capsg,.bool g.z,.slice pg g.l.length capg,.slice pug g.u.length capug])] a:=hk
 have hm:Mem w0 Nob Y [.rep (ddFd f) [.int .i64 ((f.kind:Nat):Int),.int .i64 f.fr,.int .i64 f.to,.int .i64 f.nu,.int .i64 f.tag,.int .i64 f.df,.int .i64 ((f.of:Nat):Int),.slice pf f.sub.length capf],.rep (ddT t) [.int .i64 t.n,.slice pst t.s.length capst,.bool t.z,.slice pt t.l.length capt,.slice put t.u.length caput],.rep (ddT g) [.int .i64 g.n,.slice psg g.s.length capsg,.bool g.z,.slice pg g.l.length capg,.slice pug g.u.length capug]] w0:=Mem.start rfl (by simp only [List.forall_mem_cons,List.not_mem_nil,false_imp_iff,implies_true,and_true]; exact ⟨hF,hT,hG⟩)
 refine cR0 ?_
 refine o_box hk hm rfl rfl rfl fun a b1 w hk hm=>?_
 refine o_box hk hm rfl rfl rfl fun a b2 w hk hm=>?_
 refine o_box hk hm rfl rfl rfl fun a b3 w hk hm=>?_
 refine oA0 hk rfl rfl fun a hk=>?_
 refine cE0 ?_
 refine cR0 ?_
 refine o_loadN (cs:=[.int .i64 ((f.kind:Nat):Int),.int .i64 f.fr,.int .i64 f.to,.int .i64 f.nu,.int .i64 f.tag,.int .i64 f.df,.int .i64 ((f.of:Nat):Int),.slice pf f.sub.length capf]) hk ts_51 rfl (hm.cells_blk (i:=2) rfl rfl) rfl fun a hk=>?_
 refine oM0 hk rfl rfl fun a hk=>?_
 refine o_loadN (cs:=[.int .i64 t.n,.slice pst t.s.length capst,.bool t.z,.slice pt t.l.length capt,.slice put t.u.length caput]) hk ts_26 rfl (hm.cells_blk (i:=1) rfl rfl) rfl fun a hk=>?_
 refine o_call hk cb_116 (null_c V (hm.rep (i:=3) rfl) (hm.rep (i:=4) rfl)) ⟨rfl,rfl,rfl,trivial⟩ rfl fun v w a hR hk=>?_
 obtain ⟨hp,rfl⟩:=hR
 have hm:=hm.pure hp
 refine oA0 hk rfl rfl fun a hk=>?_
 refine cE0 ?_
 refine c_cut (fun a w=>Kn 124 [(12,.bool (mayX f V)),(1,.int .i64 V),(2,.bool flex),(5,.pointer (some ⟨b1,0,none⟩)),(8,.pointer (some ⟨b2,0,none⟩)),(9,.pointer (some ⟨b3,0,none⟩)),(11,.bool (f.null V t))] a ∧ Mem w0 Nob Y [.blk b3 [.int .i64 g.n,.slice psg g.s.length capsg,.bool g.z,.slice pg g.l.length capg,.slice pug g.u.length capug] 26,.blk b2 [.int .i64 t.n,.slice pst t.s.length capst,.bool t.z,.slice pt t.l.length capt,.slice put t.u.length caput] 26,.blk b1 [.int .i64 ((f.kind:Nat):Int),.int .i64 f.fr,.int .i64 f.to,.int .i64 f.nu,.int .i64 f.tag,.int .i64 f.df,.int .i64 ((f.of:Nat):Int),.slice pf f.sub.length capf] 51,.rep (ddFd f) [.int .i64 ((f.kind:Nat):Int),.int .i64 f.fr,.int .i64 f.to,.int .i64 f.nu,.int .i64 f.tag,.int .i64 f.df,.int .i64 ((f.of:Nat):Int),.slice pf f.sub.length capf],.rep (ddT t) [.int .i64 t.n,.slice pst t.s.length capst,.bool t.z,.slice pt t.l.length capt,.slice put t.u.length caput],.rep (ddT g) [.int .i64 g.n,.slice psg g.s.length capsg,.bool g.z,.slice pg g.l.length capg,.slice pug g.u.length capug]] w) ?_ (fun a w hJ=>?_)
 ·refine c_reg ?_
  refine oF0 hk fo_51_3 rfl rfl fun a hk=>?_
  refine o_load hk ts_3 rfl (hm.cell_blk (i:=2) rfl rfl) rfl fun a hk=>?_
  refine o_icmp hk rfl rfl rfl rfl fun a hk=>?_
  refine oM0 hk rfl rfl fun a hk=>?_
  rcases Bool.eq_false_or_eq_true (decide ((f.nu:Int) ≥ 0)) with hb4 | hb4
  ·rw [hb4] at hk
   have hb4d:=of_decide_eq_true hb4
   refine o_want (o':=_) hk ⟨_,_,_,rfl,rfl,rfl⟩ rfl ?_
   refine oM0 hk rfl rfl fun a hk=>?_
   refine o_want (o':=_) hk ⟨_,_,_,rfl,rfl,rfl⟩ rfl ?_
   refine oF0 hk fo_51_3 rfl rfl fun a hk=>?_
   refine o_want (o':=_) hk ⟨_,_,_,rfl,rfl,rfl⟩ rfl ?_
   refine o_load hk ts_3 rfl (hm.cell_blk (i:=2) rfl rfl) rfl fun a hk=>?_
   refine o_want (o':=_) hk ⟨_,_,_,rfl,rfl,rfl⟩ rfl ?_
   refine o_icmp hk rfl rfl rfl rfl fun a hk=>?_
   refine o_pick hk rfl rfl rfl rfl rfl fun a hk=>?_
   refine oA0 hk rfl rfl fun a hk=>?_
   refine c_endQ ?_
   refine cT0 ?_
   have e:(.bool (decide ((V:Int) ≥ f.nu)):Value) = .bool (mayX f V):=by first | (simp only [toldX,hb4,Bool.true_and,Bool.false_and,Bool.or_true,Bool.true_or,Bool.or_false,Bool.false_or,Bool.and_true,Bool.and_false]; done) | (simp only [mayX,hb4,Bool.true_and,Bool.false_and,Bool.or_true,Bool.true_or,Bool.or_false,Bool.false_or,Bool.and_true,Bool.and_false]; done)
   rw [e] at hk; exact ⟨hk.sub ⟨rfl,rfl,rfl,rfl,rfl,rfl,rfl,trivial⟩,hm⟩
  ·rw [hb4] at hk
   have hb4d:=of_decide_eq_false hb4
   refine oS0 hk ⟨_,_,_,_,rfl,rfl,rfl,nb_ft⟩ rfl rfl fun a hk=>?_
   refine oS0 hk ⟨_,_,_,_,rfl,rfl,rfl,nb_ft⟩ rfl rfl fun a hk=>?_
   refine oS0 hk ⟨_,_,_,_,rfl,rfl,rfl,nb_ft⟩ rfl rfl fun a hk=>?_
   refine oS0 hk ⟨_,_,_,_,rfl,rfl,rfl,nb_ft⟩ rfl rfl fun a hk=>?_
   refine o_pick hk rfl rfl rfl rfl rfl fun a hk=>?_
   refine oA0 hk rfl rfl fun a hk=>?_
   refine c_endQ ?_
   refine cT0 ?_
   have e:(.bool (false):Value) = .bool (mayX f V):=by first | (simp only [toldX,hb4,Bool.true_and,Bool.false_and,Bool.or_true,Bool.true_or,Bool.or_false,Bool.false_or,Bool.and_true,Bool.and_false]; done) | (simp only [mayX,hb4,Bool.true_and,Bool.false_and,Bool.or_true,Bool.true_or,Bool.or_false,Bool.false_or,Bool.and_true,Bool.and_false]; done)
   rw [e] at hk; exact ⟨hk.sub ⟨rfl,rfl,rfl,rfl,rfl,rfl,rfl,trivial⟩,hm⟩
 obtain ⟨hk,hm⟩:=hJ
 refine wp_seq ?_
 refine c_cut (fun a w=>Kn 124 [(46,.bool (toldX f V t g)),(1,.int .i64 V),(2,.bool flex),(5,.pointer (some ⟨b1,0,none⟩)),(8,.pointer (some ⟨b2,0,none⟩)),(9,.pointer (some ⟨b3,0,none⟩)),(11,.bool (f.null V t))] a ∧ Mem w0 Nob Y [.blk b3 [.int .i64 g.n,.slice psg g.s.length capsg,.bool g.z,.slice pg g.l.length capg,.slice pug g.u.length capug] 26,.blk b2 [.int .i64 t.n,.slice pst t.s.length capst,.bool t.z,.slice pt t.l.length capt,.slice put t.u.length caput] 26,.blk b1 [.int .i64 ((f.kind:Nat):Int),.int .i64 f.fr,.int .i64 f.to,.int .i64 f.nu,.int .i64 f.tag,.int .i64 f.df,.int .i64 ((f.of:Nat):Int),.slice pf f.sub.length capf] 51,.rep (ddFd f) [.int .i64 ((f.kind:Nat):Int),.int .i64 f.fr,.int .i64 f.to,.int .i64 f.nu,.int .i64 f.tag,.int .i64 f.df,.int .i64 ((f.of:Nat):Int),.slice pf f.sub.length capf],.rep (ddT t) [.int .i64 t.n,.slice pst t.s.length capst,.bool t.z,.slice pt t.l.length capt,.slice put t.u.length caput],.rep (ddT g) [.int .i64 g.n,.slice psg g.s.length capsg,.bool g.z,.slice pg g.l.length capg,.slice pug g.u.length capug]] w) ?_ (fun a w hJ=>?_)
 ·refine c_reg ?_
  refine oF0 hk fo_51_0 rfl rfl fun a hk=>?_
  refine o_load hk ts_3 rfl (hm.cell_blk (i:=2) rfl rfl) rfl fun a hk=>?_
  refine o_icmp hk rfl rfl rfl rfl fun a hk=>?_
  refine oM0 hk rfl rfl fun a hk=>?_
  rcases Bool.eq_false_or_eq_true (((((f.kind:Nat):Int):Int) == 8)) with hb5 | hb5
  ·rw [hb5] at hk
   have hb5d:=eq_of_beq hb5
   refine oS0 hk ⟨_,_,_,_,rfl,rfl,rfl,nb_tf⟩ rfl rfl fun a hk=>?_
   refine oS0 hk ⟨_,_,_,_,rfl,rfl,rfl,nb_tf⟩ rfl rfl fun a hk=>?_
   refine oS0 hk ⟨_,_,_,_,rfl,rfl,rfl,nb_tf⟩ rfl rfl fun a hk=>?_
   refine o_pick hk rfl rfl rfl rfl rfl fun a hk=>?_
   refine oM0 hk rfl rfl fun a hk=>?_
   refine oS0 hk ⟨_,_,_,_,rfl,rfl,rfl,nb_tf⟩ rfl rfl fun a hk=>?_
   refine o_pick hk rfl rfl rfl rfl rfl fun a hk=>?_
   refine oM0 hk rfl rfl fun a hk=>?_
   refine o_want (o':=_) hk ⟨_,_,_,rfl,rfl,rfl⟩ rfl ?_
   refine oF0 hk fo_26_2 rfl rfl fun a hk=>?_
   refine o_want (o':=_) hk ⟨_,_,_,rfl,rfl,rfl⟩ rfl ?_
   refine o_load hk ts_4 rfl (hm.cell_blk (i:=0) rfl rfl) rfl fun a hk=>?_
   refine o_want (o':=_) hk ⟨_,_,_,rfl,rfl,rfl⟩ rfl ?_
   refine oM0 hk rfl rfl fun a hk=>?_
   refine o_want (o':=_) hk ⟨_,_,_,rfl,rfl,rfl⟩ rfl ?_
   refine o_neBool hk ib_4 rfl rfl rfl fun a hk=>?_
   refine o_pick hk rfl rfl rfl rfl rfl fun a hk=>?_
   refine c_endQ ?_
   refine cT0 ?_
   have e:(.bool ((g.z != (f.null V t))):Value) = .bool (toldX f V t g):=by first | (simp only [toldX,hb5,Bool.true_and,Bool.false_and,Bool.or_true,Bool.true_or,Bool.or_false,Bool.false_or,Bool.and_true,Bool.and_false]; done) | (simp only [mayX,hb5,Bool.true_and,Bool.false_and,Bool.or_true,Bool.true_or,Bool.or_false,Bool.false_or,Bool.and_true,Bool.and_false]; done)
   rw [e] at hk; exact ⟨hk.sub ⟨rfl,rfl,rfl,rfl,rfl,rfl,rfl,trivial⟩,hm⟩
  ·rw [hb5] at hk
   have hb5d:=beq_eq_false_iff_ne.1 hb5
   refine o_want (o':=_) hk ⟨_,_,_,rfl,rfl,rfl⟩ rfl ?_
   refine oF0 hk fo_51_0 rfl rfl fun a hk=>?_
   refine o_want (o':=_) hk ⟨_,_,_,rfl,rfl,rfl⟩ rfl ?_
   refine o_load hk ts_3 rfl (hm.cell_blk (i:=2) rfl rfl) rfl fun a hk=>?_
   refine o_want (o':=_) hk ⟨_,_,_,rfl,rfl,rfl⟩ rfl ?_
   refine o_icmp hk rfl rfl rfl rfl fun a hk=>?_
   refine o_pick hk rfl rfl rfl rfl rfl fun a hk=>?_
   refine oM0 hk rfl rfl fun a hk=>?_
   rcases Bool.eq_false_or_eq_true (((((f.kind:Nat):Int):Int) == 10)) with hb6 | hb6
   ·rw [hb6] at hk
    have hb6d:=eq_of_beq hb6
    refine oS0 hk ⟨_,_,_,_,rfl,rfl,rfl,nb_tf⟩ rfl rfl fun a hk=>?_
    refine o_pick hk rfl rfl rfl rfl rfl fun a hk=>?_
    refine oM0 hk rfl rfl fun a hk=>?_
    refine o_want (o':=_) hk ⟨_,_,_,rfl,rfl,rfl⟩ rfl ?_
    refine oF0 hk fo_26_2 rfl rfl fun a hk=>?_
    refine o_want (o':=_) hk ⟨_,_,_,rfl,rfl,rfl⟩ rfl ?_
    refine o_load hk ts_4 rfl (hm.cell_blk (i:=0) rfl rfl) rfl fun a hk=>?_
    refine o_want (o':=_) hk ⟨_,_,_,rfl,rfl,rfl⟩ rfl ?_
    refine oM0 hk rfl rfl fun a hk=>?_
    refine o_want (o':=_) hk ⟨_,_,_,rfl,rfl,rfl⟩ rfl ?_
    refine o_neBool hk ib_4 rfl rfl rfl fun a hk=>?_
    refine o_pick hk rfl rfl rfl rfl rfl fun a hk=>?_
    refine c_endQ ?_
    refine cT0 ?_
    have e:(.bool ((g.z != (f.null V t))):Value) = .bool (toldX f V t g):=by first | (simp only [toldX,hb5,hb6,Bool.true_and,Bool.false_and,Bool.or_true,Bool.true_or,Bool.or_false,Bool.false_or,Bool.and_true,Bool.and_false]; done) | (simp only [mayX,hb5,hb6,Bool.true_and,Bool.false_and,Bool.or_true,Bool.true_or,Bool.or_false,Bool.false_or,Bool.and_true,Bool.and_false]; done)
    rw [e] at hk; exact ⟨hk.sub ⟨rfl,rfl,rfl,rfl,rfl,rfl,rfl,trivial⟩,hm⟩
   ·rw [hb6] at hk
    have hb6d:=beq_eq_false_iff_ne.1 hb6
    refine o_want (o':=_) hk ⟨_,_,_,rfl,rfl,rfl⟩ rfl ?_
    refine oM0 hk rfl rfl fun a hk=>?_
    refine o_pick hk rfl rfl rfl rfl rfl fun a hk=>?_
    refine oM0 hk rfl rfl fun a hk=>?_
    rcases Bool.eq_false_or_eq_true ((mayX f V)) with hb7 | hb7
    ·rw [hb7] at hk
     refine o_want (o':=_) hk ⟨_,_,_,rfl,rfl,rfl⟩ rfl ?_
     refine oF0 hk fo_26_2 rfl rfl fun a hk=>?_
     refine o_want (o':=_) hk ⟨_,_,_,rfl,rfl,rfl⟩ rfl ?_
     refine o_load hk ts_4 rfl (hm.cell_blk (i:=0) rfl rfl) rfl fun a hk=>?_
     refine o_want (o':=_) hk ⟨_,_,_,rfl,rfl,rfl⟩ rfl ?_
     refine oM0 hk rfl rfl fun a hk=>?_
     refine o_want (o':=_) hk ⟨_,_,_,rfl,rfl,rfl⟩ rfl ?_
     refine o_neBool hk ib_4 rfl rfl rfl fun a hk=>?_
     refine o_pick hk rfl rfl rfl rfl rfl fun a hk=>?_
     refine c_endQ ?_
     refine cT0 ?_
     have e:(.bool ((g.z != (f.null V t))):Value) = .bool (toldX f V t g):=by first | (simp only [toldX,hb5,hb6,hb7,Bool.true_and,Bool.false_and,Bool.or_true,Bool.true_or,Bool.or_false,Bool.false_or,Bool.and_true,Bool.and_false]; done) | (simp only [mayX,hb5,hb6,hb7,Bool.true_and,Bool.false_and,Bool.or_true,Bool.true_or,Bool.or_false,Bool.false_or,Bool.and_true,Bool.and_false]; done)
     rw [e] at hk; exact ⟨hk.sub ⟨rfl,rfl,rfl,rfl,rfl,rfl,rfl,trivial⟩,hm⟩
    ·rw [hb7] at hk
     refine oS0 hk ⟨_,_,_,_,rfl,rfl,rfl,nb_ft⟩ rfl rfl fun a hk=>?_
     refine oS0 hk ⟨_,_,_,_,rfl,rfl,rfl,nb_ft⟩ rfl rfl fun a hk=>?_
     refine oS0 hk ⟨_,_,_,_,rfl,rfl,rfl,nb_ft⟩ rfl rfl fun a hk=>?_
     refine oS0 hk ⟨_,_,_,_,rfl,rfl,rfl,nb_ft⟩ rfl rfl fun a hk=>?_
     refine o_pick hk rfl rfl rfl rfl rfl fun a hk=>?_
     refine c_endQ ?_
     refine cT0 ?_
     have e:(.bool (false):Value) = .bool (toldX f V t g):=by first | (simp only [toldX,hb5,hb6,hb7,Bool.true_and,Bool.false_and,Bool.or_true,Bool.true_or,Bool.or_false,Bool.false_or,Bool.and_true,Bool.and_false]; done) | (simp only [mayX,hb5,hb6,hb7,Bool.true_and,Bool.false_and,Bool.or_true,Bool.true_or,Bool.or_false,Bool.false_or,Bool.and_true,Bool.and_false]; done)
     rw [e] at hk; exact ⟨hk.sub ⟨rfl,rfl,rfl,rfl,rfl,rfl,rfl,trivial⟩,hm⟩
 obtain ⟨hk,hm⟩:=hJ
 refine c_cond hk rfl (fun hc=>?_) (fun hc=>?_)
 ·have hbad:false = toldF f V flex t g:=toldX_bad hof hc
  refine cR0 ?_
  refine oA0 hk rfl rfl fun a hk=>?_
  refine cE0 ?_
  refine wp_ret ?_
  refine cQ0 ?_
  refine bT0 rfl hk rfl ?_
  first | exact ⟨hm.agr,congrArg Value.bool ((toldR_loopF h11 hlt hc).trans hq2.symm)⟩ | exact ⟨hm.agr,congrArg Value.bool ((toldR_len (by omega) (by assumption)).trans hq2.symm)⟩ | exact ⟨hm.agr,congrArg Value.bool hbad⟩
 ·have hq:toldF f V flex t g = if f.null V t then true else toldR f V flex t g:=toldX_ok hof hc
  refine wp_skip ?_
  refine cT0 ?_
  refine wp_seq ?_
  refine cR0 ?_
  refine oM0 hk rfl rfl fun a hk=>?_
  refine cE0 ?_
  refine c_cond hk rfl (fun hc=>?_) (fun hc=>?_)
  ·have hq2:true = toldF f V flex t g:=by rw [hq,if_pos hc]
   refine cR0 ?_
   refine oA0 hk rfl rfl fun a hk=>?_
   refine cE0 ?_
   refine wp_ret ?_
   refine cQ0 ?_
   refine bT0 rfl hk rfl ?_
   first | exact ⟨hm.agr,congrArg Value.bool hq2⟩ | exact ⟨hm.agr,congrArg Value.bool ((toldR_loopT (by omega) (by assumption) hall).trans hq2.symm)⟩
  ·have hq2:toldF f V flex t g = toldR f V flex t g:=by rw [hq,if_neg (by rw [hc]; exact Bool.false_ne_true)]
   refine wp_skip ?_
   refine cT0 ?_
   refine wp_seq ?_
   refine cR0 ?_
   refine oF0 hk fo_51_0 rfl rfl fun a hk=>?_
   refine o_load hk ts_3 rfl (hm.cell_blk (i:=2) rfl rfl) rfl fun a hk=>?_
   refine cE0 ?_
   refine wp_block ?_
   refine wp_seq ?_
   refine cR0 ?_
   refine o_icmp hk rfl rfl rfl rfl fun a hk=>?_
   refine oA0 hk rfl rfl fun a hk=>?_
   refine cE0 ?_
   refine c_cond hk rfl (fun hc=>?_) (fun hc=>?_)
   ·have hc8:=eq_of_beq hc
    refine wp_skip ?_
    refine cT0 ?_
    refine c_cond hk rfl (fun hc=>?_) (fun hc=>?_)
    ·have hc9:=eq_of_beq hc
     refine wp_seq ?_
     refine d_startM (K:=6) mixed hm fun w hm=>?_
     refine d_take (i:=0) rfl rfl rfl (by kernel_rfl) (fun _ _ _ h=>h) hk rfl (fun w hm=>rF0 hk fo_26_1 rfl) hm fun a hk=>?_
     refine d_take (i:=1) rfl rfl rfl (by kernel_rfl) (fun _ _ _ h=>h) hk rfl (fun w hm=>r_load1 hk ts_22 rfl (hm.cell_blk (i:=0) rfl rfl)) hm fun a hk=>?_
     refine d_one (k:=2) (by kernel_rfl) rfl rfl ?_
     refine oF0 hk fo_26_1 rfl rfl fun a hk=>?_
     refine c_endQ (cT0 ⟨fun _=>hm,?_⟩)
     refine d_one (k:=3) (by kernel_rfl) rfl rfl ?_
     refine o_load hk ts_22 rfl (hm.cell_blk (i:=1) rfl rfl) rfl fun a hk=>?_
     refine c_endQ (cT0 ⟨fun _=>hm,?_⟩)
     refine d_one (k:=4) (by kernel_rfl) rfl rfl ?_
     refine o_call hk cb_56 (whole_c (rep_T_s (hm.rep (i:=4) rfl))) ⟨rfl,trivial⟩ rfl fun v w a hR hk=>?_
     obtain ⟨hp,rfl,hR⟩:=hR
     have hm:=hm.result hp hR
     have hwl:=whole_len t.s
     refine c_endQ (cT0 ⟨fun _=>hm.tail,?_⟩)
     refine d_one (k:=5) (by kernel_rfl) rfl rfl ?_
     refine o_call hk cb_55 (same_c (rep_T_s (hm.rep (i:=6) rfl)) (hm.rep (i:=0) rfl) (by omega)) ⟨rfl,rfl,trivial⟩ rfl fun v w a hR hk=>?_
     obtain ⟨hp,rfl⟩:=hR
     have hm:=hm.pure hp
     refine c_endQ (cT0 ⟨fun _=>hm.tail,?_⟩)
     refine d_one (k:=6) (by kernel_rfl) rfl rfl ?_
     refine oA0 hk rfl rfl fun a hk=>?_
     refine c_endQ (cT0 ⟨fun h=>Bool.noConfusion (show true = false from h),?_⟩)
     refine d_done (by kernel_rfl) ?_ _
     refine cT0 ?_
     refine wp_ret ?_
     refine c_inRet ?_
     refine cQ0 ?_
     refine bT0 rfl hk rfl ?_
     exact ⟨hm.agr,congrArg Value.bool ((toldR_89 (by omega)).trans hq2.symm)⟩
    ·have hc10:=beq_eq_false_iff_ne.1 hc
     refine cR0 ?_
     refine o_icmp hk rfl rfl rfl rfl fun a hk=>?_
     refine oA0 hk rfl rfl fun a hk=>?_
     refine cE0 ?_
     refine c_cond hk rfl (fun hc=>?_) (fun hc=>?_)
     ·have hc11:=eq_of_beq hc
      refine cR0 ?_
      refine o_makeN hk hm rt_22 tz_5 rfl rfl rfl rfl fun a b12 w hk hm=>?_
      refine oA0 hk rfl rfl fun a hk=>?_
      refine cE0 ?_
      refine cR0 ?_
      refine oM0 hk rfl rfl fun a hk=>?_
      refine oF0 hk fo_26_1 rfl rfl fun a hk=>?_
      refine o_load hk ts_22 rfl (hm.cell_blk (i:=2) rfl rfl) rfl fun a hk=>?_
      refine o_copyB (i:=0) hk hm te_22 cz_5 rfl rfl (by simp) rfl (rep_T_s (hm.rep (i:=5) rfl)) rfl fun a w hk hm=>?_
      rw [sixteen_cells] at hm
      refine cE0 ?_
      refine cR0 ?_
      refine oF0 hk fo_26_1 rfl rfl fun a hk=>?_
      refine o_load hk ts_22 rfl (hm.cell_blk (i:=1) rfl rfl) rfl fun a hk=>?_
      refine oM0 hk rfl rfl fun a hk=>?_
      have hm:=hm.blkRow (i:=0) (n:=16) (sz:=1) rfl (by rw [bv_length,sixteen_length]) (by decide)
      have hm:=hm.freezeBytes (i:=0) (s:=sixteen t.s) rfl (sixteen_length t.s).symm
      have h16:Ret Tryz.prog 55 [.slice psg g.s.length capsg,.slice (some ⟨b12,0,none⟩) 16 16] w fun v w'=>Agr Nob w w' ∧ v = .bool (decide (g.s = sixteen t.s)):=by
       have h:=same_c (sa:=g.s) (sb:=sixteen t.s) (q:=some ⟨b12,0,none⟩) (cq:=16) (rep_T_s (hm.rep (i:=6) rfl)) (by rw [sixteen_length]; exact hm.rep (i:=0) rfl) (by omega)
       rw [sixteen_length] at h; exact h
      refine o_call hk cb_55 h16 ⟨rfl,rfl,trivial⟩ rfl fun v w a hR hk=>?_
      obtain ⟨hp,rfl⟩:=hR
      have hm:=hm.pure hp
      refine oA0 hk rfl rfl fun a hk=>?_
      refine cE0 ?_
      refine wp_ret ?_
      refine c_inRet ?_
      refine cQ0 ?_
      refine bT0 rfl hk rfl ?_
      exact ⟨hm.agr,congrArg Value.bool ((toldR_7 (by omega)).trans hq2.symm)⟩
     ·have hc13:=beq_eq_false_iff_ne.1 hc
      refine cR0 ?_
      refine o_icmp hk rfl rfl rfl rfl fun a hk=>?_
      refine oA0 hk rfl rfl fun a hk=>?_
      refine cE0 ?_
      refine c_cond hk rfl (fun hc=>?_) (fun hc=>?_)
      ·have hc14:=eq_of_beq hc
       refine cR0 ?_
       refine oF0 hk fo_51_7 rfl rfl fun a hk=>?_
       refine o_load hk ts_29 rfl (hm.cell_blk (i:=2) rfl rfl) rfl fun a hk=>?_
       refine oM0 hk rfl rfl fun a hk=>?_
       refine oM0 hk rfl rfl fun a hk=>?_
       refine o_loadN (cs:=[.int .i64 t.n,.slice pst t.s.length capst,.bool t.z,.slice pt t.l.length capt,.slice put t.u.length caput]) hk ts_26 rfl (hm.cells_blk (i:=1) rfl rfl) rfl fun a hk=>?_
       refine o_loadN (cs:=[.int .i64 g.n,.slice psg g.s.length capsg,.bool g.z,.slice pg g.l.length capg,.slice pug g.u.length capug]) hk ts_26 rfl (hm.cells_blk (i:=0) rfl rfl) rfl fun a hk=>?_
       refine o_call hk cb_17 (hP V flex (rep_Fd8 (hm.rep (i:=3) rfl)) (hm.rep (i:=4) rfl) (hm.rep (i:=5) rfl) hsn hgn hgm) ⟨rfl,rfl,rfl,rfl,rfl,trivial⟩ rfl fun v w a hR hk=>?_
       obtain ⟨hp,rfl⟩:=hR
       have hm:=hm.pure hp
       refine oA0 hk rfl rfl fun a hk=>?_
       refine cE0 ?_
       refine wp_ret ?_
       refine c_inRet ?_
       refine cQ0 ?_
       refine bT0 rfl hk rfl ?_
       exact ⟨hm.agr,congrArg Value.bool ((toldR_10 (by omega)).trans hq2.symm)⟩
      ·have hc15:=beq_eq_false_iff_ne.1 hc
       refine cR0 ?_
       refine o_icmp hk rfl rfl rfl rfl fun a hk=>?_
       refine oA0 hk rfl rfl fun a hk=>?_
       refine cE0 ?_
       refine c_cond hk rfl (fun hc=>?_) (fun hc=>?_)
       ·have hc16:=eq_of_beq hc
        refine cR0 ?_
        refine oF0 hk fo_26_3 rfl rfl fun a hk=>?_
        refine o_load hk ts_23 rfl (hm.cell_blk (i:=1) rfl rfl) rfl fun a hk=>?_
        refine o_call hk cb_117 (things_c (rep_T_l (hm.rep (i:=4) rfl))) ⟨rfl,trivial⟩ rfl fun v w a hR hk=>?_
        obtain ⟨hp,rfl,hR⟩:=hR
        have hm:=hm.result hp hR
        have htl:=things_len t.l
        refine oA0 hk rfl rfl fun a hk=>?_
        refine cE0 ?_
        refine wp_seq ?_
        refine cR0 ?_
        refine oF0 hk fo_26_3 rfl rfl fun a hk=>?_
        refine o_load hk ts_23 rfl (hm.cell_blk (i:=1) rfl rfl) rfl fun a hk=>?_
        refine oL0 hk te_23 rfl rfl fun a hk=>?_
        refine oM0 hk rfl rfl fun a hk=>?_
        refine oL0 hk te_23 rfl rfl fun a hk=>?_
        refine o_icmp hk rfl rfl rfl rfl fun a hk=>?_
        refine cE0 ?_
        refine c_cond hk rfl (fun hc=>?_) (fun hc=>?_)
        ·have hc17:=bne_iff_ne.1 hc
         refine cR0 ?_
         refine oA0 hk rfl rfl fun a hk=>?_
         refine cE0 ?_
         refine wp_ret ?_
         refine cQ0 ?_
         refine c_inRet ?_
         refine cQ0 ?_
         refine bT0 rfl hk rfl ?_
         first | exact ⟨hm.agr,congrArg Value.bool ((toldR_loopF h11 hlt hc).trans hq2.symm)⟩ | exact ⟨hm.agr,congrArg Value.bool ((toldR_len (by omega) (by assumption)).trans hq2.symm)⟩ | exact ⟨hm.agr,congrArg Value.bool hbad⟩
        ·have hc18:=bne_eq_false_iff_eq.1 hc
         refine wp_skip ?_
         refine cT0 ?_
         refine cR0 ?_
         refine o_loadN (cs:=[.int .i64 ((f.kind:Nat):Int),.int .i64 f.fr,.int .i64 f.to,.int .i64 f.nu,.int .i64 f.tag,.int .i64 f.df,.int .i64 ((f.of:Nat):Int),.slice pf f.sub.length capf]) hk ts_51 rfl (hm.cells_blk (i:=3) rfl rfl) rfl fun a hk=>?_
         refine o_alloc hk hm tz_51 rfl rfl fun a b19 w hk hm=>?_
         refine o_store (i:=0) hk hm ts_51 rfl rfl rfl rfl rfl rfl (Nat.le_of_ble_eq_true rfl) fun a w hk hm=>?_
         refine cE0 ?_
         refine cR0 ?_
         refine oF0 hk fo_51_6 rfl rfl fun a hk=>?_
         refine o_load hk ts_3 rfl (hm.cell_blk (i:=4) rfl rfl) rfl fun a hk=>?_
         refine oF0 hk fo_51_0 rfl rfl fun a hk=>?_
         refine o_store (i:=0) hk hm ts_3 rfl rfl rfl rfl rfl rfl (Nat.le_of_ble_eq_true rfl) fun a w hk hm=>?_
         refine oF0 hk fo_51_3 rfl rfl fun a hk=>?_
         refine o_store (i:=0) hk hm ts_3 rfl rfl rfl rfl rfl rfl (Nat.le_of_ble_eq_true rfl) fun a w hk hm=>?_
         refine oF0 hk fo_51_4 rfl rfl fun a hk=>?_
         refine o_store (i:=0) hk hm ts_3 rfl rfl rfl rfl rfl rfl (Nat.le_of_ble_eq_true rfl) fun a w hk hm=>?_
         refine cE0 ?_
         refine wp_seq ?_
         refine cR0 ?_
         refine oM0 hk rfl rfl fun a hk=>?_
         refine oL0 hk te_23 rfl rfl fun a hk=>?_
         refine oM0 hk rfl rfl fun a hk=>?_
         refine cE0 ?_
         have h11:f.kind = 11:=by omega
         have hglen:g.l.length = (things t.l).length:=by have:=bne_eq_false_iff_eq.1 (by assumption:(((g.l.length:Nat):Int) != (((things t.l).length:Nat):Int)) = false); omega
         have hm:=hm.add (e:=.rep (ddFd (oneOf f)) [.int .i64 ((f.of:Nat):Int),.int .i64 f.fr,.int .i64 f.to,.int .i64 (-1),.int .i64 (-1),.int .i64 f.df,.int .i64 ((f.of:Nat):Int),.slice pf f.sub.length capf]) rfl (rep_Fd_mk (rep_Fd8 (hm.rep (i:=5) rfl)))
         refine c_range (L0:=[(1,.int .i64 V),(2,.bool flex),(5,.pointer (some ⟨b1,0,none⟩)),(8,.pointer (some ⟨b2,0,none⟩)),(9,.pointer (some ⟨b3,0,none⟩)),(14,.slice pt ((things t.l).length) capt),(15,.pointer (some ⟨b19,0,none⟩))]) (N:=(things t.l).length) (by omega) (fun k L w=>L = [(1,.int .i64 V),(2,.bool flex),(5,.pointer (some ⟨b1,0,none⟩)),(8,.pointer (some ⟨b2,0,none⟩)),(9,.pointer (some ⟨b3,0,none⟩)),(14,.slice pt ((things t.l).length) capt),(15,.pointer (some ⟨b19,0,none⟩))] ∧ (List.range k).all (toldAt f V flex t g) = true ∧ Mem w0 Nob Y [.rep (ddFd (oneOf f)) [.int .i64 ((f.of:Nat):Int),.int .i64 f.fr,.int .i64 f.to,.int .i64 (-1),.int .i64 (-1),.int .i64 f.df,.int .i64 ((f.of:Nat):Int),.slice pf f.sub.length capf],.blk b19 [.int .i64 ((f.of:Nat):Int),.int .i64 f.fr,.int .i64 f.to,.int .i64 (-1),.int .i64 (-1),.int .i64 f.df,.int .i64 ((f.of:Nat):Int),.slice pf f.sub.length capf] 51,.rep (.sl false 5 ((things t.l).map ddT)) [.slice pt ((things t.l).length) capt],.blk b3 [.int .i64 g.n,.slice psg g.s.length capsg,.bool g.z,.slice pg g.l.length capg,.slice pug g.u.length capug] 26,.blk b2 [.int .i64 t.n,.slice pst t.s.length capst,.bool t.z,.slice pt t.l.length capt,.slice put t.u.length caput] 26,.blk b1 [.int .i64 ((f.kind:Nat):Int),.int .i64 f.fr,.int .i64 f.to,.int .i64 f.nu,.int .i64 f.tag,.int .i64 f.df,.int .i64 ((f.of:Nat):Int),.slice pf f.sub.length capf] 51,.rep (ddFd f) [.int .i64 ((f.kind:Nat):Int),.int .i64 f.fr,.int .i64 f.to,.int .i64 f.nu,.int .i64 f.tag,.int .i64 f.df,.int .i64 ((f.of:Nat):Int),.slice pf f.sub.length capf],.rep (ddT t) [.int .i64 t.n,.slice pst t.s.length capst,.bool t.z,.slice pt t.l.length capt,.slice put t.u.length caput],.rep (ddT g) [.int .i64 g.n,.slice psg g.s.length capsg,.bool g.z,.slice pg g.l.length capg,.slice pug g.u.length capug]] w) (hk.sub ⟨rfl,rfl,rfl,rfl,rfl,rfl,rfl,rfl,rfl,trivial⟩) ⟨rfl,rfl,hm⟩ rfl rfl rfl rfl rfl rfl rfl (fun k L a w hlt hR hk=>?_) rfl (fun L a w hR hk=>?_)
         ·obtain ⟨rfl,hI0,hm⟩:=hR
          obtain ⟨hltx,blx,offx,ex,hplx,helx,hRex,hCex⟩:=rep_sl_get (hm.rep (i:=2) rfl) (getD_map ddT (things t.l) k T.nil hlt)
          obtain ⟨psx,capsx,px,capx,pux,capux,rfl⟩:=rep_T7 hRex
          have hm:=hm.add (e:=.rep (ddT ((things t.l).getD k T.nil)) [.int .i64 (((things t.l).getD k T.nil).n),.slice psx (((things t.l).getD k T.nil).s.length) capsx,.bool (((things t.l).getD k T.nil).z),.slice px (((things t.l).getD k T.nil).l.length) capx,.slice pux (((things t.l).getD k T.nil).u.length) capux]) rfl hRex
          have hm:=hm.add (e:=.cel blx (offx + k * 5) [.int .i64 (((things t.l).getD k T.nil).n),.slice psx (((things t.l).getD k T.nil).s.length) capsx,.bool (((things t.l).getD k T.nil).z),.slice px (((things t.l).getD k T.nil).l.length) capx,.slice pux (((things t.l).getD k T.nil).u.length) capux]) rfl hCex
          have hltg:k < g.l.length:=by omega
          obtain ⟨hltz,blz,offz,ez,hplz,helz,hRez,hCez⟩:=rep_sl_get (rep_T_l (hm.rep (i:=10) rfl)) (getD_map ddT g.l k T.nil hltg)
          obtain ⟨psz,capsz,pz,capz,puz,capuz,rfl⟩:=rep_T7 hRez
          have hm:=hm.add (e:=.rep (ddT (g.l.getD k T.nil)) [.int .i64 ((g.l.getD k T.nil).n),.slice psz ((g.l.getD k T.nil).s.length) capsz,.bool ((g.l.getD k T.nil).z),.slice pz ((g.l.getD k T.nil).l.length) capz,.slice puz ((g.l.getD k T.nil).u.length) capuz]) rfl hRez
          have hm:=hm.add (e:=.cel blz (offz + k * 5) [.int .i64 ((g.l.getD k T.nil).n),.slice psz ((g.l.getD k T.nil).s.length) capsz,.bool ((g.l.getD k T.nil).z),.slice pz ((g.l.getD k T.nil).l.length) capz,.slice puz ((g.l.getD k T.nil).u.length) capuz]) rfl hCez
          refine cR0 ?_
          refine oM0 hk rfl rfl fun a hk=>?_
          refine oA0 hk rfl rfl fun a hk=>?_
          refine cE0 ?_
          refine wp_seq ?_
          refine d_startM (K:=13) mixed hm fun w hm=>?_
          refine d_take (i:=0) rfl rfl rfl (by kernel_rfl) (fun _ _ _ h=>h) hk rfl (fun w hm=>r_loadN (cs:=[.int .i64 ((f.of:Nat):Int),.int .i64 f.fr,.int .i64 f.to,.int .i64 (-1),.int .i64 (-1),.int .i64 f.df,.int .i64 ((f.of:Nat):Int),.slice pf f.sub.length capf]) hk ts_51 rfl (hm.cells_blk (i:=5) rfl rfl)) hm fun a hk=>?_
          refine d_take (i:=1) rfl rfl rfl (by kernel_rfl) (fun _ _ _ h=>h) hk rfl (fun w hm=>r_move hk rfl) hm fun a hk=>?_
          refine d_take (i:=2) rfl rfl rfl (by kernel_rfl) (fun _ _ _ h=>h) hk rfl (fun w hm=>r_move hk rfl) hm fun a hk=>?_
          refine d_take (i:=3) rfl rfl rfl (by kernel_rfl) (fun _ _ _ h=>h) hk rfl (fun w hm=>r_move hk rfl) hm fun a hk=>?_
          refine d_take (i:=4) rfl rfl rfl (by kernel_rfl) (fun _ _ _ h=>h) hk rfl (fun w hm=>r_move hk rfl) hm fun a hk=>?_
          refine d_take (i:=5) rfl rfl rfl (by kernel_rfl) (fun _ _ _ h=>h) hk rfl (fun w hm=>r_indexAddr (j:=k) (b:=blx) (off:=offx) hk te_23 ts_26 (by rw [← hplx]; rfl) rfl hltx) hm fun a hk=>?_
          refine d_take (i:=6) rfl rfl rfl (by kernel_rfl) (fun _ _ _ h=>h) hk rfl (fun w hm=>r_loadN (cs:=[.int .i64 (((things t.l).getD k T.nil).n),.slice psx (((things t.l).getD k T.nil).s.length) capsx,.bool (((things t.l).getD k T.nil).z),.slice px (((things t.l).getD k T.nil).l.length) capx,.slice pux (((things t.l).getD k T.nil).u.length) capux]) hk ts_26 rfl (hm.cells_cel (i:=2) (k:=0) rfl rfl)) hm fun a hk=>?_
          refine d_take (i:=7) rfl rfl rfl (by kernel_rfl) (fun _ _ _ h=>h) hk rfl (fun w hm=>rF0 hk fo_26_3 rfl) hm fun a hk=>?_
          refine d_take (i:=8) rfl rfl rfl (by kernel_rfl) (fun _ _ _ h=>h) hk rfl (fun w hm=>r_load1 hk ts_23 rfl (hm.cell_blk (i:=7) rfl rfl)) hm fun a hk=>?_
          refine d_one (k:=9) (by kernel_rfl) rfl rfl ?_
          refine oM0 hk rfl rfl fun a hk=>?_
          refine c_endQ (cT0 ⟨fun _=>hm,?_⟩)
          refine d_one (k:=10) (by kernel_rfl) rfl rfl ?_
          refine oI0 (j:=k) (b:=blz) (off:=offz) hk te_23 ts_26 (by rw [← hplz]; rfl) rfl hltz rfl fun a hk=>?_
          refine c_endQ (cT0 ⟨fun _=>hm,?_⟩)
          refine d_one (k:=11) (by kernel_rfl) rfl rfl ?_
          refine o_loadN (cs:=[.int .i64 ((g.l.getD k T.nil).n),.slice psz ((g.l.getD k T.nil).s.length) capsz,.bool ((g.l.getD k T.nil).z),.slice pz ((g.l.getD k T.nil).l.length) capz,.slice puz ((g.l.getD k T.nil).u.length) capuz]) hk ts_26 rfl (hm.cells_cel (i:=0) (k:=0) rfl rfl) rfl fun a hk=>?_
          refine c_endQ (cT0 ⟨fun _=>hm,?_⟩)
          refine d_one (k:=12) (by kernel_rfl) rfl rfl ?_
          refine o_call hk cb_52 (hone h11 V flex (hm.rep (i:=4) rfl) (hm.rep (i:=3) rfl) (hm.rep (i:=1) rfl) (sane_things hsn k) (sane_getD hgs.2.2.2 k) (small_getD hgm k)) ⟨rfl,rfl,rfl,rfl,rfl,trivial⟩ rfl fun v w a hR hk=>?_
          obtain ⟨hp,rfl⟩:=hR
          have hm:=hm.pure hp
          refine c_endQ (cT0 ⟨fun _=>hm,?_⟩)
          refine d_one (k:=13) (by kernel_rfl) rfl rfl ?_
          refine o_not hk rfl rfl fun a hk=>?_
          refine c_endQ (cT0 ⟨fun h=>Bool.noConfusion (show true = false from h),?_⟩)
          refine d_done (by kernel_rfl) ?_ _
          refine cT0 ?_
          refine c_cond hk rfl (fun hc=>?_) (fun hc=>?_)
          ·have hc20:=hc
           refine cR0 ?_
           refine oA0 hk rfl rfl fun a hk=>?_
           refine cE0 ?_
           refine wp_ret ?_
           refine c_inRet ?_
           refine c_roundRet ?_
           refine cQ0 ?_
           refine c_inRet ?_
           refine cQ0 ?_
           refine bT0 rfl hk rfl ?_
           first | exact ⟨hm.agr,congrArg Value.bool ((toldR_loopF h11 hlt hc).trans hq2.symm)⟩ | exact ⟨hm.agr,congrArg Value.bool ((toldR_len (by omega) (by assumption)).trans hq2.symm)⟩ | exact ⟨hm.agr,congrArg Value.bool hbad⟩
          ·have hc21:=hc
           refine wp_skip ?_
           refine cN0 ?_
           exact c_round (L':=[(1,.int .i64 V),(2,.bool flex),(5,.pointer (some ⟨b1,0,none⟩)),(8,.pointer (some ⟨b2,0,none⟩)),(9,.pointer (some ⟨b3,0,none⟩)),(14,.slice pt ((things t.l).length) capt),(15,.pointer (some ⟨b19,0,none⟩))]) hk ⟨rfl,rfl,rfl,rfl,rfl,rfl,rfl,rfl,rfl,trivial⟩ rfl ⟨rfl,(range_all_succ hI0 ((Bool.not_eq_false' _).mp hc)),hm.tail.tail.tail.tail⟩
         ·obtain ⟨rfl,hI0,hm⟩:=hR
          have hall:=hI0
          refine cT0 ?_
          refine cR0 ?_
          refine oA0 hk rfl rfl fun a hk=>?_
          refine cE0 ?_
          refine wp_ret ?_
          refine c_inRet ?_
          refine cQ0 ?_
          refine bT0 rfl hk rfl ?_
          first | exact ⟨hm.agr,congrArg Value.bool hq2⟩ | exact ⟨hm.agr,congrArg Value.bool ((toldR_loopT (by omega) (by assumption) hall).trans hq2.symm)⟩
       ·have hc22:=beq_eq_false_iff_ne.1 hc
        refine wp_skip ?_
        refine cN0 ?_
        refine cT0 ?_
        refine wp_seq ?_
        refine d_startM (K:=8) mixed hm fun w hm=>?_
        refine d_take (i:=0) rfl rfl rfl (by kernel_rfl) (fun _ _ _ h=>h) hk rfl (fun w hm=>rF0 hk fo_26_0 rfl) hm fun a hk=>?_
        refine d_take (i:=1) rfl rfl rfl (by kernel_rfl) (fun _ _ _ h=>h) hk rfl (fun w hm=>r_load1 hk ts_2 rfl (hm.cell_blk (i:=0) rfl rfl)) hm fun a hk=>?_
        refine d_take (i:=2) rfl rfl rfl (by kernel_rfl) (fun _ _ _ h=>h) hk rfl (fun w hm=>rF0 hk fo_51_0 rfl) hm fun a hk=>?_
        refine d_take (i:=3) rfl rfl rfl (by kernel_rfl) (fun _ _ _ h=>h) hk rfl (fun w hm=>r_load1 hk ts_3 rfl (hm.cell_blk (i:=2) rfl rfl)) hm fun a hk=>?_
        refine d_one (k:=4) (by kernel_rfl) rfl rfl ?_
        refine oF0 hk fo_26_0 rfl rfl fun a hk=>?_
        refine c_endQ (cT0 ⟨fun _=>hm,?_⟩)
        refine d_one (k:=5) (by kernel_rfl) rfl rfl ?_
        refine o_load hk ts_2 rfl (hm.cell_blk (i:=1) rfl rfl) rfl fun a hk=>?_
        refine c_endQ (cT0 ⟨fun _=>hm,?_⟩)
        refine d_one (k:=6) (by kernel_rfl) rfl rfl ?_
        refine o_call hk cb_118 (number_c (Y:=Y) f.kind) ⟨rfl,rfl,trivial⟩ rfl fun v w a hR hk=>?_
        obtain ⟨hp,rfl⟩:=hR
        have hm:=hm.pure hp
        refine c_endQ (cT0 ⟨fun _=>hm,?_⟩)
        refine d_one (k:=7) (by kernel_rfl) rfl rfl ?_
        refine o_icmp hk rfl rfl rfl rfl fun a hk=>?_
        refine c_endQ (cT0 ⟨fun _=>hm,?_⟩)
        refine d_one (k:=8) (by kernel_rfl) rfl rfl ?_
        refine oA0 hk rfl rfl fun a hk=>?_
        refine c_endQ (cT0 ⟨fun h=>Bool.noConfusion (show true = false from h),?_⟩)
        refine d_done (by kernel_rfl) ?_ _
        refine cT0 ?_
        refine wp_ret ?_
        refine bT0 rfl hk rfl ?_
        exact ⟨hm.agr,congrArg Value.bool ((toldR_n (by omega) (by omega) (by omega) (by omega) (by omega)).trans hq2.symm)⟩
   ·have hc23:=beq_eq_false_iff_ne.1 hc
    refine c_reg ?_
    refine o_icmp hk rfl rfl rfl rfl fun a hk=>?_
    refine oA0 hk rfl rfl fun a hk=>?_
    refine c_endQ ?_
    refine cT0 ?_
    refine c_cond hk rfl (fun hc=>?_) (fun hc=>?_)
    ·have hc24:=eq_of_beq hc
     refine wp_seq ?_
     refine d_startM (K:=6) mixed hm fun w hm=>?_
     refine d_take (i:=0) rfl rfl rfl (by kernel_rfl) (fun _ _ _ h=>h) hk rfl (fun w hm=>rF0 hk fo_26_1 rfl) hm fun a hk=>?_
     refine d_take (i:=1) rfl rfl rfl (by kernel_rfl) (fun _ _ _ h=>h) hk rfl (fun w hm=>r_load1 hk ts_22 rfl (hm.cell_blk (i:=0) rfl rfl)) hm fun a hk=>?_
     refine d_one (k:=2) (by kernel_rfl) rfl rfl ?_
     refine oF0 hk fo_26_1 rfl rfl fun a hk=>?_
     refine c_endQ (cT0 ⟨fun _=>hm,?_⟩)
     refine d_one (k:=3) (by kernel_rfl) rfl rfl ?_
     refine o_load hk ts_22 rfl (hm.cell_blk (i:=1) rfl rfl) rfl fun a hk=>?_
     refine c_endQ (cT0 ⟨fun _=>hm,?_⟩)
     refine d_one (k:=4) (by kernel_rfl) rfl rfl ?_
     refine o_call hk cb_56 (whole_c (rep_T_s (hm.rep (i:=4) rfl))) ⟨rfl,trivial⟩ rfl fun v w a hR hk=>?_
     obtain ⟨hp,rfl,hR⟩:=hR
     have hm:=hm.result hp hR
     have hwl:=whole_len t.s
     refine c_endQ (cT0 ⟨fun _=>hm.tail,?_⟩)
     refine d_one (k:=5) (by kernel_rfl) rfl rfl ?_
     refine o_call hk cb_55 (same_c (rep_T_s (hm.rep (i:=6) rfl)) (hm.rep (i:=0) rfl) (by omega)) ⟨rfl,rfl,trivial⟩ rfl fun v w a hR hk=>?_
     obtain ⟨hp,rfl⟩:=hR
     have hm:=hm.pure hp
     refine c_endQ (cT0 ⟨fun _=>hm.tail,?_⟩)
     refine d_one (k:=6) (by kernel_rfl) rfl rfl ?_
     refine oA0 hk rfl rfl fun a hk=>?_
     refine c_endQ (cT0 ⟨fun h=>Bool.noConfusion (show true = false from h),?_⟩)
     refine d_done (by kernel_rfl) ?_ _
     refine cT0 ?_
     refine wp_ret ?_
     refine c_inRet ?_
     refine cQ0 ?_
     refine bT0 rfl hk rfl ?_
     exact ⟨hm.agr,congrArg Value.bool ((toldR_89 (by omega)).trans hq2.symm)⟩
    ·have hc25:=beq_eq_false_iff_ne.1 hc
     refine cR0 ?_
     refine o_icmp hk rfl rfl rfl rfl fun a hk=>?_
     refine oA0 hk rfl rfl fun a hk=>?_
     refine cE0 ?_
     refine c_cond hk rfl (fun hc=>?_) (fun hc=>?_)
     ·have hc26:=eq_of_beq hc
      refine cR0 ?_
      refine o_makeN hk hm rt_22 tz_5 rfl rfl rfl rfl fun a b27 w hk hm=>?_
      refine oA0 hk rfl rfl fun a hk=>?_
      refine cE0 ?_
      refine cR0 ?_
      refine oM0 hk rfl rfl fun a hk=>?_
      refine oF0 hk fo_26_1 rfl rfl fun a hk=>?_
      refine o_load hk ts_22 rfl (hm.cell_blk (i:=2) rfl rfl) rfl fun a hk=>?_
      refine o_copyB (i:=0) hk hm te_22 cz_5 rfl rfl (by simp) rfl (rep_T_s (hm.rep (i:=5) rfl)) rfl fun a w hk hm=>?_
      rw [sixteen_cells] at hm
      refine cE0 ?_
      refine cR0 ?_
      refine oF0 hk fo_26_1 rfl rfl fun a hk=>?_
      refine o_load hk ts_22 rfl (hm.cell_blk (i:=1) rfl rfl) rfl fun a hk=>?_
      refine oM0 hk rfl rfl fun a hk=>?_
      have hm:=hm.blkRow (i:=0) (n:=16) (sz:=1) rfl (by rw [bv_length,sixteen_length]) (by decide)
      have hm:=hm.freezeBytes (i:=0) (s:=sixteen t.s) rfl (sixteen_length t.s).symm
      have h16:Ret Tryz.prog 55 [.slice psg g.s.length capsg,.slice (some ⟨b27,0,none⟩) 16 16] w fun v w'=>Agr Nob w w' ∧ v = .bool (decide (g.s = sixteen t.s)):=by
       have h:=same_c (sa:=g.s) (sb:=sixteen t.s) (q:=some ⟨b27,0,none⟩) (cq:=16) (rep_T_s (hm.rep (i:=6) rfl)) (by rw [sixteen_length]; exact hm.rep (i:=0) rfl) (by omega)
       rw [sixteen_length] at h; exact h
      refine o_call hk cb_55 h16 ⟨rfl,rfl,trivial⟩ rfl fun v w a hR hk=>?_
      obtain ⟨hp,rfl⟩:=hR
      have hm:=hm.pure hp
      refine oA0 hk rfl rfl fun a hk=>?_
      refine cE0 ?_
      refine wp_ret ?_
      refine c_inRet ?_
      refine cQ0 ?_
      refine bT0 rfl hk rfl ?_
      exact ⟨hm.agr,congrArg Value.bool ((toldR_7 (by omega)).trans hq2.symm)⟩
     ·have hc28:=beq_eq_false_iff_ne.1 hc
      refine cR0 ?_
      refine o_icmp hk rfl rfl rfl rfl fun a hk=>?_
      refine oA0 hk rfl rfl fun a hk=>?_
      refine cE0 ?_
      refine c_cond hk rfl (fun hc=>?_) (fun hc=>?_)
      ·have hc29:=eq_of_beq hc
       refine cR0 ?_
       refine oF0 hk fo_51_7 rfl rfl fun a hk=>?_
       refine o_load hk ts_29 rfl (hm.cell_blk (i:=2) rfl rfl) rfl fun a hk=>?_
       refine oM0 hk rfl rfl fun a hk=>?_
       refine oM0 hk rfl rfl fun a hk=>?_
       refine o_loadN (cs:=[.int .i64 t.n,.slice pst t.s.length capst,.bool t.z,.slice pt t.l.length capt,.slice put t.u.length caput]) hk ts_26 rfl (hm.cells_blk (i:=1) rfl rfl) rfl fun a hk=>?_
       refine o_loadN (cs:=[.int .i64 g.n,.slice psg g.s.length capsg,.bool g.z,.slice pg g.l.length capg,.slice pug g.u.length capug]) hk ts_26 rfl (hm.cells_blk (i:=0) rfl rfl) rfl fun a hk=>?_
       refine o_call hk cb_17 (hP V flex (rep_Fd8 (hm.rep (i:=3) rfl)) (hm.rep (i:=4) rfl) (hm.rep (i:=5) rfl) hsn hgn hgm) ⟨rfl,rfl,rfl,rfl,rfl,trivial⟩ rfl fun v w a hR hk=>?_
       obtain ⟨hp,rfl⟩:=hR
       have hm:=hm.pure hp
       refine oA0 hk rfl rfl fun a hk=>?_
       refine cE0 ?_
       refine wp_ret ?_
       refine c_inRet ?_
       refine cQ0 ?_
       refine bT0 rfl hk rfl ?_
       exact ⟨hm.agr,congrArg Value.bool ((toldR_10 (by omega)).trans hq2.symm)⟩
      ·have hc30:=beq_eq_false_iff_ne.1 hc
       refine cR0 ?_
       refine o_icmp hk rfl rfl rfl rfl fun a hk=>?_
       refine oA0 hk rfl rfl fun a hk=>?_
       refine cE0 ?_
       refine c_cond hk rfl (fun hc=>?_) (fun hc=>?_)
       ·have hc31:=eq_of_beq hc
        refine cR0 ?_
        refine oF0 hk fo_26_3 rfl rfl fun a hk=>?_
        refine o_load hk ts_23 rfl (hm.cell_blk (i:=1) rfl rfl) rfl fun a hk=>?_
        refine o_call hk cb_117 (things_c (rep_T_l (hm.rep (i:=4) rfl))) ⟨rfl,trivial⟩ rfl fun v w a hR hk=>?_
        obtain ⟨hp,rfl,hR⟩:=hR
        have hm:=hm.result hp hR
        have htl:=things_len t.l
        refine oA0 hk rfl rfl fun a hk=>?_
        refine cE0 ?_
        refine wp_seq ?_
        refine cR0 ?_
        refine oF0 hk fo_26_3 rfl rfl fun a hk=>?_
        refine o_load hk ts_23 rfl (hm.cell_blk (i:=1) rfl rfl) rfl fun a hk=>?_
        refine oL0 hk te_23 rfl rfl fun a hk=>?_
        refine oM0 hk rfl rfl fun a hk=>?_
        refine oL0 hk te_23 rfl rfl fun a hk=>?_
        refine o_icmp hk rfl rfl rfl rfl fun a hk=>?_
        refine cE0 ?_
        refine c_cond hk rfl (fun hc=>?_) (fun hc=>?_)
        ·have hc32:=bne_iff_ne.1 hc
         refine cR0 ?_
         refine oA0 hk rfl rfl fun a hk=>?_
         refine cE0 ?_
         refine wp_ret ?_
         refine cQ0 ?_
         refine c_inRet ?_
         refine cQ0 ?_
         refine bT0 rfl hk rfl ?_
         first | exact ⟨hm.agr,congrArg Value.bool ((toldR_loopF h11 hlt hc).trans hq2.symm)⟩ | exact ⟨hm.agr,congrArg Value.bool ((toldR_len (by omega) (by assumption)).trans hq2.symm)⟩ | exact ⟨hm.agr,congrArg Value.bool hbad⟩
        ·have hc33:=bne_eq_false_iff_eq.1 hc
         refine wp_skip ?_
         refine cT0 ?_
         refine cR0 ?_
         refine o_loadN (cs:=[.int .i64 ((f.kind:Nat):Int),.int .i64 f.fr,.int .i64 f.to,.int .i64 f.nu,.int .i64 f.tag,.int .i64 f.df,.int .i64 ((f.of:Nat):Int),.slice pf f.sub.length capf]) hk ts_51 rfl (hm.cells_blk (i:=3) rfl rfl) rfl fun a hk=>?_
         refine o_alloc hk hm tz_51 rfl rfl fun a b34 w hk hm=>?_
         refine o_store (i:=0) hk hm ts_51 rfl rfl rfl rfl rfl rfl (Nat.le_of_ble_eq_true rfl) fun a w hk hm=>?_
         refine cE0 ?_
         refine cR0 ?_
         refine oF0 hk fo_51_6 rfl rfl fun a hk=>?_
         refine o_load hk ts_3 rfl (hm.cell_blk (i:=4) rfl rfl) rfl fun a hk=>?_
         refine oF0 hk fo_51_0 rfl rfl fun a hk=>?_
         refine o_store (i:=0) hk hm ts_3 rfl rfl rfl rfl rfl rfl (Nat.le_of_ble_eq_true rfl) fun a w hk hm=>?_
         refine oF0 hk fo_51_3 rfl rfl fun a hk=>?_
         refine o_store (i:=0) hk hm ts_3 rfl rfl rfl rfl rfl rfl (Nat.le_of_ble_eq_true rfl) fun a w hk hm=>?_
         refine oF0 hk fo_51_4 rfl rfl fun a hk=>?_
         refine o_store (i:=0) hk hm ts_3 rfl rfl rfl rfl rfl rfl (Nat.le_of_ble_eq_true rfl) fun a w hk hm=>?_
         refine cE0 ?_
         refine wp_seq ?_
         refine cR0 ?_
         refine oM0 hk rfl rfl fun a hk=>?_
         refine oL0 hk te_23 rfl rfl fun a hk=>?_
         refine oM0 hk rfl rfl fun a hk=>?_
         refine cE0 ?_
         have h11:f.kind = 11:=by omega
         have hglen:g.l.length = (things t.l).length:=by have:=bne_eq_false_iff_eq.1 (by assumption:(((g.l.length:Nat):Int) != (((things t.l).length:Nat):Int)) = false); omega
         have hm:=hm.add (e:=.rep (ddFd (oneOf f)) [.int .i64 ((f.of:Nat):Int),.int .i64 f.fr,.int .i64 f.to,.int .i64 (-1),.int .i64 (-1),.int .i64 f.df,.int .i64 ((f.of:Nat):Int),.slice pf f.sub.length capf]) rfl (rep_Fd_mk (rep_Fd8 (hm.rep (i:=5) rfl)))
         refine c_range (L0:=[(1,.int .i64 V),(2,.bool flex),(5,.pointer (some ⟨b1,0,none⟩)),(8,.pointer (some ⟨b2,0,none⟩)),(9,.pointer (some ⟨b3,0,none⟩)),(14,.slice pt ((things t.l).length) capt),(15,.pointer (some ⟨b34,0,none⟩))]) (N:=(things t.l).length) (by omega) (fun k L w=>L = [(1,.int .i64 V),(2,.bool flex),(5,.pointer (some ⟨b1,0,none⟩)),(8,.pointer (some ⟨b2,0,none⟩)),(9,.pointer (some ⟨b3,0,none⟩)),(14,.slice pt ((things t.l).length) capt),(15,.pointer (some ⟨b34,0,none⟩))] ∧ (List.range k).all (toldAt f V flex t g) = true ∧ Mem w0 Nob Y [.rep (ddFd (oneOf f)) [.int .i64 ((f.of:Nat):Int),.int .i64 f.fr,.int .i64 f.to,.int .i64 (-1),.int .i64 (-1),.int .i64 f.df,.int .i64 ((f.of:Nat):Int),.slice pf f.sub.length capf],.blk b34 [.int .i64 ((f.of:Nat):Int),.int .i64 f.fr,.int .i64 f.to,.int .i64 (-1),.int .i64 (-1),.int .i64 f.df,.int .i64 ((f.of:Nat):Int),.slice pf f.sub.length capf] 51,.rep (.sl false 5 ((things t.l).map ddT)) [.slice pt ((things t.l).length) capt],.blk b3 [.int .i64 g.n,.slice psg g.s.length capsg,.bool g.z,.slice pg g.l.length capg,.slice pug g.u.length capug] 26,.blk b2 [.int .i64 t.n,.slice pst t.s.length capst,.bool t.z,.slice pt t.l.length capt,.slice put t.u.length caput] 26,.blk b1 [.int .i64 ((f.kind:Nat):Int),.int .i64 f.fr,.int .i64 f.to,.int .i64 f.nu,.int .i64 f.tag,.int .i64 f.df,.int .i64 ((f.of:Nat):Int),.slice pf f.sub.length capf] 51,.rep (ddFd f) [.int .i64 ((f.kind:Nat):Int),.int .i64 f.fr,.int .i64 f.to,.int .i64 f.nu,.int .i64 f.tag,.int .i64 f.df,.int .i64 ((f.of:Nat):Int),.slice pf f.sub.length capf],.rep (ddT t) [.int .i64 t.n,.slice pst t.s.length capst,.bool t.z,.slice pt t.l.length capt,.slice put t.u.length caput],.rep (ddT g) [.int .i64 g.n,.slice psg g.s.length capsg,.bool g.z,.slice pg g.l.length capg,.slice pug g.u.length capug]] w) (hk.sub ⟨rfl,rfl,rfl,rfl,rfl,rfl,rfl,rfl,rfl,trivial⟩) ⟨rfl,rfl,hm⟩ rfl rfl rfl rfl rfl rfl rfl (fun k L a w hlt hR hk=>?_) rfl (fun L a w hR hk=>?_)
         ·obtain ⟨rfl,hI0,hm⟩:=hR
          obtain ⟨hltx,blx,offx,ex,hplx,helx,hRex,hCex⟩:=rep_sl_get (hm.rep (i:=2) rfl) (getD_map ddT (things t.l) k T.nil hlt)
          obtain ⟨psx,capsx,px,capx,pux,capux,rfl⟩:=rep_T7 hRex
          have hm:=hm.add (e:=.rep (ddT ((things t.l).getD k T.nil)) [.int .i64 (((things t.l).getD k T.nil).n),.slice psx (((things t.l).getD k T.nil).s.length) capsx,.bool (((things t.l).getD k T.nil).z),.slice px (((things t.l).getD k T.nil).l.length) capx,.slice pux (((things t.l).getD k T.nil).u.length) capux]) rfl hRex
          have hm:=hm.add (e:=.cel blx (offx + k * 5) [.int .i64 (((things t.l).getD k T.nil).n),.slice psx (((things t.l).getD k T.nil).s.length) capsx,.bool (((things t.l).getD k T.nil).z),.slice px (((things t.l).getD k T.nil).l.length) capx,.slice pux (((things t.l).getD k T.nil).u.length) capux]) rfl hCex
          have hltg:k < g.l.length:=by omega
          obtain ⟨hltz,blz,offz,ez,hplz,helz,hRez,hCez⟩:=rep_sl_get (rep_T_l (hm.rep (i:=10) rfl)) (getD_map ddT g.l k T.nil hltg)
          obtain ⟨psz,capsz,pz,capz,puz,capuz,rfl⟩:=rep_T7 hRez
          have hm:=hm.add (e:=.rep (ddT (g.l.getD k T.nil)) [.int .i64 ((g.l.getD k T.nil).n),.slice psz ((g.l.getD k T.nil).s.length) capsz,.bool ((g.l.getD k T.nil).z),.slice pz ((g.l.getD k T.nil).l.length) capz,.slice puz ((g.l.getD k T.nil).u.length) capuz]) rfl hRez
          have hm:=hm.add (e:=.cel blz (offz + k * 5) [.int .i64 ((g.l.getD k T.nil).n),.slice psz ((g.l.getD k T.nil).s.length) capsz,.bool ((g.l.getD k T.nil).z),.slice pz ((g.l.getD k T.nil).l.length) capz,.slice puz ((g.l.getD k T.nil).u.length) capuz]) rfl hCez
          refine cR0 ?_
          refine oM0 hk rfl rfl fun a hk=>?_
          refine oA0 hk rfl rfl fun a hk=>?_
          refine cE0 ?_
          refine wp_seq ?_
          refine d_startM (K:=13) mixed hm fun w hm=>?_
          refine d_take (i:=0) rfl rfl rfl (by kernel_rfl) (fun _ _ _ h=>h) hk rfl (fun w hm=>r_loadN (cs:=[.int .i64 ((f.of:Nat):Int),.int .i64 f.fr,.int .i64 f.to,.int .i64 (-1),.int .i64 (-1),.int .i64 f.df,.int .i64 ((f.of:Nat):Int),.slice pf f.sub.length capf]) hk ts_51 rfl (hm.cells_blk (i:=5) rfl rfl)) hm fun a hk=>?_
          refine d_take (i:=1) rfl rfl rfl (by kernel_rfl) (fun _ _ _ h=>h) hk rfl (fun w hm=>r_move hk rfl) hm fun a hk=>?_
          refine d_take (i:=2) rfl rfl rfl (by kernel_rfl) (fun _ _ _ h=>h) hk rfl (fun w hm=>r_move hk rfl) hm fun a hk=>?_
          refine d_take (i:=3) rfl rfl rfl (by kernel_rfl) (fun _ _ _ h=>h) hk rfl (fun w hm=>r_move hk rfl) hm fun a hk=>?_
          refine d_take (i:=4) rfl rfl rfl (by kernel_rfl) (fun _ _ _ h=>h) hk rfl (fun w hm=>r_move hk rfl) hm fun a hk=>?_
          refine d_take (i:=5) rfl rfl rfl (by kernel_rfl) (fun _ _ _ h=>h) hk rfl (fun w hm=>r_indexAddr (j:=k) (b:=blx) (off:=offx) hk te_23 ts_26 (by rw [← hplx]; rfl) rfl hltx) hm fun a hk=>?_
          refine d_take (i:=6) rfl rfl rfl (by kernel_rfl) (fun _ _ _ h=>h) hk rfl (fun w hm=>r_loadN (cs:=[.int .i64 (((things t.l).getD k T.nil).n),.slice psx (((things t.l).getD k T.nil).s.length) capsx,.bool (((things t.l).getD k T.nil).z),.slice px (((things t.l).getD k T.nil).l.length) capx,.slice pux (((things t.l).getD k T.nil).u.length) capux]) hk ts_26 rfl (hm.cells_cel (i:=2) (k:=0) rfl rfl)) hm fun a hk=>?_
          refine d_take (i:=7) rfl rfl rfl (by kernel_rfl) (fun _ _ _ h=>h) hk rfl (fun w hm=>rF0 hk fo_26_3 rfl) hm fun a hk=>?_
          refine d_take (i:=8) rfl rfl rfl (by kernel_rfl) (fun _ _ _ h=>h) hk rfl (fun w hm=>r_load1 hk ts_23 rfl (hm.cell_blk (i:=7) rfl rfl)) hm fun a hk=>?_
          refine d_one (k:=9) (by kernel_rfl) rfl rfl ?_
          refine oM0 hk rfl rfl fun a hk=>?_
          refine c_endQ (cT0 ⟨fun _=>hm,?_⟩)
          refine d_one (k:=10) (by kernel_rfl) rfl rfl ?_
          refine oI0 (j:=k) (b:=blz) (off:=offz) hk te_23 ts_26 (by rw [← hplz]; rfl) rfl hltz rfl fun a hk=>?_
          refine c_endQ (cT0 ⟨fun _=>hm,?_⟩)
          refine d_one (k:=11) (by kernel_rfl) rfl rfl ?_
          refine o_loadN (cs:=[.int .i64 ((g.l.getD k T.nil).n),.slice psz ((g.l.getD k T.nil).s.length) capsz,.bool ((g.l.getD k T.nil).z),.slice pz ((g.l.getD k T.nil).l.length) capz,.slice puz ((g.l.getD k T.nil).u.length) capuz]) hk ts_26 rfl (hm.cells_cel (i:=0) (k:=0) rfl rfl) rfl fun a hk=>?_
          refine c_endQ (cT0 ⟨fun _=>hm,?_⟩)
          refine d_one (k:=12) (by kernel_rfl) rfl rfl ?_
          refine o_call hk cb_52 (hone h11 V flex (hm.rep (i:=4) rfl) (hm.rep (i:=3) rfl) (hm.rep (i:=1) rfl) (sane_things hsn k) (sane_getD hgs.2.2.2 k) (small_getD hgm k)) ⟨rfl,rfl,rfl,rfl,rfl,trivial⟩ rfl fun v w a hR hk=>?_
          obtain ⟨hp,rfl⟩:=hR
          have hm:=hm.pure hp
          refine c_endQ (cT0 ⟨fun _=>hm,?_⟩)
          refine d_one (k:=13) (by kernel_rfl) rfl rfl ?_
          refine o_not hk rfl rfl fun a hk=>?_
          refine c_endQ (cT0 ⟨fun h=>Bool.noConfusion (show true = false from h),?_⟩)
          refine d_done (by kernel_rfl) ?_ _
          refine cT0 ?_
          refine c_cond hk rfl (fun hc=>?_) (fun hc=>?_)
          ·have hc35:=hc
           refine cR0 ?_
           refine oA0 hk rfl rfl fun a hk=>?_
           refine cE0 ?_
           refine wp_ret ?_
           refine c_inRet ?_
           refine c_roundRet ?_
           refine cQ0 ?_
           refine c_inRet ?_
           refine cQ0 ?_
           refine bT0 rfl hk rfl ?_
           first | exact ⟨hm.agr,congrArg Value.bool ((toldR_loopF h11 hlt hc).trans hq2.symm)⟩ | exact ⟨hm.agr,congrArg Value.bool ((toldR_len (by omega) (by assumption)).trans hq2.symm)⟩ | exact ⟨hm.agr,congrArg Value.bool hbad⟩
          ·have hc36:=hc
           refine wp_skip ?_
           refine cN0 ?_
           exact c_round (L':=[(1,.int .i64 V),(2,.bool flex),(5,.pointer (some ⟨b1,0,none⟩)),(8,.pointer (some ⟨b2,0,none⟩)),(9,.pointer (some ⟨b3,0,none⟩)),(14,.slice pt ((things t.l).length) capt),(15,.pointer (some ⟨b34,0,none⟩))]) hk ⟨rfl,rfl,rfl,rfl,rfl,rfl,rfl,rfl,rfl,trivial⟩ rfl ⟨rfl,(range_all_succ hI0 ((Bool.not_eq_false' _).mp hc)),hm.tail.tail.tail.tail⟩
         ·obtain ⟨rfl,hI0,hm⟩:=hR
          have hall:=hI0
          refine cT0 ?_
          refine cR0 ?_
          refine oA0 hk rfl rfl fun a hk=>?_
          refine cE0 ?_
          refine wp_ret ?_
          refine c_inRet ?_
          refine cQ0 ?_
          refine bT0 rfl hk rfl ?_
          first | exact ⟨hm.agr,congrArg Value.bool hq2⟩ | exact ⟨hm.agr,congrArg Value.bool ((toldR_loopT (by omega) (by assumption) hall).trans hq2.symm)⟩
       ·have hc37:=beq_eq_false_iff_ne.1 hc
        refine wp_skip ?_
        refine cN0 ?_
        refine cT0 ?_
        refine wp_seq ?_
        refine d_startM (K:=8) mixed hm fun w hm=>?_
        refine d_take (i:=0) rfl rfl rfl (by kernel_rfl) (fun _ _ _ h=>h) hk rfl (fun w hm=>rF0 hk fo_26_0 rfl) hm fun a hk=>?_
        refine d_take (i:=1) rfl rfl rfl (by kernel_rfl) (fun _ _ _ h=>h) hk rfl (fun w hm=>r_load1 hk ts_2 rfl (hm.cell_blk (i:=0) rfl rfl)) hm fun a hk=>?_
        refine d_take (i:=2) rfl rfl rfl (by kernel_rfl) (fun _ _ _ h=>h) hk rfl (fun w hm=>rF0 hk fo_51_0 rfl) hm fun a hk=>?_
        refine d_take (i:=3) rfl rfl rfl (by kernel_rfl) (fun _ _ _ h=>h) hk rfl (fun w hm=>r_load1 hk ts_3 rfl (hm.cell_blk (i:=2) rfl rfl)) hm fun a hk=>?_
        refine d_one (k:=4) (by kernel_rfl) rfl rfl ?_
        refine oF0 hk fo_26_0 rfl rfl fun a hk=>?_
        refine c_endQ (cT0 ⟨fun _=>hm,?_⟩)
        refine d_one (k:=5) (by kernel_rfl) rfl rfl ?_
        refine o_load hk ts_2 rfl (hm.cell_blk (i:=1) rfl rfl) rfl fun a hk=>?_
        refine c_endQ (cT0 ⟨fun _=>hm,?_⟩)
        refine d_one (k:=6) (by kernel_rfl) rfl rfl ?_
        refine o_call hk cb_118 (number_c (Y:=Y) f.kind) ⟨rfl,rfl,trivial⟩ rfl fun v w a hR hk=>?_
        obtain ⟨hp,rfl⟩:=hR
        have hm:=hm.pure hp
        refine c_endQ (cT0 ⟨fun _=>hm,?_⟩)
        refine d_one (k:=7) (by kernel_rfl) rfl rfl ?_
        refine o_icmp hk rfl rfl rfl rfl fun a hk=>?_
        refine c_endQ (cT0 ⟨fun _=>hm,?_⟩)
        refine d_one (k:=8) (by kernel_rfl) rfl rfl ?_
        refine oA0 hk rfl rfl fun a hk=>?_
        refine c_endQ (cT0 ⟨fun h=>Bool.noConfusion (show true = false from h),?_⟩)
        refine d_done (by kernel_rfl) ?_ _
        refine cT0 ?_
        refine wp_ret ?_
        refine bT0 rfl hk rfl ?_
        exact ⟨hm.agr,congrArg Value.bool ((toldR_n (by omega) (by omega) (by omega) (by omega) (by omega)).trans hq2.symm)⟩
end Go.Proofs.YtoopklfabccmnaaGreatDoor
