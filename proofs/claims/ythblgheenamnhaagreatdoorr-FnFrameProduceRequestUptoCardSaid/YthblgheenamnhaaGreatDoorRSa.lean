/- Walks of functions that the laws of this seat reach. No statement of the seat stands here. -/
import Derived.Test.YthblgheenamnhaaGreatDoorRL2
import Derived.Test.YthblgheenamnhaaGreatDoorRRows
import Derived.Test.YthblgheenamnhaaGreatDoorRFa
namespace Go.Proofs.YthblgheenamnhaaGreatDoorR
open Go Go.Mk
theorem fits3_c {w0:World} {Y:Nat → Prop} {u:Nat × List UInt8} {c:List Value} (hU:Rep w0 Y (ddTag u) c):Ret Tryz.prog 50 [.agg c.toArray] w0 fun v w'=>Agr Nob w0 w' ∧ v = .bool (fitU3 u):=by
 obtain ⟨pt,capt,rfl,-⟩:=rep_Tag hU
 refine c_call Tryz.func50 rfl rfl fun a hk=>?_
 have hk:Kn 7 [(0,.agg #[.int .u32 ((u.1:Nat):Int),.slice pt u.2.length capt])] a:=hk
 have hm:Mem w0 Nob Y [.rep (ddTag u) [.int .u32 ((u.1:Nat):Int),.slice pt u.2.length capt]] w0:=Mem.start rfl (by simp only [List.forall_mem_cons,List.not_mem_nil,false_imp_iff,implies_true,and_true]; exact hU)
 refine cR0 ?_
 refine o_box hk hm rfl rfl rfl fun a b1 w hk hm=>?_
 refine oA0 hk rfl rfl fun a hk=>?_
 refine cE0 ?_
 refine wp_seq ?_
 refine cR0 ?_
 refine oF0 hk fo_67_1 rfl rfl fun a hk=>?_
 refine o_load hk ts_24 rfl (hm.cell_blk (i:=0) rfl rfl) rfl fun a hk=>?_
 refine oL0 hk te_24 rfl rfl fun a hk=>?_
 refine o_icmp hk rfl rfl rfl rfl fun a hk=>?_
 refine cE0 ?_
 refine c_cond hk rfl (fun hc=>?_) (fun hc=>?_)
 ·refine cR0 ?_
  refine oA0 hk rfl rfl fun a hk=>?_
  refine cE0 ?_
  refine wp_ret ?_
  refine cQ0 ?_
  refine bT0 rfl hk rfl ?_
  exact ⟨hm.agr,by simp only [fitU3,hc]; rfl⟩
 ·refine wp_skip ?_
  refine cT0 ?_
  refine cR0 ?_
  refine oA0 hk rfl rfl fun a hk=>?_
  refine cE0 ?_
  refine wp_ret ?_
  refine bT0 rfl hk rfl ?_
  exact ⟨hm.agr,by simp only [fitU3,hc]; rfl⟩
theorem fits2_c {w0:World} {Y:Nat → Prop} {us:List (Nat × List UInt8)} {p:Option Addr} {cap:Nat} (hU:Rep w0 Y (ddTags us) [.slice p us.length cap]):Ret Tryz.prog 26 [.slice p us.length cap] w0 fun v w'=>Agr Nob w0 w' ∧ v = .bool (fitU2 us):=by
 refine c_call Tryz.func26 rfl rfl fun a hk=>?_
 have hk:Kn 18 [(0,.slice p us.length cap)] a:=hk
 have hm:Mem w0 Nob Y [.rep (ddTags us) [.slice p us.length cap]] w0:=Mem.start rfl (by simp only [List.forall_mem_cons,List.not_mem_nil,false_imp_iff,implies_true,and_true]; exact hU)
 refine cR0 ?_
 refine oA0 hk rfl rfl fun a hk=>?_
 refine cE0 ?_
 refine wp_seq ?_
 refine cR0 ?_
 refine oM0 hk rfl rfl fun a hk=>?_
 refine oL0 hk te_26 rfl rfl fun a hk=>?_
 refine o_icmp hk rfl rfl rfl rfl fun a hk=>?_
 refine cE0 ?_
 refine c_cond hk rfl (fun hc=>?_) (fun hc=>?_)
 ·refine cR0 ?_
  refine oA0 hk rfl rfl fun a hk=>?_
  refine cE0 ?_
  refine wp_ret ?_
  refine cQ0 ?_
  refine bT0 rfl hk rfl ?_
  exact ⟨hm.agr,by simp only [fitU2,hc]; rfl⟩
 ·refine wp_skip ?_
  refine cT0 ?_
  refine wp_seq ?_
  refine cR0 ?_
  refine oM0 hk rfl rfl fun a hk=>?_
  refine oL0 hk te_26 rfl rfl fun a hk=>?_
  refine oM0 hk rfl rfl fun a hk=>?_
  refine cE0 ?_
  have hg:=hc
  refine c_range (L0:=[(8,.slice p us.length cap)]) (N:=us.length) (by simp only [decide_eq_false_iff_not] at hc; omega) (fun k L w=>L = [(8,.slice p us.length cap)] ∧ (us.take k).all fitU3 = true ∧ Mem w0 Nob Y [.rep (ddTags us) [.slice p us.length cap]] w) (hk.sub ⟨rfl,rfl,rfl,trivial⟩) ⟨rfl,rfl,hm⟩ rfl rfl rfl rfl rfl rfl rfl (fun k L a w hlt hR hk=>?_) rfl (fun L a w hR hk=>?_)
  ·obtain ⟨rfl,hI0,hm⟩:=hR
   obtain ⟨hlt1,bl1,off1,e1,hpl1,hel1,hRe1,hCe1⟩:=rep_sl_get (hm.rep (i:=0) rfl) (getD_map ddTag us k (0,[]) hlt)
   obtain ⟨pt1,capt1,rfl,-⟩:=rep_Tag hRe1
   have hm:=hm.add (e:=.rep (ddTag (us.getD k (0,[]))) [.int .u32 (((us.getD k (0,[])).1:Nat):Int),.slice pt1 ((us.getD k (0,[])).2.length) capt1]) rfl hRe1
   have hm:=hm.add (e:=.cel bl1 (off1 + k * 2) [.int .u32 (((us.getD k (0,[])).1:Nat):Int),.slice pt1 ((us.getD k (0,[])).2.length) capt1]) rfl hCe1
   refine cR0 ?_
   refine oI0 (j:=k) (b:=bl1) (off:=off1) hk te_26 ts_67 (by rw [← hpl1]; rfl) rfl hlt1 rfl fun a hk=>?_
   refine o_loadN (cs:=[.int .u32 (((us.getD k (0,[])).1:Nat):Int),.slice pt1 ((us.getD k (0,[])).2.length) capt1]) hk ts_67 rfl (hm.cells_cel (i:=0) (k:=0) rfl rfl) rfl fun a hk=>?_
   refine o_alloc hk hm tz_67 rfl rfl fun a b1 w hk hm=>?_
   refine o_store (i:=0) hk hm ts_67 rfl rfl rfl rfl rfl rfl (Nat.le_of_ble_eq_true rfl) fun a w hk hm=>?_
   refine cE0 ?_
   refine cR0 ?_
   refine o_loadN (cs:=[.int .u32 (((us.getD k (0,[])).1:Nat):Int),.slice pt1 ((us.getD k (0,[])).2.length) capt1]) hk ts_67 rfl (hm.cells_blk (i:=0) rfl rfl) rfl fun a hk=>?_
   refine o_call hk cb_50 (fits3_c (hm.rep (i:=2) rfl)) ⟨rfl,trivial⟩ rfl fun v w a hR hk=>?_
   obtain ⟨hp,rfl⟩:=hR
   have hm:=hm.pure hp
   refine o_not hk rfl rfl fun a hk=>?_
   refine cE0 ?_
   refine c_cond hk rfl (fun hc=>?_) (fun hc=>?_)
   ·refine cR0 ?_
    refine oA0 hk rfl rfl fun a hk=>?_
    refine cE0 ?_
    refine wp_ret ?_
    refine c_inRet ?_
    refine c_roundRet ?_
    refine cQ0 ?_
    refine bT0 rfl hk rfl ?_
    exact ⟨hm.agr,by simp only [fitU2]; rw [all_false hlt hc]; simp⟩
   ·refine wp_skip ?_
    refine cN0 ?_
    exact c_round (L':=[(8,.slice p us.length cap)]) hk ⟨rfl,rfl,rfl,trivial⟩ rfl ⟨rfl,(all_succ hI0 hlt hc),hm.tail.tail.tail⟩
  ·obtain ⟨rfl,hI0,hm⟩:=hR
   refine cT0 ?_
   refine cR0 ?_
   refine oA0 hk rfl rfl fun a hk=>?_
   refine cE0 ?_
   refine wp_ret ?_
   refine bT0 rfl hk rfl ?_
   exact ⟨hm.agr,by have:=hI0; simp only [List.take_length] at this; simp [fitU2,hg,this]⟩
theorem fits1_c {w0:World} {Y:Nat → Prop} {t:T} {c:List Value} (hT:Rep w0 Y (ddT t) c):Ret Tryz.prog 8 [.agg c.toArray] w0 fun v w'=>Agr Nob w0 w' ∧ v = .bool (fitT t):=by
 obtain ⟨ps,caps,p,cap,pu,capu,rfl⟩:=rep_T7 hT
 refine c_call Tryz.func8 rfl rfl fun a hk=>?_
 have hk:Kn 15 [(0,.agg #[.int .i64 t.n,.slice ps t.s.length caps,.bool t.z,.slice p t.l.length cap,.slice pu t.u.length capu])] a:=hk
 have hm:Mem w0 Nob Y [.rep (ddT t) [.int .i64 t.n,.slice ps t.s.length caps,.bool t.z,.slice p t.l.length cap,.slice pu t.u.length capu]] w0:=Mem.start rfl (by simp only [List.forall_mem_cons,List.not_mem_nil,false_imp_iff,implies_true,and_true]; exact hT)
 refine cR0 ?_
 refine o_box hk hm rfl rfl rfl fun a b1 w hk hm=>?_
 refine oA0 hk rfl rfl fun a hk=>?_
 refine cE0 ?_
 refine wp_seq ?_
 refine cR0 ?_
 refine oF0 hk fo_28_1 rfl rfl fun a hk=>?_
 refine o_load hk ts_24 rfl (hm.cell_blk (i:=0) rfl rfl) rfl fun a hk=>?_
 refine oL0 hk te_24 rfl rfl fun a hk=>?_
 refine o_icmp hk rfl rfl rfl rfl fun a hk=>?_
 refine cE0 ?_
 refine c_cond hk rfl (fun hc=>?_) (fun hc=>?_)
 ·have hc1:=hc
  refine cR0 ?_
  refine oA0 hk rfl rfl fun a hk=>?_
  refine cE0 ?_
  refine wp_ret ?_
  refine cQ0 ?_
  refine bT0 rfl hk rfl ?_
  exact ⟨hm.agr,by simp_all [fitT]⟩
 ·have hc2:=hc
  refine wp_skip ?_
  refine cT0 ?_
  refine wp_seq ?_
  refine cR0 ?_
  refine oF0 hk fo_28_3 rfl rfl fun a hk=>?_
  refine o_load hk ts_25 rfl (hm.cell_blk (i:=0) rfl rfl) rfl fun a hk=>?_
  refine oL0 hk te_25 rfl rfl fun a hk=>?_
  refine o_icmp hk rfl rfl rfl rfl fun a hk=>?_
  refine cE0 ?_
  refine c_cond hk rfl (fun hc=>?_) (fun hc=>?_)
  ·have hc3:=hc
   refine cR0 ?_
   refine oA0 hk rfl rfl fun a hk=>?_
   refine cE0 ?_
   refine wp_ret ?_
   refine cQ0 ?_
   refine bT0 rfl hk rfl ?_
   exact ⟨hm.agr,by simp_all [fitT]⟩
  ·have hc4:=hc
   refine wp_skip ?_
   refine cT0 ?_
   refine wp_seq ?_
   refine cR0 ?_
   refine oF0 hk fo_28_4 rfl rfl fun a hk=>?_
   refine o_load hk ts_26 rfl (hm.cell_blk (i:=0) rfl rfl) rfl fun a hk=>?_
   refine o_call hk cb_26 (fits2_c (rep_T_u (hm.rep (i:=1) rfl))) ⟨rfl,trivial⟩ rfl fun v w a hR hk=>?_
   obtain ⟨hp,rfl⟩:=hR
   have hm:=hm.pure hp
   refine o_not hk rfl rfl fun a hk=>?_
   refine cE0 ?_
   refine c_cond hk rfl (fun hc=>?_) (fun hc=>?_)
   ·have hc5:=hc
    refine cR0 ?_
    refine oA0 hk rfl rfl fun a hk=>?_
    refine cE0 ?_
    refine wp_ret ?_
    refine cQ0 ?_
    refine bT0 rfl hk rfl ?_
    exact ⟨hm.agr,by simp_all [fitT]⟩
   ·have hc6:=hc
    refine wp_skip ?_
    refine cT0 ?_
    refine cR0 ?_
    refine oA0 hk rfl rfl fun a hk=>?_
    refine cE0 ?_
    refine wp_ret ?_
    refine bT0 rfl hk rfl ?_
    exact ⟨hm.agr,by simp_all [fitT]⟩
theorem at_spec {w0:World} {Y:Nat → Prop} {t:T} {c:List Value} (i:Nat) (hT:Rep w0 Y (ddT t) c) :
  Ret Tryz.prog 55 [.agg c.toArray,.int .i64 (i:Int)] w0 fun v w'=>Agr Nob w0 w' ∧ ∃ c',v = .agg c'.toArray ∧ Rep w' (fun b=>b < w0.heap.size ∧ Y b) (ddT (t.at_ i)) c':=by
 obtain ⟨cs,cl,cu,rfl,h1,h2,h3⟩:=rep_T hT
 obtain ⟨p,cap,rfl⟩:=rep_sl_len h2
 rw [List.length_map] at h2 hT ⊢
 refine c_call Tryz.func55 rfl rfl fun a hk=>?_
 have hk:Kn 16 [(0,.agg #[.int .i64 t.n,cs,.bool t.z,.slice p t.l.length cap,cu]),(1,.int .i64 (i:Int))] a:=hk
 have hm:Mem w0 Nob Y [.rep (.sl false 5 (t.l.map ddT)) [.slice p t.l.length cap]] w0:=Mem.start rfl (by simp only [List.forall_mem_cons,List.not_mem_nil,false_imp_iff,implies_true,and_true]; exact h2)
 refine cR0 ?_
 refine o_box hk hm rfl rfl rfl fun a b1 w hk hm=>?_
 refine o_alloc hk hm tz_28 rfl rfl fun a b2 w hk hm=>?_
 refine cE0 ?_
 refine wp_seq ?_
 refine cR0 ?_
 refine oM0 hk rfl rfl fun a hk=>?_
 refine oF0 hk fo_28_3 rfl rfl fun a hk=>?_
 refine o_load hk ts_25 rfl (hm.cell_blk (i:=1) rfl rfl) rfl fun a hk=>?_
 refine oL0 hk te_25 rfl rfl fun a hk=>?_
 refine o_icmp hk rfl rfl rfl rfl fun a hk=>?_
 refine cE0 ?_
 refine c_cond hk rfl (fun hc=>?_) (fun hc=>?_)
 ·have hi:i < t.l.length:=by simpa using hc
  obtain ⟨_,b,off,cs5,rfl,hl,hR,hC⟩:=rep_sl_get (hm.rep (i:=2) rfl) (getD_map ddT t.l i T.nil hi)
  obtain ⟨cs',cl',cu',rfl,-⟩:=rep_T hR
  have hm:=hm.add (e:=.rep (ddT (t.l.getD i T.nil)) [.int .i64 ((t.l.getD i T.nil).n),cs',.bool ((t.l.getD i T.nil).z),cl',cu']) rfl hR
  refine cR0 ?_
  refine oF0 hk fo_28_3 rfl rfl fun a hk=>?_
  refine o_load hk ts_25 rfl (hm.cell_blk (i:=2) rfl rfl) rfl fun a hk=>?_
  refine oM0 hk rfl rfl fun a hk=>?_
  refine oI0 (j:=i) hk te_25 ts_28 rfl rfl hi rfl fun a hk=>?_
  refine o_loadN (cs:=[.int .i64 ((t.l.getD i T.nil).n),cs',.bool ((t.l.getD i T.nil).z),cl',cu']) hk ts_28 rfl (hC.at_) rfl fun a hk=>?_
  refine o_store (i:=1) hk hm ts_28 rfl rfl rfl rfl (rep_T_one hR) rfl (Nat.le_of_ble_eq_true rfl) fun a w hk hm=>?_
  refine cE0 ?_
  refine wp_ret ?_
  refine cQ0 ?_
  refine b_retCell (i:=1) (cs:=[.int .i64 ((t.l.getD i T.nil).n),cs',.bool ((t.l.getD i T.nil).z),cl',cu']) rfl ts_28 hk hm rfl rfl ?_
  refine ⟨hm.agr,_,rfl,?_⟩
  have e:t.at_ i = t.l.getD i T.nil:=rfl
  rw [e]
  exact Mem.yof (hm.rep (i:=0) rfl)
 ·have hi:t.l.length ≤ i:=by simpa using hc
  refine wp_skip ?_
  refine cT0 ?_
  refine cR0 ?_
  refine o_build (r:=[.int .i64 0,.slice none 0 0,.bool false,.slice none 0 0,.slice none 0 0]) hk tz_28 rfl fok_28 rfl rfl fun a hk=>?_
  refine o_store (i:=0) hk hm ts_28 rfl rfl rfl rfl rfl rfl (Nat.le_of_ble_eq_true rfl) fun a w hk hm=>?_
  refine cE0 ?_
  refine wp_ret ?_
  refine b_retCell (i:=0) (cs:=[.int .i64 0,.slice none 0 0,.bool false,.slice none 0 0,.slice none 0 0]) rfl ts_28 hk hm rfl rfl ?_
  refine ⟨hm.agr,_,rfl,?_⟩
  have e:t.at_ i = T.nil:=by simp [T.at_,hi]
  rw [e]
  exact rep_T_nil
theorem version_c {w0:World} {Y:Nat → Prop} {n:Nat} {most:Int} (hn:n < 256) (h0 : 0 ≤ most) (h1:most < 1000000):Ret Tryz.prog 11 [.int .u8 (n:Int),.int .i64 most] w0 fun v w'=>Agr Nob w0 w' ∧ v = .int .i64 ((n:Int) % (most + 1)):=by
 refine c_call Tryz.func11 rfl rfl fun a hk=>?_
 have hk:Kn 10 [(0,.int .u8 (n:Int)),(1,.int .i64 most)] a:=hk
 have hm:Mem w0 Nob Y [] w0:=Mem.start rfl (by simp)
 refine cR0 ?_
 refine oA0 hk rfl rfl fun a hk=>?_
 refine cE0 ?_
 refine cR0 ?_
 refine oM0 hk rfl rfl fun a hk=>?_
 refine o_convInt (c:=(n:Int)) hk un_5 ti_3 rfl (IntWalk.i64_in _ (by omega)) rfl fun a hk=>?_
 refine oM0 hk rfl rfl fun a hk=>?_
 refine o_iarith (c:=most + 1) hk rfl rfl rfl (IntWalk.i64_in _ (by omega)) rfl fun a hk=>?_
 refine o_rem (c:=(n:Int) % (most + 1)) hk rfl rfl (by omega) (Int.tmod_eq_emod_of_nonneg (by omega)) rfl fun a hk=>?_
 refine oA0 hk rfl rfl fun a hk=>?_
 refine cE0 ?_
 refine wp_ret ?_
 refine bT0 rfl hk rfl ?_
 exact ⟨hm.agr,rfl⟩
theorem has_c {w0:World} {Y:Nat → Prop} {f:Fld} {c:List Value} (V:Int) (hF:Rep w0 Y (ddFd f) c):Ret Tryz.prog 53 [.agg c.toArray,.int .i64 V] w0 fun v w'=>Agr Nob w0 w' ∧ v = .bool (f.has V):=by
 obtain ⟨pf,capf,rfl,-⟩:=rep_Fd hF
 refine c_call Tryz.func53 rfl rfl fun a hk=>?_
 have hk:Kn 20 [(0,.agg #[.int .i64 ((f.kind:Nat):Int),.int .i64 f.fr,.int .i64 f.to,.int .i64 f.nu,.int .i64 f.tag,.int .i64 f.df,.int .i64 ((f.of:Nat):Int),.slice pf f.sub.length capf]),(1,.int .i64 V)] a:=hk
 have hm:Mem w0 Nob Y [.rep (ddFd f) [.int .i64 ((f.kind:Nat):Int),.int .i64 f.fr,.int .i64 f.to,.int .i64 f.nu,.int .i64 f.tag,.int .i64 f.df,.int .i64 ((f.of:Nat):Int),.slice pf f.sub.length capf]] w0:=Mem.start rfl (by simp only [List.forall_mem_cons,List.not_mem_nil,false_imp_iff,implies_true,and_true]; exact hF)
 refine cR0 ?_
 refine o_box hk hm rfl rfl rfl fun a b1 w hk hm=>?_
 refine oA0 hk rfl rfl fun a hk=>?_
 refine cE0 ?_
 refine cR0 ?_
 refine oF0 hk fo_50_1 rfl rfl fun a hk=>?_
 refine o_load hk ts_3 rfl (hm.cell_blk (i:=0) rfl rfl) rfl fun a hk=>?_
 refine oM0 hk rfl rfl fun a hk=>?_
 refine o_icmp hk rfl rfl rfl rfl fun a hk=>?_
 refine oM0 hk rfl rfl fun a hk=>?_
 rcases Bool.eq_false_or_eq_true (decide ((f.fr:Int) ≤ V)) with hb2 | hb2
 ·rw [hb2] at hk
  refine o_want (o':=_) hk ⟨_,_,_,rfl,rfl,rfl⟩ rfl ?_
  refine oF0 hk fo_50_2 rfl rfl fun a hk=>?_
  refine o_want (o':=_) hk ⟨_,_,_,rfl,rfl,rfl⟩ rfl ?_
  refine o_load hk ts_3 rfl (hm.cell_blk (i:=0) rfl rfl) rfl fun a hk=>?_
  refine o_want (o':=_) hk ⟨_,_,_,rfl,rfl,rfl⟩ rfl ?_
  refine o_icmp hk rfl rfl rfl rfl fun a hk=>?_
  refine o_want (o':=_) hk ⟨_,_,_,rfl,rfl,rfl⟩ rfl ?_
  refine oM0 hk rfl rfl fun a hk=>?_
  rcases Bool.eq_false_or_eq_true (decide ((f.to:Int) < 0)) with hb3 | hb3
  ·rw [hb3] at hk
   refine oS0 hk ⟨_,_,_,_,rfl,rfl,rfl,nb_tf⟩ rfl rfl fun a hk=>?_
   refine oS0 hk ⟨_,_,_,_,rfl,rfl,rfl,nb_tf⟩ rfl rfl fun a hk=>?_
   refine oS0 hk ⟨_,_,_,_,rfl,rfl,rfl,nb_tf⟩ rfl rfl fun a hk=>?_
   refine oS0 hk ⟨_,_,_,_,rfl,rfl,rfl,nb_tf⟩ rfl rfl fun a hk=>?_
   refine o_want (o':=_) hk ⟨_,_,_,rfl,rfl,rfl⟩ rfl ?_
   refine o_pick hk rfl rfl rfl rfl rfl fun a hk=>?_
   refine o_pick hk rfl rfl rfl rfl rfl fun a hk=>?_
   refine oA0 hk rfl rfl fun a hk=>?_
   refine cE0 ?_
   refine wp_ret ?_
   refine bT0 rfl hk rfl ?_
   exact ⟨hm.agr,by simp [Fld.has,hb2,hb3]⟩
  ·rw [hb3] at hk
   refine o_want (o':=_) hk ⟨_,_,_,rfl,rfl,rfl⟩ rfl ?_
   refine oM0 hk rfl rfl fun a hk=>?_
   refine o_want (o':=_) hk ⟨_,_,_,rfl,rfl,rfl⟩ rfl ?_
   refine oF0 hk fo_50_2 rfl rfl fun a hk=>?_
   refine o_want (o':=_) hk ⟨_,_,_,rfl,rfl,rfl⟩ rfl ?_
   refine o_load hk ts_3 rfl (hm.cell_blk (i:=0) rfl rfl) rfl fun a hk=>?_
   refine o_want (o':=_) hk ⟨_,_,_,rfl,rfl,rfl⟩ rfl ?_
   refine o_icmp hk rfl rfl rfl rfl fun a hk=>?_
   refine o_want (o':=_) hk ⟨_,_,_,rfl,rfl,rfl⟩ rfl ?_
   refine o_pick hk rfl rfl rfl rfl rfl fun a hk=>?_
   refine o_pick hk rfl rfl rfl rfl rfl fun a hk=>?_
   refine oA0 hk rfl rfl fun a hk=>?_
   refine cE0 ?_
   refine wp_ret ?_
   refine bT0 rfl hk rfl ?_
   exact ⟨hm.agr,by simp [Fld.has,hb2,hb3]⟩
 ·rw [hb2] at hk
  refine oS0 hk ⟨_,_,_,_,rfl,rfl,rfl,nb_ft⟩ rfl rfl fun a hk=>?_
  refine oS0 hk ⟨_,_,_,_,rfl,rfl,rfl,nb_ft⟩ rfl rfl fun a hk=>?_
  refine oS0 hk ⟨_,_,_,_,rfl,rfl,rfl,nb_ft⟩ rfl rfl fun a hk=>?_
  refine oS0 hk ⟨_,_,_,_,rfl,rfl,rfl,nb_ft⟩ rfl rfl fun a hk=>?_
  refine oS0 hk ⟨_,_,_,_,rfl,rfl,rfl,(nb_u _)⟩ rfl rfl fun a hk=>?_
  refine oS0 hk ⟨_,_,_,_,rfl,rfl,rfl,(nb_u _)⟩ rfl rfl fun a hk=>?_
  refine oS0 hk ⟨_,_,_,_,rfl,rfl,rfl,(nb_u _)⟩ rfl rfl fun a hk=>?_
  refine oS0 hk ⟨_,_,_,_,rfl,rfl,rfl,(nb_u _)⟩ rfl rfl fun a hk=>?_
  refine oS0 hk ⟨_,_,_,_,rfl,rfl,rfl,nb_ft⟩ rfl rfl fun a hk=>?_
  refine o_pick hk rfl rfl rfl rfl rfl fun a hk=>?_
  refine oA0 hk rfl rfl fun a hk=>?_
  refine cE0 ?_
  refine wp_ret ?_
  refine bT0 rfl hk rfl ?_
  exact ⟨hm.agr,by simp [Fld.has,hb2]⟩
theorem null_c {w0:World} {Y:Nat → Prop} {f:Fld} {t:T} {c ct:List Value} (V:Int) (hF:Rep w0 Y (ddFd f) c) (hT:Rep w0 Y (ddT t) ct):Ret Tryz.prog 74 [.agg c.toArray,.int .i64 V,.agg ct.toArray] w0 fun v w'=>Agr Nob w0 w' ∧ v = .bool (f.null V t):=by
 obtain ⟨pf,capf,rfl,-⟩:=rep_Fd hF
 obtain ⟨ps,caps,p,cap,pu,capu,rfl⟩:=rep_T7 hT
 refine c_call Tryz.func74 rfl rfl fun a hk=>?_
 have hk:Kn 20 [(0,.agg #[.int .i64 ((f.kind:Nat):Int),.int .i64 f.fr,.int .i64 f.to,.int .i64 f.nu,.int .i64 f.tag,.int .i64 f.df,.int .i64 ((f.of:Nat):Int),.slice pf f.sub.length capf]),(1,.int .i64 V),(2,.agg #[.int .i64 t.n,.slice ps t.s.length caps,.bool t.z,.slice p t.l.length cap,.slice pu t.u.length capu])] a:=hk
 have hm:Mem w0 Nob Y [.rep (ddFd f) [.int .i64 ((f.kind:Nat):Int),.int .i64 f.fr,.int .i64 f.to,.int .i64 f.nu,.int .i64 f.tag,.int .i64 f.df,.int .i64 ((f.of:Nat):Int),.slice pf f.sub.length capf],.rep (ddT t) [.int .i64 t.n,.slice ps t.s.length caps,.bool t.z,.slice p t.l.length cap,.slice pu t.u.length capu]] w0:=Mem.start rfl (by simp only [List.forall_mem_cons,List.not_mem_nil,false_imp_iff,implies_true,and_true]; exact ⟨hF,hT⟩)
 refine cR0 ?_
 refine o_box hk hm rfl rfl rfl fun a b1 w hk hm=>?_
 refine o_box hk hm rfl rfl rfl fun a b2 w hk hm=>?_
 refine oA0 hk rfl rfl fun a hk=>?_
 refine cE0 ?_
 refine cR0 ?_
 refine oF0 hk fo_28_2 rfl rfl fun a hk=>?_
 refine o_load hk ts_4 rfl (hm.cell_blk (i:=0) rfl rfl) rfl fun a hk=>?_
 refine oM0 hk rfl rfl fun a hk=>?_
 rcases Bool.eq_false_or_eq_true (t.z) with hb3 | hb3
 ·rw [hb3] at hk
  refine o_want (o':=_) hk ⟨_,_,_,rfl,rfl,rfl⟩ rfl ?_
  refine oF0 hk fo_50_3 rfl rfl fun a hk=>?_
  refine o_want (o':=_) hk ⟨_,_,_,rfl,rfl,rfl⟩ rfl ?_
  refine o_load hk ts_3 rfl (hm.cell_blk (i:=1) rfl rfl) rfl fun a hk=>?_
  refine o_want (o':=_) hk ⟨_,_,_,rfl,rfl,rfl⟩ rfl ?_
  refine o_icmp hk rfl rfl rfl rfl fun a hk=>?_
  refine o_pick hk rfl rfl rfl rfl rfl fun a hk=>?_
  refine oM0 hk rfl rfl fun a hk=>?_
  rcases Bool.eq_false_or_eq_true (decide ((f.nu:Int) ≥ 0)) with hb4 | hb4
  ·rw [hb4] at hk
   refine o_want (o':=_) hk ⟨_,_,_,rfl,rfl,rfl⟩ rfl ?_
   refine oM0 hk rfl rfl fun a hk=>?_
   refine o_want (o':=_) hk ⟨_,_,_,rfl,rfl,rfl⟩ rfl ?_
   refine oF0 hk fo_50_3 rfl rfl fun a hk=>?_
   refine o_want (o':=_) hk ⟨_,_,_,rfl,rfl,rfl⟩ rfl ?_
   refine o_load hk ts_3 rfl (hm.cell_blk (i:=1) rfl rfl) rfl fun a hk=>?_
   refine o_want (o':=_) hk ⟨_,_,_,rfl,rfl,rfl⟩ rfl ?_
   refine o_icmp hk rfl rfl rfl rfl fun a hk=>?_
   refine o_pick hk rfl rfl rfl rfl rfl fun a hk=>?_
   refine oA0 hk rfl rfl fun a hk=>?_
   refine cE0 ?_
   refine wp_ret ?_
   refine bT0 rfl hk rfl ?_
   exact ⟨hm.agr,by simp [Fld.null,hb3,hb4]⟩
  ·rw [hb4] at hk
   refine oS0 hk ⟨_,_,_,_,rfl,rfl,rfl,nb_ft⟩ rfl rfl fun a hk=>?_
   refine oS0 hk ⟨_,_,_,_,rfl,rfl,rfl,nb_ft⟩ rfl rfl fun a hk=>?_
   refine oS0 hk ⟨_,_,_,_,rfl,rfl,rfl,nb_ft⟩ rfl rfl fun a hk=>?_
   refine oS0 hk ⟨_,_,_,_,rfl,rfl,rfl,nb_ft⟩ rfl rfl fun a hk=>?_
   refine o_pick hk rfl rfl rfl rfl rfl fun a hk=>?_
   refine oA0 hk rfl rfl fun a hk=>?_
   refine cE0 ?_
   refine wp_ret ?_
   refine bT0 rfl hk rfl ?_
   exact ⟨hm.agr,by simp [Fld.null,hb3,hb4]⟩
 ·rw [hb3] at hk
  refine oS0 hk ⟨_,_,_,_,rfl,rfl,rfl,nb_ft⟩ rfl rfl fun a hk=>?_
  refine oS0 hk ⟨_,_,_,_,rfl,rfl,rfl,nb_ft⟩ rfl rfl fun a hk=>?_
  refine oS0 hk ⟨_,_,_,_,rfl,rfl,rfl,nb_ft⟩ rfl rfl fun a hk=>?_
  refine o_pick hk rfl rfl rfl rfl rfl fun a hk=>?_
  refine oM0 hk rfl rfl fun a hk=>?_
  refine oS0 hk ⟨_,_,_,_,rfl,rfl,rfl,nb_ft⟩ rfl rfl fun a hk=>?_
  refine oS0 hk ⟨_,_,_,_,rfl,rfl,rfl,nb_ft⟩ rfl rfl fun a hk=>?_
  refine oS0 hk ⟨_,_,_,_,rfl,rfl,rfl,nb_ft⟩ rfl rfl fun a hk=>?_
  refine oS0 hk ⟨_,_,_,_,rfl,rfl,rfl,nb_ft⟩ rfl rfl fun a hk=>?_
  refine o_pick hk rfl rfl rfl rfl rfl fun a hk=>?_
  refine oA0 hk rfl rfl fun a hk=>?_
  refine cE0 ?_
  refine wp_ret ?_
  refine bT0 rfl hk rfl ?_
  exact ⟨hm.agr,by simp [Fld.null,hb3]⟩
theorem whole_c {w0:World} {Y:Nat → Prop} {s:List UInt8} {p:Option Addr} {cap:Nat} (hS:Rep w0 Y (ddBs s) [.slice p s.length cap]):Ret Tryz.prog 60 [.slice p s.length cap] w0 fun v w'=>Agr Nob w0 w' ∧ v = .slice p (whole s).length cap ∧ Rep w' (fun b=>b < w0.heap.size ∧ Y b) (ddBs (whole s)) [.slice p (whole s).length cap]:=by
 obtain ⟨hcap,hT⟩:=rep_sl_take hS (whole s).length (by simp only [whole,List.length_take]; omega)
 refine c_call Tryz.func60 rfl rfl fun a hk=>?_
 have hk:Kn 8 [(0,.slice p s.length cap)] a:=hk
 have hm:Mem w0 Nob Y [.rep (ddBs (whole s)) [.slice p ((whole s).length) cap]] w0:=Mem.start rfl (by simp only [List.forall_mem_cons,List.not_mem_nil,false_imp_iff,implies_true,and_true]; exact (rep_whole hT))
 refine cR0 ?_
 refine oA0 hk rfl rfl fun a hk=>?_
 refine cE0 ?_
 refine cR0 ?_
 refine oM0 hk rfl rfl fun a hk=>?_
 refine oM0 hk rfl rfl fun a hk=>?_
 refine oL0 hk te_24 rfl rfl fun a hk=>?_
 refine o_min (c:=(((whole s).length:Nat):Int)) hk rfl rfl (by simp only [whole,List.length_take]; omega) rfl fun a hk=>?_
 refine o_sliceTo (k:=((whole s).length)) hk te_24 ts_5 rfl rfl hcap rfl fun a hk=>?_
 refine oA0 hk rfl rfl fun a hk=>?_
 refine cE0 ?_
 refine wp_ret ?_
 refine bT0 rfl hk rfl ?_
 exact ⟨hm.agr,rfl,hm.out (hm.rep (i:=0) rfl)⟩
theorem things_c {w0:World} {Y:Nat → Prop} {s:List T} {p:Option Addr} {cap:Nat} (hS:Rep w0 Y (.sl false 5 (s.map ddT)) [.slice p s.length cap]):Ret Tryz.prog 75 [.slice p s.length cap] w0 fun v w'=>Agr Nob w0 w' ∧ v = .slice p (things s).length cap ∧ Rep w' (fun b=>b < w0.heap.size ∧ Y b) (.sl false 5 ((things s).map ddT)) [.slice p (things s).length cap]:=by
 obtain ⟨hcap,hT⟩:=rep_sl_take hS (things s).length (by simp only [things,List.length_take]; omega)
 refine c_call Tryz.func75 rfl rfl fun a hk=>?_
 have hk:Kn 8 [(0,.slice p s.length cap)] a:=hk
 have hm:Mem w0 Nob Y [.rep (.sl false 5 ((things s).map ddT)) [.slice p ((things s).length) cap]] w0:=Mem.start rfl (by simp only [List.forall_mem_cons,List.not_mem_nil,false_imp_iff,implies_true,and_true]; exact (rep_things hT))
 refine cR0 ?_
 refine oA0 hk rfl rfl fun a hk=>?_
 refine cE0 ?_
 refine cR0 ?_
 refine oM0 hk rfl rfl fun a hk=>?_
 refine oM0 hk rfl rfl fun a hk=>?_
 refine oL0 hk te_25 rfl rfl fun a hk=>?_
 refine o_min (c:=(((things s).length:Nat):Int)) hk rfl rfl (by simp only [things,List.length_take]; omega) rfl fun a hk=>?_
 refine o_sliceTo (k:=((things s).length)) hk te_25 ts_28 rfl rfl hcap rfl fun a hk=>?_
 refine oA0 hk rfl rfl fun a hk=>?_
 refine cE0 ?_
 refine wp_ret ?_
 refine bT0 rfl hk rfl ?_
 exact ⟨hm.agr,rfl,hm.out (hm.rep (i:=0) rfl)⟩
theorem width_c {w0:World} {Y:Nat → Prop} (k:Nat):Ret Tryz.prog 78 [.int .i64 (k:Int)] w0 fun v w'=>Agr Nob w0 w' ∧ v = .int .i64 ((width k:Nat):Int):=by
 refine c_call Tryz.func78 rfl rfl fun a hk=>?_
 have hk:Kn 11 [(0,.int .i64 (k:Int))] a:=hk
 have hm:Mem w0 Nob Y [] w0:=Mem.start rfl (by simp)
 refine cR0 ?_
 refine oA0 hk rfl rfl fun a hk=>?_
 refine cE0 ?_
 refine wp_seq ?_
 refine cR0 ?_
 refine oM0 hk rfl rfl fun a hk=>?_
 refine cE0 ?_
 refine wp_block ?_
 refine cR0 ?_
 refine o_icmp hk rfl rfl rfl rfl fun a hk=>?_
 refine oA0 hk rfl rfl fun a hk=>?_
 refine cE0 ?_
 refine c_cond hk rfl (fun hc=>?_) (fun hc=>?_)
 ·have hc1:=eq_of_beq hc
  refine cR0 ?_
  refine oA0 hk rfl rfl fun a hk=>?_
  refine cE0 ?_
  refine wp_ret ?_
  refine c_inRet ?_
  refine cQ0 ?_
  refine bT0 rfl hk rfl ?_
  refine ⟨hm.agr,?_⟩
  rw [width_eq]; congr 1; (repeat' split) <;> omega
 ·have hc2:=beq_eq_false_iff_ne.1 hc
  refine wp_seq ?_
  refine cR0 ?_
  refine o_icmp hk rfl rfl rfl rfl fun a hk=>?_
  refine oA0 hk rfl rfl fun a hk=>?_
  refine cE0 ?_
  refine c_cond hk rfl (fun hc=>?_) (fun hc=>?_)
  ·have hc3:=eq_of_beq hc
   refine wp_skip ?_
   refine cT0 ?_
   refine c_cond hk rfl (fun hc=>?_) (fun hc=>?_)
   ·have hc4:=eq_of_beq hc
    refine cR0 ?_
    refine oA0 hk rfl rfl fun a hk=>?_
    refine cE0 ?_
    refine wp_ret ?_
    refine c_inRet ?_
    refine cQ0 ?_
    refine bT0 rfl hk rfl ?_
    refine ⟨hm.agr,?_⟩
    rw [width_eq]; congr 1; (repeat' split) <;> omega
   ·have hc5:=beq_eq_false_iff_ne.1 hc
    refine cR0 ?_
    refine o_icmp hk rfl rfl rfl rfl fun a hk=>?_
    refine oA0 hk rfl rfl fun a hk=>?_
    refine cE0 ?_
    refine c_cond hk rfl (fun hc=>?_) (fun hc=>?_)
    ·have hc6:=eq_of_beq hc
     refine cR0 ?_
     refine oA0 hk rfl rfl fun a hk=>?_
     refine cE0 ?_
     refine wp_ret ?_
     refine c_inRet ?_
     refine cQ0 ?_
     refine bT0 rfl hk rfl ?_
     refine ⟨hm.agr,?_⟩
     rw [width_eq]; congr 1; (repeat' split) <;> omega
    ·have hc7:=beq_eq_false_iff_ne.1 hc
     refine wp_skip ?_
     refine cN0 ?_
     refine cT0 ?_
     refine cR0 ?_
     refine oA0 hk rfl rfl fun a hk=>?_
     refine cE0 ?_
     refine wp_ret ?_
     refine bT0 rfl hk rfl ?_
     refine ⟨hm.agr,?_⟩
     rw [width_eq]; congr 1; (repeat' split) <;> omega
  ·have hc8:=beq_eq_false_iff_ne.1 hc
   refine c_reg ?_
   refine o_icmp hk rfl rfl rfl rfl fun a hk=>?_
   refine oA0 hk rfl rfl fun a hk=>?_
   refine c_endQ ?_
   refine cT0 ?_
   refine c_cond hk rfl (fun hc=>?_) (fun hc=>?_)
   ·have hc9:=eq_of_beq hc
    refine cR0 ?_
    refine oA0 hk rfl rfl fun a hk=>?_
    refine cE0 ?_
    refine wp_ret ?_
    refine c_inRet ?_
    refine cQ0 ?_
    refine bT0 rfl hk rfl ?_
    refine ⟨hm.agr,?_⟩
    rw [width_eq]; congr 1; (repeat' split) <;> omega
   ·have hc10:=beq_eq_false_iff_ne.1 hc
    refine cR0 ?_
    refine o_icmp hk rfl rfl rfl rfl fun a hk=>?_
    refine oA0 hk rfl rfl fun a hk=>?_
    refine cE0 ?_
    refine c_cond hk rfl (fun hc=>?_) (fun hc=>?_)
    ·have hc11:=eq_of_beq hc
     refine cR0 ?_
     refine oA0 hk rfl rfl fun a hk=>?_
     refine cE0 ?_
     refine wp_ret ?_
     refine c_inRet ?_
     refine cQ0 ?_
     refine bT0 rfl hk rfl ?_
     refine ⟨hm.agr,?_⟩
     rw [width_eq]; congr 1; (repeat' split) <;> omega
    ·have hc12:=beq_eq_false_iff_ne.1 hc
     refine wp_skip ?_
     refine cN0 ?_
     refine cT0 ?_
     refine cR0 ?_
     refine oA0 hk rfl rfl fun a hk=>?_
     refine cE0 ?_
     refine wp_ret ?_
     refine bT0 rfl hk rfl ?_
     refine ⟨hm.agr,?_⟩
     rw [width_eq]; congr 1; (repeat' split) <;> omega
theorem same_c {w0:World} {Y:Nat → Prop} {sa sb:List UInt8} {p q:Option Addr} {cp cq:Nat} (hA:Rep w0 Y (ddBs sa) [.slice p sa.length cp]) (hB:Rep w0 Y (ddBs sb) [.slice q sb.length cq]) (hl:sa.length < 4611686018427387904):Ret Tryz.prog 14 [.slice p sa.length cp,.slice q sb.length cq] w0 fun v w'=>Agr Nob w0 w' ∧ v = .bool (decide (sa = sb)):=by
 refine c_call Tryz.func14 rfl rfl fun a hk=>?_
 have hk:Kn 26 [(0,.slice p sa.length cp),(1,.slice q sb.length cq)] a:=hk
 have hm:Mem w0 Nob Y [.rep (ddBs sa) [.slice p sa.length cp],.rep (ddBs sb) [.slice q sb.length cq]] w0:=Mem.start rfl (by simp only [List.forall_mem_cons,List.not_mem_nil,false_imp_iff,implies_true,and_true]; exact ⟨hA,hB⟩)
 refine cR0 ?_
 refine oA0 hk rfl rfl fun a hk=>?_
 refine cE0 ?_
 refine wp_seq ?_
 refine cR0 ?_
 refine oM0 hk rfl rfl fun a hk=>?_
 refine oL0 hk te_24 rfl rfl fun a hk=>?_
 refine oM0 hk rfl rfl fun a hk=>?_
 refine oL0 hk te_24 rfl rfl fun a hk=>?_
 refine o_icmp hk rfl rfl rfl rfl fun a hk=>?_
 refine cE0 ?_
 refine c_cond hk rfl (fun hc=>?_) (fun hc=>?_)
 ·refine cR0 ?_
  refine oA0 hk rfl rfl fun a hk=>?_
  refine cE0 ?_
  refine wp_ret ?_
  refine cQ0 ?_
  refine bT0 rfl hk rfl ?_
  exact ⟨hm.agr,by rw [decide_eq_false]; intro e; subst e; simp at hc⟩
 ·refine wp_skip ?_
  refine cT0 ?_
  refine wp_seq ?_
  refine cR0 ?_
  refine oM0 hk rfl rfl fun a hk=>?_
  refine oL0 hk te_24 rfl rfl fun a hk=>?_
  refine oM0 hk rfl rfl fun a hk=>?_
  refine cE0 ?_
  have hL:sa.length = sb.length:=by simp only [bne_eq_false_iff_eq] at hc; omega
  refine c_range (L0:=[(0,.slice p sa.length cp),(1,.slice q sb.length cq)]) (N:=sa.length) (by omega) (fun k L w=>L = [(0,.slice p sa.length cp),(1,.slice q sb.length cq)] ∧ sa.take k = sb.take k ∧ Mem w0 Nob Y [.rep (ddBs sa) [.slice p sa.length cp],.rep (ddBs sb) [.slice q sb.length cq]] w) (hk.sub ⟨rfl,rfl,rfl,rfl,trivial⟩) ⟨rfl,rfl,hm⟩ rfl rfl rfl rfl rfl rfl rfl (fun k L a w hlt hR hk=>?_) rfl (fun L a w hR hk=>?_)
  ·obtain ⟨rfl,hI0,hm⟩:=hR
   obtain ⟨hlt1,bl1,off1,e1,hpl1,hel1,hRe1,hCe1⟩:=rep_sl_get (hm.rep (i:=0) rfl) (getD_map ddB sa k 0 hlt)
   obtain rfl:=rep_B hRe1
   have hm:=hm.add (e:=.rep (ddB (sa.getD k 0)) [.int .u8 (((sa.getD k 0).toNat:Nat):Int)]) rfl hRe1
   have hm:=hm.add (e:=.cel bl1 (off1 + k * 1) [.int .u8 (((sa.getD k 0).toNat:Nat):Int)]) rfl hCe1
   obtain ⟨hlt2,bl2,off2,e2,hpl2,hel2,hRe2,hCe2⟩:=rep_sl_get (hm.rep (i:=3) rfl) (getD_map ddB sb k 0 (hL ▸ hlt))
   obtain rfl:=rep_B hRe2
   have hm:=hm.add (e:=.rep (ddB (sb.getD k 0)) [.int .u8 (((sb.getD k 0).toNat:Nat):Int)]) rfl hRe2
   have hm:=hm.add (e:=.cel bl2 (off2 + k * 1) [.int .u8 (((sb.getD k 0).toNat:Nat):Int)]) rfl hCe2
   refine cR0 ?_
   refine oM0 hk rfl rfl fun a hk=>?_
   refine oA0 hk rfl rfl fun a hk=>?_
   refine cE0 ?_
   refine wp_seq ?_
   refine d_startM (K:=8) mixed hm fun w hm=>?_
   refine d_take (i:=0) rfl rfl rfl (by kernel_rfl) (fun _ _ _ h=>h) hk rfl (fun w hm=>r_move hk rfl) hm fun a hk=>?_
   refine d_take (i:=1) rfl rfl rfl (by kernel_rfl) (fun _ _ _ h=>h) hk rfl (fun w hm=>r_move hk rfl) hm fun a hk=>?_
   refine d_take (i:=2) rfl rfl rfl (by kernel_rfl) (fun _ _ _ h=>h) hk rfl (fun w hm=>r_indexAddr (j:=k) (b:=bl1) (off:=off1) hk te_24 ts_5 (by rw [← hpl1]; rfl) rfl hlt1) hm fun a hk=>?_
   refine d_take (i:=3) rfl rfl rfl (by kernel_rfl) (fun _ _ _ h=>h) hk rfl (fun w hm=>r_load1 hk ts_5 rfl (hm.cell_cel (i:=2) (j:=0) rfl rfl)) hm fun a hk=>?_
   refine d_take (i:=4) rfl rfl rfl (by kernel_rfl) (fun _ _ _ h=>h) hk rfl (fun w hm=>r_move hk rfl) hm fun a hk=>?_
   refine d_one (k:=5) (by kernel_rfl) rfl rfl ?_
   refine oM0 hk rfl rfl fun a hk=>?_
   refine c_endQ (cT0 ⟨fun _=>hm,?_⟩)
   refine d_one (k:=6) (by kernel_rfl) rfl rfl ?_
   refine oI0 (j:=k) (b:=bl2) (off:=off2) hk te_24 ts_5 (by rw [← hpl2]; rfl) rfl hlt2 rfl fun a hk=>?_
   refine c_endQ (cT0 ⟨fun _=>hm,?_⟩)
   refine d_one (k:=7) (by kernel_rfl) rfl rfl ?_
   refine o_load hk ts_5 rfl (hm.cell_cel (i:=0) (j:=0) rfl rfl) rfl fun a hk=>?_
   refine c_endQ (cT0 ⟨fun _=>hm,?_⟩)
   refine d_one (k:=8) (by kernel_rfl) rfl rfl ?_
   refine o_icmp hk rfl rfl rfl rfl fun a hk=>?_
   refine c_endQ (cT0 ⟨fun h=>Bool.noConfusion (show true = false from h),?_⟩)
   refine d_done (by kernel_rfl) ?_ _
   refine cT0 ?_
   refine c_cond hk rfl (fun hc=>?_) (fun hc=>?_)
   ·refine cR0 ?_
    refine oA0 hk rfl rfl fun a hk=>?_
    refine cE0 ?_
    refine wp_ret ?_
    refine c_inRet ?_
    refine c_roundRet ?_
    refine cQ0 ?_
    refine bT0 rfl hk rfl ?_
    exact ⟨hm.agr,by rw [decide_eq_false]; intro e; subst e; simp at hc⟩
   ·refine wp_skip ?_
    refine cN0 ?_
    exact c_round (L':=[(0,.slice p sa.length cp),(1,.slice q sb.length cq)]) hk ⟨rfl,rfl,rfl,rfl,trivial⟩ rfl ⟨rfl,(take_eq_succ hI0 hL hlt (u8_eq_of (by simpa using hc))),hm.tail.tail.tail.tail⟩
  ·obtain ⟨rfl,hI0,hm⟩:=hR
   refine cT0 ?_
   refine cR0 ?_
   refine oA0 hk rfl rfl fun a hk=>?_
   refine cE0 ?_
   refine wp_ret ?_
   refine bT0 rfl hk rfl ?_
   exact ⟨hm.agr,by rw [List.take_length,hL,List.take_length] at hI0; rw [decide_eq_true hI0]⟩
theorem known_c {w0:World} {Y:Nat → Prop} {fs:List Fld} {p:Option Addr} {cap:Nat} (hF:Rep w0 Y (.sl false 8 (fs.map ddFd)) [.slice p fs.length cap]) (hl:fs.length ≤ 32767) (hok:tagsOk fs = true):Ret Tryz.prog 56 [.slice p fs.length cap] w0 fun v w'=>Agr Nob w0 w' ∧ v = .int .u32 ((known fs:Nat):Int):=by
 refine c_call Tryz.func56 rfl rfl fun a hk=>?_
 have hk:Kn 23 [(0,.slice p fs.length cap)] a:=hk
 have hm:Mem w0 Nob Y [.rep (.sl false 8 (fs.map ddFd)) [.slice p fs.length cap]] w0:=Mem.start rfl (by simp only [List.forall_mem_cons,List.not_mem_nil,false_imp_iff,implies_true,and_true]; exact hF)
 refine cR0 ?_
 refine oA0 hk rfl rfl fun a hk=>?_
 refine cE0 ?_
 refine cR0 ?_
 refine oA0 hk rfl rfl fun a hk=>?_
 refine cE0 ?_
 refine wp_seq ?_
 refine cR0 ?_
 refine oM0 hk rfl rfl fun a hk=>?_
 refine oL0 hk te_32 rfl rfl fun a hk=>?_
 refine oM0 hk rfl rfl fun a hk=>?_
 refine cE0 ?_
 refine c_range (L0:=[(3,.int .u32 ((known (fs.take 0):Nat):Int)),(6,.slice p fs.length cap)]) (N:=fs.length) (by omega) (fun k L w=>L = [(3,.int .u32 ((known (fs.take k):Nat):Int)),(6,.slice p fs.length cap)] ∧ Mem w0 Nob Y [.rep (.sl false 8 (fs.map ddFd)) [.slice p fs.length cap]] w) (hk.sub ⟨rfl,rfl,rfl,rfl,trivial⟩) ⟨rfl,hm⟩ rfl rfl rfl rfl rfl rfl rfl (fun k L a w hlt hR hk=>?_) rfl (fun L a w hR hk=>?_)
 ·obtain ⟨rfl,hm⟩:=hR
  have hkl:=known_take_le hok k
  have hkt:=tagsOk_getD hok hlt FNIL
  have hks:=known_take_succ fs k FNIL hlt
  obtain ⟨hlt1,bl1,off1,e1,hpl1,hel1,hRe1,hCe1⟩:=rep_sl_get (hm.rep (i:=0) rfl) (getD_map ddFd fs k FNIL hlt)
  obtain ⟨pf1,capf1,rfl,-⟩:=rep_Fd hRe1
  have hm:=hm.add (e:=.rep (ddFd (fs.getD k FNIL)) [.int .i64 (((fs.getD k FNIL).kind:Nat):Int),.int .i64 ((fs.getD k FNIL).fr),.int .i64 ((fs.getD k FNIL).to),.int .i64 ((fs.getD k FNIL).nu),.int .i64 ((fs.getD k FNIL).tag),.int .i64 ((fs.getD k FNIL).df),.int .i64 (((fs.getD k FNIL).of:Nat):Int),.slice pf1 ((fs.getD k FNIL).sub.length) capf1]) rfl hRe1
  have hm:=hm.add (e:=.cel bl1 (off1 + k * 8) [.int .i64 (((fs.getD k FNIL).kind:Nat):Int),.int .i64 ((fs.getD k FNIL).fr),.int .i64 ((fs.getD k FNIL).to),.int .i64 ((fs.getD k FNIL).nu),.int .i64 ((fs.getD k FNIL).tag),.int .i64 ((fs.getD k FNIL).df),.int .i64 (((fs.getD k FNIL).of:Nat):Int),.slice pf1 ((fs.getD k FNIL).sub.length) capf1]) rfl hCe1
  refine cR0 ?_
  refine oI0 (j:=k) (b:=bl1) (off:=off1) hk te_32 ts_50 (by rw [← hpl1]; rfl) rfl hlt1 rfl fun a hk=>?_
  refine o_loadN (cs:=[.int .i64 (((fs.getD k FNIL).kind:Nat):Int),.int .i64 ((fs.getD k FNIL).fr),.int .i64 ((fs.getD k FNIL).to),.int .i64 ((fs.getD k FNIL).nu),.int .i64 ((fs.getD k FNIL).tag),.int .i64 ((fs.getD k FNIL).df),.int .i64 (((fs.getD k FNIL).of:Nat):Int),.slice pf1 ((fs.getD k FNIL).sub.length) capf1]) hk ts_50 rfl (hm.cells_cel (i:=0) (k:=0) rfl rfl) rfl fun a hk=>?_
  refine o_alloc hk hm tz_50 rfl rfl fun a b1 w hk hm=>?_
  refine o_store (i:=0) hk hm ts_50 rfl rfl rfl rfl rfl rfl (Nat.le_of_ble_eq_true rfl) fun a w hk hm=>?_
  refine cE0 ?_
  refine cR0 ?_
  refine oF0 hk fo_50_4 rfl rfl fun a hk=>?_
  refine o_load hk ts_3 rfl (hm.cell_blk (i:=0) rfl rfl) rfl fun a hk=>?_
  refine o_icmp hk rfl rfl rfl rfl fun a hk=>?_
  refine cE0 ?_
  refine c_cond hk rfl (fun hc=>?_) (fun hc=>?_)
  ·refine c_reg ?_
   refine oM0 hk rfl rfl fun a hk=>?_
   refine oF0 hk fo_50_4 rfl rfl fun a hk=>?_
   refine o_load hk ts_3 rfl (hm.cell_blk (i:=0) rfl rfl) rfl fun a hk=>?_
   refine o_convInt (c:=((fs.getD k FNIL).tag)) hk un_3 ti_65 rfl (by rw [IntKind.wrap_u32]; simp only [decide_eq_true_eq] at hc; omega) rfl fun a hk=>?_
   refine o_iarith (c:=((fs.getD k FNIL).tag + 1)) hk rfl rfl rfl (by rw [IntKind.wrap_u32]; simp only [decide_eq_true_eq] at hc; omega) rfl fun a hk=>?_
   refine o_max (c:=((known (fs.take (k + 1)):Nat):Int)) hk rfl rfl (by simp only [decide_eq_true_eq] at hc; rw [hks,if_pos hc]; omega) rfl fun a hk=>?_
   refine oA0 hk rfl rfl fun a hk=>?_
   refine c_endQ ?_
   refine cN0 ?_
   exact c_round (L':=[(3,.int .u32 ((known (fs.take (k + 1)):Nat):Int)),(6,.slice p fs.length cap)]) hk ⟨rfl,rfl,rfl,rfl,trivial⟩ rfl ⟨rfl,hm.tail.tail.tail⟩
  ·refine wp_skip ?_
   refine cN0 ?_
   have hks2:known (fs.take k) = known (fs.take (k + 1)):=by simp only [decide_eq_false_iff_not] at hc; rw [hks,if_neg hc]; omega
   rw [hks2] at hk
   exact c_round (L':=[(3,.int .u32 ((known (fs.take (k + 1)):Nat):Int)),(6,.slice p fs.length cap)]) hk ⟨rfl,rfl,rfl,rfl,trivial⟩ rfl ⟨rfl,hm.tail.tail.tail⟩
 ·obtain ⟨rfl,hm⟩:=hR
  rw [List.take_length] at hk
  refine cT0 ?_
  refine cR0 ?_
  refine oM0 hk rfl rfl fun a hk=>?_
  refine oA0 hk rfl rfl fun a hk=>?_
  refine cE0 ?_
  refine wp_ret ?_
  refine bT0 rfl hk rfl ?_
  exact ⟨hm.agr,rfl⟩
end Go.Proofs.YthblgheenamnhaaGreatDoorR
