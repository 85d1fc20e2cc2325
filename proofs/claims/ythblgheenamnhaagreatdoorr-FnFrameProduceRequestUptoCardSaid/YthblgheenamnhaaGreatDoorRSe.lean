/- Walks of functions that the laws of this seat reach. No statement of the seat stands here. -/
import Derived.Test.YthblgheenamnhaaGreatDoorRL2
import Derived.Test.YthblgheenamnhaaGreatDoorRRows
import Derived.Test.YthblgheenamnhaaGreatDoorRFa
import Derived.Test.YthblgheenamnhaaGreatDoorRSd
namespace Go.Proofs.YthblgheenamnhaaGreatDoorR
open Go Go.Mk
def PartC (flex:Bool) (fs:List Fld):Prop:=∀ {w0:World} {Y:Nat → Prop} {t:T} {ct:List Value} {p:Option Addr} {cap:Nat} (V:Int),Rep w0 Y (.sl false 8 (fs.map ddFd)) [.slice p fs.length cap] → Rep w0 Y (ddT t) ct → t.sane = true → (partP fs V flex t).length ≤ room →
 Ret Tryz.prog 30 [.slice p fs.length cap,.int .i64 V,.bool flex,.agg ct.toArray] w0 fun v w'=>RowTo w0 5 1 (.slice none 0 0) (partP fs V flex t).length (bv (partP fs V flex t)) v w'
def ValueC (flex:Bool) (kind:Nat) (sub:List Fld):Prop:=∀ {w0:World} {Y:Nat → Prop} {t:T} {ct:List Value} {p:Option Addr} {cap:Nat} (null:Bool) (V:Int),Rep w0 Y (.sl false 8 (sub.map ddFd)) [.slice p sub.length cap] → Rep w0 Y (ddT t) ct → t.sane = true → (valueP kind (partP sub V flex) null flex t).length ≤ room →
 Ret Tryz.prog 77 [.int .i64 (kind:Int),.slice p sub.length cap,.bool null,.int .i64 V,.bool flex,.agg ct.toArray] w0 fun v w'=>RowTo w0 5 1 (.slice none 0 0) (valueP kind (partP sub V flex) null flex t).length (bv (valueP kind (partP sub V flex) null flex t)) v w'
def FieldC (flex:Bool) (f:Fld):Prop:=∀ {w0:World} {Y:Nat → Prop} {t:T} {cf ct:List Value} (V:Int),Rep w0 Y (ddFd f) cf → Rep w0 Y (ddT t) ct → t.sane = true → (fieldP f V flex t).length ≤ room →
 Ret Tryz.prog 54 [.agg cf.toArray,.int .i64 V,.bool flex,.agg ct.toArray] w0 fun v w'=>RowTo w0 5 1 (.slice none 0 0) (fieldP f V flex t).length (bv (fieldP f V flex t)) v w'
theorem value_walk {flex:Bool} {kind:Nat} {sub:List Fld} (hp:PartC flex sub):ValueC flex kind sub:=by
 intro w0 Y t ct p cap null V hF hT hsn hroom
 obtain ⟨pst,capst,pt,capt,put,caput,rfl⟩:=rep_T7 hT
 refine c_call Tryz.func77 rfl rfl fun a hk=>?_
 have hk:Kn 70 [(0,.int .i64 ((kind:Nat):Int)),(1,.slice p sub.length cap),(2,.bool null),(3,.int .i64 V),(4,.bool flex),(5,.agg #[.int .i64 t.n,.slice pst t.s.length capst,.bool t.z,.slice pt t.l.length capt,.slice put t.u.length caput])] a:=hk
 have hm:Mem w0 Nob Y [.rep (.sl false 8 (sub.map ddFd)) [.slice p sub.length cap],.rep (ddT t) [.int .i64 t.n,.slice pst t.s.length capst,.bool t.z,.slice pt t.l.length capt,.slice put t.u.length caput]] w0:=Mem.start rfl (by simp only [List.forall_mem_cons,List.not_mem_nil,false_imp_iff,implies_true,and_true]; exact ⟨hF,hT⟩)
 refine cR0 ?_
 refine o_box hk hm rfl rfl rfl fun a b1 w hk hm=>?_
 refine oA0 hk rfl rfl fun a hk=>?_
 refine cE0 ?_
 refine wp_seq ?_
 refine cR0 ?_
 refine oM0 hk rfl rfl fun a hk=>?_
 refine cE0 ?_
 refine wp_block ?_
 refine cR0 ?_
 refine o_icmp hk rfl rfl rfl rfl fun a hk=>?_
 refine oA0 hk rfl rfl fun a hk=>?_
 refine cE0 ?_
 refine c_cond hk rfl (fun hc=>?_) (fun hc=>?_)
 ·have hc2:=eq_of_beq hc
  refine cR0 ?_
  refine oF0 hk fo_28_0 rfl rfl fun a hk=>?_
  refine o_load hk ts_2 rfl (hm.cell_blk (i:=0) rfl rfl) rfl fun a hk=>?_
  refine o_ibits (c:=t.n % 2) hk rfl rfl (and1_i64 _) rfl fun a hk=>?_
  refine o_convInt (c:=IntKind.u8.wrap (t.n % 2)) hk un_2 ti_5 rfl rfl rfl fun a hk=>?_
  refine o_buildSlice (r:=[.int .u8 (IntKind.u8.wrap (t.n % 2))]) hk hm rt_24 tz_5 rfl rfl rfl ⟨_,_,_,rfl,rfl,rfl,rfl,rfl⟩ rfl fun a b3 w hk hm=>?_
  refine oA0 hk rfl rfl fun a hk=>?_
  refine cE0 ?_
  refine wp_ret ?_
  refine c_inRet ?_
  refine cQ0 ?_
  refine bT0 rfl hk rfl ?_
  have hk0:kind = 0:=by omega
  subst hk0
  have hm:=hm.blkRow (i:=0) (n:=1) (sz:=1) rfl rfl (by decide)
  have hr:=hm.rowOut (i:=0) rfl
  simp only [valueP,bv_u8,List.length_cons,List.length_nil]; exact hr
 ·have hc4:=beq_eq_false_iff_ne.1 hc
  refine cR0 ?_
  refine o_icmp hk rfl rfl rfl rfl fun a hk=>?_
  refine oA0 hk rfl rfl fun a hk=>?_
  refine cE0 ?_
  refine c_cond hk rfl (fun hc=>?_) (fun hc=>?_)
  ·have hc5:=eq_of_beq hc
   refine cR0 ?_
   refine o_makeN hk hm rt_24 tz_5 rfl rfl rfl rfl fun a b6 w hk hm=>?_
   refine oA0 hk rfl rfl fun a hk=>?_
   refine cE0 ?_
   refine cR0 ?_
   refine oM0 hk rfl rfl fun a hk=>?_
   refine oF0 hk fo_28_1 rfl rfl fun a hk=>?_
   refine o_load hk ts_24 rfl (hm.cell_blk (i:=1) rfl rfl) rfl fun a hk=>?_
   refine o_copyB (i:=0) hk hm te_24 cz_5 rfl rfl (by simp) rfl (rep_T_s (hm.rep (i:=3) rfl)) rfl fun a w hk hm=>?_
   rw [sixteen_cells] at hm
   refine cE0 ?_
   refine cR0 ?_
   refine oM0 hk rfl rfl fun a hk=>?_
   refine oA0 hk rfl rfl fun a hk=>?_
   refine cE0 ?_
   refine wp_ret ?_
   refine c_inRet ?_
   refine cQ0 ?_
   refine bT0 rfl hk rfl ?_
   have hk7:kind = 7:=by omega
   subst hk7
   have hm:=hm.blkRow (i:=0) (n:=16) (sz:=1) rfl (by rw [bv_length,sixteen_length]) (by decide)
   have hr:=hm.rowOut (i:=0) rfl
   have e:(valueP 7 (partP sub V flex) null flex t).length = 16:=sixteen_length t.s
   rw [e]; exact hr
  ·have hc7:=beq_eq_false_iff_ne.1 hc
   refine cR0 ?_
   refine o_icmp hk rfl rfl rfl rfl fun a hk=>?_
   refine oA0 hk rfl rfl fun a hk=>?_
   refine cE0 ?_
   refine c_cond hk rfl (fun hc=>?_) (fun hc=>?_)
   ·have hc8:=eq_of_beq hc
    refine cR0 ?_
    refine oF0 hk fo_28_1 rfl rfl fun a hk=>?_
    refine o_load hk ts_24 rfl (hm.cell_blk (i:=0) rfl rfl) rfl fun a hk=>?_
    refine o_call hk cb_60 (whole_c (rep_T_s (hm.rep (i:=2) rfl))) ⟨rfl,trivial⟩ rfl fun v w a hR hk=>?_
    obtain ⟨hp,rfl,hR⟩:=hR
    have hm:=hm.result hp hR
    have hwl:=whole_len t.s
    refine oA0 hk rfl rfl fun a hk=>?_
    refine cE0 ?_
    refine wp_seq ?_
    refine cR0 ?_
    refine oM0 hk rfl rfl fun a hk=>?_
    refine cE0 ?_
    have hkd:kind = 8:=by omega
    subst hkd
    refine c_cut2 (fun a w=>∃ (pj:Option Addr) (cj:Nat) (ls:List UInt8),ls = (if null then [] else whole t.s) ∧ Kn 70 [(14,.slice pj ls.length cj),(0,.int .i64 ((8:Nat):Int)),(2,.bool null),(4,.bool flex),(11,.pointer (some ⟨b1,0,none⟩))] a ∧ Mem w0 Nob Y [.rep (ddBs ls) [.slice pj ls.length cj],.rep (ddBs (whole t.s)) [.slice pst ((whole t.s).length) capst],.blk b1 [.int .i64 t.n,.slice pst t.s.length capst,.bool t.z,.slice pt t.l.length capt,.slice put t.u.length caput] 28,.rep (.sl false 8 (sub.map ddFd)) [.slice p sub.length cap],.rep (ddT t) [.int .i64 t.n,.slice pst t.s.length capst,.bool t.z,.slice pt t.l.length capt,.slice put t.u.length caput]] w) ?_ (fun a w hJ=>?_)
    ·refine c_cond hk rfl (fun hc=>?_) (fun hc=>?_)
     ·refine c_reg ?_
      refine oA0 hk rfl rfl fun a hk=>?_
      refine c_endQ ?_
      refine cT0 ?_
      have hm:=hm.add (e:=.rep (ddBs []) [.slice none 0 0]) rfl (by simp [Ent.holds,Rep,ddBs])
      exact ⟨none,0,[],by rw [if_pos hc],hk.sub ⟨rfl,rfl,rfl,rfl,rfl,trivial⟩,hm⟩
     ·refine wp_skip ?_
      refine cT0 ?_
      have hcf : ¬ null = true:=by rw [hc]; exact Bool.false_ne_true
      have hm:=hm.add (e:=.rep (ddBs (whole t.s)) [.slice pst ((whole t.s).length) capst]) rfl (hm.rep (i:=0) rfl)
      exact ⟨_,_,_,by rw [if_neg hcf],hk.sub ⟨rfl,rfl,rfl,rfl,rfl,trivial⟩,hm⟩
    obtain ⟨pj,cj,ls,hls,hk,hm⟩:=hJ
    have hjl:ls.length ≤ 32767:=by rw [hls]; split; exact Nat.zero_le _; exact whole_len t.s
    refine cR0 ?_
    refine oM0 hk rfl rfl fun a hk=>?_
    refine oM0 hk rfl rfl fun a hk=>?_
    refine oM0 hk rfl rfl fun a hk=>?_
    refine oL0 hk te_24 rfl rfl fun a hk=>?_
    refine o_call hk cb_76 (counted_c (Y:=Y) flex null ls.length 2 (by unfold room; omega) (by decide)) ⟨rfl,rfl,rfl,rfl,trivial⟩ rfl fun v9 w a hR hk=>?_
    have hm:=hm.rowNew hR
    have hcl:=counted_len (flex:=flex) (null:=null) (n:=ls.length) (size:=2) (by decide) (by unfold room; omega)
    refine oM0 hk rfl rfl fun a hk=>?_
    refine o_append (i:=0) hk hm rt_24 rfl rfl rfl (src_bs te_24 (hm.rep (i:=1) rfl)) (room_len (by unfold room; omega)) (room_by (by unfold room; omega)) rfl fun a v10 w hk hm _=>?_
    have hm:=hm.rowEq (i:=0) (n':=(counted flex null ls.length 2 ++ ls).length) (xs':=bv (counted flex null ls.length 2 ++ ls)) rfl List.length_append.symm (bv_append _ _).symm
    refine oA0 hk rfl rfl fun a hk=>?_
    refine cE0 ?_
    refine wp_ret ?_
    refine c_inRet ?_
    refine cQ0 ?_
    refine bT0 rfl hk rfl ?_
    have hr:=hm.rowOut (i:=0) rfl
    rw [hls] at hr; exact hr
   ·have hc11:=beq_eq_false_iff_ne.1 hc
    refine cR0 ?_
    refine o_icmp hk rfl rfl rfl rfl fun a hk=>?_
    refine oA0 hk rfl rfl fun a hk=>?_
    refine cE0 ?_
    refine c_cond hk rfl (fun hc=>?_) (fun hc=>?_)
    ·have hc12:=eq_of_beq hc
     refine cR0 ?_
     refine oF0 hk fo_28_1 rfl rfl fun a hk=>?_
     refine o_load hk ts_24 rfl (hm.cell_blk (i:=0) rfl rfl) rfl fun a hk=>?_
     refine o_call hk cb_60 (whole_c (rep_T_s (hm.rep (i:=2) rfl))) ⟨rfl,trivial⟩ rfl fun v w a hR hk=>?_
     obtain ⟨hp,rfl,hR⟩:=hR
     have hm:=hm.result hp hR
     have hwl:=whole_len t.s
     refine oA0 hk rfl rfl fun a hk=>?_
     refine cE0 ?_
     refine wp_seq ?_
     refine cR0 ?_
     refine oM0 hk rfl rfl fun a hk=>?_
     refine cE0 ?_
     have hkd:kind = 9:=by omega
     subst hkd
     refine c_cut2 (fun a w=>∃ (pj:Option Addr) (cj:Nat) (ls:List UInt8),ls = (if null then [] else whole t.s) ∧ Kn 70 [(15,.slice pj ls.length cj),(0,.int .i64 ((9:Nat):Int)),(2,.bool null),(4,.bool flex),(11,.pointer (some ⟨b1,0,none⟩))] a ∧ Mem w0 Nob Y [.rep (ddBs ls) [.slice pj ls.length cj],.rep (ddBs (whole t.s)) [.slice pst ((whole t.s).length) capst],.blk b1 [.int .i64 t.n,.slice pst t.s.length capst,.bool t.z,.slice pt t.l.length capt,.slice put t.u.length caput] 28,.rep (.sl false 8 (sub.map ddFd)) [.slice p sub.length cap],.rep (ddT t) [.int .i64 t.n,.slice pst t.s.length capst,.bool t.z,.slice pt t.l.length capt,.slice put t.u.length caput]] w) ?_ (fun a w hJ=>?_)
     ·refine c_cond hk rfl (fun hc=>?_) (fun hc=>?_)
      ·refine c_reg ?_
       refine oA0 hk rfl rfl fun a hk=>?_
       refine c_endQ ?_
       refine cT0 ?_
       have hm:=hm.add (e:=.rep (ddBs []) [.slice none 0 0]) rfl (by simp [Ent.holds,Rep,ddBs])
       exact ⟨none,0,[],by rw [if_pos hc],hk.sub ⟨rfl,rfl,rfl,rfl,rfl,trivial⟩,hm⟩
      ·refine wp_skip ?_
       refine cT0 ?_
       have hcf : ¬ null = true:=by rw [hc]; exact Bool.false_ne_true
       have hm:=hm.add (e:=.rep (ddBs (whole t.s)) [.slice pst ((whole t.s).length) capst]) rfl (hm.rep (i:=0) rfl)
       exact ⟨_,_,_,by rw [if_neg hcf],hk.sub ⟨rfl,rfl,rfl,rfl,rfl,trivial⟩,hm⟩
     obtain ⟨pj,cj,ls,hls,hk,hm⟩:=hJ
     have hjl:ls.length ≤ 32767:=by rw [hls]; split; exact Nat.zero_le _; exact whole_len t.s
     refine cR0 ?_
     refine oM0 hk rfl rfl fun a hk=>?_
     refine oM0 hk rfl rfl fun a hk=>?_
     refine oM0 hk rfl rfl fun a hk=>?_
     refine oL0 hk te_24 rfl rfl fun a hk=>?_
     refine o_call hk cb_76 (counted_c (Y:=Y) flex null ls.length 4 (by unfold room; omega) (by decide)) ⟨rfl,rfl,rfl,rfl,trivial⟩ rfl fun v13 w a hR hk=>?_
     have hm:=hm.rowNew hR
     have hcl:=counted_len (flex:=flex) (null:=null) (n:=ls.length) (size:=4) (by decide) (by unfold room; omega)
     refine oM0 hk rfl rfl fun a hk=>?_
     refine o_append (i:=0) hk hm rt_24 rfl rfl rfl (src_bs te_24 (hm.rep (i:=1) rfl)) (room_len (by unfold room; omega)) (room_by (by unfold room; omega)) rfl fun a v14 w hk hm _=>?_
     have hm:=hm.rowEq (i:=0) (n':=(counted flex null ls.length 4 ++ ls).length) (xs':=bv (counted flex null ls.length 4 ++ ls)) rfl List.length_append.symm (bv_append _ _).symm
     refine oA0 hk rfl rfl fun a hk=>?_
     refine cE0 ?_
     refine wp_ret ?_
     refine c_inRet ?_
     refine cQ0 ?_
     refine bT0 rfl hk rfl ?_
     have hr:=hm.rowOut (i:=0) rfl
     rw [hls] at hr; exact hr
    ·have hc15:=beq_eq_false_iff_ne.1 hc
     refine cR0 ?_
     refine o_icmp hk rfl rfl rfl rfl fun a hk=>?_
     refine oA0 hk rfl rfl fun a hk=>?_
     refine cE0 ?_
     refine c_cond hk rfl (fun hc=>?_) (fun hc=>?_)
     ·have hc16:=eq_of_beq hc
      refine cR0 ?_
      refine oM0 hk rfl rfl fun a hk=>?_
      refine oM0 hk rfl rfl fun a hk=>?_
      refine oM0 hk rfl rfl fun a hk=>?_
      refine o_loadN (cs:=[.int .i64 t.n,.slice pst t.s.length capst,.bool t.z,.slice pt t.l.length capt,.slice put t.u.length caput]) hk ts_28 rfl (hm.cells_blk (i:=0) rfl rfl) rfl fun a hk=>?_
      have hk10:kind = 10:=by omega
      subst hk10
      refine o_call hk cb_30 (hp V (hm.rep (i:=1) rfl) (hm.rep (i:=2) rfl) hsn hroom) ⟨rfl,rfl,rfl,rfl,trivial⟩ rfl fun v17 w a hR hk=>?_
      have hm:=hm.rowNew hR
      refine oA0 hk rfl rfl fun a hk=>?_
      refine cE0 ?_
      refine wp_ret ?_
      refine c_inRet ?_
      refine cQ0 ?_
      refine bT0 rfl hk rfl ?_
      have hr:=hm.rowOut (i:=0) rfl
      exact hr
     ·have hc18:=beq_eq_false_iff_ne.1 hc
      refine wp_skip ?_
      refine cN0 ?_
      refine cT0 ?_
      refine wp_seq ?_
      refine d_startM (K:=5) mixed hm fun w hm=>?_
      refine d_take (i:=0) rfl rfl rfl (by kernel_rfl) (fun _ _ _ h=>h) hk rfl (fun w hm=>rF0 hk fo_28_0 rfl) hm fun a hk=>?_
      refine d_take (i:=1) rfl rfl rfl (by kernel_rfl) (fun _ _ _ h=>h) hk rfl (fun w hm=>r_load1 hk ts_2 rfl (hm.cell_blk (i:=0) rfl rfl)) hm fun a hk=>?_
      refine d_one (k:=2) (by kernel_rfl) rfl rfl ?_
      refine oM0 hk rfl rfl fun a hk=>?_
      refine c_endQ (cT0 ⟨fun _=>hm,?_⟩)
      refine d_one (k:=3) (by kernel_rfl) rfl rfl ?_
      refine o_call hk cb_78 (width_c (Y:=Y) kind) ⟨rfl,trivial⟩ rfl fun v w a hR hk=>?_
      obtain ⟨hp,rfl⟩:=hR
      have hm:=hm.pure hp
      refine c_endQ (cT0 ⟨fun _=>hm,?_⟩)
      refine d_one (k:=4) (by kernel_rfl) rfl rfl ?_
      refine o_call hk cb_34 (fixed_c (Y:=Y) t.n (width kind) (width_le _)) ⟨rfl,rfl,trivial⟩ rfl fun v19 w a hR hk=>?_
      have hm:=hm.rowNew hR
      refine c_endQ (cT0 ⟨fun _=>hm.tail,?_⟩)
      refine d_one (k:=5) (by kernel_rfl) rfl rfl ?_
      refine oA0 hk rfl rfl fun a hk=>?_
      refine c_endQ (cT0 ⟨fun h=>Bool.noConfusion (show true = false from h),?_⟩)
      refine d_done (by kernel_rfl) ?_ _
      refine cT0 ?_
      refine wp_ret ?_
      refine bT0 rfl hk rfl ?_
      have hr:=hm.rowOut (i:=0) rfl
      rw [valueP_num (by omega) (by omega) (by omega) (by omega) (by omega)]; exact hr
end Go.Proofs.YthblgheenamnhaaGreatDoorR
