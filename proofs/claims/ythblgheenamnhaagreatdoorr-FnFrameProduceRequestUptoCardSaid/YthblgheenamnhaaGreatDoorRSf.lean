/- Walks of functions that the laws of this seat reach. No statement of the seat stands here. -/
import Derived.Test.YthblgheenamnhaaGreatDoorRL2
import Derived.Test.YthblgheenamnhaaGreatDoorRRows
import Derived.Test.YthblgheenamnhaaGreatDoorRFa
import Derived.Test.YthblgheenamnhaaGreatDoorRSe
namespace Go.Proofs.YthblgheenamnhaaGreatDoorR
open Go Go.Mk
theorem field_walk {flex:Bool} {f:Fld} (hv:∀ kind,ValueC flex kind f.sub) (hpt:PartC flex f.sub):FieldC flex f:=by
 intro w0 Y t cf ct V hF hT hsn hroom
 obtain ⟨out,hout⟩ : ∃ y,y = fieldP f V flex t:=⟨_,rfl⟩
 rw [← hout] at hroom ⊢
 rw [fieldP_eq] at hout
 unfold fieldQ at hout
 obtain ⟨pf,capf,rfl,-⟩:=rep_Fd hF
 obtain ⟨pst,capst,pt,capt,put,caput,rfl⟩:=rep_T7 hT
 refine c_call Tryz.func54 rfl rfl fun a hk=>?_
 have hk:Kn 76 [(0,.agg #[.int .i64 ((f.kind:Nat):Int),.int .i64 f.fr,.int .i64 f.to,.int .i64 f.nu,.int .i64 f.tag,.int .i64 f.df,.int .i64 ((f.of:Nat):Int),.slice pf f.sub.length capf]),(1,.int .i64 V),(2,.bool flex),(3,.agg #[.int .i64 t.n,.slice pst t.s.length capst,.bool t.z,.slice pt t.l.length capt,.slice put t.u.length caput])] a:=hk
 have hm:Mem w0 Nob Y [.rep (ddFd f) [.int .i64 ((f.kind:Nat):Int),.int .i64 f.fr,.int .i64 f.to,.int .i64 f.nu,.int .i64 f.tag,.int .i64 f.df,.int .i64 ((f.of:Nat):Int),.slice pf f.sub.length capf],.rep (ddT t) [.int .i64 t.n,.slice pst t.s.length capst,.bool t.z,.slice pt t.l.length capt,.slice put t.u.length caput]] w0:=Mem.start rfl (by simp only [List.forall_mem_cons,List.not_mem_nil,false_imp_iff,implies_true,and_true]; exact ⟨hF,hT⟩)
 refine cR0 ?_
 refine o_box hk hm rfl rfl rfl fun a b1 w hk hm=>?_
 refine o_box hk hm rfl rfl rfl fun a b2 w hk hm=>?_
 refine oA0 hk rfl rfl fun a hk=>?_
 refine cE0 ?_
 refine cR0 ?_
 refine o_loadN (cs:=[.int .i64 ((f.kind:Nat):Int),.int .i64 f.fr,.int .i64 f.to,.int .i64 f.nu,.int .i64 f.tag,.int .i64 f.df,.int .i64 ((f.of:Nat):Int),.slice pf f.sub.length capf]) hk ts_50 rfl (hm.cells_blk (i:=1) rfl rfl) rfl fun a hk=>?_
 refine oM0 hk rfl rfl fun a hk=>?_
 refine o_loadN (cs:=[.int .i64 t.n,.slice pst t.s.length capst,.bool t.z,.slice pt t.l.length capt,.slice put t.u.length caput]) hk ts_28 rfl (hm.cells_blk (i:=0) rfl rfl) rfl fun a hk=>?_
 refine o_call hk cb_74 (null_c V (hm.rep (i:=2) rfl) (hm.rep (i:=3) rfl)) ⟨rfl,rfl,rfl,trivial⟩ rfl fun v w a hR hk=>?_
 obtain ⟨hp,rfl⟩:=hR
 have hm:=hm.pure hp
 refine oA0 hk rfl rfl fun a hk=>?_
 refine cE0 ?_
 refine wp_seq ?_
 refine cR0 ?_
 refine oF0 hk fo_50_0 rfl rfl fun a hk=>?_
 refine o_load hk ts_3 rfl (hm.cell_blk (i:=1) rfl rfl) rfl fun a hk=>?_
 refine o_icmp hk rfl rfl rfl rfl fun a hk=>?_
 refine cE0 ?_
 refine c_cond hk rfl (fun hc=>?_) (fun hc=>?_)
 ·simp only [beq_iff_eq,beq_eq_false_iff_ne,ne_eq] at hc
  have h11:f.kind = 11:=by omega
  refine cR0 ?_
  refine oF0 hk fo_28_3 rfl rfl fun a hk=>?_
  refine o_load hk ts_25 rfl (hm.cell_blk (i:=0) rfl rfl) rfl fun a hk=>?_
  refine o_call hk cb_75 (things_c (rep_T_l (hm.rep (i:=3) rfl))) ⟨rfl,trivial⟩ rfl fun v w a hR hk=>?_
  obtain ⟨hp,rfl,hR⟩:=hR
  have hm:=hm.result hp hR
  have htl:=things_len t.l
  refine oA0 hk rfl rfl fun a hk=>?_
  refine cE0 ?_
  refine wp_seq ?_
  refine cR0 ?_
  refine oM0 hk rfl rfl fun a hk=>?_
  refine cE0 ?_
  refine c_cut2 (fun a w=>∃ (pj:Option Addr) (cj:Nat) (ls:List T),ls = (if f.null V t then [] else things t.l) ∧ Kn 76 [(10,.slice pj ls.length cj),(1,.int .i64 V),(2,.bool flex),(4,.pointer (some ⟨b1,0,none⟩)),(7,.pointer (some ⟨b2,0,none⟩)),(9,.bool (f.null V t))] a ∧ Mem w0 Nob Y [.rep (.sl false 5 (ls.map ddT)) [.slice pj ls.length cj],.rep (.sl false 5 ((things t.l).map ddT)) [.slice pt ((things t.l).length) capt],.blk b2 [.int .i64 t.n,.slice pst t.s.length capst,.bool t.z,.slice pt t.l.length capt,.slice put t.u.length caput] 28,.blk b1 [.int .i64 ((f.kind:Nat):Int),.int .i64 f.fr,.int .i64 f.to,.int .i64 f.nu,.int .i64 f.tag,.int .i64 f.df,.int .i64 ((f.of:Nat):Int),.slice pf f.sub.length capf] 50,.rep (ddFd f) [.int .i64 ((f.kind:Nat):Int),.int .i64 f.fr,.int .i64 f.to,.int .i64 f.nu,.int .i64 f.tag,.int .i64 f.df,.int .i64 ((f.of:Nat):Int),.slice pf f.sub.length capf],.rep (ddT t) [.int .i64 t.n,.slice pst t.s.length capst,.bool t.z,.slice pt t.l.length capt,.slice put t.u.length caput]] w) ?_ (fun a w hJ=>?_)
  ·refine c_cond hk rfl (fun hc=>?_) (fun hc=>?_)
   ·refine c_reg ?_
    refine oA0 hk rfl rfl fun a hk=>?_
    refine c_endQ ?_
    refine cT0 ?_
    have hm:=hm.add (e:=.rep (.sl false 5 (([]:List T).map ddT)) [.slice none 0 0]) rfl (by simp [Ent.holds,Rep])
    exact ⟨none,0,[],by rw [if_pos hc],hk.sub ⟨rfl,rfl,rfl,rfl,rfl,rfl,trivial⟩,hm⟩
   ·refine wp_skip ?_
    refine cT0 ?_
    have hcf : ¬ f.null V t = true:=by rw [hc]; exact Bool.false_ne_true
    have hm:=hm.add (e:=.rep (.sl false 5 ((things t.l).map ddT)) [.slice pt ((things t.l).length) capt]) rfl (hm.rep (i:=0) rfl)
    exact ⟨_,_,_,by rw [if_neg hcf],hk.sub ⟨rfl,rfl,rfl,rfl,rfl,rfl,trivial⟩,hm⟩
  obtain ⟨pj,cj,ls,hls,hk,hm⟩:=hJ
  have hjl:ls.length ≤ 32767:=by rw [hls]; split; exact Nat.zero_le _; exact things_len t.l
  have hsl:∀ x ∈ ls,x.sane = true:=by rw [hls]; split; exact (fun x hx=>by cases hx); exact fun x hx=>(sane_spec hsn).2.2.2 x (List.mem_of_mem_take hx)
  rw [if_pos h11,← hls] at hout
  have hro:=hroom
  rw [hout,List.length_append] at hro
  refine cR0 ?_
  refine oM0 hk rfl rfl fun a hk=>?_
  refine oM0 hk rfl rfl fun a hk=>?_
  refine oM0 hk rfl rfl fun a hk=>?_
  refine oL0 hk te_25 rfl rfl fun a hk=>?_
  refine o_call hk cb_76 (counted_c (Y:=Y) flex (f.null V t) ls.length 4 (by unfold room; omega) (by decide)) ⟨rfl,rfl,rfl,rfl,trivial⟩ rfl fun v3 w a hR hk=>?_
  have hm:=hm.rowNew hR
  have hcl:=counted_len (flex:=flex) (null:=f.null V t) (n:=ls.length) (size:=4) (by decide) (by unfold room; omega)
  refine oA0 hk rfl rfl fun a hk=>?_
  refine cE0 ?_
  refine wp_seq ?_
  refine cR0 ?_
  refine oM0 hk rfl rfl fun a hk=>?_
  refine oL0 hk te_25 rfl rfl fun a hk=>?_
  refine oM0 hk rfl rfl fun a hk=>?_
  refine cE0 ?_
  have hm:=hm.rowEq (i:=0) (n':=(counted flex (f.null V t) ls.length 4 ++ (ls.take 0).flatMap (valueP f.of (partP f.sub V flex) false flex)).length) (xs':=bv (counted flex (f.null V t) ls.length 4 ++ (ls.take 0).flatMap (valueP f.of (partP f.sub V flex) false flex))) rfl (by simp) (by simp)
  refine c_range (L0:=[(1,.int .i64 V),(2,.bool flex),(4,.pointer (some ⟨b1,0,none⟩)),(7,.pointer (some ⟨b2,0,none⟩)),(9,.bool (f.null V t)),(10,.slice pj ls.length cj),(11,v3)]) (N:=ls.length) (by omega) (fun k L w=>∃ vr,L = [(1,.int .i64 V),(2,.bool flex),(4,.pointer (some ⟨b1,0,none⟩)),(7,.pointer (some ⟨b2,0,none⟩)),(9,.bool (f.null V t)),(10,.slice pj ls.length cj),(11,vr)] ∧ Mem w0 Nob Y [.row 5 1 vr ((counted flex (f.null V t) ls.length 4 ++ (ls.take k).flatMap (valueP f.of (partP f.sub V flex) false flex)).length) (bv (counted flex (f.null V t) ls.length 4 ++ (ls.take k).flatMap (valueP f.of (partP f.sub V flex) false flex))),.rep (.sl false 5 (ls.map ddT)) [.slice pj ls.length cj],.rep (.sl false 5 ((things t.l).map ddT)) [.slice pt ((things t.l).length) capt],.blk b2 [.int .i64 t.n,.slice pst t.s.length capst,.bool t.z,.slice pt t.l.length capt,.slice put t.u.length caput] 28,.blk b1 [.int .i64 ((f.kind:Nat):Int),.int .i64 f.fr,.int .i64 f.to,.int .i64 f.nu,.int .i64 f.tag,.int .i64 f.df,.int .i64 ((f.of:Nat):Int),.slice pf f.sub.length capf] 50,.rep (ddFd f) [.int .i64 ((f.kind:Nat):Int),.int .i64 f.fr,.int .i64 f.to,.int .i64 f.nu,.int .i64 f.tag,.int .i64 f.df,.int .i64 ((f.of:Nat):Int),.slice pf f.sub.length capf],.rep (ddT t) [.int .i64 t.n,.slice pst t.s.length capst,.bool t.z,.slice pt t.l.length capt,.slice put t.u.length caput]] w) (hk.sub ⟨rfl,rfl,rfl,rfl,rfl,rfl,rfl,rfl,rfl,trivial⟩) ⟨_,rfl,hm.pick [0,1,2,3,4,5,6] rfl rfl⟩ rfl rfl rfl rfl rfl rfl rfl (fun k L a w hlt hR hk=>?_) rfl (fun L a w hR hk=>?_)
  ·obtain ⟨vr,rfl,hm⟩:=hR
   have hfl:=flatMap_take_le (valueP f.of (partP f.sub V flex) false flex) ls k T.nil hlt
   obtain ⟨hltx,blx,offx,ex,hplx,helx,hRex,hCex⟩:=rep_sl_get (hm.rep (i:=1) rfl) (getD_map ddT ls k T.nil hlt)
   obtain ⟨psx,capsx,px,capx,pux,capux,rfl⟩:=rep_T7 hRex
   have hm:=hm.add (e:=.rep (ddT (ls.getD k T.nil)) [.int .i64 ((ls.getD k T.nil).n),.slice psx ((ls.getD k T.nil).s.length) capsx,.bool ((ls.getD k T.nil).z),.slice px ((ls.getD k T.nil).l.length) capx,.slice pux ((ls.getD k T.nil).u.length) capux]) rfl hRex
   have hm:=hm.add (e:=.cel blx (offx + k * 5) [.int .i64 ((ls.getD k T.nil).n),.slice psx ((ls.getD k T.nil).s.length) capsx,.bool ((ls.getD k T.nil).z),.slice px ((ls.getD k T.nil).l.length) capx,.slice pux ((ls.getD k T.nil).u.length) capux]) rfl hCex
   refine cR0 ?_
   refine oM0 hk rfl rfl fun a hk=>?_
   refine oA0 hk rfl rfl fun a hk=>?_
   refine cE0 ?_
   refine d_startM (K:=12) mixed hm fun w hm=>?_
   refine d_take (i:=0) rfl rfl rfl (by kernel_rfl) (fun _ _ _ h=>h) hk rfl (fun w hm=>r_move hk rfl) hm fun a hk=>?_
   refine d_take (i:=1) rfl rfl rfl (by kernel_rfl) (fun _ _ _ h=>h) hk rfl (fun w hm=>rF0 hk fo_50_6 rfl) hm fun a hk=>?_
   refine d_take (i:=2) rfl rfl rfl (by kernel_rfl) (fun _ _ _ h=>h) hk rfl (fun w hm=>r_load1 hk ts_3 rfl (hm.cell_blk (i:=6) rfl rfl)) hm fun a hk=>?_
   refine d_take (i:=3) rfl rfl rfl (by kernel_rfl) (fun _ _ _ h=>h) hk rfl (fun w hm=>rF0 hk fo_50_7 rfl) hm fun a hk=>?_
   refine d_take (i:=4) rfl rfl rfl (by kernel_rfl) (fun _ _ _ h=>h) hk rfl (fun w hm=>r_load1 hk ts_32 rfl (hm.cell_blk (i:=6) rfl rfl)) hm fun a hk=>?_
   refine d_take (i:=5) rfl rfl rfl (by kernel_rfl) (fun _ _ _ h=>h) hk rfl (fun w hm=>r_move hk rfl) hm fun a hk=>?_
   refine d_take (i:=6) rfl rfl rfl (by kernel_rfl) (fun _ _ _ h=>h) hk rfl (fun w hm=>r_move hk rfl) hm fun a hk=>?_
   refine d_take (i:=7) rfl rfl rfl (by kernel_rfl) (fun _ _ _ h=>h) hk rfl (fun w hm=>r_move hk rfl) hm fun a hk=>?_
   refine d_one (k:=8) (by kernel_rfl) rfl rfl ?_
   refine oM0 hk rfl rfl fun a hk=>?_
   refine c_endQ (cT0 ⟨fun _=>hm,?_⟩)
   refine d_one (k:=9) (by kernel_rfl) rfl rfl ?_
   refine oI0 (j:=k) (b:=blx) (off:=offx) hk te_25 ts_28 (by rw [← hplx]; rfl) rfl hltx rfl fun a hk=>?_
   refine c_endQ (cT0 ⟨fun _=>hm,?_⟩)
   refine d_one (k:=10) (by kernel_rfl) rfl rfl ?_
   refine o_loadN (cs:=[.int .i64 ((ls.getD k T.nil).n),.slice psx ((ls.getD k T.nil).s.length) capsx,.bool ((ls.getD k T.nil).z),.slice px ((ls.getD k T.nil).l.length) capx,.slice pux ((ls.getD k T.nil).u.length) capux]) hk ts_28 rfl (hm.cells_cel (i:=0) (k:=0) rfl rfl) rfl fun a hk=>?_
   refine c_endQ (cT0 ⟨fun _=>hm,?_⟩)
   refine d_one (k:=11) (by kernel_rfl) rfl rfl ?_
   refine o_call hk cb_77 (hv f.of false V (rep_Fd8 (hm.rep (i:=7) rfl)) (hm.rep (i:=1) rfl) (sane_getD hsl k) (by omega)) ⟨rfl,rfl,rfl,rfl,rfl,rfl,trivial⟩ rfl fun v4 w a hR hk=>?_
   have hm:=hm.rowNew hR
   refine c_endQ (cT0 ⟨fun _=>hm.tail,?_⟩)
   refine d_one (k:=12) (by kernel_rfl) rfl rfl ?_
   refine o_append (i:=3) hk hm rt_24 rfl rfl rfl (src_row te_24 (hm.row (i:=0) rfl) (bv_one _)) (room_len (by simp only [List.length_append]; omega)) (room_by (by simp only [List.length_append]; omega)) rfl fun a v5 w hk hm _=>?_
   have hm:=hm.rowEq (i:=3) (n':=(counted flex (f.null V t) ls.length 4 ++ (ls.take k).flatMap (valueP f.of (partP f.sub V flex) false flex) ++ (valueP f.of (partP f.sub V flex) false flex (ls.getD k T.nil))).length) (xs':=bv (counted flex (f.null V t) ls.length 4 ++ (ls.take k).flatMap (valueP f.of (partP f.sub V flex) false flex) ++ (valueP f.of (partP f.sub V flex) false flex (ls.getD k T.nil)))) rfl List.length_append.symm (bv_append _ _).symm
   refine c_endQ (cT0 ⟨fun h=>Bool.noConfusion (show true = false from h),?_⟩)
   refine d_one (k:=13) (by kernel_rfl) rfl rfl ?_
   refine oA0 hk rfl rfl fun a hk=>?_
   refine c_endQ (cT0 ⟨fun h=>Bool.noConfusion (show true = false from h),?_⟩)
   refine d_done (by kernel_rfl) ?_ _
   refine cN0 ?_
   have hsucc:=flatMap_take_succ (valueP f.of (partP f.sub V flex) false flex) ls k T.nil hlt
   have hm:=hm.rowEq (i:=3) (n':=(counted flex (f.null V t) ls.length 4 ++ (ls.take (k + 1)).flatMap (valueP f.of (partP f.sub V flex) false flex)).length) (xs':=bv (counted flex (f.null V t) ls.length 4 ++ (ls.take (k + 1)).flatMap (valueP f.of (partP f.sub V flex) false flex))) rfl (by rw [hsucc,List.append_assoc]) (by rw [hsucc,List.append_assoc])
   exact c_round (L':=[(1,.int .i64 V),(2,.bool flex),(4,.pointer (some ⟨b1,0,none⟩)),(7,.pointer (some ⟨b2,0,none⟩)),(9,.bool (f.null V t)),(10,.slice pj ls.length cj),(11,v5)]) hk ⟨rfl,rfl,rfl,rfl,rfl,rfl,rfl,rfl,rfl,trivial⟩ rfl ⟨_,rfl,hm.pick [3,4,5,6,7,8,9] rfl rfl⟩
  ·obtain ⟨vz,rfl,hm⟩:=hR
   rw [List.take_length] at hm
   refine cT0 ?_
   refine cR0 ?_
   refine oM0 hk rfl rfl fun a hk=>?_
   refine oA0 hk rfl rfl fun a hk=>?_
   refine cE0 ?_
   refine wp_ret ?_
   refine cQ0 ?_
   refine bT0 rfl hk rfl ?_
   have hr:=hm.rowOut (i:=0) rfl
   rw [hout]; exact hr
 ·simp only [beq_iff_eq,beq_eq_false_iff_ne,ne_eq] at hc
  have h11 : ¬ f.kind = 11:=by omega
  refine wp_skip ?_
  refine cT0 ?_
  refine wp_seq ?_
  refine cR0 ?_
  refine oF0 hk fo_50_0 rfl rfl fun a hk=>?_
  refine o_load hk ts_3 rfl (hm.cell_blk (i:=1) rfl rfl) rfl fun a hk=>?_
  refine o_icmp hk rfl rfl rfl rfl fun a hk=>?_
  refine oM0 hk rfl rfl fun a hk=>?_
  rcases Bool.eq_false_or_eq_true (((((f.kind:Nat):Int):Int) == 10)) with hb6 | hb6
  ·rw [hb6] at hk
   have h10:f.kind = 10:=by simp only [beq_iff_eq,beq_eq_false_iff_ne,ne_eq] at hb6; omega
   refine o_want (o':=_) hk ⟨_,_,_,rfl,rfl,rfl⟩ rfl ?_
   refine oF0 hk fo_50_3 rfl rfl fun a hk=>?_
   refine o_want (o':=_) hk ⟨_,_,_,rfl,rfl,rfl⟩ rfl ?_
   refine o_load hk ts_3 rfl (hm.cell_blk (i:=1) rfl rfl) rfl fun a hk=>?_
   refine o_want (o':=_) hk ⟨_,_,_,rfl,rfl,rfl⟩ rfl ?_
   refine o_icmp hk rfl rfl rfl rfl fun a hk=>?_
   refine o_pick hk rfl rfl rfl rfl rfl fun a hk=>?_
   refine cE0 ?_
   refine c_cond hk rfl (fun hc=>?_) (fun hc=>?_)
   ·have hnu:f.nu ≥ 0:=by simpa using hc
    refine wp_seq ?_
    refine cR0 ?_
    refine oM0 hk rfl rfl fun a hk=>?_
    refine cE0 ?_
    refine c_cond hk rfl (fun hc=>?_) (fun hc=>?_)
    ·have hnl:f.null V t = true:=hc
     refine cR0 ?_
     refine o_call hk cb_34 (fixed_c (Y:=Y) (-1) 1 (by decide)) ⟨rfl,rfl,trivial⟩ rfl fun v7 w a hR hk=>?_
     have hm:=hm.rowNew hR
     refine oA0 hk rfl rfl fun a hk=>?_
     refine cE0 ?_
     refine wp_ret ?_
     refine cQ0 ?_
     refine cQ0 ?_
     refine bT0 rfl hk rfl ?_
     have hr:=hm.rowOut (i:=0) rfl
     rw [if_neg h11,if_pos ⟨h10,hnu⟩,hnl] at hout
     simp only [if_true] at hout
     rw [hout]; exact hr
    ·have hnl:f.null V t = false:=hc
     refine wp_skip ?_
     refine cT0 ?_
     refine wp_seq ?_
     refine d_startM (K:=7) mixed hm fun w hm=>?_
     refine d_take (i:=1) rfl rfl rfl (by kernel_rfl) (fun _ _ _ h=>h) hk rfl (fun w hm=>rF0 hk fo_50_7 rfl) hm fun a hk=>?_
     refine d_take (i:=2) rfl rfl rfl (by kernel_rfl) (fun _ _ _ h=>h) hk rfl (fun w hm=>r_load1 hk ts_32 rfl (hm.cell_blk (i:=1) rfl rfl)) hm fun a hk=>?_
     refine d_take (i:=3) rfl rfl rfl (by kernel_rfl) (fun _ _ _ h=>h) hk rfl (fun w hm=>r_move hk rfl) hm fun a hk=>?_
     refine d_take (i:=4) rfl rfl rfl (by kernel_rfl) (fun _ _ _ h=>h) hk rfl (fun w hm=>r_move hk rfl) hm fun a hk=>?_
     refine d_take (i:=5) rfl rfl rfl (by kernel_rfl) (fun _ _ _ h=>h) hk rfl (fun w hm=>r_loadN (cs:=[.int .i64 t.n,.slice pst t.s.length capst,.bool t.z,.slice pt t.l.length capt,.slice put t.u.length caput]) hk ts_28 rfl (hm.cells_blk (i:=0) rfl rfl)) hm fun a hk=>?_
     refine d_one (k:=0) (by kernel_rfl) rfl rfl ?_
     refine o_call hk cb_34 (fixed_c (Y:=Y) 1 1 (by decide)) ⟨rfl,rfl,trivial⟩ rfl fun v8 w a hR hk=>?_
     have hm:=hm.rowNew hR
     refine c_endQ (cT0 ⟨fun _=>hm.tail,?_⟩)
     refine d_one (k:=6) (by kernel_rfl) rfl rfl ?_
     rw [if_neg h11,if_pos ⟨h10,hnu⟩,hnl] at hout
     simp only [Bool.false_eq_true,if_false] at hout
     have hro:=hroom
     rw [hout,List.length_append] at hro
     refine o_call hk cb_30 (hpt V (rep_Fd8 (hm.rep (i:=3) rfl)) (hm.rep (i:=4) rfl) hsn (by omega)) ⟨rfl,rfl,rfl,rfl,trivial⟩ rfl fun v9 w a hR hk=>?_
     have hm:=hm.rowNew hR
     refine c_endQ (cT0 ⟨fun _=>hm.tail.tail,?_⟩)
     refine d_one (k:=7) (by kernel_rfl) rfl rfl ?_
     refine o_append (i:=1) hk hm rt_24 rfl rfl rfl (src_row te_24 (hm.row (i:=0) rfl) (bv_one _)) (room_len (by omega)) (room_by (by omega)) rfl fun a v10 w hk hm _=>?_
     have hm:=hm.rowEq (i:=1) (n':=(fixed 1 1 ++ (partP f.sub V flex t)).length) (xs':=bv (fixed 1 1 ++ (partP f.sub V flex t))) rfl List.length_append.symm (bv_append _ _).symm
     refine c_endQ (cT0 ⟨fun h=>Bool.noConfusion (show true = false from h),?_⟩)
     refine d_one (k:=8) (by kernel_rfl) rfl rfl ?_
     refine oA0 hk rfl rfl fun a hk=>?_
     refine c_endQ (cT0 ⟨fun h=>Bool.noConfusion (show true = false from h),?_⟩)
     refine d_done (by kernel_rfl) ?_ _
     refine cT0 ?_
     refine wp_ret ?_
     refine cQ0 ?_
     refine bT0 rfl hk rfl ?_
     have hr:=hm.rowOut (i:=1) rfl
     rw [hout]; exact hr
   ·have hnu : ¬ f.nu ≥ 0:=by simpa using hc
    refine wp_skip ?_
    refine cT0 ?_
    refine cR0 ?_
    refine oF0 hk fo_50_0 rfl rfl fun a hk=>?_
    refine o_load hk ts_3 rfl (hm.cell_blk (i:=1) rfl rfl) rfl fun a hk=>?_
    refine oF0 hk fo_50_7 rfl rfl fun a hk=>?_
    refine o_load hk ts_32 rfl (hm.cell_blk (i:=1) rfl rfl) rfl fun a hk=>?_
    refine oM0 hk rfl rfl fun a hk=>?_
    refine oM0 hk rfl rfl fun a hk=>?_
    refine oM0 hk rfl rfl fun a hk=>?_
    refine o_loadN (cs:=[.int .i64 t.n,.slice pst t.s.length capst,.bool t.z,.slice pt t.l.length capt,.slice put t.u.length caput]) hk ts_28 rfl (hm.cells_blk (i:=0) rfl rfl) rfl fun a hk=>?_
    rw [if_neg h11,if_neg (fun e=>hnu e.2)] at hout
    refine o_call hk cb_77 (hv f.kind (f.null V t) V (rep_Fd8 (hm.rep (i:=2) rfl)) (hm.rep (i:=3) rfl) hsn (hout ▸ hroom)) ⟨rfl,rfl,rfl,rfl,rfl,rfl,trivial⟩ rfl fun v11 w a hR hk=>?_
    have hm:=hm.rowNew hR
    refine oA0 hk rfl rfl fun a hk=>?_
    refine cE0 ?_
    refine wp_ret ?_
    refine bT0 rfl hk rfl ?_
    have hr:=hm.rowOut (i:=0) rfl
    rw [hout]; exact hr
  ·rw [hb6] at hk
   have h10 : ¬ f.kind = 10:=by simp only [beq_iff_eq,beq_eq_false_iff_ne,ne_eq] at hb6; omega
   refine oS0 hk ⟨_,_,_,_,rfl,rfl,rfl,nb_ft⟩ rfl rfl fun a hk=>?_
   refine oS0 hk ⟨_,_,_,_,rfl,rfl,rfl,nb_ft⟩ rfl rfl fun a hk=>?_
   refine oS0 hk ⟨_,_,_,_,rfl,rfl,rfl,nb_ft⟩ rfl rfl fun a hk=>?_
   refine o_pick hk rfl rfl rfl rfl rfl fun a hk=>?_
   refine cE0 ?_
   refine c_condF hk rfl ?_
   refine wp_skip ?_
   refine cT0 ?_
   refine cR0 ?_
   refine oF0 hk fo_50_0 rfl rfl fun a hk=>?_
   refine o_load hk ts_3 rfl (hm.cell_blk (i:=1) rfl rfl) rfl fun a hk=>?_
   refine oF0 hk fo_50_7 rfl rfl fun a hk=>?_
   refine o_load hk ts_32 rfl (hm.cell_blk (i:=1) rfl rfl) rfl fun a hk=>?_
   refine oM0 hk rfl rfl fun a hk=>?_
   refine oM0 hk rfl rfl fun a hk=>?_
   refine oM0 hk rfl rfl fun a hk=>?_
   refine o_loadN (cs:=[.int .i64 t.n,.slice pst t.s.length capst,.bool t.z,.slice pt t.l.length capt,.slice put t.u.length caput]) hk ts_28 rfl (hm.cells_blk (i:=0) rfl rfl) rfl fun a hk=>?_
   rw [if_neg h11,if_neg (fun e=>h10 e.1)] at hout
   refine o_call hk cb_77 (hv f.kind (f.null V t) V (rep_Fd8 (hm.rep (i:=2) rfl)) (hm.rep (i:=3) rfl) hsn (hout ▸ hroom)) ⟨rfl,rfl,rfl,rfl,rfl,rfl,trivial⟩ rfl fun v12 w a hR hk=>?_
   have hm:=hm.rowNew hR
   refine oA0 hk rfl rfl fun a hk=>?_
   refine cE0 ?_
   refine wp_ret ?_
   refine bT0 rfl hk rfl ?_
   have hr:=hm.rowOut (i:=0) rfl
   rw [hout]; exact hr
end Go.Proofs.YthblgheenamnhaaGreatDoorR
