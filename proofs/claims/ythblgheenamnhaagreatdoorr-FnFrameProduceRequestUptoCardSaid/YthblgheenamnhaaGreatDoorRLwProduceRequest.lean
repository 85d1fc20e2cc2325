/- Walks of functions that the laws of this seat reach. No statement of the seat stands here. -/
import Derived.Test.YthblgheenamnhaaGreatDoorRL4
import Derived.Test.YthblgheenamnhaaGreatDoorRRows
import Derived.Test.YthblgheenamnhaaGreatDoorRFa
import Derived.Test.YthblgheenamnhaaGreatDoorRFdProduceRequest
import Derived.Test.YthblgheenamnhaaGreatDoorRSxProduceRequest
import Derived.Test.YthblgheenamnhaaGreatDoorRSf2
import Derived.Test.YthblgheenamnhaaGreatDoorRTx
namespace Go.Proofs.YthblgheenamnhaaGreatDoorR
open Go Go.Mk
theorem law_ProduceRequest {w0:World} {Y:Nat → Prop} {t:T} {ct:List Value} {has:Bool} {s:List UInt8} {number:Int} {gv:Value} (n:Nat) (hn:n < 256) (hN:IntKind.i32.wrap number = number) (hT:Rep w0 Y (ddT t) ct) (hsn:t.sane = true) (hwd:t.wide = true) (hroom:∀ V:Int,0 ≤ V → (partP sch_ProduceRequest V (decide (V ≥ 9)) t).length + 50000 ≤ room) (hG:Cel w0 Y 0 0 [gv]):Ret Tryz.prog 6 [.int .u8 (n:Int),.agg #[.bool has,.string (bs s)],.int .i32 number,.agg ct.toArray] w0 fun v w'=>Agr Nob w0 w' ∧ v = .bool true:=by
 obtain ⟨pst,capst,pt,capt,put,caput,rfl⟩:=rep_T7 hT
 refine c_call Tryz.func6 rfl rfl fun a hk=>?_
 have hk:Kn 63 [(0,.int .u8 (n:Int)),(1,.agg #[.bool has,.string (bs s)]),(2,.int .i32 number),(3,.agg #[.int .i64 t.n,.slice pst t.s.length capst,.bool t.z,.slice pt t.l.length capt,.slice put t.u.length caput])] a:=hk
 have hm:Mem w0 Nob Y [.rep (ddT t) [.int .i64 t.n,.slice pst t.s.length capst,.bool t.z,.slice pt t.l.length capt,.slice put t.u.length caput],.cel 0 0 [gv]] w0:=Mem.start rfl (by simp only [List.forall_mem_cons,List.not_mem_nil,false_imp_iff,implies_true,and_true]; exact ⟨hT,hG⟩)
 refine cR0 ?_
 refine o_box hk hm rfl rfl rfl fun a b1 w hk hm=>?_
 refine o_box hk hm rfl rfl rfl fun a b2 w hk hm=>?_
 refine oA0 hk rfl rfl fun a hk=>?_
 refine cE0 ?_
 refine wp_seq ?_
 refine cR0 ?_
 refine o_loadN (cs:=[.bool has,.string (bs s)]) hk ts_23 rfl (hm.cells_blk (i:=1) rfl rfl) rfl fun a hk=>?_
 refine o_call hk cb_7 (fits4_c) ⟨rfl,trivial⟩ rfl fun v w a hR hk=>?_
 obtain ⟨hp,rfl⟩:=hR
 have hm:=hm.pure hp
 refine o_not hk rfl rfl fun a hk=>?_
 refine oM0 hk rfl rfl fun a hk=>?_
 rcases Bool.eq_false_or_eq_true ((!(fitS s))) with hb3 | hb3
 ·rw [hb3] at hk
  refine oS0 hk ⟨_,_,_,_,rfl,rfl,rfl,nb_tf⟩ rfl rfl fun a hk=>?_
  refine oS0 hk ⟨_,_,_,_,rfl,rfl,rfl,nb_tf⟩ rfl rfl fun a hk=>?_
  refine oS0 hk ⟨_,_,_,_,rfl,rfl,rfl,nb_tf⟩ rfl rfl fun a hk=>?_
  refine o_pick hk rfl rfl rfl rfl rfl fun a hk=>?_
  refine cE0 ?_
  refine c_condT hk rfl ?_
  refine cR0 ?_
  refine oA0 hk rfl rfl fun a hk=>?_
  refine cE0 ?_
  refine wp_ret ?_
  refine cQ0 ?_
  refine bT0 rfl hk rfl ?_
  exact ⟨hm.agr,rfl⟩
 ·rw [hb3] at hk
  refine o_want (o':=_) hk ⟨_,_,_,rfl,rfl,rfl⟩ rfl ?_
  refine o_loadN (cs:=[.int .i64 t.n,.slice pst t.s.length capst,.bool t.z,.slice pt t.l.length capt,.slice put t.u.length caput]) hk ts_28 rfl (hm.cells_blk (i:=0) rfl rfl) rfl fun a hk=>?_
  refine o_want (o':=_) hk ⟨_,_,_,rfl,rfl,rfl⟩ rfl ?_
  refine o_call hk cb_8 (fits1_c (hm.rep (i:=2) rfl)) ⟨rfl,trivial⟩ rfl fun v w a hR hk=>?_
  obtain ⟨hp,rfl⟩:=hR
  have hm:=hm.pure hp
  refine o_want (o':=_) hk ⟨_,_,_,rfl,rfl,rfl⟩ rfl ?_
  refine o_not hk rfl rfl fun a hk=>?_
  refine o_pick hk rfl rfl rfl rfl rfl fun a hk=>?_
  refine cE0 ?_
  refine c_cond hk rfl (fun hc=>?_) (fun hc=>?_)
  ·refine cR0 ?_
   refine oA0 hk rfl rfl fun a hk=>?_
   refine cE0 ?_
   refine wp_ret ?_
   refine cQ0 ?_
   refine bT0 rfl hk rfl ?_
   exact ⟨hm.agr,rfl⟩
  ·refine wp_skip ?_
   refine cT0 ?_
   refine cR0 ?_
   refine o_call hk cb_23 (max_ProduceRequest (Y:=Y)) trivial rfl fun v w a hR hk=>?_
   obtain ⟨hp,rfl⟩:=hR
   have hm:=hm.pure hp
   refine oA0 hk rfl rfl fun a hk=>?_
   refine cE0 ?_
   refine wp_seq ?_
   refine cR0 ?_
   refine oM0 hk rfl rfl fun a hk=>?_
   refine o_icmp hk rfl rfl rfl rfl fun a hk=>?_
   refine cE0 ?_
   refine c_cond hk rfl (fun hc=>?_) (fun hc=>?_)
   ·refine cR0 ?_
    refine oA0 hk rfl rfl fun a hk=>?_
    refine cE0 ?_
    refine wp_ret ?_
    refine cQ0 ?_
    refine bT0 rfl hk rfl ?_
    exact absurd hc (by decide)
   ·refine wp_skip ?_
    refine cT0 ?_
    refine cR0 ?_
    refine o_call hk cb_24 (msg_c_ProduceRequest (Y:=Yof w0 Y [.blk b2 [.int .i64 t.n,.slice pst t.s.length capst,.bool t.z,.slice pt t.l.length capt,.slice put t.u.length caput] 28,.blk b1 [.bool has,.string (bs s)] 23,.rep (ddT t) [.int .i64 t.n,.slice pst t.s.length capst,.bool t.z,.slice pt t.l.length capt,.slice put t.u.length caput],.cel 0 0 [gv]])) trivial rfl fun v w a hR hk=>?_
    obtain ⟨hp,pm,capm,rfl,hR⟩:=hR
    have hm:=hm.result hp hR
    refine oM0 hk rfl rfl fun a hk=>?_
    refine oM0 hk rfl rfl fun a hk=>?_
    refine o_call hk cb_11 (version_c (Y:=Y) hn (by decide) (by decide)) ⟨rfl,rfl,trivial⟩ rfl fun v w a hR hk=>?_
    obtain ⟨hp,rfl⟩:=hR
    have hm:=hm.pure hp
    obtain ⟨k,hV⟩ : ∃ k:Nat,(k:Int) = (n:Int) % ((13:Int) + 1):=⟨((n:Int) % ((13:Int) + 1)).toNat,by omega⟩
    rw [← hV] at hk
    have hV1:k ≤ 13:=by omega
    have hro:=hroom (k:Int) (by omega)
    refine o_alloc hk hm tz_34 rfl rfl fun a b4 w hk hm=>?_
    refine o_store (i:=0) hk hm ts_34 rfl rfl rfl rfl rfl rfl (Nat.le_of_ble_eq_true rfl) fun a w hk hm=>?_
    refine oA0 hk rfl rfl fun a hk=>?_
    refine cE0 ?_
    refine wp_seq ?_
    refine cR0 ?_
    refine oF0 hk fo_23_1 rfl rfl fun a hk=>?_
    refine o_load hk ts_9 rfl (hm.cell_blk (i:=3) rfl rfl) rfl fun a hk=>?_
    refine o_lenStr hk is_9 rfl rfl fun a hk=>?_
    refine o_icmp hk rfl rfl rfl rfl fun a hk=>?_
    refine cE0 ?_
    refine c_cond hk rfl (fun hc=>?_) (fun hc=>?_)
    ·refine cR0 ?_
     refine oA0 hk rfl rfl fun a hk=>?_
     refine cE0 ?_
     refine wp_ret ?_
     refine cQ0 ?_
     refine bT0 rfl hk rfl ?_
     exact ⟨hm.agr,rfl⟩
    ·have hs32:s.length ≤ 32767:=by have:=of_decide_eq_false hc; rw [bs_size] at this; omega
     have hsl:(if has = true then s else []).length ≤ 32767:=by cases has <;> simp <;> omega
     refine wp_skip ?_
     refine cT0 ?_
     refine cR0 ?_
     refine o_loadN (cs:=[.slice pm sch_ProduceRequest.length capm,.int .i64 9]) hk ts_34 rfl (hm.cells_blk (i:=0) rfl rfl) rfl fun a hk=>?_
     refine oM0 hk rfl rfl fun a hk=>?_
     refine o_loadN (cs:=[.int .i64 t.n,.slice pst t.s.length capst,.bool t.z,.slice pt t.l.length capt,.slice put t.u.length caput]) hk ts_28 rfl (hm.cells_blk (i:=2) rfl rfl) rfl fun a hk=>?_
     refine o_call hk cb_12 (write_c (flex:=(decide (((k:Nat):Int) ≥ 9))) 9 ((k:Nat):Int) (partx_c (fs:=sch_ProduceRequest) rfl (fun _=>rfl) (by decide)) (by simp) (hm.rep (i:=1) rfl) (hm.rep (i:=4) rfl) hsn (Nat.le_trans (Nat.le_add_right _ _) hro)) ⟨rfl,rfl,rfl,trivial⟩ rfl fun v5 w a hR hk=>?_
     have hm:=hm.rowNew hR
     refine oA0 hk rfl rfl fun a hk=>?_
     refine cE0 ?_
     refine cR0 ?_
     refine o_loadN (cs:=[.bool has,.string (bs s)]) hk ts_23 rfl (hm.cells_blk (i:=4) rfl rfl) rfl fun a hk=>?_
     refine oM0 hk rfl rfl fun a hk=>?_
     refine oM0 hk rfl rfl fun a hk=>?_
     refine oM0 hk rfl rfl fun a hk=>?_
     obtain ⟨pz8,cz8,rfl⟩:=row_form (hm.row (i:=0) rfl)
     have hm:=hm.freezeBytes (i:=0) rfl rfl
     refine o_call hk cb_25 (frame_c_ProduceRequest k hV1 hsn hwd hs32 (hm.rep (i:=0) rfl) hro (hm.all _ (eA0 (i:=6) rfl))) ⟨rfl,rfl,rfl,rfl,trivial⟩ rfl fun vq w a hR hk=>?_
     obtain ⟨rb,rfl,hR⟩:=hR
     have hm:=hm.rowNew hR
     refine oM0 hk rfl rfl fun a hk=>?_
     refine o_extract hk rfl rfl rfl fun a hk=>?_
     refine o_extract hk rfl rfl rfl fun a hk=>?_
     refine oA0 hk rfl rfl fun a hk=>?_
     refine oA0 hk rfl rfl fun a hk=>?_
     refine cE0 ?_
     refine wp_seq ?_
     refine d_startM (K:=15) mixed hm fun w hm=>?_
     refine d_one (k:=0) (by kernel_rfl) rfl rfl ?_
     refine oM0 hk rfl rfl fun a hk=>?_
     refine c_endQ (cT0 ⟨fun _=>hm,?_⟩)
     refine d_one (k:=1) (by kernel_rfl) rfl rfl ?_
     refine oM0 hk rfl rfl fun a hk=>?_
     refine c_endQ (cT0 ⟨fun _=>hm,?_⟩)
     refine d_takeW (i:=2) rfl ⟨_,_,_,rfl,rfl,rfl⟩ rfl (by kernel_rfl) (fun _ _ _ h=>h) hk rfl (fun w hm=>r_move hk rfl) hm fun a hk=>?_
     refine d_takeW (i:=3) rfl ⟨_,_,_,rfl,rfl,rfl⟩ rfl (by kernel_rfl) (fun _ _ _ h=>h) hk rfl (fun w hm=>r_move hk rfl) hm fun a hk=>?_
     refine d_takeW (i:=4) rfl ⟨_,_,_,rfl,rfl,rfl⟩ rfl (by kernel_rfl) (fun _ _ _ h=>h) hk rfl (fun w hm=>r_move hk rfl) hm fun a hk=>?_
     refine d_takeW (i:=5) rfl ⟨_,_,_,rfl,rfl,rfl⟩ rfl (by kernel_rfl) (fun _ _ _ h=>h) hk rfl (fun w hm=>rF0 hk fo_23_0 rfl) hm fun a hk=>?_
     refine d_takeW (i:=6) rfl ⟨_,_,_,rfl,rfl,rfl⟩ rfl (by kernel_rfl) (fun _ _ _ h=>h) hk rfl (fun w hm=>r_load1 hk ts_4 rfl (hm.cell_blk (i:=5) rfl rfl)) hm fun a hk=>?_
     refine d_takeW (i:=7) rfl ⟨_,_,_,rfl,rfl,rfl⟩ rfl (by kernel_rfl) (fun _ _ _ h=>h) hk rfl (fun w hm=>rF0 hk fo_23_1 rfl) hm fun a hk=>?_
     refine d_takeW (i:=8) rfl ⟨_,_,_,rfl,rfl,rfl⟩ rfl (by kernel_rfl) (fun _ _ _ h=>h) hk rfl (fun w hm=>r_load1 hk ts_9 rfl (hm.cell_blk (i:=5) rfl rfl)) hm fun a hk=>?_
     refine d_takeW (i:=10) rfl ⟨_,_,_,rfl,rfl,rfl⟩ rfl (by kernel_rfl) (fun _ _ _ h=>h) hk rfl (fun w hm=>r_loadN (cs:=[.slice pm sch_ProduceRequest.length capm,.int .i64 9]) hk ts_34 rfl (hm.cells_blk (i:=2) rfl rfl)) hm fun a hk=>?_
     refine d_takeW (i:=11) rfl ⟨_,_,_,rfl,rfl,rfl⟩ rfl (by kernel_rfl) (fun _ _ _ h=>h) hk rfl (fun w hm=>r_move hk rfl) hm fun a hk=>?_
     refine d_takeW (i:=13) rfl ⟨_,_,_,rfl,rfl,rfl⟩ rfl (by kernel_rfl) (fun _ _ _ h=>h) hk rfl (fun w hm=>r_move hk rfl) hm fun a hk=>?_
     refine d_twoW (k:=9) (k2:=12) (by kernel_rfl) rfl rfl hk ⟨_,_,_,rfl,rfl,rfl⟩ rfl ⟨_,_,_,rfl,rfl,rfl⟩ rfl ?_ ?_
     ·refine o_strToBytes (s:=s) hk hm is_9 iy_24 rfl rfl fun a px6 cx6 w hk hm=>?_
      refine c_endQ (cT0 ⟨fun _=>hm.tail,?_⟩)
      refine d_oneW (k:=12) (by kernel_rfl) rfl hk ⟨_,_,_,rfl,rfl,rfl⟩ rfl ?_
      refine o_call hk cb_16 (flexible_c 9 ((k:Nat):Int) (hm.rep (i:=4) rfl)) ⟨rfl,rfl,trivial⟩ rfl fun v w a hR hk=>?_
      obtain ⟨hp,rfl⟩:=hR
      have hm:=hm.pure hp
      rw [show (decide ((9:Int) ≥ 0) && decide (((k:Nat):Int) ≥ 9)) = (decide (((k:Nat):Int) ≥ 9)) by simp] at hk
      refine c_endQ (cT0 ⟨fun _=>hm.tail,?_⟩)
      refine d_oneW (k:=14) (by kernel_rfl) rfl hk ⟨_,_,_,rfl,rfl,rfl⟩ rfl ?_
      refine o_call hk cb_15 (frame_c (has:=has) (flex:=(decide (((k:Nat):Int) ≥ 9))) (key:=0) (V:=((k:Nat):Int)) (number:=number) hN (hm.rep (i:=0) rfl) (hm.rep (i:=2) rfl) hs32 hro) ⟨rfl,rfl,rfl,rfl,rfl,rfl,rfl,trivial⟩ rfl fun v7 w a hR hk=>?_
      have hm:=hm.rowNew hR
      refine c_endQ (cT0 ⟨fun _=>hm.tail.tail,?_⟩)
      refine d_oneW (k:=15) (by kernel_rfl) rfl hk ⟨_,_,_,rfl,rfl,rfl⟩ rfl ?_
      obtain ⟨pz0,cz0,rfl⟩:=row_form (hm.row (i:=2) rfl)
      have hm:=hm.freezeBytes (i:=2) rfl rfl
      obtain ⟨pz1,cz1,rfl⟩:=row_form (hm.row (i:=0) rfl)
      have hm:=hm.freezeBytes (i:=0) rfl rfl
      refine o_call hk cb_14 (same_c (hm.rep (i:=2) rfl) (hm.rep (i:=0) rfl) (by have hfr:=frame_le 0 ((k:Nat):Int) number (!has) (if has then s else []) (decide (((k:Nat):Int) ≥ 9)) (partP sch_ProduceRequest ((k:Nat):Int) (decide (((k:Nat):Int) ≥ 9)) t); unfold room at hro; omega)) ⟨rfl,rfl,trivial⟩ rfl fun v w a hR hk=>?_
      obtain ⟨hp,rfl⟩:=hR
      have hm:=hm.pure hp
      refine c_endQ (cT0 ⟨fun h=>Bool.noConfusion (show true = false from h),?_⟩)
      refine d_one (k:=16) (by kernel_rfl) rfl rfl ?_
      refine o_pick hk rfl rfl rfl rfl rfl fun a hk=>?_
      refine c_endQ (cT0 ⟨fun h=>Bool.noConfusion (show true = false from h),?_⟩)
      refine d_one (k:=17) (by kernel_rfl) rfl rfl ?_
      refine oA0 hk rfl rfl fun a hk=>?_
      refine c_endQ (cT0 ⟨fun h=>Bool.noConfusion (show true = false from h),?_⟩)
      refine d_done (by kernel_rfl) ?_ _
      refine cT0 ?_
      refine wp_ret ?_
      refine bT0 rfl hk rfl ?_
      exact ⟨hm.agr,by first | (rw [decide_eq_true rfl]; done) | (rw [decide_eq_true rfl]; rfl) | simp⟩
     ·refine o_call hk cb_16 (flexible_c 9 ((k:Nat):Int) (hm.rep (i:=3) rfl)) ⟨rfl,rfl,trivial⟩ rfl fun v w a hR hk=>?_
      obtain ⟨hp,rfl⟩:=hR
      have hm:=hm.pure hp
      rw [show (decide ((9:Int) ≥ 0) && decide (((k:Nat):Int) ≥ 9)) = (decide (((k:Nat):Int) ≥ 9)) by simp] at hk
      refine c_endQ (cT0 ⟨fun _=>hm,?_⟩)
      refine d_oneW (k:=9) (by kernel_rfl) rfl hk ⟨_,_,_,rfl,rfl,rfl⟩ rfl ?_
      refine o_strToBytes (s:=s) hk hm is_9 iy_24 rfl rfl fun a px8 cx8 w hk hm=>?_
      refine c_endQ (cT0 ⟨fun _=>hm.tail,?_⟩)
      refine d_oneW (k:=14) (by kernel_rfl) rfl hk ⟨_,_,_,rfl,rfl,rfl⟩ rfl ?_
      refine o_call hk cb_15 (frame_c (has:=has) (flex:=(decide (((k:Nat):Int) ≥ 9))) (key:=0) (V:=((k:Nat):Int)) (number:=number) hN (hm.rep (i:=0) rfl) (hm.rep (i:=2) rfl) hs32 hro) ⟨rfl,rfl,rfl,rfl,rfl,rfl,rfl,trivial⟩ rfl fun v9 w a hR hk=>?_
      have hm:=hm.rowNew hR
      refine c_endQ (cT0 ⟨fun _=>hm.tail.tail,?_⟩)
      refine d_oneW (k:=15) (by kernel_rfl) rfl hk ⟨_,_,_,rfl,rfl,rfl⟩ rfl ?_
      obtain ⟨pz0,cz0,rfl⟩:=row_form (hm.row (i:=2) rfl)
      have hm:=hm.freezeBytes (i:=2) rfl rfl
      obtain ⟨pz1,cz1,rfl⟩:=row_form (hm.row (i:=0) rfl)
      have hm:=hm.freezeBytes (i:=0) rfl rfl
      refine o_call hk cb_14 (same_c (hm.rep (i:=2) rfl) (hm.rep (i:=0) rfl) (by have hfr:=frame_le 0 ((k:Nat):Int) number (!has) (if has then s else []) (decide (((k:Nat):Int) ≥ 9)) (partP sch_ProduceRequest ((k:Nat):Int) (decide (((k:Nat):Int) ≥ 9)) t); unfold room at hro; omega)) ⟨rfl,rfl,trivial⟩ rfl fun v w a hR hk=>?_
      obtain ⟨hp,rfl⟩:=hR
      have hm:=hm.pure hp
      refine c_endQ (cT0 ⟨fun h=>Bool.noConfusion (show true = false from h),?_⟩)
      refine d_one (k:=16) (by kernel_rfl) rfl rfl ?_
      refine o_pick hk rfl rfl rfl rfl rfl fun a hk=>?_
      refine c_endQ (cT0 ⟨fun h=>Bool.noConfusion (show true = false from h),?_⟩)
      refine d_one (k:=17) (by kernel_rfl) rfl rfl ?_
      refine oA0 hk rfl rfl fun a hk=>?_
      refine c_endQ (cT0 ⟨fun h=>Bool.noConfusion (show true = false from h),?_⟩)
      refine d_done (by kernel_rfl) ?_ _
      refine cT0 ?_
      refine wp_ret ?_
      refine bT0 rfl hk rfl ?_
      exact ⟨hm.agr,by first | (rw [decide_eq_true rfl]; done) | (rw [decide_eq_true rfl]; rfl) | simp⟩
end Go.Proofs.YthblgheenamnhaaGreatDoorR
