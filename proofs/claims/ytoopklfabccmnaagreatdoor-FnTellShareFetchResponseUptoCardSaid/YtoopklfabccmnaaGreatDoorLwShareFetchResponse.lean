/- Walks of functions that the laws of this seat reach. No statement of the seat stands here. -/
import Derived.Test.YtoopklfabccmnaaGreatDoorL4
import Derived.Test.YtoopklfabccmnaaGreatDoorRows
import Derived.Test.YtoopklfabccmnaaGreatDoorFa
import Derived.Test.YtoopklfabccmnaaGreatDoorTd2ShareFetchResponse
import Derived.Test.YtoopklfabccmnaaGreatDoorSxShareFetchResponse
import Derived.Test.YtoopklfabccmnaaGreatDoorTe
import Derived.Test.YtoopklfabccmnaaGreatDoorTb
import Derived.Test.YtoopklfabccmnaaGreatDoorTx
namespace Go.Proofs.YtoopklfabccmnaaGreatDoor
open Go Go.Mk
theorem law_ShareFetchResponse {w0:World} {Y:Nat → Prop} {t:T} {ct:List Value} {gv:Value} (n:Nat) (hn:n < 256) (hT:Rep w0 Y (ddT t) ct) (hsn:t.sane = true) (hwd:t.wide = true) (hroom:∀ V:Int,0 ≤ V → (partP sch_ShareFetchResponse V (decide (V ≥ 0)) t).length ≤ room) (hG:Cel w0 Y 1 0 [gv]):Ret Tryz.prog 10 [.int .u8 (n:Int),.agg ct.toArray] w0 fun v w'=>Agr Nob w0 w' ∧ v = .bool true:=by
 obtain ⟨pst,capst,pt,capt,put,caput,rfl⟩:=rep_T7 hT
 refine c_call Tryz.func10 rfl rfl fun a hk=>?_
 have hk:Kn 42 [(0,.int .u8 (n:Int)),(1,.agg #[.int .i64 t.n,.slice pst t.s.length capst,.bool t.z,.slice pt t.l.length capt,.slice put t.u.length caput])] a:=hk
 have hm:Mem w0 Nob Y [.rep (ddT t) [.int .i64 t.n,.slice pst t.s.length capst,.bool t.z,.slice pt t.l.length capt,.slice put t.u.length caput],.cel 1 0 [gv]] w0:=Mem.start rfl (by simp only [List.forall_mem_cons,List.not_mem_nil,false_imp_iff,implies_true,and_true]; exact ⟨hT,hG⟩)
 refine cR0 ?_
 refine o_box hk hm rfl rfl rfl fun a b1 w hk hm=>?_
 refine oA0 hk rfl rfl fun a hk=>?_
 refine cE0 ?_
 refine wp_seq ?_
 refine cR0 ?_
 refine o_loadN (cs:=[.int .i64 t.n,.slice pst t.s.length capst,.bool t.z,.slice pt t.l.length capt,.slice put t.u.length caput]) hk ts_26 rfl (hm.cells_blk (i:=0) rfl rfl) rfl fun a hk=>?_
 refine o_call hk cb_11 (fits1_c (hm.rep (i:=1) rfl)) ⟨rfl,trivial⟩ rfl fun v w a hR hk=>?_
 obtain ⟨hp,rfl⟩:=hR
 have hm:=hm.pure hp
 refine o_not hk rfl rfl fun a hk=>?_
 refine cE0 ?_
 refine c_cond hk rfl (fun hc=>?_) (fun hc=>?_)
 ·refine cR0 ?_
  refine oA0 hk rfl rfl fun a hk=>?_
  refine cE0 ?_
  refine wp_ret ?_
  refine cQ0 ?_
  refine bT0 rfl hk rfl ?_
  exact ⟨hm.agr,rfl⟩
 ·refine wp_skip ?_
  refine cT0 ?_
  refine cR0 ?_
  refine o_call hk cb_38 (max_ShareFetchResponse (Y:=Y)) trivial rfl fun v w a hR hk=>?_
  obtain ⟨hp,rfl⟩:=hR
  have hm:=hm.pure hp
  refine oA0 hk rfl rfl fun a hk=>?_
  refine cE0 ?_
  refine wp_seq ?_
  refine cR0 ?_
  refine oM0 hk rfl rfl fun a hk=>?_
  refine o_icmp hk rfl rfl rfl rfl fun a hk=>?_
  refine cE0 ?_
  refine c_cond hk rfl (fun hc=>?_) (fun hc=>?_)
  ·refine cR0 ?_
   refine oA0 hk rfl rfl fun a hk=>?_
   refine cE0 ?_
   refine wp_ret ?_
   refine cQ0 ?_
   refine bT0 rfl hk rfl ?_
   exact absurd hc (by decide)
  ·refine wp_skip ?_
   refine cT0 ?_
   refine cR0 ?_
   refine o_call hk cb_39 (msg_c_ShareFetchResponse (Y:=Yof w0 Y [.blk b1 [.int .i64 t.n,.slice pst t.s.length capst,.bool t.z,.slice pt t.l.length capt,.slice put t.u.length caput] 26,.rep (ddT t) [.int .i64 t.n,.slice pst t.s.length capst,.bool t.z,.slice pt t.l.length capt,.slice put t.u.length caput],.cel 1 0 [gv]])) trivial rfl fun v w a hR hk=>?_
   obtain ⟨hp,pm,capm,rfl,hR⟩:=hR
   have hm:=hm.result hp hR
   refine oM0 hk rfl rfl fun a hk=>?_
   refine oM0 hk rfl rfl fun a hk=>?_
   refine o_call hk cb_14 (version_c (Y:=Y) hn (by decide) (by decide)) ⟨rfl,rfl,trivial⟩ rfl fun v w a hR hk=>?_
   obtain ⟨hp,rfl⟩:=hR
   have hm:=hm.pure hp
   obtain ⟨k,hV⟩ : ∃ k:Nat,(k:Int) = (n:Int) % ((2:Int) + 1):=⟨((n:Int) % ((2:Int) + 1)).toNat,by omega⟩
   rw [← hV] at hk
   have hV1:k ≤ 2:=by omega
   have hro:=hroom (k:Int) (by omega)
   refine o_alloc hk hm tz_31 rfl rfl fun a b2 w hk hm=>?_
   refine o_store (i:=0) hk hm ts_31 rfl rfl rfl rfl rfl rfl (Nat.le_of_ble_eq_true rfl) fun a w hk hm=>?_
   refine oA0 hk rfl rfl fun a hk=>?_
   refine cE0 ?_
   refine cR0 ?_
   refine oM0 hk rfl rfl fun a hk=>?_
   refine o_loadN (cs:=[.slice pm sch_ShareFetchResponse.length capm,.int .i64 0]) hk ts_31 rfl (hm.cells_blk (i:=0) rfl rfl) rfl fun a hk=>?_
   refine oM0 hk rfl rfl fun a hk=>?_
   refine o_loadN (cs:=[.int .i64 t.n,.slice pst t.s.length capst,.bool t.z,.slice pt t.l.length capt,.slice put t.u.length caput]) hk ts_26 rfl (hm.cells_blk (i:=2) rfl rfl) rfl fun a hk=>?_
   refine o_call hk cb_16 (write_c (flex:=(decide (((k:Nat):Int) ≥ 0))) 0 ((k:Nat):Int) (partx_c (fs:=sch_ShareFetchResponse) rfl (fun _=>rfl) (by decide)) (by simp) (hm.rep (i:=1) rfl) (hm.rep (i:=3) rfl) hsn hro) ⟨rfl,rfl,rfl,trivial⟩ rfl fun v3 w a hR hk=>?_
   have hm:=hm.rowNew hR
   obtain ⟨pz8,cz8,rfl⟩:=row_form (hm.row (i:=0) rfl)
   have hm:=hm.freezeBytes (i:=0) rfl rfl
   refine o_call hk cb_40 (tell_c_ShareFetchResponse k hV1 hsn (by rw [partR_ShareFetchResponse]; exact hm.rep (i:=0) rfl) (by rw [partR_ShareFetchResponse]; exact hro) (hm.all _ (eA0 (i:=5) rfl))) ⟨rfl,rfl,trivial⟩ rfl fun vq w a hR hk=>?_
   rw [telR_ShareFetchResponse,gotR_ShareFetchResponse] at hR
   obtain ⟨hp,cq,rfl,hR⟩:=hR
   obtain ⟨csq,pq,capq,puq,capuq,rfl⟩:=rep_T6 hR
   have hm:=hm.result hp hR
   refine oM0 hk rfl rfl fun a hk=>?_
   refine o_extract hk rfl rfl rfl fun a hk=>?_
   refine o_extract hk rfl rfl rfl fun a hk=>?_
   refine o_alloc hk hm tz_37 rfl rfl fun a b4 w hk hm=>?_
   refine o_store (i:=0) hk hm ts_37 rfl rfl rfl rfl (one_cons rfl (one_cons (rep_sl_one1 (rep_T_s (hm.rep (i:=1) rfl))) (one_cons rfl (one_cons rfl (one_cons rfl rfl))))) rfl (Nat.le_of_ble_eq_true rfl) fun a w hk hm=>?_
   refine oA0 hk rfl rfl fun a hk=>?_
   refine cE0 ?_
   refine wp_seq ?_
   refine d_startM (K:=13) mixed hm fun w hm=>?_
   refine d_one (k:=0) (by kernel_rfl) rfl rfl ?_
   refine oM0 hk rfl rfl fun a hk=>?_
   refine c_endQ (cT0 ⟨fun _=>hm,?_⟩)
   refine d_one (k:=1) (by kernel_rfl) rfl rfl ?_
   refine oM0 hk rfl rfl fun a hk=>?_
   refine c_endQ (cT0 ⟨fun _=>hm,?_⟩)
   refine d_takeW (i:=2) rfl ⟨_,_,_,rfl,rfl,rfl⟩ rfl (by kernel_rfl) (fun _ _ _ h=>h) hk rfl (fun w hm=>rF0 hk fo_31_0 rfl) hm fun a hk=>?_
   refine d_takeW (i:=3) rfl ⟨_,_,_,rfl,rfl,rfl⟩ rfl (by kernel_rfl) (fun _ _ _ h=>h) hk rfl (fun w hm=>r_load1 hk ts_29 rfl (hm.cell_blk (i:=3) rfl rfl)) hm fun a hk=>?_
   refine d_takeW (i:=4) rfl ⟨_,_,_,rfl,rfl,rfl⟩ rfl (by kernel_rfl) (fun _ _ _ h=>h) hk rfl (fun w hm=>r_move hk rfl) hm fun a hk=>?_
   refine d_takeW (i:=5) rfl ⟨_,_,_,rfl,rfl,rfl⟩ rfl (by kernel_rfl) (fun _ _ _ h=>h) hk rfl (fun w hm=>r_loadN (cs:=[.slice pm sch_ShareFetchResponse.length capm,.int .i64 0]) hk ts_31 rfl (hm.cells_blk (i:=3) rfl rfl)) hm fun a hk=>?_
   refine d_takeW (i:=6) rfl ⟨_,_,_,rfl,rfl,rfl⟩ rfl (by kernel_rfl) (fun _ _ _ h=>h) hk rfl (fun w hm=>r_move hk rfl) hm fun a hk=>?_
   refine d_takeW (i:=8) rfl ⟨_,_,_,rfl,rfl,rfl⟩ rfl (by kernel_rfl) (fun _ _ _ h=>h) hk rfl (fun w hm=>r_loadN (cs:=[.int .i64 t.n,.slice pst t.s.length capst,.bool t.z,.slice pt t.l.length capt,.slice put t.u.length caput]) hk ts_26 rfl (hm.cells_blk (i:=5) rfl rfl)) hm fun a hk=>?_
   refine d_takeW (i:=9) rfl ⟨_,_,_,rfl,rfl,rfl⟩ rfl (by kernel_rfl) (fun _ _ _ h=>h) hk rfl (fun w hm=>r_loadN (cs:=[.int .i64 (((telP sch_ShareFetchResponse (gotP sch_ShareFetchResponse ((k:Nat):Int) (decide (((k:Nat):Int) ≥ 0)) t))).n),csq,.bool (((telP sch_ShareFetchResponse (gotP sch_ShareFetchResponse ((k:Nat):Int) (decide (((k:Nat):Int) ≥ 0)) t))).z),.slice pq (((telP sch_ShareFetchResponse (gotP sch_ShareFetchResponse ((k:Nat):Int) (decide (((k:Nat):Int) ≥ 0)) t))).l.length) capq,.slice puq ((telP sch_ShareFetchResponse (gotP sch_ShareFetchResponse ((k:Nat):Int) (decide (((k:Nat):Int) ≥ 0)) t)).u.length) capuq]) hk ts_37 rfl (hm.cells_blk (i:=0) rfl rfl)) hm fun a hk=>?_
   refine d_oneW (k:=7) (by kernel_rfl) rfl hk ⟨_,_,_,rfl,rfl,rfl⟩ rfl ?_
   refine o_call hk cb_18 (flexible_c 0 ((k:Nat):Int) (hm.rep (i:=4) rfl)) ⟨rfl,rfl,trivial⟩ rfl fun v w a hR hk=>?_
   obtain ⟨hp,rfl⟩:=hR
   have hm:=hm.pure hp
   rw [show (decide ((0:Int) ≥ 0) && decide (((k:Nat):Int) ≥ 0)) = (decide (((k:Nat):Int) ≥ 0)) by simp] at hk
   refine c_endQ (cT0 ⟨fun _=>hm,?_⟩)
   refine d_oneW (k:=10) (by kernel_rfl) rfl hk ⟨_,_,_,rfl,rfl,rfl⟩ rfl ?_
   refine o_call hk cb_19 (got_c (telP sch_ShareFetchResponse (gotP sch_ShareFetchResponse ((k:Nat):Int) (decide (((k:Nat):Int) ≥ 0)) t)) (hm.rep (i:=1) rfl) (tiny_small _ (tiny_telP rfl (by decide) _ (tiny_gotP rfl (by decide) t)))) ⟨rfl,trivial⟩ rfl fun v w a hR hk=>?_
   obtain ⟨hp,cg,rfl,hR⟩:=hR
   obtain ⟨psg,capsg,pg,capg,pug,capug,rfl⟩:=rep_T7 hR
   have hm:=hm.result hp hR
   refine c_endQ (cT0 ⟨fun _=>hm.tail,?_⟩)
   refine d_oneW (k:=11) (by kernel_rfl) rfl hk ⟨_,_,_,rfl,rfl,rfl⟩ rfl ?_
   refine o_call hk cb_17 ((told_c (fs:=sch_ShareFetchResponse) rfl rfl (by decide)) ((k:Nat):Int) (decide (((k:Nat):Int) ≥ 0)) (hm.rep (i:=5) rfl) (hm.rep (i:=7) rfl) (hm.rep (i:=0) rfl) hsn (sane_telP rfl (by decide) _ (sane_gotP rfl (by decide) t hsn)) (tiny_small _ (tiny_telP rfl (by decide) _ (tiny_gotP rfl (by decide) t)))) ⟨rfl,rfl,rfl,rfl,rfl,trivial⟩ rfl fun v w a hR hk=>?_
   obtain ⟨hp,rfl⟩:=hR
   have hm:=hm.pure hp
   rw [toldP_got rfl rfl t hwd] at hk
   refine c_endQ (cT0 ⟨fun _=>hm.tail,?_⟩)
   refine d_one (k:=12) (by kernel_rfl) rfl rfl ?_
   refine o_pick hk rfl rfl rfl rfl rfl fun a hk=>?_
   refine c_endQ (cT0 ⟨fun _=>hm.tail,?_⟩)
   refine d_one (k:=13) (by kernel_rfl) rfl rfl ?_
   refine oA0 hk rfl rfl fun a hk=>?_
   refine c_endQ (cT0 ⟨fun h=>Bool.noConfusion (show true = false from h),?_⟩)
   refine d_done (by kernel_rfl) ?_ _
   refine cT0 ?_
   refine wp_ret ?_
   refine bT0 rfl hk rfl ?_
   exact ⟨hm.agr,rfl⟩
end Go.Proofs.YtoopklfabccmnaaGreatDoor
