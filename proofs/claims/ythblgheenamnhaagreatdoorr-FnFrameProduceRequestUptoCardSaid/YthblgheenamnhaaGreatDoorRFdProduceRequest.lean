/- Walks of functions that the laws of this seat reach. No statement of the seat stands here. -/
import Derived.Test.YthblgheenamnhaaGreatDoorRL4
import Derived.Test.YthblgheenamnhaaGreatDoorRRows
import Derived.Test.YthblgheenamnhaaGreatDoorRFa
import Derived.Test.YthblgheenamnhaaGreatDoorRAqProduceRequest
import Derived.Test.YthblgheenamnhaaGreatDoorRRkProduceRequest
namespace Go.Proofs.YthblgheenamnhaaGreatDoorR
open Go Go.Mk
theorem setVersion_ProduceRequest {w0:World} {Y:Nat → Prop} {g:Nat} {V:Int} {x0:Value} {cs:List Value} (hb:w0.heap[g]? = some (.cells (x0 :: cs).toArray 101 (0,0))) (hg:Y g):Ret Tryz.prog 48 [.pointer (some ⟨g,0,none⟩),.int .i16 V] w0 fun _ w'=>Agr (fun k=>k = g) w0 w' ∧ w'.heap[g]? = some (.cells (.int .i16 V :: cs).toArray 101 (0,0)):=by
  refine c_call Tryz.func48 rfl rfl fun a hk=>?_
  have hk:Kn 8 [(0,.pointer (some ⟨g,0,none⟩)),(1,.int .i16 V)] a:=hk
  have hm:Mem w0 (fun k=>k = g) Y [.blk g (x0 :: cs) 101] w0:=Mem.startBlk hb hg rfl (by simp)
  refine c_reg ?_
  refine oM0 hk rfl rfl fun a hk=>?_
  refine oM0 hk rfl rfl fun a hk=>?_
  refine oN0 hk rfl rfl fun a hk=>?_
  refine oF0 hk fo_101_0 rfl rfl fun a hk=>?_
  refine o_store (i:=0) hk hm ts_45 rfl rfl rfl rfl rfl rfl (Nat.succ_le_succ (Nat.zero_le _)) fun a w hk hm=>?_
  refine c_endQ ?_
  refine b_endNone rfl hk ?_
  have hz:=hm.all _ (eA0 (i:=0) rfl)
  simp only [Ent.holds] at hz
  exact ⟨hm.agr,hz⟩
theorem list_cells6 {cs:List Value} (h:cs.length = 6):∃ x0 x1 x2 x3 x4 x5,cs = [x0,x1,x2,x3,x4,x5]:=by
  match cs,h with
  | [x0,x1,x2,x3,x4,x5],_=>exact ⟨x0,x1,x2,x3,x4,x5,rfl⟩
theorem default_ProduceRequest {w0:World} {Y:Nat → Prop} {g:Nat} {cs:List Value} (hb:w0.heap[g]? = some (.cells cs.toArray 101 (0,0))) (hl:cs.length = 6) (hg:Y g):Ret Tryz.prog 70 [.pointer (some ⟨g,0,none⟩)] w0 fun _ w'=>Agr (fun k=>k = g) w0 w' ∧ ∃ cs':List Value,cs'.length = 6 ∧ w'.heap[g]? = some (.cells cs'.toArray 101 (0,0)):=by
  obtain ⟨x0,x1,x2,x3,x4,x5,rfl⟩:=list_cells6 hl
  refine c_call Tryz.func70 rfl rfl fun a hk=>?_
  have hk:Kn 5 [(0,.pointer (some ⟨g,0,none⟩))] a:=hk
  have hm:Mem w0 (fun k=>k = g) Y [.blk g [x0,x1,x2,x3,x4,x5] 101] w0:=Mem.startBlk hb hg rfl (by simp)
  refine c_reg ?_
  refine oM0 hk rfl rfl fun a hk=>?_
  refine oN0 hk rfl rfl fun a hk=>?_
  refine oF0 hk fo_101_3 rfl rfl fun a hk=>?_
  refine o_store (i:=0) hk hm ts_21 rfl rfl rfl rfl rfl rfl (Nat.le_of_ble_eq_true rfl) fun a w hk hm=>?_
  refine c_endQ ?_
  refine b_endNone rfl hk ?_
  have hz:=hm.all _ (eA0 (i:=0) rfl)
  simp only [Ent.holds] at hz
  exact ⟨hm.agr,_,rfl,hz⟩
theorem newPtr_ProduceRequest {w0:World} {Y:Nat → Prop}:Ret Tryz.prog 45 [] w0 fun v w'=>Agr Nob w0 w' ∧ ∃ b,v = .pointer (some ⟨b,0,none⟩):=by
  refine c_call Tryz.func45 rfl rfl fun a hk=>?_
  have hk:Kn 3 [] a:=hk
  have hm:Mem w0 Nob Y [] w0:=Mem.start rfl (by simp)
  refine cR0 ?_
  refine oA0 hk rfl rfl fun a hk=>?_
  refine cE0 ?_
  refine cR0 ?_
  refine o_alloc hk hm tz_101 rfl rfl fun a b1 w hk hm=>?_
  refine cE0 ?_
  refine cR0 ?_
  refine o_call hk cb_70 (default_ProduceRequest (hm.all _ (eA0 (i:=0) rfl)) rfl (Y:=Yof w0 Y [.blk b1 [.int .i16 0,.pointer none,.int .i16 0,.int .i32 0,.slice none 0 0,.map none] 101]) (yof_blk (i:=0) rfl)) ⟨rfl,trivial⟩ rfl fun v w a hR hk=>?_
  obtain ⟨hp,cs1,hl1,hb1⟩:=hR
  have hm:=hm.write (i:=0) rfl hp hb1
  refine cE0 ?_
  refine cR0 ?_
  refine oA0 hk rfl rfl fun a hk=>?_
  refine cE0 ?_
  refine wp_ret ?_
  refine bT0 rfl hk rfl ?_
  exact ⟨hm.agr,_,rfl⟩
theorem maxVersion_ProduceRequest {w0:World} {Y:Nat → Prop} {b:Nat}:Ret Tryz.prog 46 [.pointer (some ⟨b,0,none⟩)] w0 fun v w'=>Agr Nob w0 w' ∧ v = .int .i16 13:=by
  refine c_call Tryz.func46 rfl rfl fun a hk=>?_
  have hk:Kn 3 [(0,.pointer (some ⟨b,0,none⟩))] a:=hk
  have hm:Mem w0 Nob Y [] w0:=Mem.start rfl (by simp)
  refine cR0 ?_
  refine oA0 hk rfl rfl fun a hk=>?_
  refine cE0 ?_
  refine cR0 ?_
  refine oA0 hk rfl rfl fun a hk=>?_
  refine cE0 ?_
  refine wp_ret ?_
  refine bT0 rfl hk rfl ?_
  exact ⟨hm.agr,rfl⟩
theorem max_ProduceRequest {w0:World} {Y:Nat → Prop}:Ret Tryz.prog 23 [] w0 fun v w'=>Agr Nob w0 w' ∧ v = .int .i64 13:=by
  refine c_call Tryz.func23 rfl rfl fun a hk=>?_
  have hk:Kn 4 [] a:=hk
  have hm:Mem w0 Nob Y [] w0:=Mem.start rfl (by simp)
  refine cR0 ?_
  refine oA0 hk rfl rfl fun a hk=>?_
  refine cE0 ?_
  refine cR0 ?_
  refine o_call hk cb_45 (newPtr_ProduceRequest (Y:=Y)) trivial rfl fun v w a hR hk=>?_
  obtain ⟨hp,b0,rfl⟩:=hR
  have hm:=hm.pure hp
  refine o_call hk cb_46 (maxVersion_ProduceRequest (Y:=Y)) ⟨rfl,trivial⟩ rfl fun v w a hR hk=>?_
  obtain ⟨hp,rfl⟩:=hR
  have hm:=hm.pure hp
  refine o_convInt (c:=13) hk un_45 ti_3 rfl rfl rfl fun a hk=>?_
  refine oA0 hk rfl rfl fun a hk=>?_
  refine cE0 ?_
  refine wp_ret ?_
  refine bT0 rfl hk rfl ?_
  exact ⟨hm.agr,rfl⟩
theorem framed_ProduceRequest {w0:World} {Y:Nat → Prop} {t:T} {g:Nat} {has:Bool} {s:List UInt8} {c:List Value} {V number:Int} (h0 : 0 ≤ V) (h1:V ≤ 13) (hs:s.length ≤ 32767) (hC:Cel w0 Y g 0 (.int .i16 V :: c)) (hR:Rep w0 Y (wrS sch_ProduceRequest true V (decide (V ≥ 9)) (tagged (decide (V ≥ 9)) t)) c) (hsn:t.sane = true) (hroom:(partP sch_ProduceRequest V (decide (V ≥ 9)) t).length + 50000 ≤ room) :
    Ret Tryz.prog 33 [.agg #[.bool has,.string (bs s)],.iface 63 (.pointer (some ⟨g,0,none⟩)),.int .i32 number] w0 fun v w'=>RowTo w0 5 1 (.slice none 0 0) (frameP 0 V number (!has) (if has then s else []) (decide (V ≥ 9)) (partP sch_ProduceRequest V (decide (V ≥ 9)) t)).length (bv (frameP 0 V number (!has) (if has then s else []) (decide (V ≥ 9)) (partP sch_ProduceRequest V (decide (V ≥ 9)) t))) v w':=by
  refine c_call Tryz.func33 rfl rfl fun a hk=>?_
  have hk:Kn 20 [(0,.agg #[.bool has,.string (bs s)]),(1,.iface 63 (.pointer (some ⟨g,0,none⟩))),(2,.int .i32 number)] a:=hk
  have hm:Mem w0 Nob Y [.cel g 0 (.int .i16 V :: c),.rep (wrS sch_ProduceRequest true V (decide (V ≥ 9)) (tagged (decide (V ≥ 9)) t)) c] w0:=Mem.start rfl (by simp only [List.forall_mem_cons,List.not_mem_nil,false_imp_iff,implies_true,and_true]; exact ⟨hC,hR⟩)
  refine cR0 ?_
  refine o_box (cs:=[.bool has,.string (bs s)]) hk hm rfl rfl rfl fun a b3 w hk hm=>?_
  refine oA0 hk rfl rfl fun a hk=>?_
  refine cE0 ?_
  refine cR0 ?_
  refine o_call hk cb_62 (newFmt0_c (Y:=Yof w0 Y [.blk b3 [.bool has,.string (bs s)] 23,.cel g 0 (.int .i16 V :: c),.rep (wrS sch_ProduceRequest true V (decide (V ≥ 9)) (tagged (decide (V ≥ 9)) t)) c])) ⟨rfl,trivial⟩ rfl fun v0 w a hQ hk=>?_
  have hm:=hm.result hQ.1 hQ.2
  refine oA0 hk rfl rfl fun a hk=>?_
  refine cE0 ?_
  refine wp_seq ?_
  refine cR0 ?_
  refine oF0 hk fo_23_0 rfl rfl fun a hk=>?_
  refine o_load hk ts_4 rfl (hm.cell_blk (i:=1) rfl rfl) rfl fun a hk=>?_
  refine cE0 ?_
  cases has with
  | false =>
    refine c_condF hk rfl ?_
    refine wp_skip ?_
    refine cT0 ?_
    refine cR0 ?_
    refine oM0 hk rfl rfl fun a hk=>?_
    refine oM0 hk rfl rfl fun a hk=>?_
    refine oM0 hk rfl rfl fun a hk=>?_
    refine o_call hk cb_64 (req_ProduceRequest (z:=true) (s:=[]) h0 h1 (hm.rep (i:=0) rfl) (Nat.zero_le _) (fun _=>rfl) (hm.all _ (eA0 (i:=2) rfl)) (hm.rep (i:=3) rfl) hsn hroom) ⟨rfl,rfl,rfl,rfl,trivial⟩ rfl fun v1 w a hQ hk=>?_
    have hm:=hm.rowNew hQ
    refine oA0 hk rfl rfl fun a hk=>?_
    refine cE0 ?_
    refine wp_ret ?_
    refine bT0 rfl hk rfl ?_
    exact hm.rowOut (i:=0) rfl
  | true =>
    refine c_condT hk rfl ?_
    refine c_reg ?_
    refine oF0 hk fo_23_1 rfl rfl fun a hk=>?_
    refine o_load hk ts_9 rfl (hm.cell_blk (i:=1) rfl rfl) rfl fun a hk=>?_
    refine o_call hk cb_63 clientID_c ⟨rfl,trivial⟩ rfl fun v1 w a hQ hk=>?_
    obtain ⟨xb,hxb,ag,lt,rfl,hb⟩:=hQ
    have hm:=hm.newBlk ag lt (by rw [← hxb]; exact hb)
    rw [← hxb] at hm
    have hm:=hm.freezeBlk (i:=0) rfl id
    refine o_buildSlice (r:=[.iface 137 (.agg #[.func (.func 96) #[] #[.pointer (some ⟨xb,0,none⟩)]])]) hk hm rt_132 tz_89 rfl rfl rfl ⟨_,_,_,rfl,rfl,rfl,rfl,rfl⟩ rfl fun a sb w hk hm=>?_
    refine o_call hk cb_62 (newFmt1_c (hm.cell_blk (i:=0) rfl rfl) (hm.all _ (eA0 (i:=1) rfl))) ⟨rfl,trivial⟩ rfl fun v2 w a hQ hk=>?_
    have hm:=hm.result hQ.1 hQ.2
    refine oA0 hk rfl rfl fun a hk=>?_
    refine c_endQ ?_
    refine cT0 ?_
    refine cR0 ?_
    refine oM0 hk rfl rfl fun a hk=>?_
    refine oM0 hk rfl rfl fun a hk=>?_
    refine oM0 hk rfl rfl fun a hk=>?_
    refine o_call hk cb_64 (req_ProduceRequest (z:=false) (s:=s) h0 h1 (hm.rep (i:=0) rfl) hs (fun h=>by cases h) (hm.all _ (eA0 (i:=5) rfl)) (hm.rep (i:=6) rfl) hsn hroom) ⟨rfl,rfl,rfl,rfl,trivial⟩ rfl fun v3 w a hQ hk=>?_
    have hm:=hm.rowNew hQ
    refine oA0 hk rfl rfl fun a hk=>?_
    refine cE0 ?_
    refine wp_ret ?_
    refine bT0 rfl hk rfl ?_
    exact hm.rowOut (i:=0) rfl
theorem oks_ProduceRequest:(List.range 14).all (fun k=>okRFs sch_ProduceRequest ((k:Nat):Int) (decide (((k:Nat):Int) ≥ 9)) && thkP sch_ProduceRequest ((k:Nat):Int) (decide (((k:Nat):Int) ≥ 9))) = true:=by kernel_rfl
theorem frame_c_ProduceRequest {w0:World} {Y:Nat → Prop} {t:T} {sv gv:Value} {has:Bool} {s:List UInt8} {number:Int} (k:Nat) (h1:k ≤ 13) (hsn:t.sane = true) (hwd:t.wide = true) (hs:s.length ≤ 32767) (hS:Rep w0 Y (ddBs (partP sch_ProduceRequest ((k:Nat):Int) (decide (((k:Nat):Int) ≥ 9)) t)) [sv]) (hroom:(partP sch_ProduceRequest ((k:Nat):Int) (decide (((k:Nat):Int) ≥ 9)) t).length + 50000 ≤ room) (hG:Cel w0 Y 0 0 [gv]) :
    Ret Tryz.prog 25 [.agg #[.bool has,.string (bs s)],.int .i32 number,.int .i64 ((k:Nat):Int),sv] w0 fun v w'=>∃ r,v = .tuple #[r,.bool true] ∧ RowTo w0 5 1 (.slice none 0 0) (frameP 0 ((k:Nat):Int) number (!has) (if has then s else []) (decide (((k:Nat):Int) ≥ 9)) (partP sch_ProduceRequest ((k:Nat):Int) (decide (((k:Nat):Int) ≥ 9)) t)).length (bv (frameP 0 ((k:Nat):Int) number (!has) (if has then s else []) (decide (((k:Nat):Int) ≥ 9)) (partP sch_ProduceRequest ((k:Nat):Int) (decide (((k:Nat):Int) ≥ 9)) t))) r w':=by
  have hq:=Ea.all_range oks_ProduceRequest (k:=k) (by omega)
  rw [Bool.and_eq_true] at hq
  have hpos:=part_pos (fs:=sch_ProduceRequest) rfl hq.2 t
  refine c_call Tryz.func25 rfl rfl fun a hk=>?_
  have hk:Kn 26 [(0,.agg #[.bool has,.string (bs s)]),(1,.int .i32 number),(2,.int .i64 ((k:Nat):Int)),(3,sv)] a:=hk
  have hm:Mem w0 Nob Y [.rep (ddBs (partP sch_ProduceRequest ((k:Nat):Int) (decide (((k:Nat):Int) ≥ 9)) t)) [sv],.cel 0 0 [gv]] w0:=Mem.start rfl (by simp only [List.forall_mem_cons,List.not_mem_nil,false_imp_iff,implies_true,and_true]; exact ⟨hS,hG⟩)
  refine cR0 ?_
  refine o_box (cs:=[.bool has,.string (bs s)]) hk hm rfl rfl rfl fun a b4 w hk hm=>?_
  refine oA0 hk rfl rfl fun a hk=>?_
  refine oA0 hk rfl rfl fun a hk=>?_
  refine cE0 ?_
  refine cR0 ?_
  refine o_call hk cb_45 newPtrD_ProduceRequest trivial rfl fun v w2 a hR hk=>?_
  obtain ⟨ag,lt,rfl,hb⟩:=hR
  have hm:=hm.newBlk ag lt hb
  obtain ⟨g,hg⟩ : ∃ g,g = w.heap.size:=⟨_,rfl⟩
  rw [← hg] at hk hm
  refine oA0 hk rfl rfl fun a hk=>?_
  refine cE0 ?_
  refine cR0 ?_
  refine oM0 hk rfl rfl fun a hk=>?_
  refine oM0 hk rfl rfl fun a hk=>?_
  refine o_convInt (c:=((k:Nat):Int)) hk un_3 ti_45 rfl (by simp only [IntKind.wrap,IntKind.bits,IntKind.signed]; simp; omega) rfl fun a hk=>?_
  refine o_call hk cb_48 (setVersion_ProduceRequest (hm.all _ (eA0 (i:=0) rfl)) (hm.yofBlk (i:=0) rfl)) ⟨rfl,rfl,trivial⟩ rfl fun v w a hR hk=>?_
  obtain ⟨hp,hb1⟩:=hR
  have hm:=hm.write (i:=0) rfl hp hb1
  refine cE0 ?_
  refine wp_seq ?_
  refine cR0 ?_
  refine oM0 hk rfl rfl fun a hk=>?_
  refine oM0 hk rfl rfl fun a hk=>?_
  have hm:=hm.addNil 5 1
  refine o_append (i:=0) hk hm rt_24 rfl rfl rfl (src_bs te_24 (hm.rep (i:=3) rfl)) (room_len (by omega)) (room_by (by omega)) rfl fun a v1 w hk hm _=>?_
  have hm:=hm.freezeBytes (i:=0) (s:=partP sch_ProduceRequest ((k:Nat):Int) (decide (((k:Nat):Int) ≥ 9)) t) rfl (Nat.zero_add _)
  refine o_call hk cb_49 (ReadFrom_ProduceRequest k h1 (hm.all _ (eA0 (i:=1) rfl)) (src_of_bs (hm.rep (i:=0) rfl) hpos) (hm.yofBlk (i:=1) rfl) (hm.all _ (eA0 (i:=4) rfl) 0 _ rfl)) ⟨rfl,rfl,trivial⟩ rfl fun x w a hR hk=>?_
  obtain ⟨hp,rfl,c',hb2,hR2⟩:=told_written rfl hq.1 rfl hsn hwd hR
  have hm:=hm.blkCall (i:=1) rfl hp hb2 hR2
  refine o_ifaceNe0 hk (show isErrTy Tryz.prog 55 = true by kernel_rfl) rfl rfl fun a hk=>?_
  refine cE0 ?_
  refine c_condF hk rfl ?_
  refine wp_skip ?_
  refine cT0 ?_
  refine cR0 ?_
  have hm:=hm.freezeBlk (i:=2) rfl id
  refine o_loadN (cs:=[.bool has,.string (bs s)]) hk ts_23 rfl (hm.cells_blk (i:=3) rfl rfl) rfl fun a hk=>?_
  refine oM0 hk rfl rfl fun a hk=>?_
  refine o_makeIfaceP hk ip_ProduceRequest rfl rfl fun a hk=>?_
  refine oM0 hk rfl rfl fun a hk=>?_
  refine o_call hk cb_33 (framed_ProduceRequest (Int.natCast_nonneg k) (by omega) hs (hm.all _ (eA0 (i:=2) rfl)) (hm.rep (i:=0) rfl) hsn hroom) ⟨rfl,rfl,rfl,trivial⟩ rfl fun v3 w a hR hk=>?_
  have hm:=hm.rowNew hR
  refine oA0 hk rfl rfl fun a hk=>?_
  refine oA0 hk rfl rfl fun a hk=>?_
  refine cE0 ?_
  refine wp_ret ?_
  refine b_retTmp2 rfl hk rfl rfl ?_
  exact ⟨_,rfl,hm.rowOut (i:=0) rfl⟩
end Go.Proofs.YthblgheenamnhaaGreatDoorR
