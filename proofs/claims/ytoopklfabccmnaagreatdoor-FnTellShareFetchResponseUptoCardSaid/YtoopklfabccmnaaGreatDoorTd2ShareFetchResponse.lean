/- Walks of functions that the laws of this seat reach. No statement of the seat stands here. -/
import Derived.Test.YtoopklfabccmnaaGreatDoorL4
import Derived.Test.YtoopklfabccmnaaGreatDoorRows
import Derived.Test.YtoopklfabccmnaaGreatDoorFa
import Derived.Test.YtoopklfabccmnaaGreatDoorRkShareFetchResponse
import Derived.Test.YtoopklfabccmnaaGreatDoorTlShareFetchResponse
namespace Go.Proofs.YtoopklfabccmnaaGreatDoor
open Go Go.Mk
theorem setVersion_ShareFetchResponse {w0:World} {Y:Nat → Prop} {g:Nat} {V:Int} {x0:Value} {cs:List Value} (hb:w0.heap[g]? = some (.cells (x0 :: cs).toArray 179 (0,0))) (hg:Y g):Ret Tryz.prog 99 [.pointer (some ⟨g,0,none⟩),.int .i16 V] w0 fun _ w'=>Agr (fun k=>k = g) w0 w' ∧ w'.heap[g]? = some (.cells (.int .i16 V :: cs).toArray 179 (0,0)):=by
 refine c_call Tryz.func99 rfl rfl fun a hk=>?_
 have hk:Kn 8 [(0,.pointer (some ⟨g,0,none⟩)),(1,.int .i16 V)] a:=hk
 have hm:Mem w0 (fun k=>k = g) Y [.blk g (x0 :: cs) 179] w0:=Mem.startBlk hb hg rfl (by simp)
 refine c_reg ?_
 refine oM0 hk rfl rfl fun a hk=>?_
 refine oM0 hk rfl rfl fun a hk=>?_
 refine oN0 hk rfl rfl fun a hk=>?_
 refine oF0 hk fo_179_0 rfl rfl fun a hk=>?_
 refine o_store (i:=0) hk hm ts_46 rfl rfl rfl rfl rfl rfl (Nat.succ_le_succ (Nat.zero_le _)) fun a w hk hm=>?_
 refine c_endQ ?_
 refine b_endNone rfl hk ?_
 have hz:=hm.all _ (eA0 (i:=0) rfl)
 simp only [Ent.holds] at hz
 exact ⟨hm.agr,hz⟩
theorem list_cells8 {cs:List Value} (h:cs.length = 8):∃ x0 x1 x2 x3 x4 x5 x6 x7,cs = [x0,x1,x2,x3,x4,x5,x6,x7]:=by
 match cs,h with
 | [x0,x1,x2,x3,x4,x5,x6,x7],_=>exact ⟨x0,x1,x2,x3,x4,x5,x6,x7,rfl⟩
theorem default_ShareFetchResponse {w0:World} {Y:Nat → Prop} {g:Nat} {cs:List Value} (hb:w0.heap[g]? = some (.cells cs.toArray 179 (0,0))) (hl:cs.length = 8) (hg:Y g):Ret Tryz.prog 150 [.pointer (some ⟨g,0,none⟩)] w0 fun _ w'=>Agr (fun k=>k = g) w0 w' ∧ ∃ cs':List Value,cs'.length = 8 ∧ w'.heap[g]? = some (.cells cs'.toArray 179 (0,0)):=by
 obtain ⟨x0,x1,x2,x3,x4,x5,x6,x7,rfl⟩:=list_cells8 hl
 refine c_call Tryz.func150 rfl rfl fun a hk=>?_
 have hk:Kn 2 [(0,.pointer (some ⟨g,0,none⟩))] a:=hk
 have hm:Mem w0 (fun k=>k = g) Y [.blk g [x0,x1,x2,x3,x4,x5,x6,x7] 179] w0:=Mem.startBlk hb hg rfl (by simp)
 refine wp_skip ?_
 refine b_endNone rfl hk ?_
 have hz:=hm.all _ (eA0 (i:=0) rfl)
 simp only [Ent.holds] at hz
 exact ⟨hm.agr,_,rfl,hz⟩
theorem newPtr_ShareFetchResponse {w0:World} {Y:Nat → Prop}:Ret Tryz.prog 95 [] w0 fun v w'=>Agr Nob w0 w' ∧ ∃ b,v = .pointer (some ⟨b,0,none⟩):=by
 refine c_call Tryz.func95 rfl rfl fun a hk=>?_
 have hk:Kn 3 [] a:=hk
 have hm:Mem w0 Nob Y [] w0:=Mem.start rfl (by simp)
 refine cR0 ?_
 refine oA0 hk rfl rfl fun a hk=>?_
 refine cE0 ?_
 refine cR0 ?_
 refine o_alloc hk hm tz_179 rfl rfl fun a b1 w hk hm=>?_
 refine cE0 ?_
 refine cR0 ?_
 refine o_call hk cb_150 (default_ShareFetchResponse (hm.all _ (eA0 (i:=0) rfl)) rfl (Y:=Yof w0 Y [.blk b1 [.int .i16 0,.int .i32 0,.int .i16 0,.pointer none,.int .i32 0,.slice none 0 0,.slice none 0 0,.map none] 179]) (yof_blk (i:=0) rfl)) ⟨rfl,trivial⟩ rfl fun v w a hR hk=>?_
 obtain ⟨hp,cs1,hl1,hb1⟩:=hR
 have hm:=hm.write (i:=0) rfl hp hb1
 refine cE0 ?_
 refine cR0 ?_
 refine oA0 hk rfl rfl fun a hk=>?_
 refine cE0 ?_
 refine wp_ret ?_
 refine bT0 rfl hk rfl ?_
 exact ⟨hm.agr,_,rfl⟩
theorem maxVersion_ShareFetchResponse {w0:World} {Y:Nat → Prop} {b:Nat}:Ret Tryz.prog 96 [.pointer (some ⟨b,0,none⟩)] w0 fun v w'=>Agr Nob w0 w' ∧ v = .int .i16 2:=by
 refine c_call Tryz.func96 rfl rfl fun a hk=>?_
 have hk:Kn 3 [(0,.pointer (some ⟨b,0,none⟩))] a:=hk
 have hm:Mem w0 Nob Y [] w0:=Mem.start rfl (by simp)
 refine cR0 ?_
 refine oA0 hk rfl rfl fun a hk=>?_
 refine cE0 ?_
 refine cR0 ?_
 refine oA0 hk rfl rfl fun a hk=>?_
 refine cE0 ?_
 refine wp_ret ?_
 refine bT0 rfl hk rfl ?_
 exact ⟨hm.agr,rfl⟩
theorem max_ShareFetchResponse {w0:World} {Y:Nat → Prop}:Ret Tryz.prog 38 [] w0 fun v w'=>Agr Nob w0 w' ∧ v = .int .i64 2:=by
 refine c_call Tryz.func38 rfl rfl fun a hk=>?_
 have hk:Kn 4 [] a:=hk
 have hm:Mem w0 Nob Y [] w0:=Mem.start rfl (by simp)
 refine cR0 ?_
 refine oA0 hk rfl rfl fun a hk=>?_
 refine cE0 ?_
 refine cR0 ?_
 refine o_call hk cb_95 (newPtr_ShareFetchResponse (Y:=Y)) trivial rfl fun v w a hR hk=>?_
 obtain ⟨hp,b0,rfl⟩:=hR
 have hm:=hm.pure hp
 refine o_call hk cb_96 (maxVersion_ShareFetchResponse (Y:=Y)) ⟨rfl,trivial⟩ rfl fun v w a hR hk=>?_
 obtain ⟨hp,rfl⟩:=hR
 have hm:=hm.pure hp
 refine o_convInt (c:=2) hk un_46 ti_3 rfl rfl rfl fun a hk=>?_
 refine oA0 hk rfl rfl fun a hk=>?_
 refine cE0 ?_
 refine wp_ret ?_
 refine bT0 rfl hk rfl ?_
 exact ⟨hm.agr,rfl⟩
theorem oks_ShareFetchResponse:(List.range 3).all (fun k=>okRFs schR_ShareFetchResponse ((k:Nat):Int) (decide (((k:Nat):Int) ≥ 0)) && thkP schR_ShareFetchResponse ((k:Nat):Int) (decide (((k:Nat):Int) ≥ 0))) = true:=by kernel_rfl
theorem tell_c_ShareFetchResponse {w0:World} {Y:Nat → Prop} {t:T} {sv gv:Value} (k:Nat) (h1:k ≤ 2) (hsn:t.sane = true) (hS:Rep w0 Y (ddBs (partP schR_ShareFetchResponse ((k:Nat):Int) (decide (((k:Nat):Int) ≥ 0)) t)) [sv]) (hroom:(partP schR_ShareFetchResponse ((k:Nat):Int) (decide (((k:Nat):Int) ≥ 0)) t).length ≤ room) (hG:Cel w0 Y 1 0 [gv]) :
  Ret Tryz.prog 40 [.int .i64 ((k:Nat):Int),sv] w0 fun v w'=>Agr Nob w0 w' ∧ ∃ c',v = .tuple #[.agg c'.toArray,.bool true] ∧ Rep w' (fun b=>b < w0.heap.size ∧ Y b) (ddT (telP schR_ShareFetchResponse (gotP schR_ShareFetchResponse ((k:Nat):Int) (decide (((k:Nat):Int) ≥ 0)) t))) c':=by
 have hq:=Ea.all_range oks_ShareFetchResponse (k:=k) (by omega)
 rw [Bool.and_eq_true] at hq
 have hpos:=part_pos (fs:=schR_ShareFetchResponse) rfl hq.2 t
 refine c_call Tryz.func40 rfl rfl fun a hk=>?_
 have hk:Kn 20 [(0,.int .i64 ((k:Nat):Int)),(1,sv)] a:=hk
 have hm:Mem w0 Nob Y [.rep (ddBs (partP schR_ShareFetchResponse ((k:Nat):Int) (decide (((k:Nat):Int) ≥ 0)) t)) [sv],.cel 1 0 [gv]] w0:=Mem.start rfl (by simp only [List.forall_mem_cons,List.not_mem_nil,false_imp_iff,implies_true,and_true]; exact ⟨hS,hG⟩)
 refine cR0 ?_
 refine o_alloc (cs:=zT) hk hm tz_37 rfl rfl fun a rb w hk hm=>?_
 refine oA0 hk rfl rfl fun a hk=>?_
 refine cE0 ?_
 refine cR0 ?_
 refine o_call hk cb_95 newPtrD_ShareFetchResponse trivial rfl fun v w1 a hR hk=>?_
 obtain ⟨ag,lt,rfl,hb⟩:=hR
 have hm:=hm.newBlk ag lt hb
 obtain ⟨g,hg⟩ : ∃ g,g = w.heap.size:=⟨_,rfl⟩
 rw [← hg] at hk hm
 refine oA0 hk rfl rfl fun a hk=>?_
 refine cE0 ?_
 refine cR0 ?_
 refine oM0 hk rfl rfl fun a hk=>?_
 refine oM0 hk rfl rfl fun a hk=>?_
 refine o_convInt (c:=((k:Nat):Int)) hk un_3 ti_46 rfl (by simp only [IntKind.wrap,IntKind.bits,IntKind.signed]; simp; omega) rfl fun a hk=>?_
 refine o_call hk cb_99 (setVersion_ShareFetchResponse (hm.all _ (eA0 (i:=0) rfl)) (hm.yofBlk (i:=0) rfl)) ⟨rfl,rfl,trivial⟩ rfl fun v w a hR hk=>?_
 obtain ⟨hp,hb1⟩:=hR
 have hm:=hm.write (i:=0) rfl hp hb1
 refine cE0 ?_
 refine wp_seq ?_
 refine cR0 ?_
 refine oM0 hk rfl rfl fun a hk=>?_
 refine oM0 hk rfl rfl fun a hk=>?_
 have hm:=hm.addNil 5 1
 refine o_append (i:=0) hk hm rt_22 rfl rfl rfl (src_bs te_22 (hm.rep (i:=3) rfl)) (room_len (by omega)) (room_by (by omega)) rfl fun a v1 w hk hm _=>?_
 have hm:=hm.freezeBytes (i:=0) (s:=partP schR_ShareFetchResponse ((k:Nat):Int) (decide (((k:Nat):Int) ≥ 0)) t) rfl (Nat.zero_add _)
 refine o_call hk cb_100 (ReadFrom_ShareFetchResponse k h1 (hm.all _ (eA0 (i:=1) rfl)) (src_of_bs (hm.rep (i:=0) rfl) hpos) (hm.yofBlk (i:=1) rfl) (hm.all _ (eA0 (i:=4) rfl) 0 _ rfl)) ⟨rfl,rfl,trivial⟩ rfl fun x w a hR hk=>?_
 obtain ⟨hp,rfl,c',hb2,hR2⟩:=told_read rfl hq.1 hsn hR
 have hm:=hm.blkCall (i:=1) rfl hp hb2 hR2
 refine o_ifaceNe0 hk (show isErrTy Tryz.prog 55 = true by kernel_rfl) rfl rfl fun a hk=>?_
 refine cE0 ?_
 refine c_condF hk rfl ?_
 refine wp_skip ?_
 refine cT0 ?_
 refine cR0 ?_
 refine oM0 hk rfl rfl fun a hk=>?_
 have hm:=hm.freezeBlk (i:=2) rfl id
 have hcel:Cel w _ g (0 + 1) c':=(show Cel w _ g 0 (.int .i16 ((k:Nat):Int) :: c') from hm.all _ (eA0 (i:=2) rfl)).tl
 refine o_call hk cb_101 (tell_ShareFetchResponse hcel (hm.rep (i:=0) rfl) (tiny_fine _ (tiny_gotP rfl (by decide) t))) ⟨rfl,trivial⟩ rfl fun v w a hR hk=>?_
 obtain ⟨hp2,c2,rfl,hR3⟩:=hR
 have hm:=hm.result hp2 hR3
 obtain ⟨c1,c3,c4,c5,hc2⟩:=rep_T5 (hm.rep (i:=0) rfl)
 have hcl:c2.length = 5:=by rw [hc2]; rfl
 refine o_store (i:=4) (b:=rb) (off:=0) (v:=.agg c2.toArray) (vs:=c2) (cs:=zT) hk hm ts_37 rfl rfl (by simp [cellsOf]) hcl (rep_T_one (hm.rep (i:=0) rfl)) rfl (by rw [hcl]; exact Nat.le_refl 5) fun a w hk hm=>?_
 rw [spl_whole (by rw [hcl]; rfl)] at hm
 refine oA0 hk rfl rfl fun a hk=>?_
 refine cE0 ?_
 refine wp_ret ?_
 refine b_retCellTmp (i:=4) (cs:=c2) rfl (by rw [hcl]; exact ts_37) hk hm rfl rfl rfl ⟨hm.agr,c2,rfl,hm.out (hm.rep (i:=0) rfl)⟩
theorem partR_ShareFetchResponse {V:Int} {fl:Bool} {t:T}:partP schR_ShareFetchResponse V fl t = partP sch_ShareFetchResponse V fl t:=rfl
theorem gotR_ShareFetchResponse {V:Int} {fl:Bool} {t:T}:gotP schR_ShareFetchResponse V fl t = gotP sch_ShareFetchResponse V fl t:=rfl
theorem telR_ShareFetchResponse {q:T}:telP schR_ShareFetchResponse q = telP sch_ShareFetchResponse q:=rfl
end Go.Proofs.YtoopklfabccmnaaGreatDoor
