/- Walks of functions that the laws of this seat reach. No statement of the seat stands here. -/
import Derived.Test.YtoopklfabccmnaaGreatDoorL3
import Derived.Test.YtoopklfabccmnaaGreatDoorRows
import Derived.Test.YtoopklfabccmnaaGreatDoorFa
import Derived.Test.YtoopklfabccmnaaGreatDoorRi
namespace Go.Proofs.YtoopklfabccmnaaGreatDoor
open Go Go.Mk
theorem mixedU:Tryz.prog.follows .mixedOrders = true:=Tryz.checked.mixed
theorem rdUuid_c {w0:World} {Y:Nat → Prop} {rb:Nat} {s:RS} (hb:RdrAt w0 Y rb 190 s) (hY:Y rb):Ret Tryz.prog 171 [.pointer (some ⟨rb,0,none⟩)] w0 fun v w'=>Agr (fun k=>k = rb) w0 w' ∧ v = .agg (bv (sixteen ((RS.span 16 s).1.getD []))).toArray ∧ RdrAt w' (fun b=>b < w0.heap.size ∧ Y b) rb 190 (RS.span 16 s).2:=by
 obtain ⟨x0,hbk,hx0⟩:=hb
 refine c_call Tryz.func171 rfl rfl fun a hk=>?_
 have hk:Kn 9 [(0,.pointer (some ⟨rb,0,none⟩))] a:=hk
 have hm:Mem w0 (fun k=>k = rb) Y [.blk rb [x0,.bool s.bad] 190,.rep (ddSrc s.src) [x0]] w0:=Mem.startBlk hbk hY rfl (by simp only [List.forall_mem_cons,List.not_mem_nil,false_imp_iff,implies_true,and_true]; exact hx0)
 refine cR0 ?_
 refine o_alloc hk hm tz_103 rfl rfl fun a b1 w hk hm=>?_
 refine cE0 ?_
 refine cR0 ?_
 refine o_alloc hk hm tz_103 rfl rfl fun a b2 w hk hm=>?_
 refine cE0 ?_
 refine wp_seq ?_
 refine d_start (fun _=>True) 3 mixedU ?_
 have hm:=hm.pure (Agr.drew Nob w)
 generalize w.drew = w at hm ⊢
 refine d_takeF (i:=0) rfl rfl rfl (by kernel_rfl) (fun _ _ _ h=>h) hk rfl (fun w=>r_sliceArr hk at_103 ts_5 rfl) (fun _=>trivial) fun a hk=>?_
 refine d_takeF (i:=1) rfl rfl rfl (by kernel_rfl) (fun _ _ _ h=>h) hk rfl (fun w=>r_move hk rfl) (fun _=>trivial) fun a hk=>?_
 refine d_one (k:=2) (by kernel_rfl) rfl rfl ?_
 refine o_call hk cb_191 (rdSpan_c 16 ⟨x0,hm.blkAt (i:=2) rfl,hm.rep (i:=3) rfl⟩ (hm.yofBlk (i:=2) rfl)) ⟨rfl,rfl,trivial⟩ rfl fun v w a hR hk=>?_
 obtain ⟨hp,hv,x1,hb1,hx1⟩:=hR
 have hm:=hm.blkCall2 (i:=2) rfl hp hb1 hx1 hv
 refine c_endQ (cT0 ⟨fun _=>trivial,?_⟩)
 refine d_one (k:=3) (by kernel_rfl) rfl rfl ?_
 refine o_copyB (i:=2) hk hm te_22 cz_5 rfl rfl rfl rfl (src_bytes (hm.rep (i:=0) rfl)) rfl fun a w hk hm=>?_
 have e16:(bv ((RS.span 16 s).1.getD [])).take 16 ++ List.drop ((RS.span 16 s).1.getD []).length [Value.int .u8 0,Value.int .u8 0,Value.int .u8 0,Value.int .u8 0,Value.int .u8 0,Value.int .u8 0,Value.int .u8 0,Value.int .u8 0,Value.int .u8 0,Value.int .u8 0,Value.int .u8 0,Value.int .u8 0,Value.int .u8 0,Value.int .u8 0,Value.int .u8 0,Value.int .u8 0] = bv (sixteen ((RS.span 16 s).1.getD [])):=sixteen_copied _
 have hm:Mem w0 (fun k=>k = rb) Y [.rep (ddSrc (RS.span 16 s).1) [v],.rep (ddSrc (RS.span 16 s).2.src) [x1],.blk b2 ((bv ((RS.span 16 s).1.getD [])).take 16 ++ List.drop ((RS.span 16 s).1.getD []).length [Value.int .u8 0,Value.int .u8 0,Value.int .u8 0,Value.int .u8 0,Value.int .u8 0,Value.int .u8 0,Value.int .u8 0,Value.int .u8 0,Value.int .u8 0,Value.int .u8 0,Value.int .u8 0,Value.int .u8 0,Value.int .u8 0,Value.int .u8 0,Value.int .u8 0,Value.int .u8 0]) 103,.blk b1 [Value.int .u8 0,Value.int .u8 0,Value.int .u8 0,Value.int .u8 0,Value.int .u8 0,Value.int .u8 0,Value.int .u8 0,Value.int .u8 0,Value.int .u8 0,Value.int .u8 0,Value.int .u8 0,Value.int .u8 0,Value.int .u8 0,Value.int .u8 0,Value.int .u8 0,Value.int .u8 0] 103,.blk rb [x1,.bool (RS.span 16 s).2.bad] 190,.rep (ddSrc s.src) [x0]] w:=hm
 rw [e16] at hm
 refine c_endQ (cT0 ⟨fun _=>trivial,?_⟩)
 refine d_done (by kernel_rfl) ?_ _
 refine cT0 ?_
 have hl:(bv (sixteen ((RS.span 16 s).1.getD []))).length = 16:=by rw [bv_length,sixteen_length]
 refine cR0 ?_
 refine o_loadN (cs:=bv (sixteen ((RS.span 16 s).1.getD []))) hk (by rw [hl]; exact ts_103) rfl (hm.cells_blk (i:=2) rfl (by simp)) rfl fun a hk=>?_
 refine o_store (i:=3) (vs:=bv (sixteen ((RS.span 16 s).1.getD []))) hk hm (s:=16) ts_103 rfl rfl (by simp [cellsOf]) hl (bv_one _) rfl (by rw [hl]; exact Nat.le_refl _) fun a w hk hm=>?_
 have hm:Mem w0 (fun k=>k = rb) Y [.rep (ddSrc (RS.span 16 s).1) [v],.rep (ddSrc (RS.span 16 s).2.src) [x1],.blk b2 (bv (sixteen ((RS.span 16 s).1.getD []))) 103,.blk b1 (spl [Value.int .u8 0,Value.int .u8 0,Value.int .u8 0,Value.int .u8 0,Value.int .u8 0,Value.int .u8 0,Value.int .u8 0,Value.int .u8 0,Value.int .u8 0,Value.int .u8 0,Value.int .u8 0,Value.int .u8 0,Value.int .u8 0,Value.int .u8 0,Value.int .u8 0,Value.int .u8 0] 0 (bv (sixteen ((RS.span 16 s).1.getD [])))) 103,.blk rb [x1,.bool (RS.span 16 s).2.bad] 190,.rep (ddSrc s.src) [x0]] w:=hm
 rw [spl_whole (by rw [hl]; rfl)] at hm
 refine cE0 ?_
 refine wp_ret ?_
 refine b_retCell (i:=3) (cs:=bv (sixteen ((RS.span 16 s).1.getD []))) rfl (by rw [hl]; exact ts_103) hk hm rfl rfl ?_
 exact ⟨hm.agr,rfl,x1,hm.blkAt (i:=4) rfl,hm.out (hm.rep (i:=1) rfl)⟩
theorem rdOk_ok {good gv:Value} {gb:Nat}:Er.RkOk Tryz.prog 190 good gb gv 168 .ok:=by
 intro w0 Y rb s hb
 obtain ⟨x,hb,-⟩:=hb
 refine c_call Tryz.func168 rfl rfl fun a hk=>?_
 have hk:Kn 8 [(0,.pointer (some ⟨rb,0,none⟩))] a:=hk
 refine cR0 ?_
 refine oA0 hk rfl rfl fun a hk=>?_
 refine cE0 ?_
 refine cR0 ?_
 refine oM0 hk rfl rfl fun a hk=>?_
 refine oN0 hk rfl rfl fun a hk=>?_
 refine oF0 hk fo_190_1 rfl rfl fun a hk=>?_
 refine o_load hk ts_4 rfl (show w0.cell? _ = some (.bool s.bad) by simp [World.cell?,hb]) rfl fun a hk=>?_
 refine o_not hk rfl rfl fun a hk=>?_
 refine oA0 hk rfl rfl fun a hk=>?_
 refine cE0 ?_
 refine wp_ret ?_
 refine bT0 rfl hk rfl ?_
 exact ⟨rfl,rfl⟩
end Go.Proofs.YtoopklfabccmnaaGreatDoor
