/- Walks of functions that the laws of this seat reach. No statement of the seat stands here. -/
import Derived.Test.YthblgheenamnhaaGreatDoorRL4
import Derived.Test.YthblgheenamnhaaGreatDoorRRows
import Derived.Test.YthblgheenamnhaaGreatDoorRFa
namespace Go.Proofs.YthblgheenamnhaaGreatDoorR
open Go Go.Mk
theorem is_137:isStrT Tryz.prog 137 = true:=by kernel_rfl
theorem ma_apply : methAt Tryz.prog 137 "pub-mailsack/pub/kmsg.apply" = some (208, false) := by kernel_rfl
theorem clientID_c {w0:World} {s:List UInt8}:Ret Tryz.prog 63 [.string (bs s)] w0 fun v w'=>∃ xb,xb = w0.heap.size ∧ Agr Nob w0 w' ∧ w0.heap.size < w'.heap.size ∧ v = (.iface 137 (.agg #[.func (.func 96) #[] #[.pointer (some ⟨xb,0,none⟩)]]):Value) ∧ w'.heap[xb]? = some (.cells [.string (bs s)].toArray 9 (0,0)):=by
  refine c_call Tryz.func63 rfl rfl fun a hk=>?_
  have hk:Kn 6 [(0,.string (bs s))] a:=hk
  refine cR0 ?_
  refine o_boxW (cs:=[.string (bs s)]) hk rfl rfl rfl fun a w ag lt hb hk=>?_
  obtain ⟨xb,hxb⟩ : ∃ b,b = w0.heap.size:=⟨_,rfl⟩
  rw [← hxb] at hk hb
  refine oA0 hk rfl rfl fun a hk=>?_
  refine cE0 ?_
  refine cR0 ?_
  refine o_makeFunc (xs:=[.tmp 1]) (vs:=[.pointer (some ⟨xb,0,none⟩)]) hk ⟨rfl,trivial⟩ rfl fun a hk=>?_
  refine o_build (r:=[(.func (.func 96) #[] #[.pointer (some ⟨xb,0,none⟩)]:Value)]) hk tz_137 rfl fok_137 ⟨_,_,_,rfl,rfl,fa_137_0,rfl,rfl⟩ rfl fun a hk=>?_
  refine o_makeIfaceS hk is_137 rfl rfl fun a hk=>?_
  refine oA0 hk rfl rfl fun a hk=>?_
  refine cE0 ?_
  refine wp_ret ?_
  refine bT0 rfl hk rfl ?_
  exact ⟨xb,hxb,ag,lt,rfl,hb⟩
theorem fmtSet_c {w0:World} {fb xb:Nat} {x0:Value} (hb:w0.heap[fb]? = some (.cells #[x0] 134 (0,0))):Ret Tryz.prog 96 ([.pointer (some ⟨fb,0,none⟩)] ++ [.pointer (some ⟨xb,0,none⟩)]) w0 fun _ w'=>Agr (fun k=>k = fb) w0 w' ∧ w'.heap[fb]? = some (.cells #[.pointer (some ⟨xb,0,none⟩)] 134 (0,0)):=by
  refine c_call Tryz.func96 rfl rfl fun a hk=>?_
  have hk:Kn 6 [(0,.pointer (some ⟨fb,0,none⟩)),(1,.pointer (some ⟨xb,0,none⟩))] a:=hk
  have hm:Mem w0 (fun k=>k = fb) (fun k=>k = fb) [.blk fb [x0] 134] w0:=Mem.startBlk (Z:=fun k=>k = fb) (m:=[]) hb rfl rfl (by simp)
  refine c_reg ?_
  refine oM0 hk rfl rfl fun a hk=>?_
  refine oN0 hk rfl rfl fun a hk=>?_
  refine oF0 hk fo_134_0 rfl rfl fun a hk=>?_
  refine o_store (i:=0) hk hm ts_92 rfl rfl rfl rfl rfl rfl (Nat.le_refl _) fun a w hk hm=>?_
  refine c_endQ ?_
  refine b_endNone rfl hk ?_
  exact ⟨hm.agr,hm.all _ (eA0 (i:=0) rfl)⟩
theorem apply_c {w0:World} {fb xb:Nat} {x0:Value} (hb:w0.heap[fb]? = some (.cells #[x0] 134 (0,0))):Ret Tryz.prog 208 [.agg #[(.func (.func 96) #[] #[.pointer (some ⟨xb,0,none⟩)]:Value)],.pointer (some ⟨fb,0,none⟩)] w0 fun _ w'=>Agr (fun k=>k = fb) w0 w' ∧ w'.heap[fb]? = some (.cells #[.pointer (some ⟨xb,0,none⟩)] 134 (0,0)):=by
  refine c_call Tryz.func208 rfl rfl fun a hk=>?_
  have hk:Kn 8 [(0,.agg #[(.func (.func 96) #[] #[.pointer (some ⟨xb,0,none⟩)]:Value)]),(1,.pointer (some ⟨fb,0,none⟩))] a:=hk
  have hm:Mem w0 (fun k=>k = fb) (fun k=>k = fb) [.blk fb [x0] 134] w0:=Mem.startBlk (Z:=fun k=>k = fb) (m:=[]) hb rfl rfl (by simp)
  refine cR0 ?_
  refine o_box hk hm rfl rfl rfl fun a bb w hk hm=>?_
  refine cE0 ?_
  refine c_reg ?_
  refine oF0 hk fo_137_0 rfl rfl fun a hk=>?_
  refine o_load hk ts_135 rfl (hm.cell_blk (i:=0) (cs:=[(.func (.func 96) #[] #[.pointer (some ⟨xb,0,none⟩)]:Value)]) rfl rfl) rfl fun a hk=>?_
  refine oM0 hk rfl rfl fun a hk=>?_
  refine o_callV (lb:=[.pointer (some ⟨xb,0,none⟩)]) (vs:=[.pointer (some ⟨fb,0,none⟩)]) (xs:=[.tmp 6]) hk rfl cb_96 (fmtSet_c (xb:=xb) (hm.all _ (eA0 (i:=1) rfl))) ⟨rfl,trivial⟩ rfl fun v w a hR hk=>?_
  have hm:=hm.write (i:=1) rfl hR.1 hR.2
  refine c_endQ ?_
  refine b_endNone rfl hk ?_
  exact ⟨hm.agr,hm.all _ (eA0 (i:=1) rfl)⟩
theorem newFmt0_c {w0:World} {Y:Nat → Prop}:Ret Tryz.prog 62 [.slice none 0 0] w0 fun v w'=>Agr Nob w0 w' ∧ Rep w' (fun b=>b < w0.heap.size ∧ Y b) (ddFm true []) [v]:=by
  refine c_call Tryz.func62 rfl rfl fun a hk=>?_
  have hk:Kn 18 [(0,.slice none 0 0)] a:=hk
  refine cR0 ?_
  refine oA0 hk rfl rfl fun a hk=>?_
  refine cE0 ?_
  refine cR0 ?_
  refine Er.o_allocW (cs:=[.pointer none]) hk tz_134 rfl rfl fun a w ag lt hb hk=>?_
  obtain ⟨fb,hfb⟩ : ∃ b,b = w0.heap.size:=⟨_,rfl⟩
  rw [← hfb] at hk hb
  refine oA0 hk rfl rfl fun a hk=>?_
  refine cE0 ?_
  refine wp_seq ?_
  refine cR0 ?_
  refine oM0 hk rfl rfl fun a hk=>?_
  refine oL0 hk te_132 rfl rfl fun a hk=>?_
  refine oM0 hk rfl rfl fun a hk=>?_
  refine cE0 ?_
  refine c_range (L0:=[(3,.pointer (some ⟨fb,0,none⟩))]) (N:=0) (by omega) (fun k L w'=>L = [(3,.pointer (some ⟨fb,0,none⟩))] ∧ w' = w) (hk.sub ⟨rfl,rfl,rfl,trivial⟩) ⟨rfl,rfl⟩ rfl rfl rfl rfl rfl rfl rfl (fun k L a w' hlt hR hk=>absurd hlt (Nat.not_lt_zero k)) rfl (fun L a w' hR hk=>?_)
  obtain ⟨rfl,rfl⟩:=hR
  refine cT0 ?_
  refine cR0 ?_
  refine oM0 hk rfl rfl fun a hk=>?_
  refine oA0 hk rfl rfl fun a hk=>?_
  refine cE0 ?_
  refine wp_ret ?_
  refine bT0 rfl hk rfl ?_
  refine ⟨ag,?_⟩
  unfold ddFm ddId
  simp only [Rep,if_true]
  refine ⟨fb,0,[.pointer none],rfl,fun j u hj=>⟨fun h=>by omega,?_⟩,?_⟩
  · match j,hj with
    | 0,hj =>
      simp only [List.getElem?_cons_zero,Option.some.injEq] at hj
      subst hj
      simp [World.cell?,hb]
  · exact RepL.cons1 (rep_v _) RepL.nil
theorem newFmt1_c {w0:World} {Y:Nat → Prop} {sb xb cap:Nat} {s:List UInt8} (hsb:w0.cell? ⟨sb,0,none⟩ = some (.iface 137 (.agg #[.func (.func 96) #[] #[.pointer (some ⟨xb,0,none⟩)]]):Value)) (hxb:Cel w0 Y xb 0 [.string (bs s)]):Ret Tryz.prog 62 [.slice (some ⟨sb,0,none⟩) 1 cap] w0 fun v w'=>Agr Nob w0 w' ∧ Rep w' (fun b=>b < w0.heap.size ∧ Y b) (ddFm false s) [v]:=by
  refine c_call Tryz.func62 rfl rfl fun a hk=>?_
  have hk:Kn 18 [(0,.slice (some ⟨sb,0,none⟩) 1 cap)] a:=hk
  refine cR0 ?_
  refine oA0 hk rfl rfl fun a hk=>?_
  refine cE0 ?_
  refine cR0 ?_
  refine Er.o_allocW (cs:=[.pointer none]) hk tz_134 rfl rfl fun a w ag lt hb hk=>?_
  obtain ⟨fb,hfb⟩ : ∃ b,b = w0.heap.size:=⟨_,rfl⟩
  rw [← hfb] at hk hb
  have hsl:sb < w0.heap.size:=cell_lt hsb
  have hxl:xb < w0.heap.size:=cell_lt (hxb 0 _ rfl).2
  have hsb1:w.cell? ⟨sb,0,none⟩ = some (.iface 137 (.agg #[.func (.func 96) #[] #[.pointer (some ⟨xb,0,none⟩)]]):Value):=by rw [World.cell?_of_block (w:=w0) (w':=w) (a:=⟨sb,0,none⟩) (ag.block sb hsl id)]; exact hsb
  refine oA0 hk rfl rfl fun a hk=>?_
  refine cE0 ?_
  refine wp_seq ?_
  refine cR0 ?_
  refine oM0 hk rfl rfl fun a hk=>?_
  refine oL0 hk te_132 rfl rfl fun a hk=>?_
  refine oM0 hk rfl rfl fun a hk=>?_
  refine cE0 ?_
  refine c_range (L0:=[(3,.pointer (some ⟨fb,0,none⟩)),(7,.slice (some ⟨sb,0,none⟩) 1 cap)]) (N:=1) (by omega) (fun k L w'=>L = [(3,.pointer (some ⟨fb,0,none⟩)),(7,.slice (some ⟨sb,0,none⟩) 1 cap)] ∧ Agr (fun b=>b = fb) w w' ∧ (k = 0 → w' = w) ∧ (1 ≤ k → w'.heap[fb]? = some (.cells #[.pointer (some ⟨xb,0,none⟩)] 134 (0,0)))) (hk.sub ⟨rfl,rfl,rfl,rfl,trivial⟩) ⟨rfl,Agr.refl _ _,fun _=>rfl,fun h=>by omega⟩ rfl rfl rfl rfl rfl rfl rfl (fun k L a w' hlt hR hk=>?_) rfl (fun L a w' hR hk=>?_)
  · obtain ⟨rfl,-,h0,-⟩:=hR
    obtain rfl:k = 0:=by omega
    obtain rfl:=h0 rfl
    refine cR0 ?_
    refine oI0 (j:=0) hk te_132 ts_89 rfl rfl (by omega) rfl fun a hk=>?_
    refine o_load hk ts_89 rfl (v:=(.iface 137 (.agg #[.func (.func 96) #[] #[.pointer (some ⟨xb,0,none⟩)]]):Value)) (by simpa using hsb1) rfl fun a hk=>?_
    refine oA0 hk rfl rfl fun a hk=>?_
    refine cE0 ?_
    refine c_reg ?_
    refine oM0 hk rfl rfl fun a hk=>?_
    refine oM0 hk rfl rfl fun a hk=>?_
    refine o_invoke (xs:=[.tmp 14]) hk rfl (fun k w=>run_methV ma_apply is_137) cb_208 (apply_c (xb:=xb) hb) ⟨rfl,trivial⟩ rfl fun v w2 a hR hk=>?_
    refine c_endQ ?_
    refine cN0 ?_
    exact c_round (L':=[(3,.pointer (some ⟨fb,0,none⟩)),(7,.slice (some ⟨sb,0,none⟩) 1 cap)]) hk ⟨rfl,rfl,rfl,rfl,trivial⟩ rfl ⟨rfl,hR.1,fun h=>by omega,fun _=>hR.2⟩
  · obtain ⟨rfl,ag2,-,h1⟩:=hR
    have hb2:=h1 (Nat.le_refl 1)
    refine cT0 ?_
    refine cR0 ?_
    refine oM0 hk rfl rfl fun a hk=>?_
    refine oA0 hk rfl rfl fun a hk=>?_
    refine cE0 ?_
    refine wp_ret ?_
    refine bT0 rfl hk rfl ?_
    have hx2:w'.heap[xb]? = w0.heap[xb]?:=by rw [ag2.block xb (by omega) (by omega),ag.block xb hxl id]
    refine ⟨ag.trans ag2 (fun _ _ x=>x) (fun i hi x=>by omega),?_⟩
    unfold ddFm ddId
    simp only [Rep,Bool.false_eq_true,if_false]
    refine ⟨fb,0,[.pointer (some ⟨xb,0,none⟩)],rfl,fun j u hj=>⟨fun h=>by omega,?_⟩,RepL.cons1 ?_ RepL.nil⟩
    · match j,hj with
      | 0,hj =>
        simp only [List.getElem?_cons_zero,Option.some.injEq] at hj
        subst hj
        simp [World.cell?,hb2]
    · simp only [Rep]
      refine ⟨xb,0,[.string (bs s)],rfl,fun j u hj=>⟨fun h=>(hxb j u hj).1 h.2,?_⟩,rfl⟩
      rw [World.cell?_of_block (w:=w0) (w':=w') (a:=⟨xb,0 + j,none⟩) hx2]
      exact (hxb j u hj).2
end Go.Proofs.YthblgheenamnhaaGreatDoorR
