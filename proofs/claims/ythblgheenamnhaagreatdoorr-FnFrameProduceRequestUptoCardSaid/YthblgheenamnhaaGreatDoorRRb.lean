/- Walks of functions that the laws of this seat reach. No statement of the seat stands here. -/
import Derived.Test.YthblgheenamnhaaGreatDoorRL3
import Derived.Test.YthblgheenamnhaaGreatDoorRRows
import Derived.Test.YthblgheenamnhaaGreatDoorRFa
namespace Go.Proofs.YthblgheenamnhaaGreatDoorR
open Go Go.Mk
theorem beUint16_c {w0:World} {Y:Nat → Prop} {l:List UInt8} {b off cap:Nat} (hC:Cel w0 Y b off (bv l)) (hl : 2 ≤ l.length):Ret Tryz.prog 118 [.agg #[],.slice (some ⟨b,off,none⟩) l.length cap] w0 fun v w'=>Agr Nob w0 w' ∧ v = .int .u16 ((be (l.take 2):Nat):Int):=by
 refine c_call Tryz.func118 rfl rfl fun a hk=>?_
 have hk:Kn 18 [(0,.agg #[]),(1,.slice (some ⟨b,off,none⟩) l.length cap)] a:=hk
 have hm:Mem w0 Nob Y [.cel b off (bv l)] w0:=Mem.start rfl (by simp only [List.forall_mem_cons,List.not_mem_nil,false_imp_iff,implies_true,and_true]; exact hC)
 refine cR0 ?_
 refine o_box hk hm rfl rfl rfl fun a b1 w hk hm=>?_
 refine oA0 hk rfl rfl fun a hk=>?_
 refine cE0 ?_
 refine cR0 ?_
 refine oM0 hk rfl rfl fun a hk=>?_
 refine oI0 (j:=1) hk te_24 ts_5 rfl rfl (by omega) rfl fun a hk=>?_
 refine o_load hk ts_5 rfl (hm.cell_cel (i:=1) (j:=1) rfl (bv_get (by omega))) rfl fun a hk=>?_
 refine cE0 ?_
 refine wp_seq ?_
 refine d_startM (K:=10) mixed hm fun w hm=>?_
 refine d_take (i:=0) rfl rfl rfl (by kernel_rfl) (fun _ _ _ h=>h) hk rfl (fun w hm=>r_move hk rfl) hm fun a hk=>?_
 refine d_take (i:=1) rfl rfl rfl (by kernel_rfl) (fun _ _ _ h=>h) hk rfl (fun w hm=>r_indexAddr (j:=1) hk te_24 ts_5 rfl rfl (by omega)) hm fun a hk=>?_
 refine d_take (i:=2) rfl rfl rfl (by kernel_rfl) (fun _ _ _ h=>h) hk rfl (fun w hm=>r_load1 hk ts_5 rfl (hm.cell_cel (i:=1) (j:=1) rfl (bv_get (by omega)))) hm fun a hk=>?_
 refine d_take (i:=3) rfl rfl rfl (by kernel_rfl) (fun _ _ _ h=>h) hk rfl (fun w hm=>r_convInt (c:=(((l.getD 1 0).toNat:Nat):Int)) hk (Option.isSome_iff_exists.1 un_5) ti_167 rfl (wrap_nat rfl (by have:=(l.getD 1 0).toNat_lt; simp only [IntKind.bits]; omega))) hm fun a hk=>?_
 refine d_one (k:=4) (by kernel_rfl) rfl rfl ?_
 refine oM0 hk rfl rfl fun a hk=>?_
 refine c_endQ (cT0 ⟨fun _=>hm,?_⟩)
 refine d_one (k:=5) (by kernel_rfl) rfl rfl ?_
 refine oI0 (j:=0) hk te_24 ts_5 rfl rfl (by omega) rfl fun a hk=>?_
 refine c_endQ (cT0 ⟨fun _=>hm,?_⟩)
 refine d_one (k:=6) (by kernel_rfl) rfl rfl ?_
 refine o_load hk ts_5 rfl (hm.cell_cel (i:=1) (j:=0) rfl (bv_get (by omega))) rfl fun a hk=>?_
 refine c_endQ (cT0 ⟨fun _=>hm,?_⟩)
 refine d_one (k:=7) (by kernel_rfl) rfl rfl ?_
 refine o_convInt (c:=(((l.getD 0 0).toNat:Nat):Int)) hk un_5 ti_167 rfl (wrap_nat rfl (by have:=(l.getD 0 0).toNat_lt; simp only [IntKind.bits]; omega)) rfl fun a hk=>?_
 refine c_endQ (cT0 ⟨fun _=>hm,?_⟩)
 refine d_one (k:=8) (by kernel_rfl) rfl rfl ?_
 refine o_shl (s:=8) (c:=(((l.getD 0 0).toNat * 2 ^ 8:Nat):Int)) hk rfl rfl (by have:=(l.getD 0 0).toNat_lt; rw [← shl_cast]; exact wrap_nat rfl (by simp only [IntKind.bits]; omega)) rfl fun a hk=>?_
 refine c_endQ (cT0 ⟨fun _=>hm,?_⟩)
 refine d_one (k:=9) (by kernel_rfl) rfl rfl ?_
 refine o_ibits (c:=((((l.getD 1 0).toNat + (l.getD 0 0).toNat * 2 ^ 8):Nat):Int)) hk rfl rfl (by have h0:=(l.getD 0 0).toNat_lt; have h1:=(l.getD 1 0).toNat_lt; exact or_disj rfl ((l.getD 1 0).toNat) ((l.getD 0 0).toNat) 8 (by omega) (by simp only [IntKind.bits]; omega)) rfl fun a hk=>?_
 refine c_endQ (cT0 ⟨fun _=>hm,?_⟩)
 refine d_one (k:=10) (by kernel_rfl) rfl rfl ?_
 refine oA0 hk rfl rfl fun a hk=>?_
 refine c_endQ (cT0 ⟨fun h=>Bool.noConfusion (show true = false from h),?_⟩)
 refine d_done (by kernel_rfl) ?_ _
 refine cT0 ?_
 refine wp_ret ?_
 refine bT0 rfl hk rfl ?_
 exact ⟨hm.agr,by rw [be_take2 hl]⟩
set_option maxRecDepth 100000 in
theorem beUint32_c {w0:World} {Y:Nat → Prop} {l:List UInt8} {b off cap:Nat} (hC:Cel w0 Y b off (bv l)) (hl : 4 ≤ l.length):Ret Tryz.prog 116 [.agg #[],.slice (some ⟨b,off,none⟩) l.length cap] w0 fun v w'=>Agr Nob w0 w' ∧ v = .int .u32 ((be (l.take 4):Nat):Int):=by
 refine c_call Tryz.func116 rfl rfl fun a hk=>?_
 have hk:Kn 30 [(0,.agg #[]),(1,.slice (some ⟨b,off,none⟩) l.length cap)] a:=hk
 have hm:Mem w0 Nob Y [.cel b off (bv l)] w0:=Mem.start rfl (by simp only [List.forall_mem_cons,List.not_mem_nil,false_imp_iff,implies_true,and_true]; exact hC)
 refine cR0 ?_
 refine o_box hk hm rfl rfl rfl fun a b1 w hk hm=>?_
 refine oA0 hk rfl rfl fun a hk=>?_
 refine cE0 ?_
 refine cR0 ?_
 refine oM0 hk rfl rfl fun a hk=>?_
 refine oI0 (j:=3) hk te_24 ts_5 rfl rfl (by omega) rfl fun a hk=>?_
 refine o_load hk ts_5 rfl (hm.cell_cel (i:=1) (j:=3) rfl (bv_get (by omega))) rfl fun a hk=>?_
 refine cE0 ?_
 refine wp_seq ?_
 refine d_startM (K:=22) mixed hm fun w hm=>?_
 refine d_take (i:=0) rfl rfl rfl (by kernel_rfl) (fun _ _ _ h=>h) hk rfl (fun w hm=>r_move hk rfl) hm fun a hk=>?_
 refine d_take (i:=1) rfl rfl rfl (by kernel_rfl) (fun _ _ _ h=>h) hk rfl (fun w hm=>r_indexAddr (j:=3) hk te_24 ts_5 rfl rfl (by omega)) hm fun a hk=>?_
 refine d_take (i:=2) rfl rfl rfl (by kernel_rfl) (fun _ _ _ h=>h) hk rfl (fun w hm=>r_load1 hk ts_5 rfl (hm.cell_cel (i:=1) (j:=3) rfl (bv_get (by omega)))) hm fun a hk=>?_
 refine d_take (i:=3) rfl rfl rfl (by kernel_rfl) (fun _ _ _ h=>h) hk rfl (fun w hm=>r_convInt (c:=(((l.getD 3 0).toNat:Nat):Int)) hk (Option.isSome_iff_exists.1 un_5) ti_65 rfl (wrap_nat rfl (by have:=(l.getD 3 0).toNat_lt; simp only [IntKind.bits]; omega))) hm fun a hk=>?_
 refine d_take (i:=4) rfl rfl rfl (by kernel_rfl) (fun _ _ _ h=>h) hk rfl (fun w hm=>r_move hk rfl) hm fun a hk=>?_
 refine d_take (i:=5) rfl rfl rfl (by kernel_rfl) (fun _ _ _ h=>h) hk rfl (fun w hm=>r_indexAddr (j:=2) hk te_24 ts_5 rfl rfl (by omega)) hm fun a hk=>?_
 refine d_take (i:=6) rfl rfl rfl (by kernel_rfl) (fun _ _ _ h=>h) hk rfl (fun w hm=>r_load1 hk ts_5 rfl (hm.cell_cel (i:=1) (j:=2) rfl (bv_get (by omega)))) hm fun a hk=>?_
 refine d_take (i:=7) rfl rfl rfl (by kernel_rfl) (fun _ _ _ h=>h) hk rfl (fun w hm=>r_convInt (c:=(((l.getD 2 0).toNat:Nat):Int)) hk (Option.isSome_iff_exists.1 un_5) ti_65 rfl (wrap_nat rfl (by have:=(l.getD 2 0).toNat_lt; simp only [IntKind.bits]; omega))) hm fun a hk=>?_
 refine d_take (i:=8) rfl rfl rfl (by kernel_rfl) (fun _ _ _ h=>h) hk rfl (fun w hm=>r_shl (s:=8) (c:=(((l.getD 2 0).toNat * 2 ^ 8:Nat):Int)) hk rfl rfl (by have:=(l.getD 2 0).toNat_lt; rw [← shl_cast]; exact wrap_nat rfl (by simp only [IntKind.bits]; omega))) hm fun a hk=>?_
 refine d_take (i:=9) rfl rfl rfl (by kernel_rfl) (fun _ _ _ h=>h) hk rfl (fun w hm=>r_ibits (c:=((((l.getD 3 0).toNat + (l.getD 2 0).toNat * 2 ^ 8):Nat):Int)) hk rfl rfl (by have h0:=(l.getD 0 0).toNat_lt; have h1:=(l.getD 1 0).toNat_lt; have h2:=(l.getD 2 0).toNat_lt; have h3:=(l.getD 3 0).toNat_lt; exact or_disj rfl ((l.getD 3 0).toNat) ((l.getD 2 0).toNat) 8 (by omega) (by simp only [IntKind.bits]; omega))) hm fun a hk=>?_
 refine d_take (i:=10) rfl rfl rfl (by kernel_rfl) (fun _ _ _ h=>h) hk rfl (fun w hm=>r_move hk rfl) hm fun a hk=>?_
 refine d_take (i:=11) rfl rfl rfl (by kernel_rfl) (fun _ _ _ h=>h) hk rfl (fun w hm=>r_indexAddr (j:=1) hk te_24 ts_5 rfl rfl (by omega)) hm fun a hk=>?_
 refine d_take (i:=12) rfl rfl rfl (by kernel_rfl) (fun _ _ _ h=>h) hk rfl (fun w hm=>r_load1 hk ts_5 rfl (hm.cell_cel (i:=1) (j:=1) rfl (bv_get (by omega)))) hm fun a hk=>?_
 refine d_take (i:=13) rfl rfl rfl (by kernel_rfl) (fun _ _ _ h=>h) hk rfl (fun w hm=>r_convInt (c:=(((l.getD 1 0).toNat:Nat):Int)) hk (Option.isSome_iff_exists.1 un_5) ti_65 rfl (wrap_nat rfl (by have:=(l.getD 1 0).toNat_lt; simp only [IntKind.bits]; omega))) hm fun a hk=>?_
 refine d_take (i:=14) rfl rfl rfl (by kernel_rfl) (fun _ _ _ h=>h) hk rfl (fun w hm=>r_shl (s:=16) (c:=(((l.getD 1 0).toNat * 2 ^ 16:Nat):Int)) hk rfl rfl (by have:=(l.getD 1 0).toNat_lt; rw [← shl_cast]; exact wrap_nat rfl (by simp only [IntKind.bits]; omega))) hm fun a hk=>?_
 refine d_take (i:=15) rfl rfl rfl (by kernel_rfl) (fun _ _ _ h=>h) hk rfl (fun w hm=>r_ibits (c:=(((((l.getD 3 0).toNat + (l.getD 2 0).toNat * 2 ^ 8) + (l.getD 1 0).toNat * 2 ^ 16):Nat):Int)) hk rfl rfl (by have h0:=(l.getD 0 0).toNat_lt; have h1:=(l.getD 1 0).toNat_lt; have h2:=(l.getD 2 0).toNat_lt; have h3:=(l.getD 3 0).toNat_lt; exact or_disj rfl ((l.getD 3 0).toNat + (l.getD 2 0).toNat * 2 ^ 8) ((l.getD 1 0).toNat) 16 (by omega) (by simp only [IntKind.bits]; omega))) hm fun a hk=>?_
 refine d_one (k:=16) (by kernel_rfl) rfl rfl ?_
 refine oM0 hk rfl rfl fun a hk=>?_
 refine c_endQ (cT0 ⟨fun _=>hm,?_⟩)
 refine d_one (k:=17) (by kernel_rfl) rfl rfl ?_
 refine oI0 (j:=0) hk te_24 ts_5 rfl rfl (by omega) rfl fun a hk=>?_
 refine c_endQ (cT0 ⟨fun _=>hm,?_⟩)
 refine d_one (k:=18) (by kernel_rfl) rfl rfl ?_
 refine o_load hk ts_5 rfl (hm.cell_cel (i:=1) (j:=0) rfl (bv_get (by omega))) rfl fun a hk=>?_
 refine c_endQ (cT0 ⟨fun _=>hm,?_⟩)
 refine d_one (k:=19) (by kernel_rfl) rfl rfl ?_
 refine o_convInt (c:=(((l.getD 0 0).toNat:Nat):Int)) hk un_5 ti_65 rfl (wrap_nat rfl (by have:=(l.getD 0 0).toNat_lt; simp only [IntKind.bits]; omega)) rfl fun a hk=>?_
 refine c_endQ (cT0 ⟨fun _=>hm,?_⟩)
 refine d_one (k:=20) (by kernel_rfl) rfl rfl ?_
 refine o_shl (s:=24) (c:=(((l.getD 0 0).toNat * 2 ^ 24:Nat):Int)) hk rfl rfl (by have:=(l.getD 0 0).toNat_lt; rw [← shl_cast]; exact wrap_nat rfl (by simp only [IntKind.bits]; omega)) rfl fun a hk=>?_
 refine c_endQ (cT0 ⟨fun _=>hm,?_⟩)
 refine d_one (k:=21) (by kernel_rfl) rfl rfl ?_
 refine o_ibits (c:=((((((l.getD 3 0).toNat + (l.getD 2 0).toNat * 2 ^ 8) + (l.getD 1 0).toNat * 2 ^ 16) + (l.getD 0 0).toNat * 2 ^ 24):Nat):Int)) hk rfl rfl (by have h0:=(l.getD 0 0).toNat_lt; have h1:=(l.getD 1 0).toNat_lt; have h2:=(l.getD 2 0).toNat_lt; have h3:=(l.getD 3 0).toNat_lt; exact or_disj rfl (((l.getD 3 0).toNat + (l.getD 2 0).toNat * 2 ^ 8) + (l.getD 1 0).toNat * 2 ^ 16) ((l.getD 0 0).toNat) 24 (by omega) (by simp only [IntKind.bits]; omega)) rfl fun a hk=>?_
 refine c_endQ (cT0 ⟨fun _=>hm,?_⟩)
 refine d_one (k:=22) (by kernel_rfl) rfl rfl ?_
 refine oA0 hk rfl rfl fun a hk=>?_
 refine c_endQ (cT0 ⟨fun h=>Bool.noConfusion (show true = false from h),?_⟩)
 refine d_done (by kernel_rfl) ?_ _
 refine cT0 ?_
 refine wp_ret ?_
 refine bT0 rfl hk rfl ?_
 exact ⟨hm.agr,by rw [be_take4 hl]⟩
set_option maxRecDepth 100000 in
theorem beUint64_c {w0:World} {Y:Nat → Prop} {l:List UInt8} {b off cap:Nat} (hC:Cel w0 Y b off (bv l)) (hl : 8 ≤ l.length):Ret Tryz.prog 124 [.agg #[],.slice (some ⟨b,off,none⟩) l.length cap] w0 fun v w'=>Agr Nob w0 w' ∧ v = .int .u64 ((be (l.take 8):Nat):Int):=by
 refine c_call Tryz.func124 rfl rfl fun a hk=>?_
 have hk:Kn 54 [(0,.agg #[]),(1,.slice (some ⟨b,off,none⟩) l.length cap)] a:=hk
 have hm:Mem w0 Nob Y [.cel b off (bv l)] w0:=Mem.start rfl (by simp only [List.forall_mem_cons,List.not_mem_nil,false_imp_iff,implies_true,and_true]; exact hC)
 refine cR0 ?_
 refine o_box hk hm rfl rfl rfl fun a b1 w hk hm=>?_
 refine oA0 hk rfl rfl fun a hk=>?_
 refine cE0 ?_
 refine cR0 ?_
 refine oM0 hk rfl rfl fun a hk=>?_
 refine oI0 (j:=7) hk te_24 ts_5 rfl rfl (by omega) rfl fun a hk=>?_
 refine o_load hk ts_5 rfl (hm.cell_cel (i:=1) (j:=7) rfl (bv_get (by omega))) rfl fun a hk=>?_
 refine cE0 ?_
 refine wp_seq ?_
 refine d_startM (K:=46) mixed hm fun w hm=>?_
 refine d_take (i:=0) rfl rfl rfl (by kernel_rfl) (fun _ _ _ h=>h) hk rfl (fun w hm=>r_move hk rfl) hm fun a hk=>?_
 refine d_take (i:=1) rfl rfl rfl (by kernel_rfl) (fun _ _ _ h=>h) hk rfl (fun w hm=>r_indexAddr (j:=7) hk te_24 ts_5 rfl rfl (by omega)) hm fun a hk=>?_
 refine d_take (i:=2) rfl rfl rfl (by kernel_rfl) (fun _ _ _ h=>h) hk rfl (fun w hm=>r_load1 hk ts_5 rfl (hm.cell_cel (i:=1) (j:=7) rfl (bv_get (by omega)))) hm fun a hk=>?_
 refine d_take (i:=3) rfl rfl rfl (by kernel_rfl) (fun _ _ _ h=>h) hk rfl (fun w hm=>r_convInt (c:=(((l.getD 7 0).toNat:Nat):Int)) hk (Option.isSome_iff_exists.1 un_5) ti_80 rfl (wrap_nat rfl (by have:=(l.getD 7 0).toNat_lt; simp only [IntKind.bits]; omega))) hm fun a hk=>?_
 refine d_take (i:=4) rfl rfl rfl (by kernel_rfl) (fun _ _ _ h=>h) hk rfl (fun w hm=>r_move hk rfl) hm fun a hk=>?_
 refine d_take (i:=5) rfl rfl rfl (by kernel_rfl) (fun _ _ _ h=>h) hk rfl (fun w hm=>r_indexAddr (j:=6) hk te_24 ts_5 rfl rfl (by omega)) hm fun a hk=>?_
 refine d_take (i:=6) rfl rfl rfl (by kernel_rfl) (fun _ _ _ h=>h) hk rfl (fun w hm=>r_load1 hk ts_5 rfl (hm.cell_cel (i:=1) (j:=6) rfl (bv_get (by omega)))) hm fun a hk=>?_
 refine d_take (i:=7) rfl rfl rfl (by kernel_rfl) (fun _ _ _ h=>h) hk rfl (fun w hm=>r_convInt (c:=(((l.getD 6 0).toNat:Nat):Int)) hk (Option.isSome_iff_exists.1 un_5) ti_80 rfl (wrap_nat rfl (by have:=(l.getD 6 0).toNat_lt; simp only [IntKind.bits]; omega))) hm fun a hk=>?_
 refine d_take (i:=8) rfl rfl rfl (by kernel_rfl) (fun _ _ _ h=>h) hk rfl (fun w hm=>r_shl (s:=8) (c:=(((l.getD 6 0).toNat * 2 ^ 8:Nat):Int)) hk rfl rfl (by have:=(l.getD 6 0).toNat_lt; rw [← shl_cast]; exact wrap_nat rfl (by simp only [IntKind.bits]; omega))) hm fun a hk=>?_
 refine d_take (i:=9) rfl rfl rfl (by kernel_rfl) (fun _ _ _ h=>h) hk rfl (fun w hm=>r_ibits (c:=((((l.getD 7 0).toNat + (l.getD 6 0).toNat * 2 ^ 8):Nat):Int)) hk rfl rfl (by have h0:=(l.getD 0 0).toNat_lt; have h1:=(l.getD 1 0).toNat_lt; have h2:=(l.getD 2 0).toNat_lt; have h3:=(l.getD 3 0).toNat_lt; have h4:=(l.getD 4 0).toNat_lt; have h5:=(l.getD 5 0).toNat_lt; have h6:=(l.getD 6 0).toNat_lt; have h7:=(l.getD 7 0).toNat_lt; exact or_disj rfl ((l.getD 7 0).toNat) ((l.getD 6 0).toNat) 8 (by omega) (by simp only [IntKind.bits]; omega))) hm fun a hk=>?_
 refine d_take (i:=10) rfl rfl rfl (by kernel_rfl) (fun _ _ _ h=>h) hk rfl (fun w hm=>r_move hk rfl) hm fun a hk=>?_
 refine d_take (i:=11) rfl rfl rfl (by kernel_rfl) (fun _ _ _ h=>h) hk rfl (fun w hm=>r_indexAddr (j:=5) hk te_24 ts_5 rfl rfl (by omega)) hm fun a hk=>?_
 refine d_take (i:=12) rfl rfl rfl (by kernel_rfl) (fun _ _ _ h=>h) hk rfl (fun w hm=>r_load1 hk ts_5 rfl (hm.cell_cel (i:=1) (j:=5) rfl (bv_get (by omega)))) hm fun a hk=>?_
 refine d_take (i:=13) rfl rfl rfl (by kernel_rfl) (fun _ _ _ h=>h) hk rfl (fun w hm=>r_convInt (c:=(((l.getD 5 0).toNat:Nat):Int)) hk (Option.isSome_iff_exists.1 un_5) ti_80 rfl (wrap_nat rfl (by have:=(l.getD 5 0).toNat_lt; simp only [IntKind.bits]; omega))) hm fun a hk=>?_
 refine d_take (i:=14) rfl rfl rfl (by kernel_rfl) (fun _ _ _ h=>h) hk rfl (fun w hm=>r_shl (s:=16) (c:=(((l.getD 5 0).toNat * 2 ^ 16:Nat):Int)) hk rfl rfl (by have:=(l.getD 5 0).toNat_lt; rw [← shl_cast]; exact wrap_nat rfl (by simp only [IntKind.bits]; omega))) hm fun a hk=>?_
 refine d_take (i:=15) rfl rfl rfl (by kernel_rfl) (fun _ _ _ h=>h) hk rfl (fun w hm=>r_ibits (c:=(((((l.getD 7 0).toNat + (l.getD 6 0).toNat * 2 ^ 8) + (l.getD 5 0).toNat * 2 ^ 16):Nat):Int)) hk rfl rfl (by have h0:=(l.getD 0 0).toNat_lt; have h1:=(l.getD 1 0).toNat_lt; have h2:=(l.getD 2 0).toNat_lt; have h3:=(l.getD 3 0).toNat_lt; have h4:=(l.getD 4 0).toNat_lt; have h5:=(l.getD 5 0).toNat_lt; have h6:=(l.getD 6 0).toNat_lt; have h7:=(l.getD 7 0).toNat_lt; exact or_disj rfl ((l.getD 7 0).toNat + (l.getD 6 0).toNat * 2 ^ 8) ((l.getD 5 0).toNat) 16 (by omega) (by simp only [IntKind.bits]; omega))) hm fun a hk=>?_
 refine d_take (i:=16) rfl rfl rfl (by kernel_rfl) (fun _ _ _ h=>h) hk rfl (fun w hm=>r_move hk rfl) hm fun a hk=>?_
 refine d_take (i:=17) rfl rfl rfl (by kernel_rfl) (fun _ _ _ h=>h) hk rfl (fun w hm=>r_indexAddr (j:=4) hk te_24 ts_5 rfl rfl (by omega)) hm fun a hk=>?_
 refine d_take (i:=18) rfl rfl rfl (by kernel_rfl) (fun _ _ _ h=>h) hk rfl (fun w hm=>r_load1 hk ts_5 rfl (hm.cell_cel (i:=1) (j:=4) rfl (bv_get (by omega)))) hm fun a hk=>?_
 refine d_take (i:=19) rfl rfl rfl (by kernel_rfl) (fun _ _ _ h=>h) hk rfl (fun w hm=>r_convInt (c:=(((l.getD 4 0).toNat:Nat):Int)) hk (Option.isSome_iff_exists.1 un_5) ti_80 rfl (wrap_nat rfl (by have:=(l.getD 4 0).toNat_lt; simp only [IntKind.bits]; omega))) hm fun a hk=>?_
 refine d_take (i:=20) rfl rfl rfl (by kernel_rfl) (fun _ _ _ h=>h) hk rfl (fun w hm=>r_shl (s:=24) (c:=(((l.getD 4 0).toNat * 2 ^ 24:Nat):Int)) hk rfl rfl (by have:=(l.getD 4 0).toNat_lt; rw [← shl_cast]; exact wrap_nat rfl (by simp only [IntKind.bits]; omega))) hm fun a hk=>?_
 refine d_take (i:=21) rfl rfl rfl (by kernel_rfl) (fun _ _ _ h=>h) hk rfl (fun w hm=>r_ibits (c:=((((((l.getD 7 0).toNat + (l.getD 6 0).toNat * 2 ^ 8) + (l.getD 5 0).toNat * 2 ^ 16) + (l.getD 4 0).toNat * 2 ^ 24):Nat):Int)) hk rfl rfl (by have h0:=(l.getD 0 0).toNat_lt; have h1:=(l.getD 1 0).toNat_lt; have h2:=(l.getD 2 0).toNat_lt; have h3:=(l.getD 3 0).toNat_lt; have h4:=(l.getD 4 0).toNat_lt; have h5:=(l.getD 5 0).toNat_lt; have h6:=(l.getD 6 0).toNat_lt; have h7:=(l.getD 7 0).toNat_lt; exact or_disj rfl (((l.getD 7 0).toNat + (l.getD 6 0).toNat * 2 ^ 8) + (l.getD 5 0).toNat * 2 ^ 16) ((l.getD 4 0).toNat) 24 (by omega) (by simp only [IntKind.bits]; omega))) hm fun a hk=>?_
 refine d_take (i:=22) rfl rfl rfl (by kernel_rfl) (fun _ _ _ h=>h) hk rfl (fun w hm=>r_move hk rfl) hm fun a hk=>?_
 refine d_take (i:=23) rfl rfl rfl (by kernel_rfl) (fun _ _ _ h=>h) hk rfl (fun w hm=>r_indexAddr (j:=3) hk te_24 ts_5 rfl rfl (by omega)) hm fun a hk=>?_
 refine d_take (i:=24) rfl rfl rfl (by kernel_rfl) (fun _ _ _ h=>h) hk rfl (fun w hm=>r_load1 hk ts_5 rfl (hm.cell_cel (i:=1) (j:=3) rfl (bv_get (by omega)))) hm fun a hk=>?_
 refine d_take (i:=25) rfl rfl rfl (by kernel_rfl) (fun _ _ _ h=>h) hk rfl (fun w hm=>r_convInt (c:=(((l.getD 3 0).toNat:Nat):Int)) hk (Option.isSome_iff_exists.1 un_5) ti_80 rfl (wrap_nat rfl (by have:=(l.getD 3 0).toNat_lt; simp only [IntKind.bits]; omega))) hm fun a hk=>?_
 refine d_take (i:=26) rfl rfl rfl (by kernel_rfl) (fun _ _ _ h=>h) hk rfl (fun w hm=>r_shl (s:=32) (c:=(((l.getD 3 0).toNat * 2 ^ 32:Nat):Int)) hk rfl rfl (by have:=(l.getD 3 0).toNat_lt; rw [← shl_cast]; exact wrap_nat rfl (by simp only [IntKind.bits]; omega))) hm fun a hk=>?_
 refine d_take (i:=27) rfl rfl rfl (by kernel_rfl) (fun _ _ _ h=>h) hk rfl (fun w hm=>r_ibits (c:=(((((((l.getD 7 0).toNat + (l.getD 6 0).toNat * 2 ^ 8) + (l.getD 5 0).toNat * 2 ^ 16) + (l.getD 4 0).toNat * 2 ^ 24) + (l.getD 3 0).toNat * 2 ^ 32):Nat):Int)) hk rfl rfl (by have h0:=(l.getD 0 0).toNat_lt; have h1:=(l.getD 1 0).toNat_lt; have h2:=(l.getD 2 0).toNat_lt; have h3:=(l.getD 3 0).toNat_lt; have h4:=(l.getD 4 0).toNat_lt; have h5:=(l.getD 5 0).toNat_lt; have h6:=(l.getD 6 0).toNat_lt; have h7:=(l.getD 7 0).toNat_lt; exact or_disj rfl ((((l.getD 7 0).toNat + (l.getD 6 0).toNat * 2 ^ 8) + (l.getD 5 0).toNat * 2 ^ 16) + (l.getD 4 0).toNat * 2 ^ 24) ((l.getD 3 0).toNat) 32 (by omega) (by simp only [IntKind.bits]; omega))) hm fun a hk=>?_
 refine d_take (i:=28) rfl rfl rfl (by kernel_rfl) (fun _ _ _ h=>h) hk rfl (fun w hm=>r_move hk rfl) hm fun a hk=>?_
 refine d_take (i:=29) rfl rfl rfl (by kernel_rfl) (fun _ _ _ h=>h) hk rfl (fun w hm=>r_indexAddr (j:=2) hk te_24 ts_5 rfl rfl (by omega)) hm fun a hk=>?_
 refine d_take (i:=30) rfl rfl rfl (by kernel_rfl) (fun _ _ _ h=>h) hk rfl (fun w hm=>r_load1 hk ts_5 rfl (hm.cell_cel (i:=1) (j:=2) rfl (bv_get (by omega)))) hm fun a hk=>?_
 refine d_take (i:=31) rfl rfl rfl (by kernel_rfl) (fun _ _ _ h=>h) hk rfl (fun w hm=>r_convInt (c:=(((l.getD 2 0).toNat:Nat):Int)) hk (Option.isSome_iff_exists.1 un_5) ti_80 rfl (wrap_nat rfl (by have:=(l.getD 2 0).toNat_lt; simp only [IntKind.bits]; omega))) hm fun a hk=>?_
 refine d_take (i:=32) rfl rfl rfl (by kernel_rfl) (fun _ _ _ h=>h) hk rfl (fun w hm=>r_shl (s:=40) (c:=(((l.getD 2 0).toNat * 2 ^ 40:Nat):Int)) hk rfl rfl (by have:=(l.getD 2 0).toNat_lt; rw [← shl_cast]; exact wrap_nat rfl (by simp only [IntKind.bits]; omega))) hm fun a hk=>?_
 refine d_take (i:=33) rfl rfl rfl (by kernel_rfl) (fun _ _ _ h=>h) hk rfl (fun w hm=>r_ibits (c:=((((((((l.getD 7 0).toNat + (l.getD 6 0).toNat * 2 ^ 8) + (l.getD 5 0).toNat * 2 ^ 16) + (l.getD 4 0).toNat * 2 ^ 24) + (l.getD 3 0).toNat * 2 ^ 32) + (l.getD 2 0).toNat * 2 ^ 40):Nat):Int)) hk rfl rfl (by have h0:=(l.getD 0 0).toNat_lt; have h1:=(l.getD 1 0).toNat_lt; have h2:=(l.getD 2 0).toNat_lt; have h3:=(l.getD 3 0).toNat_lt; have h4:=(l.getD 4 0).toNat_lt; have h5:=(l.getD 5 0).toNat_lt; have h6:=(l.getD 6 0).toNat_lt; have h7:=(l.getD 7 0).toNat_lt; exact or_disj rfl (((((l.getD 7 0).toNat + (l.getD 6 0).toNat * 2 ^ 8) + (l.getD 5 0).toNat * 2 ^ 16) + (l.getD 4 0).toNat * 2 ^ 24) + (l.getD 3 0).toNat * 2 ^ 32) ((l.getD 2 0).toNat) 40 (by omega) (by simp only [IntKind.bits]; omega))) hm fun a hk=>?_
 refine d_take (i:=34) rfl rfl rfl (by kernel_rfl) (fun _ _ _ h=>h) hk rfl (fun w hm=>r_move hk rfl) hm fun a hk=>?_
 refine d_take (i:=35) rfl rfl rfl (by kernel_rfl) (fun _ _ _ h=>h) hk rfl (fun w hm=>r_indexAddr (j:=1) hk te_24 ts_5 rfl rfl (by omega)) hm fun a hk=>?_
 refine d_take (i:=36) rfl rfl rfl (by kernel_rfl) (fun _ _ _ h=>h) hk rfl (fun w hm=>r_load1 hk ts_5 rfl (hm.cell_cel (i:=1) (j:=1) rfl (bv_get (by omega)))) hm fun a hk=>?_
 refine d_take (i:=37) rfl rfl rfl (by kernel_rfl) (fun _ _ _ h=>h) hk rfl (fun w hm=>r_convInt (c:=(((l.getD 1 0).toNat:Nat):Int)) hk (Option.isSome_iff_exists.1 un_5) ti_80 rfl (wrap_nat rfl (by have:=(l.getD 1 0).toNat_lt; simp only [IntKind.bits]; omega))) hm fun a hk=>?_
 refine d_take (i:=38) rfl rfl rfl (by kernel_rfl) (fun _ _ _ h=>h) hk rfl (fun w hm=>r_shl (s:=48) (c:=(((l.getD 1 0).toNat * 2 ^ 48:Nat):Int)) hk rfl rfl (by have:=(l.getD 1 0).toNat_lt; rw [← shl_cast]; exact wrap_nat rfl (by simp only [IntKind.bits]; omega))) hm fun a hk=>?_
 refine d_take (i:=39) rfl rfl rfl (by kernel_rfl) (fun _ _ _ h=>h) hk rfl (fun w hm=>r_ibits (c:=(((((((((l.getD 7 0).toNat + (l.getD 6 0).toNat * 2 ^ 8) + (l.getD 5 0).toNat * 2 ^ 16) + (l.getD 4 0).toNat * 2 ^ 24) + (l.getD 3 0).toNat * 2 ^ 32) + (l.getD 2 0).toNat * 2 ^ 40) + (l.getD 1 0).toNat * 2 ^ 48):Nat):Int)) hk rfl rfl (by have h0:=(l.getD 0 0).toNat_lt; have h1:=(l.getD 1 0).toNat_lt; have h2:=(l.getD 2 0).toNat_lt; have h3:=(l.getD 3 0).toNat_lt; have h4:=(l.getD 4 0).toNat_lt; have h5:=(l.getD 5 0).toNat_lt; have h6:=(l.getD 6 0).toNat_lt; have h7:=(l.getD 7 0).toNat_lt; exact or_disj rfl ((((((l.getD 7 0).toNat + (l.getD 6 0).toNat * 2 ^ 8) + (l.getD 5 0).toNat * 2 ^ 16) + (l.getD 4 0).toNat * 2 ^ 24) + (l.getD 3 0).toNat * 2 ^ 32) + (l.getD 2 0).toNat * 2 ^ 40) ((l.getD 1 0).toNat) 48 (by omega) (by simp only [IntKind.bits]; omega))) hm fun a hk=>?_
 refine d_one (k:=40) (by kernel_rfl) rfl rfl ?_
 refine oM0 hk rfl rfl fun a hk=>?_
 refine c_endQ (cT0 ⟨fun _=>hm,?_⟩)
 refine d_one (k:=41) (by kernel_rfl) rfl rfl ?_
 refine oI0 (j:=0) hk te_24 ts_5 rfl rfl (by omega) rfl fun a hk=>?_
 refine c_endQ (cT0 ⟨fun _=>hm,?_⟩)
 refine d_one (k:=42) (by kernel_rfl) rfl rfl ?_
 refine o_load hk ts_5 rfl (hm.cell_cel (i:=1) (j:=0) rfl (bv_get (by omega))) rfl fun a hk=>?_
 refine c_endQ (cT0 ⟨fun _=>hm,?_⟩)
 refine d_one (k:=43) (by kernel_rfl) rfl rfl ?_
 refine o_convInt (c:=(((l.getD 0 0).toNat:Nat):Int)) hk un_5 ti_80 rfl (wrap_nat rfl (by have:=(l.getD 0 0).toNat_lt; simp only [IntKind.bits]; omega)) rfl fun a hk=>?_
 refine c_endQ (cT0 ⟨fun _=>hm,?_⟩)
 refine d_one (k:=44) (by kernel_rfl) rfl rfl ?_
 refine o_shl (s:=56) (c:=(((l.getD 0 0).toNat * 2 ^ 56:Nat):Int)) hk rfl rfl (by have:=(l.getD 0 0).toNat_lt; rw [← shl_cast]; exact wrap_nat rfl (by simp only [IntKind.bits]; omega)) rfl fun a hk=>?_
 refine c_endQ (cT0 ⟨fun _=>hm,?_⟩)
 refine d_one (k:=45) (by kernel_rfl) rfl rfl ?_
 refine o_ibits (c:=((((((((((l.getD 7 0).toNat + (l.getD 6 0).toNat * 2 ^ 8) + (l.getD 5 0).toNat * 2 ^ 16) + (l.getD 4 0).toNat * 2 ^ 24) + (l.getD 3 0).toNat * 2 ^ 32) + (l.getD 2 0).toNat * 2 ^ 40) + (l.getD 1 0).toNat * 2 ^ 48) + (l.getD 0 0).toNat * 2 ^ 56):Nat):Int)) hk rfl rfl (by have h0:=(l.getD 0 0).toNat_lt; have h1:=(l.getD 1 0).toNat_lt; have h2:=(l.getD 2 0).toNat_lt; have h3:=(l.getD 3 0).toNat_lt; have h4:=(l.getD 4 0).toNat_lt; have h5:=(l.getD 5 0).toNat_lt; have h6:=(l.getD 6 0).toNat_lt; have h7:=(l.getD 7 0).toNat_lt; exact or_disj rfl (((((((l.getD 7 0).toNat + (l.getD 6 0).toNat * 2 ^ 8) + (l.getD 5 0).toNat * 2 ^ 16) + (l.getD 4 0).toNat * 2 ^ 24) + (l.getD 3 0).toNat * 2 ^ 32) + (l.getD 2 0).toNat * 2 ^ 40) + (l.getD 1 0).toNat * 2 ^ 48) ((l.getD 0 0).toNat) 56 (by omega) (by simp only [IntKind.bits]; omega)) rfl fun a hk=>?_
 refine c_endQ (cT0 ⟨fun _=>hm,?_⟩)
 refine d_one (k:=46) (by kernel_rfl) rfl rfl ?_
 refine oA0 hk rfl rfl fun a hk=>?_
 refine c_endQ (cT0 ⟨fun h=>Bool.noConfusion (show true = false from h),?_⟩)
 refine d_done (by kernel_rfl) ?_ _
 refine cT0 ?_
 refine wp_ret ?_
 refine bT0 rfl hk rfl ?_
 exact ⟨hm.agr,by rw [be_take8 hl]⟩
end Go.Proofs.YthblgheenamnhaaGreatDoorR
