/- Walks of functions that the laws of this seat reach. No statement of the seat stands here. -/
import Derived.Test.YthholdjpcdpceabDoorL4
import Derived.Test.YthholdjpcdpceabDoorRows
import Derived.Test.YthholdjpcdpceabDoorFa
import Derived.Test.YthholdjpcdpceabDoorRkConsumerGroupHeartbeatResponse
import Derived.Test.YthholdjpcdpceabDoorTlConsumerGroupHeartbeatResponse
namespace Go.Proofs.YthholdjpcdpceabDoor
open Go Go.Mk
theorem setVersion_ConsumerGroupHeartbeatResponse {w0 : World} {Y : Nat → Prop} {g : Nat} {V : Int} {x0 : Value} {cs : List Value} (hb : w0.heap[g]? = some (.cells (x0 :: cs).toArray 97 (0, 0))) (hg : Y g) : Ret Tryd.prog 41 [.pointer (some ⟨g, 0, none⟩), .int .i16 V] w0 fun _ w' => Agr (fun k => k = g) w0 w' ∧ w'.heap[g]? = some (.cells (.int .i16 V :: cs).toArray 97 (0, 0)) := by
 refine c_call Tryd.func41 rfl rfl fun a hk => ?_
 have hk : Kn 8 [(0, .pointer (some ⟨g, 0, none⟩)), (1, .int .i16 V)] a := hk
 have hm : Mem w0 (fun k => k = g) Y [.blk g (x0 :: cs) 97] w0 := Mem.startBlk hb hg rfl (by simp)
 refine c_reg ?_
 refine oM0 hk rfl rfl fun a hk => ?_
 refine oM0 hk rfl rfl fun a hk => ?_
 refine oN0 hk rfl rfl fun a hk => ?_
 refine oF0 hk fo_97_0 rfl rfl fun a hk => ?_
 refine o_store (i := 0) hk hm ts_38 rfl rfl rfl rfl rfl rfl (Nat.succ_le_succ (Nat.zero_le _)) fun a w hk hm => ?_
 refine c_endQ ?_
 refine b_endNone rfl hk ?_
 have hz := hm.all _ (eA0 (i := 0) rfl)
 simp only [Ent.holds] at hz
 exact ⟨hm.agr, hz⟩
theorem list_cells9 {cs : List Value} (h : cs.length = 9) : ∃ x0 x1 x2 x3 x4 x5 x6 x7 x8, cs = [x0, x1, x2, x3, x4, x5, x6, x7, x8] := by
 match cs, h with
 | [x0, x1, x2, x3, x4, x5, x6, x7, x8], _ => exact ⟨x0, x1, x2, x3, x4, x5, x6, x7, x8, rfl⟩
theorem default_ConsumerGroupHeartbeatResponse {w0 : World} {Y : Nat → Prop} {g : Nat} {cs : List Value} (hb : w0.heap[g]? = some (.cells cs.toArray 97 (0, 0))) (hl : cs.length = 9) (hg : Y g) : Ret Tryd.prog 70 [.pointer (some ⟨g, 0, none⟩)] w0 fun _ w' => Agr (fun k => k = g) w0 w' ∧ ∃ cs' : List Value, cs'.length = 9 ∧ w'.heap[g]? = some (.cells cs'.toArray 97 (0, 0)) := by
 obtain ⟨x0, x1, x2, x3, x4, x5, x6, x7, x8, rfl⟩ := list_cells9 hl
 refine c_call Tryd.func70 rfl rfl fun a hk => ?_
 have hk : Kn 7 [(0, .pointer (some ⟨g, 0, none⟩))] a := hk
 have hm : Mem w0 (fun k => k = g) Y [.blk g [x0, x1, x2, x3, x4, x5, x6, x7, x8] 97] w0 := Mem.startBlk hb hg rfl (by simp)
 refine cR0 ?_
 refine oM0 hk rfl rfl fun a hk => ?_
 refine oN0 hk rfl rfl fun a hk => ?_
 refine oF0 hk fo_97_7 rfl rfl fun a hk => ?_
 refine oA0 hk rfl rfl fun a hk => ?_
 refine cE0 ?_
 refine c_reg ?_
 refine oM0 hk rfl rfl fun a hk => ?_
 refine c_endQ ?_
 refine b_endNone rfl hk ?_
 have hz := hm.all _ (eA0 (i := 0) rfl)
 simp only [Ent.holds] at hz
 exact ⟨hm.agr, _, rfl, hz⟩
theorem newPtr_ConsumerGroupHeartbeatResponse {w0 : World} {Y : Nat → Prop} : Ret Tryd.prog 39 [] w0 fun v w' => Agr Nob w0 w' ∧ ∃ b, v = .pointer (some ⟨b, 0, none⟩) := by
 refine c_call Tryd.func39 rfl rfl fun a hk => ?_
 have hk : Kn 3 [] a := hk
 have hm : Mem w0 Nob Y [] w0 := Mem.start rfl (by simp)
 refine cR0 ?_
 refine oA0 hk rfl rfl fun a hk => ?_
 refine cE0 ?_
 refine cR0 ?_
 refine o_alloc hk hm tz_97 rfl rfl fun a b1 w hk hm => ?_
 refine cE0 ?_
 refine cR0 ?_
 refine o_call hk cb_70 (default_ConsumerGroupHeartbeatResponse (hm.all _ (eA0 (i := 0) rfl)) rfl (Y := Yof w0 Y [.blk b1 [.int .i16 0, .int .i32 0, .int .i16 0, .pointer none, .pointer none, .int .i32 0, .int .i32 0, .pointer none, .map none] 97]) (yof_blk (i := 0) rfl)) ⟨rfl, trivial⟩ rfl fun v w a hR hk => ?_
 obtain ⟨hp, cs1, hl1, hb1⟩ := hR
 have hm := hm.write (i := 0) rfl hp hb1
 refine cE0 ?_
 refine cR0 ?_
 refine oA0 hk rfl rfl fun a hk => ?_
 refine cE0 ?_
 refine wp_ret ?_
 refine bT0 rfl hk rfl ?_
 exact ⟨hm.agr, _, rfl⟩
theorem maxVersion_ConsumerGroupHeartbeatResponse {w0 : World} {Y : Nat → Prop} {b : Nat} : Ret Tryd.prog 40 [.pointer (some ⟨b, 0, none⟩)] w0 fun v w' => Agr Nob w0 w' ∧ v = .int .i16 1 := by
 refine c_call Tryd.func40 rfl rfl fun a hk => ?_
 have hk : Kn 3 [(0, .pointer (some ⟨b, 0, none⟩))] a := hk
 have hm : Mem w0 Nob Y [] w0 := Mem.start rfl (by simp)
 refine cR0 ?_
 refine oA0 hk rfl rfl fun a hk => ?_
 refine cE0 ?_
 refine cR0 ?_
 refine oA0 hk rfl rfl fun a hk => ?_
 refine cE0 ?_
 refine wp_ret ?_
 refine bT0 rfl hk rfl ?_
 exact ⟨hm.agr, rfl⟩
theorem max_ConsumerGroupHeartbeatResponse {w0 : World} {Y : Nat → Prop} : Ret Tryd.prog 17 [] w0 fun v w' => Agr Nob w0 w' ∧ v = .int .i64 1 := by
 refine c_call Tryd.func17 rfl rfl fun a hk => ?_
 have hk : Kn 4 [] a := hk
 have hm : Mem w0 Nob Y [] w0 := Mem.start rfl (by simp)
 refine cR0 ?_
 refine oA0 hk rfl rfl fun a hk => ?_
 refine cE0 ?_
 refine cR0 ?_
 refine o_call hk cb_39 (newPtr_ConsumerGroupHeartbeatResponse (Y := Y)) trivial rfl fun v w a hR hk => ?_
 obtain ⟨hp, b0, rfl⟩ := hR
 have hm := hm.pure hp
 refine o_call hk cb_40 (maxVersion_ConsumerGroupHeartbeatResponse (Y := Y)) ⟨rfl, trivial⟩ rfl fun v w a hR hk => ?_
 obtain ⟨hp, rfl⟩ := hR
 have hm := hm.pure hp
 refine o_convInt (c := 1) hk un_38 ti_3 rfl rfl rfl fun a hk => ?_
 refine oA0 hk rfl rfl fun a hk => ?_
 refine cE0 ?_
 refine wp_ret ?_
 refine bT0 rfl hk rfl ?_
 exact ⟨hm.agr, rfl⟩
theorem doorD_ConsumerGroupHeartbeatResponse {w0 : World} {Y : Nat → Prop} {d : List UInt8} {dv ep : Value} {et : Nat} (k : Nat) (h1 : k ≤ 1) (hd : d.length ≤ 1000) (hD : Rep w0 Y (ddBs d) [dv]) (hG : Cel w0 Y 1 0 [.iface et ep]) :
  Ret Tryd.prog 18 [.int .i64 ((k : Nat) : Int), dv] w0 fun v w' => Agr Nob w0 w' ∧ ∃ c', v = .tuple #[.agg c'.toArray, .bool (rdo sch_ConsumerGroupHeartbeatResponse ((k : Nat) : Int) (decide (((k : Nat) : Int) ≥ 0)) d).isSome] ∧ Rep w' (fun b => b < w0.heap.size ∧ Y b) (ddT (tellO sch_ConsumerGroupHeartbeatResponse (rdo sch_ConsumerGroupHeartbeatResponse ((k : Nat) : Int) (decide (((k : Nat) : Int) ≥ 0)) d))) c' := by
 refine c_call Tryd.func18 rfl rfl fun a hk => ?_
 have hk : Kn 20 [(0, .int .i64 ((k : Nat) : Int)), (1, dv)] a := hk
 have hm : Mem w0 Nob Y [.rep (ddBs d) [dv], .cel 1 0 [.iface et ep]] w0 := Mem.start rfl (by simp only [List.forall_mem_cons, List.not_mem_nil, false_imp_iff, implies_true, and_true]; exact ⟨hD, hG⟩)
 refine cR0 ?_
 refine o_alloc (cs := zT) hk hm tz_27 rfl rfl fun a rb w hk hm => ?_
 refine oA0 hk rfl rfl fun a hk => ?_
 refine cE0 ?_
 refine cR0 ?_
 refine o_call hk cb_39 newPtrD_ConsumerGroupHeartbeatResponse trivial rfl fun v w1 a hR hk => ?_
 obtain ⟨ag, lt, rfl, hb⟩ := hR
 have hm := hm.newBlk ag lt hb
 obtain ⟨g, hg⟩ : ∃ g, g = w.heap.size := ⟨_, rfl⟩
 rw [← hg] at hk hm
 refine oA0 hk rfl rfl fun a hk => ?_
 refine cE0 ?_
 refine cR0 ?_
 refine oM0 hk rfl rfl fun a hk => ?_
 refine oM0 hk rfl rfl fun a hk => ?_
 refine o_convInt (c := ((k : Nat) : Int)) hk un_3 ti_38 rfl (by simp only [IntKind.wrap, IntKind.bits, IntKind.signed]; simp; omega) rfl fun a hk => ?_
 refine o_call hk cb_41 (setVersion_ConsumerGroupHeartbeatResponse (hm.all _ (eA0 (i := 0) rfl)) (hm.yofBlk (i := 0) rfl)) ⟨rfl, rfl, trivial⟩ rfl fun v w a hR hk => ?_
 obtain ⟨hp, hb1⟩ := hR
 have hm := hm.write (i := 0) rfl hp hb1
 refine cE0 ?_
 refine wp_seq ?_
 refine cR0 ?_
 refine oM0 hk rfl rfl fun a hk => ?_
 refine oM0 hk rfl rfl fun a hk => ?_
 have hm := hm.addNil 5 1
 refine o_append (i := 0) hk hm rt_22 rfl rfl rfl (src_bs te_22 (hm.rep (i := 3) rfl)) (room_len (by unfold room; omega)) (room_by (by unfold room; omega)) rfl fun a v1 w hk hm hnil => ?_
 have hm := hm.freezeBytes (i := 0) (s := d) rfl (Nat.zero_add _)
 refine o_call hk cb_42 (ReadFrom_ConsumerGroupHeartbeatResponse k h1 (hm.all _ (eA0 (i := 1) rfl)) (src_or (hm.rep (i := 0) rfl) hnil) (hm.yofBlk (i := 1) rfl) (hm.all _ (eA0 (i := 4) rfl) 0 _ rfl)) ⟨rfl, rfl, trivial⟩ rfl fun x w a hR hk => ?_
 obtain ⟨hp, hR⟩ := told_or hR
 rcases hR with ⟨q, hq, rfl, c', hb2, hR2⟩ | ⟨hq, rfl⟩
 ·have hm := hm.blkCall (i := 1) rfl hp hb2 hR2
  refine o_ifaceNe0 hk (show isErrTy Tryd.prog 44 = true by kernel_rfl) rfl rfl fun a hk => ?_
  refine cE0 ?_
  refine c_condF hk rfl ?_
  refine wp_skip ?_
  refine cT0 ?_
  refine cR0 ?_
  refine oM0 hk rfl rfl fun a hk => ?_
  have hm := hm.freezeBlk (i := 2) rfl id
  have hcel : Cel w _ g (0 + 1) c' := (show Cel w _ g 0 (.int .i16 ((k : Nat) : Int) :: c') from hm.all _ (eA0 (i := 2) rfl)).tl
  refine o_call hk cb_43 (tell_ConsumerGroupHeartbeatResponse hcel (hm.rep (i := 0) rfl) (rdo_fine rfl (by decide) hd hq)) ⟨rfl, trivial⟩ rfl fun v w a hR hk => ?_
  obtain ⟨hp2, c2, rfl, hR3⟩ := hR
  have hm := hm.result hp2 hR3
  obtain ⟨c1, c3, c4, c5, hc2⟩ := rep_T5 (hm.rep (i := 0) rfl)
  have hcl : c2.length = 5 := by rw [hc2]; rfl
  refine o_store (i := 4) (b := rb) (off := 0) (v := .agg c2.toArray) (vs := c2) (cs := zT) hk hm ts_27 rfl rfl (by simp [cellsOf]) hcl (rep_T_one (hm.rep (i := 0) rfl)) rfl (by rw [hcl]; exact Nat.le_refl 5) fun a w hk hm => ?_
  rw [spl_whole (by rw [hcl]; rfl)] at hm
  refine oA0 hk rfl rfl fun a hk => ?_
  refine cE0 ?_
  refine wp_ret ?_
  rw [hq]
  refine b_retCellTmp (i := 4) (cs := c2) rfl (by rw [hcl]; exact ts_27) hk hm rfl rfl rfl ⟨hm.agr, c2, rfl, hm.out (hm.rep (i := 0) rfl)⟩
 ·have hm : Mem w0 Nob Y [.blk rb zT 27] w := hm.rebuild (A := fun b => b = g) hp (fun b hb => by rw [hb]; simp [putAt, muts, Ent.mut]) (by simp [muts, Ent.mut]) (fun b hb => .inl (by simp only [muts, Ent.mut, List.append_nil, List.mem_singleton] at hb; rw [hb]; simp [putAt, muts, Ent.mut])) (by
   simp only [List.forall_mem_cons, List.not_mem_nil, false_imp_iff, implies_true, and_true]
   refine .inl ⟨by simp [putAt], fun b hb hbg => ?_⟩
   simp only [Ent.mut, List.mem_singleton] at hb
   have := hm.nodup
   simp [putAt, muts, Ent.mut] at this
   omega)
  refine o_ifaceNe1 hk (show isErrTy Tryd.prog 44 = true by kernel_rfl) rfl rfl fun a hk => ?_
  refine cE0 ?_
  refine c_condT hk rfl ?_
  refine cR0 ?_
  refine o_build (parts := []) (r := zT) hk tz_27 rfl fok_27 rfl rfl fun a hk => ?_
  refine o_store (i := 0) (b := rb) (off := 0) (v := .agg zT.toArray) (vs := zT) (cs := zT) hk hm ts_27 rfl rfl rfl rfl rfl rfl (Nat.le_refl 5) fun a w hk hm => ?_
  refine oA0 hk rfl rfl fun a hk => ?_
  refine cE0 ?_
  refine wp_ret ?_
  refine cQ0 ?_
  rw [hq]
  exact b_retCellTmp (i := 0) (cs := zT) rfl ts_27 hk hm rfl rfl rfl ⟨hm.agr, zT, rfl, rep_T_nil⟩
theorem doorDU_ConsumerGroupHeartbeatResponse {w0 : World} {Y : Nat → Prop} {d : List UInt8} {dv ep : Value} {et : Nat} (k : Nat) (h1 : k ≤ 1) (hd : d.length ≤ 1000) (hD : Rep w0 Y (ddBs d) [dv]) (hG : Cel w0 Y 1 0 [.iface et ep]) :
  Ret Tryd.prog 19 [.int .i64 ((k : Nat) : Int), dv] w0 fun v w' => Agr Nob w0 w' ∧ ∃ c', v = .tuple #[.agg c'.toArray, .bool (rdo sch_ConsumerGroupHeartbeatResponse ((k : Nat) : Int) (decide (((k : Nat) : Int) ≥ 0)) d).isSome] ∧ Rep w' (fun b => b < w0.heap.size ∧ Y b) (ddT (tellO sch_ConsumerGroupHeartbeatResponse (rdo sch_ConsumerGroupHeartbeatResponse ((k : Nat) : Int) (decide (((k : Nat) : Int) ≥ 0)) d))) c' := by
 refine c_call Tryd.func19 rfl rfl fun a hk => ?_
 have hk : Kn 20 [(0, .int .i64 ((k : Nat) : Int)), (1, dv)] a := hk
 have hm : Mem w0 Nob Y [.rep (ddBs d) [dv], .cel 1 0 [.iface et ep]] w0 := Mem.start rfl (by simp only [List.forall_mem_cons, List.not_mem_nil, false_imp_iff, implies_true, and_true]; exact ⟨hD, hG⟩)
 refine cR0 ?_
 refine o_alloc (cs := zT) hk hm tz_27 rfl rfl fun a rb w hk hm => ?_
 refine oA0 hk rfl rfl fun a hk => ?_
 refine cE0 ?_
 refine cR0 ?_
 refine o_call hk cb_39 newPtrD_ConsumerGroupHeartbeatResponse trivial rfl fun v w1 a hR hk => ?_
 obtain ⟨ag, lt, rfl, hb⟩ := hR
 have hm := hm.newBlk ag lt hb
 obtain ⟨g, hg⟩ : ∃ g, g = w.heap.size := ⟨_, rfl⟩
 rw [← hg] at hk hm
 refine oA0 hk rfl rfl fun a hk => ?_
 refine cE0 ?_
 refine cR0 ?_
 refine oM0 hk rfl rfl fun a hk => ?_
 refine oM0 hk rfl rfl fun a hk => ?_
 refine o_convInt (c := ((k : Nat) : Int)) hk un_3 ti_38 rfl (by simp only [IntKind.wrap, IntKind.bits, IntKind.signed]; simp; omega) rfl fun a hk => ?_
 refine o_call hk cb_41 (setVersion_ConsumerGroupHeartbeatResponse (hm.all _ (eA0 (i := 0) rfl)) (hm.yofBlk (i := 0) rfl)) ⟨rfl, rfl, trivial⟩ rfl fun v w a hR hk => ?_
 obtain ⟨hp, hb1⟩ := hR
 have hm := hm.write (i := 0) rfl hp hb1
 refine cE0 ?_
 refine wp_seq ?_
 refine cR0 ?_
 refine oM0 hk rfl rfl fun a hk => ?_
 refine oM0 hk rfl rfl fun a hk => ?_
 have hm := hm.addNil 5 1
 refine o_append (i := 0) hk hm rt_22 rfl rfl rfl (src_bs te_22 (hm.rep (i := 3) rfl)) (room_len (by unfold room; omega)) (room_by (by unfold room; omega)) rfl fun a v1 w hk hm hnil => ?_
 have hm := hm.freezeBytes (i := 0) (s := d) rfl (Nat.zero_add _)
 refine o_call hk cb_44 (ReadFromU_ConsumerGroupHeartbeatResponse k h1 (hm.all _ (eA0 (i := 1) rfl)) (src_or (hm.rep (i := 0) rfl) hnil) (hm.yofBlk (i := 1) rfl) (hm.all _ (eA0 (i := 4) rfl) 0 _ rfl)) ⟨rfl, rfl, trivial⟩ rfl fun x w a hR hk => ?_
 obtain ⟨hp, hR⟩ := told_or hR
 rcases hR with ⟨q, hq, rfl, c', hb2, hR2⟩ | ⟨hq, rfl⟩
 ·have hm := hm.blkCall (i := 1) rfl hp hb2 hR2
  refine o_ifaceNe0 hk (show isErrTy Tryd.prog 44 = true by kernel_rfl) rfl rfl fun a hk => ?_
  refine cE0 ?_
  refine c_condF hk rfl ?_
  refine wp_skip ?_
  refine cT0 ?_
  refine cR0 ?_
  refine oM0 hk rfl rfl fun a hk => ?_
  have hm := hm.freezeBlk (i := 2) rfl id
  have hcel : Cel w _ g (0 + 1) c' := (show Cel w _ g 0 (.int .i16 ((k : Nat) : Int) :: c') from hm.all _ (eA0 (i := 2) rfl)).tl
  refine o_call hk cb_43 (tell_ConsumerGroupHeartbeatResponse hcel (hm.rep (i := 0) rfl) (rdo_fine rfl (by decide) hd hq)) ⟨rfl, trivial⟩ rfl fun v w a hR hk => ?_
  obtain ⟨hp2, c2, rfl, hR3⟩ := hR
  have hm := hm.result hp2 hR3
  obtain ⟨c1, c3, c4, c5, hc2⟩ := rep_T5 (hm.rep (i := 0) rfl)
  have hcl : c2.length = 5 := by rw [hc2]; rfl
  refine o_store (i := 4) (b := rb) (off := 0) (v := .agg c2.toArray) (vs := c2) (cs := zT) hk hm ts_27 rfl rfl (by simp [cellsOf]) hcl (rep_T_one (hm.rep (i := 0) rfl)) rfl (by rw [hcl]; exact Nat.le_refl 5) fun a w hk hm => ?_
  rw [spl_whole (by rw [hcl]; rfl)] at hm
  refine oA0 hk rfl rfl fun a hk => ?_
  refine cE0 ?_
  refine wp_ret ?_
  rw [hq]
  refine b_retCellTmp (i := 4) (cs := c2) rfl (by rw [hcl]; exact ts_27) hk hm rfl rfl rfl ⟨hm.agr, c2, rfl, hm.out (hm.rep (i := 0) rfl)⟩
 ·have hm : Mem w0 Nob Y [.blk rb zT 27] w := hm.rebuild (A := fun b => b = g) hp (fun b hb => by rw [hb]; simp [putAt, muts, Ent.mut]) (by simp [muts, Ent.mut]) (fun b hb => .inl (by simp only [muts, Ent.mut, List.append_nil, List.mem_singleton] at hb; rw [hb]; simp [putAt, muts, Ent.mut])) (by
   simp only [List.forall_mem_cons, List.not_mem_nil, false_imp_iff, implies_true, and_true]
   refine .inl ⟨by simp [putAt], fun b hb hbg => ?_⟩
   simp only [Ent.mut, List.mem_singleton] at hb
   have := hm.nodup
   simp [putAt, muts, Ent.mut] at this
   omega)
  refine o_ifaceNe1 hk (show isErrTy Tryd.prog 44 = true by kernel_rfl) rfl rfl fun a hk => ?_
  refine cE0 ?_
  refine c_condT hk rfl ?_
  refine cR0 ?_
  refine o_build (parts := []) (r := zT) hk tz_27 rfl fok_27 rfl rfl fun a hk => ?_
  refine o_store (i := 0) (b := rb) (off := 0) (v := .agg zT.toArray) (vs := zT) (cs := zT) hk hm ts_27 rfl rfl rfl rfl rfl rfl (Nat.le_refl 5) fun a w hk hm => ?_
  refine oA0 hk rfl rfl fun a hk => ?_
  refine cE0 ?_
  refine wp_ret ?_
  refine cQ0 ?_
  rw [hq]
  exact b_retCellTmp (i := 0) (cs := zT) rfl ts_27 hk hm rfl rfl rfl ⟨hm.agr, zT, rfl, rep_T_nil⟩
end Go.Proofs.YthholdjpcdpceabDoor
