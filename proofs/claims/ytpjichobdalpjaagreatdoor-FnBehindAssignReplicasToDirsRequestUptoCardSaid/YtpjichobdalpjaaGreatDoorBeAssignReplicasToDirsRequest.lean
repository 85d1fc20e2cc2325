/- Walks of functions that the laws of this seat reach. No statement of the seat stands here. -/
import Derived.Test.YtpjichobdalpjaaGreatDoorL5
import Derived.Test.YtpjichobdalpjaaGreatDoorRows
import Derived.Test.YtpjichobdalpjaaGreatDoorFa
import Derived.Test.YtpjichobdalpjaaGreatDoorRkAssignReplicasToDirsRequest
import Derived.Test.YtpjichobdalpjaaGreatDoorApAssignReplicasToDirsRequest
namespace Go.Proofs.YtpjichobdalpjaaGreatDoor
open Go Go.Mk
theorem setVersion_AssignReplicasToDirsRequest {w0 : World} {Y : Nat → Prop} {g : Nat} {V : Int} {x0 : Value} {cs : List Value} (hb : w0.heap[g]? = some (.cells (x0 :: cs).toArray 153 (0, 0))) (hg : Y g) : Ret Tryz.prog 79 [.pointer (some ⟨g, 0, none⟩), .int .i16 V] w0 fun _ w' => Agr (fun k => k = g) w0 w' ∧ w'.heap[g]? = some (.cells (.int .i16 V :: cs).toArray 153 (0, 0)) := by
  refine c_call Tryz.func79 rfl rfl fun a hk => ?_
  have hk : Kn 8 [(0, .pointer (some ⟨g, 0, none⟩)), (1, .int .i16 V)] a := hk
  have hm : Mem w0 (fun k => k = g) Y [.blk g (x0 :: cs) 153] w0 := Mem.startBlk hb hg rfl (by simp)
  refine c_reg ?_
  refine o_move hk rfl rfl fun a hk => ?_
  refine o_move hk rfl rfl fun a hk => ?_
  refine o_nilCheck hk rfl rfl fun a hk => ?_
  refine o_fieldAddr hk fo_153_0 rfl rfl fun a hk => ?_
  refine o_store (i := 0) hk hm ts_50 rfl rfl rfl rfl rfl rfl (Nat.succ_le_succ (Nat.zero_le _)) fun a w hk hm => ?_
  refine c_endQ ?_
  refine b_endNone rfl hk ?_
  have hz := hm.all _ (entAt_mem (i := 0) rfl)
  simp only [Ent.holds] at hz
  exact ⟨hm.agr, hz⟩
theorem list_cells5 {cs : List Value} (h : cs.length = 5) : ∃ x0 x1 x2 x3 x4, cs = [x0, x1, x2, x3, x4] := by
  match cs, h with
  | [x0, x1, x2, x3, x4], _ => exact ⟨x0, x1, x2, x3, x4, rfl⟩
theorem default_AssignReplicasToDirsRequest {w0 : World} {Y : Nat → Prop} {g : Nat} {cs : List Value} (hb : w0.heap[g]? = some (.cells cs.toArray 153 (0, 0))) (hl : cs.length = 5) (hg : Y g) : Ret Tryz.prog 140 [.pointer (some ⟨g, 0, none⟩)] w0 fun _ w' => Agr (fun k => k = g) w0 w' ∧ ∃ cs' : List Value, cs'.length = 5 ∧ w'.heap[g]? = some (.cells cs'.toArray 153 (0, 0)) := by
  obtain ⟨x0, x1, x2, x3, x4, rfl⟩ := list_cells5 hl
  refine c_call Tryz.func140 rfl rfl fun a hk => ?_
  have hk : Kn 5 [(0, .pointer (some ⟨g, 0, none⟩))] a := hk
  have hm : Mem w0 (fun k => k = g) Y [.blk g [x0, x1, x2, x3, x4] 153] w0 := Mem.startBlk hb hg rfl (by simp)
  refine c_reg ?_
  refine o_move hk rfl rfl fun a hk => ?_
  refine o_nilCheck hk rfl rfl fun a hk => ?_
  refine o_fieldAddr hk fo_153_2 rfl rfl fun a hk => ?_
  refine o_store (i := 0) hk hm ts_2 rfl rfl rfl rfl rfl rfl (Nat.le_of_ble_eq_true rfl) fun a w hk hm => ?_
  refine c_endQ ?_
  refine b_endNone rfl hk ?_
  have hz := hm.all _ (entAt_mem (i := 0) rfl)
  simp only [Ent.holds] at hz
  exact ⟨hm.agr, _, rfl, hz⟩
theorem newPtr_AssignReplicasToDirsRequest {w0 : World} {Y : Nat → Prop} : Ret Tryz.prog 76 [] w0 fun v w' => Agr Nob w0 w' ∧ ∃ b, v = .pointer (some ⟨b, 0, none⟩) := by
  refine c_call Tryz.func76 rfl rfl fun a hk => ?_
  have hk : Kn 3 [] a := hk
  have hm : Mem w0 Nob Y [] w0 := Mem.start rfl (by simp)
  refine c_region ?_
  refine o_assign hk rfl rfl fun a hk => ?_
  refine c_end ?_
  refine c_region ?_
  refine o_alloc hk hm tz_153 rfl rfl fun a b1 w hk hm => ?_
  refine c_end ?_
  refine c_region ?_
  refine o_call hk cb_140 (default_AssignReplicasToDirsRequest (hm.all _ (entAt_mem (i := 0) rfl)) rfl (Y := Yof w0 Y [.blk b1 [.int .i16 0, .int .i32 0, .int .i64 0, .slice none 0 0, .map none] 153]) (yof_blk (i := 0) rfl)) ⟨rfl, trivial⟩ rfl fun v w a hR hk => ?_
  obtain ⟨hp, cs1, hl1, hb1⟩ := hR
  have hm := hm.write (i := 0) rfl hp hb1
  refine c_end ?_
  refine c_region ?_
  refine o_assign hk rfl rfl fun a hk => ?_
  refine c_end ?_
  refine wp_ret ?_
  refine b_retTmp rfl hk rfl ?_
  exact ⟨hm.agr, _, rfl⟩
theorem maxVersion_AssignReplicasToDirsRequest {w0 : World} {Y : Nat → Prop} {b : Nat} : Ret Tryz.prog 77 [.pointer (some ⟨b, 0, none⟩)] w0 fun v w' => Agr Nob w0 w' ∧ v = .int .i16 0 := by
  refine c_call Tryz.func77 rfl rfl fun a hk => ?_
  have hk : Kn 3 [(0, .pointer (some ⟨b, 0, none⟩))] a := hk
  have hm : Mem w0 Nob Y [] w0 := Mem.start rfl (by simp)
  refine c_region ?_
  refine o_assign hk rfl rfl fun a hk => ?_
  refine c_end ?_
  refine c_region ?_
  refine o_assign hk rfl rfl fun a hk => ?_
  refine c_end ?_
  refine wp_ret ?_
  refine b_retTmp rfl hk rfl ?_
  exact ⟨hm.agr, rfl⟩
theorem max_AssignReplicasToDirsRequest {w0 : World} {Y : Nat → Prop} : Ret Tryz.prog 30 [] w0 fun v w' => Agr Nob w0 w' ∧ v = .int .i64 0 := by
  refine c_call Tryz.func30 rfl rfl fun a hk => ?_
  have hk : Kn 4 [] a := hk
  have hm : Mem w0 Nob Y [] w0 := Mem.start rfl (by simp)
  refine c_region ?_
  refine o_assign hk rfl rfl fun a hk => ?_
  refine c_end ?_
  refine c_region ?_
  refine o_call hk cb_76 (newPtr_AssignReplicasToDirsRequest (Y := Y)) trivial rfl fun v w a hR hk => ?_
  obtain ⟨hp, b0, rfl⟩ := hR
  have hm := hm.pure hp
  refine o_call hk cb_77 (maxVersion_AssignReplicasToDirsRequest (Y := Y)) ⟨rfl, trivial⟩ rfl fun v w a hR hk => ?_
  obtain ⟨hp, rfl⟩ := hR
  have hm := hm.pure hp
  refine o_convInt (c := 0) hk un_50 ti_3 rfl rfl rfl fun a hk => ?_
  refine o_assign hk rfl rfl fun a hk => ?_
  refine c_end ?_
  refine wp_ret ?_
  refine b_retTmp rfl hk rfl ?_
  exact ⟨hm.agr, rfl⟩
theorem oks_AssignReplicasToDirsRequest : (List.range 1).all (fun k => okRFs sch_AssignReplicasToDirsRequest ((k : Nat) : Int) (decide (((k : Nat) : Int) ≥ 0)) && thkP sch_AssignReplicasToDirsRequest ((k : Nat) : Int) (decide (((k : Nat) : Int) ≥ 0))) = true := by kernel_rfl
theorem behind_c_AssignReplicasToDirsRequest {w0 : World} {Y : Nat → Prop} {t : T} {dv sv gv : Value} {d : List UInt8} (k : Nat) (h1 : k ≤ 0) (hsn : t.sane = true) (hwd : t.wide = true) (hD : Rep w0 Y (ddBs d) [dv]) (hS : Rep w0 Y (ddBs (partP sch_AssignReplicasToDirsRequest ((k : Nat) : Int) (decide (((k : Nat) : Int) ≥ 0)) t)) [sv]) (hroom : d.length + (partP sch_AssignReplicasToDirsRequest ((k : Nat) : Int) (decide (((k : Nat) : Int) ≥ 0)) t).length ≤ room) (hG : Cel w0 Y 1 0 [gv]) :
    Ret Tryz.prog 32 [.int .i64 ((k : Nat) : Int), dv, sv] w0 fun v w' => ∃ r, v = .tuple #[r, .bool true] ∧ RowTo w0 5 1 (.slice none 0 0) (d ++ partP sch_AssignReplicasToDirsRequest ((k : Nat) : Int) (decide (((k : Nat) : Int) ≥ 0)) t).length (bv (d ++ partP sch_AssignReplicasToDirsRequest ((k : Nat) : Int) (decide (((k : Nat) : Int) ≥ 0)) t)) r w' := by
  have hq := Ea.all_range oks_AssignReplicasToDirsRequest (k := k) (by omega)
  rw [Bool.and_eq_true] at hq
  have hpos := part_pos (fs := sch_AssignReplicasToDirsRequest) rfl hq.2 t
  refine c_call Tryz.func32 rfl rfl fun a hk => ?_
  have hk : Kn 23 [(0, .int .i64 ((k : Nat) : Int)), (1, dv), (2, sv)] a := hk
  have hm : Mem w0 Nob Y [.rep (ddBs d) [dv], .rep (ddBs (partP sch_AssignReplicasToDirsRequest ((k : Nat) : Int) (decide (((k : Nat) : Int) ≥ 0)) t)) [sv], .cel 1 0 [gv]] w0 := Mem.start rfl (by simp only [List.forall_mem_cons, List.not_mem_nil, false_imp_iff, implies_true, and_true]; exact ⟨hD, hS, hG⟩)
  refine c_region ?_
  refine o_assign hk rfl rfl fun a hk => ?_
  refine o_assign hk rfl rfl fun a hk => ?_
  refine c_end ?_
  refine c_region ?_
  refine o_call hk cb_76 newPtrD_AssignReplicasToDirsRequest trivial rfl fun v w a hR hk => ?_
  obtain ⟨ag, lt, rfl, hb⟩ := hR
  have hm := hm.newBlk ag lt hb
  obtain ⟨g, hg⟩ : ∃ g, g = w0.heap.size := ⟨_, rfl⟩
  rw [← hg] at hk hm
  refine o_assign hk rfl rfl fun a hk => ?_
  refine c_end ?_
  refine c_region ?_
  refine o_move hk rfl rfl fun a hk => ?_
  refine o_move hk rfl rfl fun a hk => ?_
  refine o_convInt (c := ((k : Nat) : Int)) hk un_3 ti_50 rfl (by simp only [IntKind.wrap, IntKind.bits, IntKind.signed]; simp; omega) rfl fun a hk => ?_
  refine o_call hk cb_79 (setVersion_AssignReplicasToDirsRequest (hm.all _ (entAt_mem (i := 0) rfl)) (hm.yofBlk (i := 0) rfl)) ⟨rfl, rfl, trivial⟩ rfl fun v w a hR hk => ?_
  obtain ⟨hp, hb1⟩ := hR
  have hm := hm.write (i := 0) rfl hp hb1
  refine c_end ?_
  refine wp_seq ?_
  refine c_region ?_
  refine o_move hk rfl rfl fun a hk => ?_
  refine o_move hk rfl rfl fun a hk => ?_
  have hm := hm.addNil 5 1
  refine o_append (i := 0) hk hm rt_22 rfl rfl rfl (src_bs te_22 (hm.rep (i := 3) rfl)) (room_len (by omega)) (room_by (by omega)) rfl fun a v1 w hk hm _ => ?_
  have hm := hm.freezeBytes (i := 0) (s := partP sch_AssignReplicasToDirsRequest ((k : Nat) : Int) (decide (((k : Nat) : Int) ≥ 0)) t) rfl (Nat.zero_add _)
  refine o_call hk cb_80 (ReadFrom_AssignReplicasToDirsRequest k h1 (hm.all _ (entAt_mem (i := 1) rfl)) (src_of_bs (hm.rep (i := 0) rfl) hpos) (hm.yofBlk (i := 1) rfl) (hm.all _ (entAt_mem (i := 4) rfl) 0 _ rfl)) ⟨rfl, rfl, trivial⟩ rfl fun x w a hR hk => ?_
  obtain ⟨hp, rfl, c', hb2, hR2⟩ := told_written rfl hq.1 rfl hsn hwd hR
  have hm := hm.blkCall (i := 1) rfl hp hb2 hR2
  refine o_ifaceNe0 hk (show isErrTy Tryz.prog 59 = true by kernel_rfl) rfl rfl fun a hk => ?_
  refine c_end ?_
  refine c_condF hk rfl ?_
  refine wp_skip ?_
  refine c_then ?_
  refine c_region ?_
  refine o_move hk rfl rfl fun a hk => ?_
  refine o_move hk rfl rfl fun a hk => ?_
  have hm := hm.freezeBlk (i := 2) rfl id
  have hm := hm.addNil 5 1
  refine o_append (i := 0) hk hm rt_22 rfl rfl rfl (src_bs te_22 (hm.rep (i := 4) rfl)) (room_len (by omega)) (room_by (by omega)) rfl fun a v2 w hk hm _ => ?_
  have hpt := tagged_part sch_AssignReplicasToDirsRequest ((k : Nat) : Int) (decide (((k : Nat) : Int) ≥ 0)) t
  refine o_call hk cb_81 (appendTo_AssignReplicasToDirsRequest (t := tagged (decide (((k : Nat) : Int) ≥ 0)) t) ((k : Nat) : Int) (by omega) (by omega) (hm.row (i := 0) rfl) (fun _ hv => hm.yofRow (i := 0) rfl hv) (tagged_sane hsn) (hm.all _ (entAt_mem (i := 3) rfl)) (hm.rep (i := 1) rfl) (by rw [hpt]; omega)) ⟨rfl, rfl, trivial⟩ rfl fun v3 w a hR hk => ?_
  have hm := hm.rowCall (i := 0) rfl hR
  refine o_assign hk rfl rfl fun a hk => ?_
  refine o_assign hk rfl rfl fun a hk => ?_
  refine c_end ?_
  refine wp_ret ?_
  refine b_retTmp2 rfl hk rfl rfl ?_
  have hr := hm.rowOut (i := 0) rfl
  rw [hpt, Nat.zero_add, List.nil_append, ← List.length_append, ← bv_append] at hr
  exact ⟨_, rfl, hr⟩
end Go.Proofs.YtpjichobdalpjaaGreatDoor
