/- Walks of functions that the laws of this seat reach. No statement of the seat stands here. -/
import Derived.Test.YtpjichobdalpjaaGreatDoorL5
import Derived.Test.YtpjichobdalpjaaGreatDoorRows
import Derived.Test.YtpjichobdalpjaaGreatDoorFa
import Derived.Test.YtpjichobdalpjaaGreatDoorBeAssignReplicasToDirsRequest
import Derived.Test.YtpjichobdalpjaaGreatDoorSxAssignReplicasToDirsRequest
namespace Go.Proofs.YtpjichobdalpjaaGreatDoor
open Go Go.Mk
theorem law_AssignReplicasToDirsRequest {w0 : World} {Y : Nat → Prop} {t : T} {ct : List Value} {d : List UInt8} {pd : Option Addr} {cd : Nat} {gv : Value} (n : Nat) (hn : n < 256) (hD : Rep w0 Y (ddBs d) [.slice pd d.length cd]) (hT : Rep w0 Y (ddT t) ct) (hsn : t.sane = true) (hwd : t.wide = true) (hroom : ∀ V : Int, 0 ≤ V → (partP sch_AssignReplicasToDirsRequest V (decide (V ≥ 0)) t).length + 1000 ≤ room) (hG : Cel w0 Y 1 0 [gv]) : Ret Tryz.prog 7 [.int .u8 (n : Int), .slice pd d.length cd, .agg ct.toArray] w0 fun v w' => Agr Nob w0 w' ∧ v = .bool true := by
  obtain ⟨pst, capst, pt, capt, put, caput, rfl⟩ := rep_T7 hT
  refine c_call Tryz.func7 rfl rfl fun a hk => ?_
  have hk : Kn 52 [(0, .int .u8 (n : Int)), (1, .slice pd d.length cd), (2, .agg #[.int .i64 t.n, .slice pst t.s.length capst, .bool t.z, .slice pt t.l.length capt, .slice put t.u.length caput])] a := hk
  have hm : Mem w0 Nob Y [.rep (ddBs d) [.slice pd d.length cd], .rep (ddT t) [.int .i64 t.n, .slice pst t.s.length capst, .bool t.z, .slice pt t.l.length capt, .slice put t.u.length caput], .cel 1 0 [gv]] w0 := Mem.start rfl (by simp only [List.forall_mem_cons, List.not_mem_nil, false_imp_iff, implies_true, and_true]; exact ⟨hD, hT, hG⟩)
  refine c_region ?_
  refine o_box hk hm rfl rfl rfl fun a b1 w hk hm => ?_
  refine o_assign hk rfl rfl fun a hk => ?_
  refine c_end ?_
  refine wp_seq ?_
  refine c_region ?_
  refine o_move hk rfl rfl fun a hk => ?_
  refine o_lenSlice hk te_22 rfl rfl fun a hk => ?_
  refine o_icmp hk rfl rfl rfl rfl fun a hk => ?_
  refine o_move hk rfl rfl fun a hk => ?_
  rcases Bool.eq_false_or_eq_true (decide ((((d.length : Nat) : Int) : Int) > 2147483647)) with hb2 | hb2
  · rw [hb2] at hk
    refine o_skipV hk ⟨_, _, _, _, rfl, rfl, rfl, nb_tf⟩ rfl rfl fun a hk => ?_
    refine o_skipV hk ⟨_, _, _, _, rfl, rfl, rfl, nb_tf⟩ rfl rfl fun a hk => ?_
    refine o_skipV hk ⟨_, _, _, _, rfl, rfl, rfl, nb_tf⟩ rfl rfl fun a hk => ?_
    refine o_pick hk rfl rfl rfl rfl rfl fun a hk => ?_
    refine c_end ?_
    refine c_condT hk rfl ?_
    refine c_region ?_
    refine o_assign hk rfl rfl fun a hk => ?_
    refine c_end ?_
    refine wp_ret ?_
    refine c_thenRet ?_
    refine b_retTmp rfl hk rfl ?_
    exact ⟨hm.agr, rfl⟩
  · rw [hb2] at hk
    refine o_want (o' := _) hk ⟨_, _, _, rfl, rfl, rfl⟩ rfl ?_
    refine o_loadN (cs := [.int .i64 t.n, .slice pst t.s.length capst, .bool t.z, .slice pt t.l.length capt, .slice put t.u.length caput]) hk ts_26 rfl (hm.cells_blk (i := 0) rfl rfl) rfl fun a hk => ?_
    refine o_want (o' := _) hk ⟨_, _, _, rfl, rfl, rfl⟩ rfl ?_
    refine o_call hk cb_11 (fits1_c (hm.rep (i := 2) rfl)) ⟨rfl, trivial⟩ rfl fun v w a hR hk => ?_
    obtain ⟨hp, rfl⟩ := hR
    have hm := hm.pure hp
    refine o_want (o' := _) hk ⟨_, _, _, rfl, rfl, rfl⟩ rfl ?_
    refine o_not hk rfl rfl fun a hk => ?_
    refine o_pick hk rfl rfl rfl rfl rfl fun a hk => ?_
    refine c_end ?_
    refine c_cond hk rfl (fun hc => ?_) (fun hc => ?_)
    · refine c_region ?_
      refine o_assign hk rfl rfl fun a hk => ?_
      refine c_end ?_
      refine wp_ret ?_
      refine c_thenRet ?_
      refine b_retTmp rfl hk rfl ?_
      exact ⟨hm.agr, rfl⟩
    · refine wp_skip ?_
      refine c_then ?_
      refine c_region ?_
      refine o_call hk cb_30 (max_AssignReplicasToDirsRequest (Y := Y)) trivial rfl fun v w a hR hk => ?_
      obtain ⟨hp, rfl⟩ := hR
      have hm := hm.pure hp
      refine o_assign hk rfl rfl fun a hk => ?_
      refine c_end ?_
      refine wp_seq ?_
      refine c_region ?_
      refine o_move hk rfl rfl fun a hk => ?_
      refine o_icmp hk rfl rfl rfl rfl fun a hk => ?_
      refine c_end ?_
      refine c_cond hk rfl (fun hc => ?_) (fun hc => ?_)
      · refine c_region ?_
        refine o_assign hk rfl rfl fun a hk => ?_
        refine c_end ?_
        refine wp_ret ?_
        refine c_thenRet ?_
        refine b_retTmp rfl hk rfl ?_
        exact absurd hc (by decide)
      · refine wp_skip ?_
        refine c_then ?_
        refine c_region ?_
        refine o_call hk cb_31 (msg_c_AssignReplicasToDirsRequest (Y := Yof w0 Y [.blk b1 [.int .i64 t.n, .slice pst t.s.length capst, .bool t.z, .slice pt t.l.length capt, .slice put t.u.length caput] 26, .rep (ddBs d) [.slice pd d.length cd], .rep (ddT t) [.int .i64 t.n, .slice pst t.s.length capst, .bool t.z, .slice pt t.l.length capt, .slice put t.u.length caput], .cel 1 0 [gv]])) trivial rfl fun v w a hR hk => ?_
        obtain ⟨hp, pm, capm, rfl, hR⟩ := hR
        have hm := hm.result hp hR
        refine o_move hk rfl rfl fun a hk => ?_
        refine o_move hk rfl rfl fun a hk => ?_
        refine o_call hk cb_14 (version_c (Y := Y) hn (by decide) (by decide)) ⟨rfl, rfl, trivial⟩ rfl fun v w a hR hk => ?_
        obtain ⟨hp, rfl⟩ := hR
        have hm := hm.pure hp
        obtain ⟨k, hV⟩ : ∃ k : Nat, (k : Int) = (n : Int) % ((0 : Int) + 1) := ⟨((n : Int) % ((0 : Int) + 1)).toNat, by omega⟩
        rw [← hV] at hk
        have hV1 : k ≤ 0 := by omega
        have hro := hroom (k : Int) (by omega)
        refine o_alloc hk hm tz_31 rfl rfl fun a b3 w hk hm => ?_
        refine o_store (i := 0) hk hm ts_31 rfl rfl rfl rfl rfl rfl (Nat.le_of_ble_eq_true rfl) fun a w hk hm => ?_
        refine o_assign hk rfl rfl fun a hk => ?_
        refine c_end ?_
        refine wp_seq ?_
        refine c_region ?_
        refine o_move hk rfl rfl fun a hk => ?_
        refine o_lenSlice hk te_22 rfl rfl fun a hk => ?_
        refine o_icmp hk rfl rfl rfl rfl fun a hk => ?_
        refine c_end ?_
        refine c_cond hk rfl (fun hc => ?_) (fun hc => ?_)
        · refine c_region ?_
          refine o_assign hk rfl rfl fun a hk => ?_
          refine c_end ?_
          refine wp_ret ?_
          refine c_thenRet ?_
          refine b_retTmp rfl hk rfl ?_
          exact ⟨hm.agr, rfl⟩
        · have hd1000 : d.length ≤ 1000 := by have := of_decide_eq_false hc; omega
          refine wp_skip ?_
          refine c_then ?_
          refine c_region ?_
          refine o_loadN (cs := [.slice pm sch_AssignReplicasToDirsRequest.length capm, .int .i64 0]) hk ts_31 rfl (hm.cells_blk (i := 0) rfl rfl) rfl fun a hk => ?_
          refine o_move hk rfl rfl fun a hk => ?_
          refine o_loadN (cs := [.int .i64 t.n, .slice pst t.s.length capst, .bool t.z, .slice pt t.l.length capt, .slice put t.u.length caput]) hk ts_26 rfl (hm.cells_blk (i := 2) rfl rfl) rfl fun a hk => ?_
          refine o_call hk cb_16 (write_c (flex := (decide (((k : Nat) : Int) ≥ 0))) 0 ((k : Nat) : Int) (partx_c (fs := sch_AssignReplicasToDirsRequest) rfl (fun _ => rfl) (by decide)) (by simp) (hm.rep (i := 1) rfl) (hm.rep (i := 4) rfl) hsn (Nat.le_trans (Nat.le_add_right _ _) hro)) ⟨rfl, rfl, rfl, trivial⟩ rfl fun v4 w a hR hk => ?_
          have hm := hm.rowNew hR
          refine o_assign hk rfl rfl fun a hk => ?_
          refine c_end ?_
          refine c_region ?_
          refine o_move hk rfl rfl fun a hk => ?_
          refine o_move hk rfl rfl fun a hk => ?_
          refine o_move hk rfl rfl fun a hk => ?_
          obtain ⟨pz8, cz8, rfl⟩ := row_form (hm.row (i := 0) rfl)
          have hm := hm.freezeBytes (i := 0) rfl rfl
          refine o_call hk cb_32 (behind_c_AssignReplicasToDirsRequest k hV1 hsn hwd (hm.rep (i := 4) rfl) (hm.rep (i := 0) rfl) (by omega) (hm.all _ (entAt_mem (i := 6) rfl))) ⟨rfl, rfl, rfl, trivial⟩ rfl fun vq w a hR hk => ?_
          obtain ⟨rb, rfl, hR⟩ := hR
          have hm := hm.rowNew hR
          refine o_move hk rfl rfl fun a hk => ?_
          refine o_extract hk rfl rfl rfl fun a hk => ?_
          refine o_extract hk rfl rfl rfl fun a hk => ?_
          refine o_assign hk rfl rfl fun a hk => ?_
          refine o_assign hk rfl rfl fun a hk => ?_
          refine c_end ?_
          refine c_region ?_
          refine o_move hk rfl rfl fun a hk => ?_
          refine o_move hk rfl rfl fun a hk => ?_
          refine o_want (o' := _) hk ⟨_, _, _, rfl, rfl, rfl⟩ rfl ?_
          refine o_move hk rfl rfl fun a hk => ?_
          refine o_want (o' := _) hk ⟨_, _, _, rfl, rfl, rfl⟩ rfl ?_
          refine o_buildSlice0 hk hm te_22 ts_5 rfl fun a b5 w hk hm => ?_
          have hm := hm.blkRow (i := 0) (n := 0) (sz := 1) rfl rfl (by decide)
          have hm : Mem w0 Nob Y [.row 5 1 (.slice (some ⟨b5, 0, none⟩) 0 0) (([] : List UInt8).length) (bv []), .row 5 1 rb ((d ++ partP sch_AssignReplicasToDirsRequest ((k : Nat) : Int) (decide (((k : Nat) : Int) ≥ 0)) t).length) (bv (d ++ partP sch_AssignReplicasToDirsRequest ((k : Nat) : Int) (decide (((k : Nat) : Int) ≥ 0)) t)), .rep (ddBs (partP sch_AssignReplicasToDirsRequest ((k : Nat) : Int) (decide (((k : Nat) : Int) ≥ 0)) t)) [.slice pz8 ((partP sch_AssignReplicasToDirsRequest ((k : Nat) : Int) (decide (((k : Nat) : Int) ≥ 0)) t).length) cz8], .blk b3 [.slice pm sch_AssignReplicasToDirsRequest.length capm, .int .i64 0] 31, .rep (.sl false 8 (sch_AssignReplicasToDirsRequest.map ddFd)) [.slice pm sch_AssignReplicasToDirsRequest.length capm], .blk b1 [.int .i64 t.n, .slice pst t.s.length capst, .bool t.z, .slice pt t.l.length capt, .slice put t.u.length caput] 26, .rep (ddBs d) [.slice pd d.length cd], .rep (ddT t) [.int .i64 t.n, .slice pst t.s.length capst, .bool t.z, .slice pt t.l.length capt, .slice put t.u.length caput], .cel 1 0 [gv]] w := hm
          refine o_want (o' := _) hk ⟨_, _, _, rfl, rfl, rfl⟩ rfl ?_
          refine o_move hk rfl rfl fun a hk => ?_
          refine o_want (o' := _) hk ⟨_, _, _, rfl, rfl, rfl⟩ rfl ?_
          refine o_append (i := 0) hk hm rt_22 rfl rfl rfl (src_bs te_22 (hm.rep (i := 6) rfl)) (room_len (by rw [List.length_nil]; unfold room; omega)) (room_by (by rw [List.length_nil]; unfold room; omega)) rfl fun a v6 w hk hm _ => ?_
          have hm := hm.rowEq (i := 0) (n' := (([] : List UInt8) ++ d).length) (xs' := bv (([] : List UInt8) ++ d)) rfl List.length_append.symm (bv_append _ _).symm
          refine o_want (o' := _) hk ⟨_, _, _, rfl, rfl, rfl⟩ rfl ?_
          refine o_move hk rfl rfl fun a hk => ?_
          refine o_want (o' := _) hk ⟨_, _, _, rfl, rfl, rfl⟩ rfl ?_
          refine o_append (i := 0) hk hm rt_22 rfl rfl rfl (src_bs te_22 (hm.rep (i := 2) rfl)) (room_len (by simp only [List.nil_append, List.length_append, List.length_nil]; omega)) (room_by (by simp only [List.nil_append, List.length_append, List.length_nil]; omega)) rfl fun a v7 w hk hm _ => ?_
          have hm := hm.rowEq (i := 0) (n' := (([] : List UInt8) ++ d ++ (partP sch_AssignReplicasToDirsRequest ((k : Nat) : Int) (decide (((k : Nat) : Int) ≥ 0)) t)).length) (xs' := bv (([] : List UInt8) ++ d ++ (partP sch_AssignReplicasToDirsRequest ((k : Nat) : Int) (decide (((k : Nat) : Int) ≥ 0)) t))) rfl List.length_append.symm (bv_append _ _).symm
          refine o_want (o' := _) hk ⟨_, _, _, rfl, rfl, rfl⟩ rfl ?_
          obtain ⟨pz0, cz0, rfl⟩ := row_form (hm.row (i := 1) rfl)
          have hm := hm.freezeBytes (i := 1) rfl rfl
          have hm := hm.rowEq (i := 0) (n' := (d ++ partP sch_AssignReplicasToDirsRequest ((k : Nat) : Int) (decide (((k : Nat) : Int) ≥ 0)) t).length) (xs' := bv (d ++ partP sch_AssignReplicasToDirsRequest ((k : Nat) : Int) (decide (((k : Nat) : Int) ≥ 0)) t)) rfl rfl rfl
          obtain ⟨pz1, cz1, rfl⟩ := row_form (hm.row (i := 0) rfl)
          have hm := hm.freezeBytes (i := 0) rfl rfl
          refine o_call hk cb_26 (same_c (hm.rep (i := 1) rfl) (hm.rep (i := 0) rfl) (by have := hroom 0; unfold room at hro; rw [List.length_append]; omega)) ⟨rfl, rfl, trivial⟩ rfl fun v w a hR hk => ?_
          obtain ⟨hp, rfl⟩ := hR
          have hm := hm.pure hp
          refine o_pick hk rfl rfl rfl rfl rfl fun a hk => ?_
          refine o_assign hk rfl rfl fun a hk => ?_
          refine c_end ?_
          refine wp_ret ?_
          refine b_retTmp rfl hk rfl ?_
          exact ⟨hm.agr, by first | (rw [decide_eq_true rfl]; done) | (rw [decide_eq_true rfl]; rfl) | simp⟩
end Go.Proofs.YtpjichobdalpjaaGreatDoor
