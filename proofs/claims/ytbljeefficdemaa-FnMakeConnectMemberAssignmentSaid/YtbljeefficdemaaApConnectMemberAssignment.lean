/- Walks of functions that the laws of this seat reach. No statement of the seat stands here. -/
import Derived.Test.YtbljeefficdemaaMkOpen
import Derived.Test.YtbljeefficdemaaRows
import Derived.Test.YtbljeefficdemaaFa
import Derived.Test.YtbljeefficdemaaKb
import Derived.Test.YtbljeefficdemaaSch
namespace Go.Proofs.Ytbljeefficdemaa
open Go Go.Mk
theorem appendTo_ConnectMemberAssignment {w0 : World} {Y : Nat → Prop} {t : T} {v : Value} {n g : Nat} {V : Int} {c xs : List Value} (hrow : w0.ownsRow 0 5 1 v n xs) (hY : ∀ k, v.ownBlock = some k → Y k) (hV : 0 ≤ V)
    (hC : Cel w0 Y g 0 (.int .i16 V :: c)) (hR : Rep w0 Y (wrS sch_ConnectMemberAssignment false V false t) c) (hroom : n + (fixed V 2 ++ partP sch_ConnectMemberAssignment V false t).length ≤ room) :
    Ret Try.prog 32 [.pointer (some ⟨g, 0, none⟩), v] w0 fun v' w' => RowTo w0 5 1 v (n + (fixed V 2 ++ partP sch_ConnectMemberAssignment V false t).length) (xs ++ bv (fixed V 2 ++ partP sch_ConnectMemberAssignment V false t)) v' w' := by
  refine c_call Try.func32 rfl rfl fun a hk => ?_
  have hk : Kn 168 [(0, .pointer (some ⟨g, 0, none⟩)), (1, v)] a := hk
  have hL := rep_agg_inv hR
  replace hL : RepL _ _ [wrF (.mk 2 0 (-1) (-1) (-1) 0 0 []) false V false (t.at_ 0), wrF (.mk 8 0 (-1) (-1) (-1) 0 0 []) false V false (t.at_ 1), wrF (.mk 8 0 (-1) (-1) (-1) 0 0 []) false V false (t.at_ 2), wrF (.mk 4 0 (-1) (-1) (-1) 0 0 []) false V false (t.at_ 3), wrF (.mk 11 0 (-1) (-1) (-1) 0 10 sch_sConnectMemberAssignmentAssignment) false V false (t.at_ 4), wrF (.mk 11 1 (-1) (-1) (-1) 0 10 sch_sConnectMemberAssignmentRevoked) false V false (t.at_ 5), wrF (.mk 3 1 (-1) (-1) (-1) 0 0 []) false V false (t.at_ 6)] c := hL
  obtain ⟨x0, xr0, rfl, hx0, hL⟩ := hL.un1 (one1_wrF rfl (by decide))
  obtain ⟨x1, xr1, rfl, hx1, hL⟩ := hL.un1 (one1_wrF rfl (by decide))
  obtain ⟨x2, xr2, rfl, hx2, hL⟩ := hL.un1 (one1_wrF rfl (by decide))
  obtain ⟨x3, xr3, rfl, hx3, hL⟩ := hL.un1 (one1_wrF rfl (by decide))
  obtain ⟨x4, xr4, rfl, hx4, hL⟩ := hL.un1 (one1_wrF rfl (by decide))
  obtain ⟨x5, xr5, rfl, hx5, hL⟩ := hL.un1 (one1_wrF rfl (by decide))
  obtain ⟨x6, xr6, rfl, hx6, hL⟩ := hL.un1 (one1_wrF rfl (by decide))
  obtain rfl := hL.unNil
  have hm : Mem w0 (fun k => v.ownBlock = some k) Y [.row 5 1 v n xs, .cel g 0 [.int .i16 V, x0, x1, x2, x3, x4, x5, x6], .rep (wrF (.mk 2 0 (-1) (-1) (-1) 0 0 []) false V false (t.at_ 0)) [x0], .rep (wrF (.mk 8 0 (-1) (-1) (-1) 0 0 []) false V false (t.at_ 1)) [x1], .rep (wrF (.mk 8 0 (-1) (-1) (-1) 0 0 []) false V false (t.at_ 2)) [x2], .rep (wrF (.mk 4 0 (-1) (-1) (-1) 0 0 []) false V false (t.at_ 3)) [x3], .rep (wrF (.mk 11 0 (-1) (-1) (-1) 0 10 sch_sConnectMemberAssignmentAssignment) false V false (t.at_ 4)) [x4], .rep (wrF (.mk 11 1 (-1) (-1) (-1) 0 10 sch_sConnectMemberAssignmentRevoked) false V false (t.at_ 5)) [x5], .rep (wrF (.mk 3 1 (-1) (-1) (-1) 0 0 []) false V false (t.at_ 6)) [x6]] w0 := Mem.startRow hrow hY rfl (by simp only [List.forall_mem_cons, List.not_mem_nil, false_imp_iff, implies_true, and_true]; exact ⟨hC, hx0, hx1, hx2, hx3, hx4, hx5, hx6⟩)
  have hm := hm.rowEq (i := 0) (n' := n + (([] : List UInt8)).length) (xs' := xs ++ bv (([] : List UInt8))) rfl (by simp) (by simp [bv])
  have hT : fixed V 2 ++ partP sch_ConnectMemberAssignment V false t = fixed V 2 ++ (pieceP (.mk 2 0 (-1) (-1) (-1) 0 0 []) V false (t.at_ 0) ++ (pieceP (.mk 8 0 (-1) (-1) (-1) 0 0 []) V false (t.at_ 1) ++ (pieceP (.mk 8 0 (-1) (-1) (-1) 0 0 []) V false (t.at_ 2) ++ (pieceP (.mk 4 0 (-1) (-1) (-1) 0 0 []) V false (t.at_ 3) ++ (pieceP (.mk 11 0 (-1) (-1) (-1) 0 10 sch_sConnectMemberAssignmentAssignment) V false (t.at_ 4) ++ (pieceP (.mk 11 1 (-1) (-1) (-1) 0 10 sch_sConnectMemberAssignmentRevoked) V false (t.at_ 5) ++ (pieceP (.mk 3 1 (-1) (-1) (-1) 0 0 []) V false (t.at_ 6) ++ ([])))))))) := by rw [partP_plain]; rfl
  rw [hT] at hroom ⊢
  simp only [List.length_append, List.length_nil, fixed_length] at hroom
  refine c_region ?_
  refine o_assign hk rfl rfl fun a hk => ?_
  refine c_end ?_
  refine c_region ?_
  refine o_move hk rfl rfl fun a hk => ?_
  refine o_nilCheck hk rfl rfl fun a hk => ?_
  refine o_fieldAddr hk fo_70_0 rfl rfl fun a hk => ?_
  refine o_load hk ts_45 rfl (hm.cell_cel (i := 1) (j := 0) rfl rfl) rfl fun a hk => ?_
  refine o_assign hk rfl rfl fun a hk => ?_
  refine c_end ?_
  refine c_region ?_
  refine o_move hk rfl rfl fun a hk => ?_
  refine c_end ?_
  have hr : n + ([] : List UInt8).length + 2 ≤ room := by simp only [List.length_nil]; omega
  refine wp_seq ?_
  refine c_region ?_
  refine o_move hk rfl rfl fun a hk => ?_
  refine o_nilCheck hk rfl rfl fun a hk => ?_
  refine o_fieldAddr hk fo_70_0 rfl rfl fun a hk => ?_
  refine o_load hk ts_45 rfl (hm.cell_cel (i := 1) (j := 0) rfl rfl) rfl fun a hk => ?_
  refine o_assign hk rfl rfl fun a hk => ?_
  refine c_end ?_
  refine c_reg ?_
  refine o_move hk rfl rfl fun a hk => ?_
  refine o_move hk rfl rfl fun a hk => ?_
  refine o_call hk cb_39 (appendInt16_c (hm.row (i := 0) rfl) V (by omega)) ⟨rfl, rfl, trivial⟩ rfl fun v1 w a hR hk => ?_
  have hm := hm.rowCall (i := 0) rfl hR
  have hm := hm.rowEq (i := 0) (n' := n + (([] : List UInt8) ++ (fixed V 2)).length) (xs' := xs ++ bv (([] : List UInt8) ++ (fixed V 2))) rfl (by simp only [List.length_append, Nat.add_assoc]) (by simp only [bv_append, List.append_assoc])
  refine o_assign hk rfl rfl fun a hk => ?_
  refine c_endQ ?_
  refine c_then ?_
  have hr : n + (([] : List UInt8) ++ (fixed V 2)).length + (pieceP (.mk 2 0 (-1) (-1) (-1) 0 0 []) V false (t.at_ 0)).length ≤ room := by simp only [List.length_append, List.length_nil, fixed_length]; omega
  refine c_cut (fun a w => ∃ vq2, Kn 168 [(0, .pointer (some ⟨g, 0, none⟩)), (1, vq2), (5, .int .i16 V)] a ∧ Mem w0 (fun k => v.ownBlock = some k) Y [.row 5 1 vq2 (n + (([] : List UInt8) ++ (fixed V 2) ++ pieceP (.mk 2 0 (-1) (-1) (-1) 0 0 []) V false (t.at_ 0)).length) (xs ++ bv (([] : List UInt8) ++ (fixed V 2) ++ pieceP (.mk 2 0 (-1) (-1) (-1) 0 0 []) V false (t.at_ 0))), .cel g 0 [.int .i16 V, x0, x1, x2, x3, x4, x5, x6], .rep (wrF (.mk 2 0 (-1) (-1) (-1) 0 0 []) false V false (t.at_ 0)) [x0], .rep (wrF (.mk 8 0 (-1) (-1) (-1) 0 0 []) false V false (t.at_ 1)) [x1], .rep (wrF (.mk 8 0 (-1) (-1) (-1) 0 0 []) false V false (t.at_ 2)) [x2], .rep (wrF (.mk 4 0 (-1) (-1) (-1) 0 0 []) false V false (t.at_ 3)) [x3], .rep (wrF (.mk 11 0 (-1) (-1) (-1) 0 10 sch_sConnectMemberAssignmentAssignment) false V false (t.at_ 4)) [x4], .rep (wrF (.mk 11 1 (-1) (-1) (-1) 0 10 sch_sConnectMemberAssignmentRevoked) false V false (t.at_ 5)) [x5], .rep (wrF (.mk 3 1 (-1) (-1) (-1) 0 0 []) false V false (t.at_ 6)) [x6]] w) ?_ (fun a w hJ => ?_)
  · have hh : ((.mk 2 0 (-1) (-1) (-1) 0 0 []) : Fld).has V = true := has_of (by omega) (.inl (by decide))
    have hx := hm.rep (i := 2) rfl
    rw [wrF_hasT (t := (t.at_ 0)) (by decide) hh] at hx
    obtain rfl : x0 = .int .i16 (IntKind.i16.wrap ((t.at_ 0).n)) := rep_v_inv hx
    have hpc := piece_i16 (v := V) (flex := false) (t := (t.at_ 0)) (by decide) hh
    have hlp := congrArg List.length hpc
    simp only [fixed_length, List.length_cons, List.length_nil] at hlp
    refine c_region ?_
    refine o_move hk rfl rfl fun a hk => ?_
    refine o_nilCheck hk rfl rfl fun a hk => ?_
    refine o_fieldAddr hk fo_70_1 rfl rfl fun a hk => ?_
    refine o_load hk ts_45 rfl (hm.cell_cel (i := 1) (j := 1) rfl rfl) rfl fun a hk => ?_
    refine o_assign hk rfl rfl fun a hk => ?_
    refine c_end ?_
    refine c_reg ?_
    refine o_move hk rfl rfl fun a hk => ?_
    refine o_move hk rfl rfl fun a hk => ?_
    refine o_call hk cb_39 (appendInt16_c (hm.row (i := 0) rfl) (IntKind.i16.wrap ((t.at_ 0).n)) (by omega)) ⟨rfl, rfl, trivial⟩ rfl fun v3 w a hR hk => ?_
    have hm := hm.rowCall (i := 0) rfl hR
    have hm := hm.rowEq (i := 0) (n' := n + (([] : List UInt8) ++ (fixed V 2) ++ (fixed (IntKind.i16.wrap ((t.at_ 0).n)) 2)).length) (xs' := xs ++ bv (([] : List UInt8) ++ (fixed V 2) ++ (fixed (IntKind.i16.wrap ((t.at_ 0).n)) 2))) rfl (by simp only [List.length_append, Nat.add_assoc]) (by simp only [bv_append, List.append_assoc])
    refine o_assign hk rfl rfl fun a hk => ?_
    refine c_endQ ?_
    have hm := hm.rowEq (i := 0) (n' := n + (([] : List UInt8) ++ (fixed V 2) ++ pieceP (.mk 2 0 (-1) (-1) (-1) 0 0 []) V false (t.at_ 0)).length) (xs' := xs ++ bv (([] : List UInt8) ++ (fixed V 2) ++ pieceP (.mk 2 0 (-1) (-1) (-1) 0 0 []) V false (t.at_ 0))) rfl (by rw [hpc]; try simp only [List.append_assoc, List.append_nil]) (by rw [hpc]; try simp only [List.append_assoc, List.append_nil])
    exact c_then ⟨_, hk.sub ⟨rfl, rfl, rfl, trivial⟩, hm.pick [0, 1, 2, 3, 4, 5, 6, 7, 8] rfl rfl⟩
  obtain ⟨vq2, hk, hm⟩ := hJ
  have hr : n + (([] : List UInt8) ++ (fixed V 2) ++ pieceP (.mk 2 0 (-1) (-1) (-1) 0 0 []) V false (t.at_ 0)).length + (pieceP (.mk 8 0 (-1) (-1) (-1) 0 0 []) V false (t.at_ 1)).length ≤ room := by simp only [List.length_append, List.length_nil, fixed_length]; omega
  refine c_cut (fun a w => ∃ vq4, Kn 168 [(0, .pointer (some ⟨g, 0, none⟩)), (1, vq4), (5, .int .i16 V)] a ∧ Mem w0 (fun k => v.ownBlock = some k) Y [.row 5 1 vq4 (n + (([] : List UInt8) ++ (fixed V 2) ++ pieceP (.mk 2 0 (-1) (-1) (-1) 0 0 []) V false (t.at_ 0) ++ pieceP (.mk 8 0 (-1) (-1) (-1) 0 0 []) V false (t.at_ 1)).length) (xs ++ bv (([] : List UInt8) ++ (fixed V 2) ++ pieceP (.mk 2 0 (-1) (-1) (-1) 0 0 []) V false (t.at_ 0) ++ pieceP (.mk 8 0 (-1) (-1) (-1) 0 0 []) V false (t.at_ 1))), .cel g 0 [.int .i16 V, x0, x1, x2, x3, x4, x5, x6], .rep (wrF (.mk 2 0 (-1) (-1) (-1) 0 0 []) false V false (t.at_ 0)) [x0], .rep (wrF (.mk 8 0 (-1) (-1) (-1) 0 0 []) false V false (t.at_ 1)) [x1], .rep (wrF (.mk 8 0 (-1) (-1) (-1) 0 0 []) false V false (t.at_ 2)) [x2], .rep (wrF (.mk 4 0 (-1) (-1) (-1) 0 0 []) false V false (t.at_ 3)) [x3], .rep (wrF (.mk 11 0 (-1) (-1) (-1) 0 10 sch_sConnectMemberAssignmentAssignment) false V false (t.at_ 4)) [x4], .rep (wrF (.mk 11 1 (-1) (-1) (-1) 0 10 sch_sConnectMemberAssignmentRevoked) false V false (t.at_ 5)) [x5], .rep (wrF (.mk 3 1 (-1) (-1) (-1) 0 0 []) false V false (t.at_ 6)) [x6]] w) ?_ (fun a w hJ => ?_)
  · have hh : ((.mk 8 0 (-1) (-1) (-1) 0 0 []) : Fld).has V = true := has_of (by omega) (.inl (by decide))
    have hx := hm.rep (i := 3) rfl
    rw [wrF_hasT (t := (t.at_ 1)) (by decide) hh] at hx
    obtain rfl : x1 = .string (bs (whole (t.at_ 1).s)) := rep_v_inv hx
    have hpc : pieceP (.mk 8 0 (-1) (-1) (-1) 0 0 []) V false (t.at_ 1) = fixed (((whole (t.at_ 1).s).length : Nat) : Int) 2 ++ whole (t.at_ 1).s := piece_text (by decide) (by decide) hh
    have hlp := congrArg List.length hpc
    simp only [List.length_append, fixed_length] at hlp
    have hwl := whole_len (t.at_ 1).s
    refine c_region ?_
    refine o_move hk rfl rfl fun a hk => ?_
    refine o_nilCheck hk rfl rfl fun a hk => ?_
    refine o_fieldAddr hk fo_70_2 rfl rfl fun a hk => ?_
    refine o_load hk ts_9 rfl (hm.cell_cel (i := 1) (j := 2) rfl rfl) rfl fun a hk => ?_
    refine o_assign hk rfl rfl fun a hk => ?_
    refine c_end ?_
    refine c_reg ?_
    refine o_move hk rfl rfl fun a hk => ?_
    refine o_move hk rfl rfl fun a hk => ?_
    refine o_call hk cb_42 (appendString_c (hm.row (i := 0) rfl) (whole (t.at_ 1).s) (by omega)) ⟨rfl, rfl, trivial⟩ rfl fun v5 w a hR hk => ?_
    have hm := hm.rowCall (i := 0) rfl hR
    have hm := hm.rowEq (i := 0) (n' := n + (([] : List UInt8) ++ (fixed V 2) ++ pieceP (.mk 2 0 (-1) (-1) (-1) 0 0 []) V false (t.at_ 0) ++ (fixed ((whole (t.at_ 1).s).length : Int) 2 ++ (whole (t.at_ 1).s))).length) (xs' := xs ++ bv (([] : List UInt8) ++ (fixed V 2) ++ pieceP (.mk 2 0 (-1) (-1) (-1) 0 0 []) V false (t.at_ 0) ++ (fixed ((whole (t.at_ 1).s).length : Int) 2 ++ (whole (t.at_ 1).s)))) rfl (by simp only [List.length_append, Nat.add_assoc]) (by simp only [bv_append, List.append_assoc])
    refine o_assign hk rfl rfl fun a hk => ?_
    refine c_endQ ?_
    have hm := hm.rowEq (i := 0) (n' := n + (([] : List UInt8) ++ (fixed V 2) ++ pieceP (.mk 2 0 (-1) (-1) (-1) 0 0 []) V false (t.at_ 0) ++ pieceP (.mk 8 0 (-1) (-1) (-1) 0 0 []) V false (t.at_ 1)).length) (xs' := xs ++ bv (([] : List UInt8) ++ (fixed V 2) ++ pieceP (.mk 2 0 (-1) (-1) (-1) 0 0 []) V false (t.at_ 0) ++ pieceP (.mk 8 0 (-1) (-1) (-1) 0 0 []) V false (t.at_ 1))) rfl (by rw [hpc]; try simp only [List.append_assoc, List.append_nil]) (by rw [hpc]; try simp only [List.append_assoc, List.append_nil])
    exact c_then ⟨_, hk.sub ⟨rfl, rfl, rfl, trivial⟩, hm.pick [0, 1, 2, 3, 4, 5, 6, 7, 8] rfl rfl⟩
  obtain ⟨vq4, hk, hm⟩ := hJ
  have hr : n + (([] : List UInt8) ++ (fixed V 2) ++ pieceP (.mk 2 0 (-1) (-1) (-1) 0 0 []) V false (t.at_ 0) ++ pieceP (.mk 8 0 (-1) (-1) (-1) 0 0 []) V false (t.at_ 1)).length + (pieceP (.mk 8 0 (-1) (-1) (-1) 0 0 []) V false (t.at_ 2)).length ≤ room := by simp only [List.length_append, List.length_nil, fixed_length]; omega
  refine c_cut (fun a w => ∃ vq6, Kn 168 [(0, .pointer (some ⟨g, 0, none⟩)), (1, vq6), (5, .int .i16 V)] a ∧ Mem w0 (fun k => v.ownBlock = some k) Y [.row 5 1 vq6 (n + (([] : List UInt8) ++ (fixed V 2) ++ pieceP (.mk 2 0 (-1) (-1) (-1) 0 0 []) V false (t.at_ 0) ++ pieceP (.mk 8 0 (-1) (-1) (-1) 0 0 []) V false (t.at_ 1) ++ pieceP (.mk 8 0 (-1) (-1) (-1) 0 0 []) V false (t.at_ 2)).length) (xs ++ bv (([] : List UInt8) ++ (fixed V 2) ++ pieceP (.mk 2 0 (-1) (-1) (-1) 0 0 []) V false (t.at_ 0) ++ pieceP (.mk 8 0 (-1) (-1) (-1) 0 0 []) V false (t.at_ 1) ++ pieceP (.mk 8 0 (-1) (-1) (-1) 0 0 []) V false (t.at_ 2))), .cel g 0 [.int .i16 V, x0, x1, x2, x3, x4, x5, x6], .rep (wrF (.mk 2 0 (-1) (-1) (-1) 0 0 []) false V false (t.at_ 0)) [x0], .rep (wrF (.mk 8 0 (-1) (-1) (-1) 0 0 []) false V false (t.at_ 1)) [x1], .rep (wrF (.mk 8 0 (-1) (-1) (-1) 0 0 []) false V false (t.at_ 2)) [x2], .rep (wrF (.mk 4 0 (-1) (-1) (-1) 0 0 []) false V false (t.at_ 3)) [x3], .rep (wrF (.mk 11 0 (-1) (-1) (-1) 0 10 sch_sConnectMemberAssignmentAssignment) false V false (t.at_ 4)) [x4], .rep (wrF (.mk 11 1 (-1) (-1) (-1) 0 10 sch_sConnectMemberAssignmentRevoked) false V false (t.at_ 5)) [x5], .rep (wrF (.mk 3 1 (-1) (-1) (-1) 0 0 []) false V false (t.at_ 6)) [x6]] w) ?_ (fun a w hJ => ?_)
  · have hh : ((.mk 8 0 (-1) (-1) (-1) 0 0 []) : Fld).has V = true := has_of (by omega) (.inl (by decide))
    have hx := hm.rep (i := 4) rfl
    rw [wrF_hasT (t := (t.at_ 2)) (by decide) hh] at hx
    obtain rfl : x2 = .string (bs (whole (t.at_ 2).s)) := rep_v_inv hx
    have hpc : pieceP (.mk 8 0 (-1) (-1) (-1) 0 0 []) V false (t.at_ 2) = fixed (((whole (t.at_ 2).s).length : Nat) : Int) 2 ++ whole (t.at_ 2).s := piece_text (by decide) (by decide) hh
    have hlp := congrArg List.length hpc
    simp only [List.length_append, fixed_length] at hlp
    have hwl := whole_len (t.at_ 2).s
    refine c_region ?_
    refine o_move hk rfl rfl fun a hk => ?_
    refine o_nilCheck hk rfl rfl fun a hk => ?_
    refine o_fieldAddr hk fo_70_3 rfl rfl fun a hk => ?_
    refine o_load hk ts_9 rfl (hm.cell_cel (i := 1) (j := 3) rfl rfl) rfl fun a hk => ?_
    refine o_assign hk rfl rfl fun a hk => ?_
    refine c_end ?_
    refine c_reg ?_
    refine o_move hk rfl rfl fun a hk => ?_
    refine o_move hk rfl rfl fun a hk => ?_
    refine o_call hk cb_42 (appendString_c (hm.row (i := 0) rfl) (whole (t.at_ 2).s) (by omega)) ⟨rfl, rfl, trivial⟩ rfl fun v7 w a hR hk => ?_
    have hm := hm.rowCall (i := 0) rfl hR
    have hm := hm.rowEq (i := 0) (n' := n + (([] : List UInt8) ++ (fixed V 2) ++ pieceP (.mk 2 0 (-1) (-1) (-1) 0 0 []) V false (t.at_ 0) ++ pieceP (.mk 8 0 (-1) (-1) (-1) 0 0 []) V false (t.at_ 1) ++ (fixed ((whole (t.at_ 2).s).length : Int) 2 ++ (whole (t.at_ 2).s))).length) (xs' := xs ++ bv (([] : List UInt8) ++ (fixed V 2) ++ pieceP (.mk 2 0 (-1) (-1) (-1) 0 0 []) V false (t.at_ 0) ++ pieceP (.mk 8 0 (-1) (-1) (-1) 0 0 []) V false (t.at_ 1) ++ (fixed ((whole (t.at_ 2).s).length : Int) 2 ++ (whole (t.at_ 2).s)))) rfl (by simp only [List.length_append, Nat.add_assoc]) (by simp only [bv_append, List.append_assoc])
    refine o_assign hk rfl rfl fun a hk => ?_
    refine c_endQ ?_
    have hm := hm.rowEq (i := 0) (n' := n + (([] : List UInt8) ++ (fixed V 2) ++ pieceP (.mk 2 0 (-1) (-1) (-1) 0 0 []) V false (t.at_ 0) ++ pieceP (.mk 8 0 (-1) (-1) (-1) 0 0 []) V false (t.at_ 1) ++ pieceP (.mk 8 0 (-1) (-1) (-1) 0 0 []) V false (t.at_ 2)).length) (xs' := xs ++ bv (([] : List UInt8) ++ (fixed V 2) ++ pieceP (.mk 2 0 (-1) (-1) (-1) 0 0 []) V false (t.at_ 0) ++ pieceP (.mk 8 0 (-1) (-1) (-1) 0 0 []) V false (t.at_ 1) ++ pieceP (.mk 8 0 (-1) (-1) (-1) 0 0 []) V false (t.at_ 2))) rfl (by rw [hpc]; try simp only [List.append_assoc, List.append_nil]) (by rw [hpc]; try simp only [List.append_assoc, List.append_nil])
    exact c_then ⟨_, hk.sub ⟨rfl, rfl, rfl, trivial⟩, hm.pick [0, 1, 2, 3, 4, 5, 6, 7, 8] rfl rfl⟩
  obtain ⟨vq6, hk, hm⟩ := hJ
  have hr : n + (([] : List UInt8) ++ (fixed V 2) ++ pieceP (.mk 2 0 (-1) (-1) (-1) 0 0 []) V false (t.at_ 0) ++ pieceP (.mk 8 0 (-1) (-1) (-1) 0 0 []) V false (t.at_ 1) ++ pieceP (.mk 8 0 (-1) (-1) (-1) 0 0 []) V false (t.at_ 2)).length + (pieceP (.mk 4 0 (-1) (-1) (-1) 0 0 []) V false (t.at_ 3)).length ≤ room := by simp only [List.length_append, List.length_nil, fixed_length]; omega
  refine c_cut (fun a w => ∃ vq8, Kn 168 [(0, .pointer (some ⟨g, 0, none⟩)), (1, vq8), (5, .int .i16 V)] a ∧ Mem w0 (fun k => v.ownBlock = some k) Y [.row 5 1 vq8 (n + (([] : List UInt8) ++ (fixed V 2) ++ pieceP (.mk 2 0 (-1) (-1) (-1) 0 0 []) V false (t.at_ 0) ++ pieceP (.mk 8 0 (-1) (-1) (-1) 0 0 []) V false (t.at_ 1) ++ pieceP (.mk 8 0 (-1) (-1) (-1) 0 0 []) V false (t.at_ 2) ++ pieceP (.mk 4 0 (-1) (-1) (-1) 0 0 []) V false (t.at_ 3)).length) (xs ++ bv (([] : List UInt8) ++ (fixed V 2) ++ pieceP (.mk 2 0 (-1) (-1) (-1) 0 0 []) V false (t.at_ 0) ++ pieceP (.mk 8 0 (-1) (-1) (-1) 0 0 []) V false (t.at_ 1) ++ pieceP (.mk 8 0 (-1) (-1) (-1) 0 0 []) V false (t.at_ 2) ++ pieceP (.mk 4 0 (-1) (-1) (-1) 0 0 []) V false (t.at_ 3))), .cel g 0 [.int .i16 V, x0, x1, x2, x3, x4, x5, x6], .rep (wrF (.mk 2 0 (-1) (-1) (-1) 0 0 []) false V false (t.at_ 0)) [x0], .rep (wrF (.mk 8 0 (-1) (-1) (-1) 0 0 []) false V false (t.at_ 1)) [x1], .rep (wrF (.mk 8 0 (-1) (-1) (-1) 0 0 []) false V false (t.at_ 2)) [x2], .rep (wrF (.mk 4 0 (-1) (-1) (-1) 0 0 []) false V false (t.at_ 3)) [x3], .rep (wrF (.mk 11 0 (-1) (-1) (-1) 0 10 sch_sConnectMemberAssignmentAssignment) false V false (t.at_ 4)) [x4], .rep (wrF (.mk 11 1 (-1) (-1) (-1) 0 10 sch_sConnectMemberAssignmentRevoked) false V false (t.at_ 5)) [x5], .rep (wrF (.mk 3 1 (-1) (-1) (-1) 0 0 []) false V false (t.at_ 6)) [x6]] w) ?_ (fun a w hJ => ?_)
  · have hh : ((.mk 4 0 (-1) (-1) (-1) 0 0 []) : Fld).has V = true := has_of (by omega) (.inl (by decide))
    have hx := hm.rep (i := 5) rfl
    rw [wrF_hasT (t := (t.at_ 3)) (by decide) hh] at hx
    obtain rfl : x3 = .int .i64 ((t.at_ 3).n) := rep_v_inv hx
    have hpc := piece_i64 (v := V) (flex := false) (t := (t.at_ 3)) (by decide) hh
    have hlp := congrArg List.length hpc
    simp only [fixed_length, List.length_cons, List.length_nil] at hlp
    refine c_region ?_
    refine o_move hk rfl rfl fun a hk => ?_
    refine o_nilCheck hk rfl rfl fun a hk => ?_
    refine o_fieldAddr hk fo_70_4 rfl rfl fun a hk => ?_
    refine o_load hk ts_2 rfl (hm.cell_cel (i := 1) (j := 4) rfl rfl) rfl fun a hk => ?_
    refine o_assign hk rfl rfl fun a hk => ?_
    refine c_end ?_
    refine c_reg ?_
    refine o_move hk rfl rfl fun a hk => ?_
    refine o_move hk rfl rfl fun a hk => ?_
    refine o_call hk cb_52 (appendInt64_c (hm.row (i := 0) rfl) ((t.at_ 3).n) (by omega)) ⟨rfl, rfl, trivial⟩ rfl fun v9 w a hR hk => ?_
    have hm := hm.rowCall (i := 0) rfl hR
    have hm := hm.rowEq (i := 0) (n' := n + (([] : List UInt8) ++ (fixed V 2) ++ pieceP (.mk 2 0 (-1) (-1) (-1) 0 0 []) V false (t.at_ 0) ++ pieceP (.mk 8 0 (-1) (-1) (-1) 0 0 []) V false (t.at_ 1) ++ pieceP (.mk 8 0 (-1) (-1) (-1) 0 0 []) V false (t.at_ 2) ++ (fixed ((t.at_ 3).n) 8)).length) (xs' := xs ++ bv (([] : List UInt8) ++ (fixed V 2) ++ pieceP (.mk 2 0 (-1) (-1) (-1) 0 0 []) V false (t.at_ 0) ++ pieceP (.mk 8 0 (-1) (-1) (-1) 0 0 []) V false (t.at_ 1) ++ pieceP (.mk 8 0 (-1) (-1) (-1) 0 0 []) V false (t.at_ 2) ++ (fixed ((t.at_ 3).n) 8))) rfl (by simp only [List.length_append, Nat.add_assoc]) (by simp only [bv_append, List.append_assoc])
    refine o_assign hk rfl rfl fun a hk => ?_
    refine c_endQ ?_
    have hm := hm.rowEq (i := 0) (n' := n + (([] : List UInt8) ++ (fixed V 2) ++ pieceP (.mk 2 0 (-1) (-1) (-1) 0 0 []) V false (t.at_ 0) ++ pieceP (.mk 8 0 (-1) (-1) (-1) 0 0 []) V false (t.at_ 1) ++ pieceP (.mk 8 0 (-1) (-1) (-1) 0 0 []) V false (t.at_ 2) ++ pieceP (.mk 4 0 (-1) (-1) (-1) 0 0 []) V false (t.at_ 3)).length) (xs' := xs ++ bv (([] : List UInt8) ++ (fixed V 2) ++ pieceP (.mk 2 0 (-1) (-1) (-1) 0 0 []) V false (t.at_ 0) ++ pieceP (.mk 8 0 (-1) (-1) (-1) 0 0 []) V false (t.at_ 1) ++ pieceP (.mk 8 0 (-1) (-1) (-1) 0 0 []) V false (t.at_ 2) ++ pieceP (.mk 4 0 (-1) (-1) (-1) 0 0 []) V false (t.at_ 3))) rfl (by rw [hpc]; try simp only [List.append_assoc, List.append_nil]) (by rw [hpc]; try simp only [List.append_assoc, List.append_nil])
    exact c_then ⟨_, hk.sub ⟨rfl, rfl, rfl, trivial⟩, hm.pick [0, 1, 2, 3, 4, 5, 6, 7, 8] rfl rfl⟩
  obtain ⟨vq8, hk, hm⟩ := hJ
  have hr : n + (([] : List UInt8) ++ (fixed V 2) ++ pieceP (.mk 2 0 (-1) (-1) (-1) 0 0 []) V false (t.at_ 0) ++ pieceP (.mk 8 0 (-1) (-1) (-1) 0 0 []) V false (t.at_ 1) ++ pieceP (.mk 8 0 (-1) (-1) (-1) 0 0 []) V false (t.at_ 2) ++ pieceP (.mk 4 0 (-1) (-1) (-1) 0 0 []) V false (t.at_ 3)).length + (pieceP (.mk 11 0 (-1) (-1) (-1) 0 10 sch_sConnectMemberAssignmentAssignment) V false (t.at_ 4)).length ≤ room := by simp only [List.length_append, List.length_nil, fixed_length]; omega
  refine c_cut (fun a w => ∃ vq10, Kn 168 [(0, .pointer (some ⟨g, 0, none⟩)), (1, vq10), (5, .int .i16 V)] a ∧ Mem w0 (fun k => v.ownBlock = some k) Y [.row 5 1 vq10 (n + (([] : List UInt8) ++ (fixed V 2) ++ pieceP (.mk 2 0 (-1) (-1) (-1) 0 0 []) V false (t.at_ 0) ++ pieceP (.mk 8 0 (-1) (-1) (-1) 0 0 []) V false (t.at_ 1) ++ pieceP (.mk 8 0 (-1) (-1) (-1) 0 0 []) V false (t.at_ 2) ++ pieceP (.mk 4 0 (-1) (-1) (-1) 0 0 []) V false (t.at_ 3) ++ pieceP (.mk 11 0 (-1) (-1) (-1) 0 10 sch_sConnectMemberAssignmentAssignment) V false (t.at_ 4)).length) (xs ++ bv (([] : List UInt8) ++ (fixed V 2) ++ pieceP (.mk 2 0 (-1) (-1) (-1) 0 0 []) V false (t.at_ 0) ++ pieceP (.mk 8 0 (-1) (-1) (-1) 0 0 []) V false (t.at_ 1) ++ pieceP (.mk 8 0 (-1) (-1) (-1) 0 0 []) V false (t.at_ 2) ++ pieceP (.mk 4 0 (-1) (-1) (-1) 0 0 []) V false (t.at_ 3) ++ pieceP (.mk 11 0 (-1) (-1) (-1) 0 10 sch_sConnectMemberAssignmentAssignment) V false (t.at_ 4))), .cel g 0 [.int .i16 V, x0, x1, x2, x3, x4, x5, x6], .rep (wrF (.mk 2 0 (-1) (-1) (-1) 0 0 []) false V false (t.at_ 0)) [x0], .rep (wrF (.mk 8 0 (-1) (-1) (-1) 0 0 []) false V false (t.at_ 1)) [x1], .rep (wrF (.mk 8 0 (-1) (-1) (-1) 0 0 []) false V false (t.at_ 2)) [x2], .rep (wrF (.mk 4 0 (-1) (-1) (-1) 0 0 []) false V false (t.at_ 3)) [x3], .rep (wrF (.mk 11 0 (-1) (-1) (-1) 0 10 sch_sConnectMemberAssignmentAssignment) false V false (t.at_ 4)) [x4], .rep (wrF (.mk 11 1 (-1) (-1) (-1) 0 10 sch_sConnectMemberAssignmentRevoked) false V false (t.at_ 5)) [x5], .rep (wrF (.mk 3 1 (-1) (-1) (-1) 0 0 []) false V false (t.at_ 6)) [x6]] w) ?_ (fun a w hJ => ?_)
  · have hh : ((.mk 11 0 (-1) (-1) (-1) 0 10 sch_sConnectMemberAssignmentAssignment) : Fld).has V = true := has_of (by omega) (.inl (by decide))
    have hx := hm.rep (i := 6) rfl
    rw [wrF_hasT (t := (t.at_ 4)) (by decide) hh] at hx
    replace hx : Rep _ _ (.sl false 2 ((things (t.at_ 4).l).map (wrS sch_sConnectMemberAssignmentAssignment false V false))) [x4] := hx
    obtain ⟨px4, capx4, rfl⟩ := rep_sl_lenM hx
    have hm := hm.add (e := .rep (.sl false 2 ((things (t.at_ 4).l).map (wrS sch_sConnectMemberAssignmentAssignment false V false))) [.slice px4 ((things (t.at_ 4).l).length) capx4]) rfl hx
    have hpc : pieceP (.mk 11 0 (-1) (-1) (-1) 0 10 sch_sConnectMemberAssignmentAssignment) V false (t.at_ 4) = fixed (((things (t.at_ 4).l).length : Nat) : Int) 4 ++ (things (t.at_ 4).l).flatMap (partP sch_sConnectMemberAssignmentAssignment V false) := piece_list (by decide) (by decide) hh
    have hlp := congrArg List.length hpc
    simp only [List.length_append, fixed_length] at hlp
    have htl := things_len (t.at_ 4).l
    refine c_region ?_
    refine o_move hk rfl rfl fun a hk => ?_
    refine o_nilCheck hk rfl rfl fun a hk => ?_
    refine o_fieldAddr hk fo_70_5 rfl rfl fun a hk => ?_
    refine o_load hk ts_67 rfl (hm.cell_cel (i := 2) (j := 5) rfl rfl) rfl fun a hk => ?_
    refine o_assign hk rfl rfl fun a hk => ?_
    refine c_end ?_
    refine c_region ?_
    refine o_move hk rfl rfl fun a hk => ?_
    refine o_move hk rfl rfl fun a hk => ?_
    refine o_lenSlice hk te_67 rfl rfl fun a hk => ?_
    refine o_call hk cb_41 (appendArrayLen_c (hm.row (i := 1) rfl) (((things (t.at_ 4).l).length : Nat) : Int) (by omega)) ⟨rfl, rfl, trivial⟩ rfl fun v11 w a hR hk => ?_
    have hm := hm.rowCall (i := 1) rfl hR
    have hm := hm.rowEq (i := 1) (n' := n + (([] : List UInt8) ++ (fixed V 2) ++ pieceP (.mk 2 0 (-1) (-1) (-1) 0 0 []) V false (t.at_ 0) ++ pieceP (.mk 8 0 (-1) (-1) (-1) 0 0 []) V false (t.at_ 1) ++ pieceP (.mk 8 0 (-1) (-1) (-1) 0 0 []) V false (t.at_ 2) ++ pieceP (.mk 4 0 (-1) (-1) (-1) 0 0 []) V false (t.at_ 3) ++ (fixed (((things (t.at_ 4).l).length : Nat) : Int) 4)).length) (xs' := xs ++ bv (([] : List UInt8) ++ (fixed V 2) ++ pieceP (.mk 2 0 (-1) (-1) (-1) 0 0 []) V false (t.at_ 0) ++ pieceP (.mk 8 0 (-1) (-1) (-1) 0 0 []) V false (t.at_ 1) ++ pieceP (.mk 8 0 (-1) (-1) (-1) 0 0 []) V false (t.at_ 2) ++ pieceP (.mk 4 0 (-1) (-1) (-1) 0 0 []) V false (t.at_ 3) ++ (fixed (((things (t.at_ 4).l).length : Nat) : Int) 4))) rfl (by simp only [List.length_append, Nat.add_assoc]) (by simp only [bv_append, List.append_assoc])
    refine o_assign hk rfl rfl fun a hk => ?_
    refine c_end ?_
    refine c_region ?_
    refine o_move hk rfl rfl fun a hk => ?_
    refine o_lenSlice hk te_67 rfl rfl fun a hk => ?_
    refine o_move hk rfl rfl fun a hk => ?_
    refine c_end ?_
    have hm := hm.rowEq (i := 1) (n' := n + (([] : List UInt8) ++ (fixed V 2) ++ pieceP (.mk 2 0 (-1) (-1) (-1) 0 0 []) V false (t.at_ 0) ++ pieceP (.mk 8 0 (-1) (-1) (-1) 0 0 []) V false (t.at_ 1) ++ pieceP (.mk 8 0 (-1) (-1) (-1) 0 0 []) V false (t.at_ 2) ++ pieceP (.mk 4 0 (-1) (-1) (-1) 0 0 []) V false (t.at_ 3) ++ (fixed (((things (t.at_ 4).l).length : Nat) : Int) 4) ++ ((things (t.at_ 4).l).take 0).flatMap (partP sch_sConnectMemberAssignmentAssignment V false)).length) (xs' := xs ++ bv (([] : List UInt8) ++ (fixed V 2) ++ pieceP (.mk 2 0 (-1) (-1) (-1) 0 0 []) V false (t.at_ 0) ++ pieceP (.mk 8 0 (-1) (-1) (-1) 0 0 []) V false (t.at_ 1) ++ pieceP (.mk 8 0 (-1) (-1) (-1) 0 0 []) V false (t.at_ 2) ++ pieceP (.mk 4 0 (-1) (-1) (-1) 0 0 []) V false (t.at_ 3) ++ (fixed (((things (t.at_ 4).l).length : Nat) : Int) 4) ++ ((things (t.at_ 4).l).take 0).flatMap (partP sch_sConnectMemberAssignmentAssignment V false))) rfl (by simp only [List.take_zero, List.flatMap_nil, List.append_nil]) (by simp only [List.take_zero, List.flatMap_nil, List.append_nil])
    refine c_range (L0 := [(0, .pointer (some ⟨g, 0, none⟩)), (1, v11), (5, .int .i16 V), (11, .slice px4 ((things (t.at_ 4).l).length) capx4)]) (N := (things (t.at_ 4).l).length) (by omega) (fun k1 L w => ∃ vr, L = [(0, .pointer (some ⟨g, 0, none⟩)), (1, vr), (5, .int .i16 V), (11, .slice px4 ((things (t.at_ 4).l).length) capx4)] ∧ Mem w0 (fun k => v.ownBlock = some k) Y [.rep (.sl false 2 ((things (t.at_ 4).l).map (wrS sch_sConnectMemberAssignmentAssignment false V false))) [.slice px4 ((things (t.at_ 4).l).length) capx4], .row 5 1 vr (n + (([] : List UInt8) ++ (fixed V 2) ++ pieceP (.mk 2 0 (-1) (-1) (-1) 0 0 []) V false (t.at_ 0) ++ pieceP (.mk 8 0 (-1) (-1) (-1) 0 0 []) V false (t.at_ 1) ++ pieceP (.mk 8 0 (-1) (-1) (-1) 0 0 []) V false (t.at_ 2) ++ pieceP (.mk 4 0 (-1) (-1) (-1) 0 0 []) V false (t.at_ 3) ++ (fixed (((things (t.at_ 4).l).length : Nat) : Int) 4) ++ ((things (t.at_ 4).l).take k1).flatMap (partP sch_sConnectMemberAssignmentAssignment V false)).length) (xs ++ bv (([] : List UInt8) ++ (fixed V 2) ++ pieceP (.mk 2 0 (-1) (-1) (-1) 0 0 []) V false (t.at_ 0) ++ pieceP (.mk 8 0 (-1) (-1) (-1) 0 0 []) V false (t.at_ 1) ++ pieceP (.mk 8 0 (-1) (-1) (-1) 0 0 []) V false (t.at_ 2) ++ pieceP (.mk 4 0 (-1) (-1) (-1) 0 0 []) V false (t.at_ 3) ++ (fixed (((things (t.at_ 4).l).length : Nat) : Int) 4) ++ ((things (t.at_ 4).l).take k1).flatMap (partP sch_sConnectMemberAssignmentAssignment V false))), .cel g 0 [.int .i16 V, x0, x1, x2, x3, .slice px4 ((things (t.at_ 4).l).length) capx4, x5, x6], .rep (wrF (.mk 2 0 (-1) (-1) (-1) 0 0 []) false V false (t.at_ 0)) [x0], .rep (wrF (.mk 8 0 (-1) (-1) (-1) 0 0 []) false V false (t.at_ 1)) [x1], .rep (wrF (.mk 8 0 (-1) (-1) (-1) 0 0 []) false V false (t.at_ 2)) [x2], .rep (wrF (.mk 4 0 (-1) (-1) (-1) 0 0 []) false V false (t.at_ 3)) [x3], .rep (wrF (.mk 11 0 (-1) (-1) (-1) 0 10 sch_sConnectMemberAssignmentAssignment) false V false (t.at_ 4)) [.slice px4 ((things (t.at_ 4).l).length) capx4], .rep (wrF (.mk 11 1 (-1) (-1) (-1) 0 10 sch_sConnectMemberAssignmentRevoked) false V false (t.at_ 5)) [x5], .rep (wrF (.mk 3 1 (-1) (-1) (-1) 0 0 []) false V false (t.at_ 6)) [x6]] w) (hk.sub ⟨rfl, rfl, rfl, rfl, rfl, rfl, trivial⟩) ⟨_, rfl, hm⟩ rfl rfl rfl rfl rfl rfl rfl (fun k1 L a w hlt hR hk => ?_) rfl (fun L a w hR hk => ?_)
    · obtain ⟨vr, rfl, hm⟩ := hR
      obtain ⟨hlt1, bl1, off1, e1, hpl1, hel, hRe, hCe⟩ := rep_sl_get (hm.rep (i := 0) rfl) (getD_map (wrS sch_sConnectMemberAssignmentAssignment false V false) (things (t.at_ 4).l) k1 T.nil hlt)
      have hfl := flatMap_take_le (partP sch_sConnectMemberAssignmentAssignment V false) (things (t.at_ 4).l) k1 T.nil hlt
      obtain ⟨tx1, htx1⟩ : ∃ y, y = ((things (t.at_ 4).l).getD k1 T.nil) := ⟨_, rfl⟩
      rw [← htx1] at hRe hfl
      have hL := rep_agg_inv hRe
      replace hL : RepL _ _ [wrF (.mk 8 0 (-1) (-1) (-1) 0 0 []) false V false (tx1.at_ 0), wrF (.mk 11 0 (-1) (-1) (-1) 0 2 []) false V false (tx1.at_ 1)] e1 := hL
      obtain ⟨x1_0, x1_r0, rfl, hx1_0, hL⟩ := hL.un1 (one1_wrF rfl (by decide))
      obtain ⟨x1_1, x1_r1, rfl, hx1_1, hL⟩ := hL.un1 (one1_wrF rfl (by decide))
      obtain rfl := hL.unNil
      have hm := hm.add (e := .cel bl1 (off1 + k1 * 2) [x1_0, x1_1]) rfl hCe
      have hm := hm.add (e := .rep (wrF (.mk 8 0 (-1) (-1) (-1) 0 0 []) false V false (tx1.at_ 0)) [x1_0]) rfl hx1_0
      have hm := hm.add (e := .rep (wrF (.mk 11 0 (-1) (-1) (-1) 0 2 []) false V false (tx1.at_ 1)) [x1_1]) rfl hx1_1
      have hTe : (partP sch_sConnectMemberAssignmentAssignment V false) tx1 = pieceP (.mk 8 0 (-1) (-1) (-1) 0 0 []) V false (tx1.at_ 0) ++ (pieceP (.mk 11 0 (-1) (-1) (-1) 0 2 []) V false (tx1.at_ 1) ++ ([])) := by rw [partP_plain]; rfl
      rw [hTe] at hfl
      simp only [List.length_append, List.length_nil] at hfl
      refine c_region ?_
      refine o_move hk rfl rfl fun a hk => ?_
      refine o_assign hk rfl rfl fun a hk => ?_
      refine c_end ?_
      refine c_region ?_
      refine o_move hk rfl rfl fun a hk => ?_
      refine o_move hk rfl rfl fun a hk => ?_
      refine o_indexAddr (j := k1) (b := bl1) (off := off1) hk te_67 ts_97 (by rw [← hpl1]; rfl) rfl hlt1 rfl fun a hk => ?_
      refine o_assign hk rfl rfl fun a hk => ?_
      refine c_end ?_
      have hr : n + (([] : List UInt8) ++ (fixed V 2) ++ pieceP (.mk 2 0 (-1) (-1) (-1) 0 0 []) V false (t.at_ 0) ++ pieceP (.mk 8 0 (-1) (-1) (-1) 0 0 []) V false (t.at_ 1) ++ pieceP (.mk 8 0 (-1) (-1) (-1) 0 0 []) V false (t.at_ 2) ++ pieceP (.mk 4 0 (-1) (-1) (-1) 0 0 []) V false (t.at_ 3) ++ (fixed (((things (t.at_ 4).l).length : Nat) : Int) 4) ++ ((things (t.at_ 4).l).take k1).flatMap (partP sch_sConnectMemberAssignmentAssignment V false)).length + (pieceP (.mk 8 0 (-1) (-1) (-1) 0 0 []) V false (tx1.at_ 0)).length ≤ room := by simp only [List.length_append, List.length_nil, fixed_length]; omega
      refine c_cut (fun a w => ∃ vq12, Kn 168 [(0, .pointer (some ⟨g, 0, none⟩)), (1, vq12), (5, .int .i16 V), (11, .slice px4 ((things (t.at_ 4).l).length) capx4), (13, .pointer (some ⟨bl1, off1 + k1 * 2, none⟩)), (75, .int .i64 (((things (t.at_ 4).l).length : Nat) : Int)), (76, .int .i64 (k1 : Int))] a ∧ Mem w0 (fun k => v.ownBlock = some k) Y [.rep (wrF (.mk 11 0 (-1) (-1) (-1) 0 2 []) false V false (tx1.at_ 1)) [x1_1], .rep (wrF (.mk 8 0 (-1) (-1) (-1) 0 0 []) false V false (tx1.at_ 0)) [x1_0], .cel bl1 (off1 + k1 * 2) [x1_0, x1_1], .rep (.sl false 2 ((things (t.at_ 4).l).map (wrS sch_sConnectMemberAssignmentAssignment false V false))) [.slice px4 ((things (t.at_ 4).l).length) capx4], .row 5 1 vq12 (n + (([] : List UInt8) ++ (fixed V 2) ++ pieceP (.mk 2 0 (-1) (-1) (-1) 0 0 []) V false (t.at_ 0) ++ pieceP (.mk 8 0 (-1) (-1) (-1) 0 0 []) V false (t.at_ 1) ++ pieceP (.mk 8 0 (-1) (-1) (-1) 0 0 []) V false (t.at_ 2) ++ pieceP (.mk 4 0 (-1) (-1) (-1) 0 0 []) V false (t.at_ 3) ++ (fixed (((things (t.at_ 4).l).length : Nat) : Int) 4) ++ ((things (t.at_ 4).l).take k1).flatMap (partP sch_sConnectMemberAssignmentAssignment V false) ++ pieceP (.mk 8 0 (-1) (-1) (-1) 0 0 []) V false (tx1.at_ 0)).length) (xs ++ bv (([] : List UInt8) ++ (fixed V 2) ++ pieceP (.mk 2 0 (-1) (-1) (-1) 0 0 []) V false (t.at_ 0) ++ pieceP (.mk 8 0 (-1) (-1) (-1) 0 0 []) V false (t.at_ 1) ++ pieceP (.mk 8 0 (-1) (-1) (-1) 0 0 []) V false (t.at_ 2) ++ pieceP (.mk 4 0 (-1) (-1) (-1) 0 0 []) V false (t.at_ 3) ++ (fixed (((things (t.at_ 4).l).length : Nat) : Int) 4) ++ ((things (t.at_ 4).l).take k1).flatMap (partP sch_sConnectMemberAssignmentAssignment V false) ++ pieceP (.mk 8 0 (-1) (-1) (-1) 0 0 []) V false (tx1.at_ 0))), .cel g 0 [.int .i16 V, x0, x1, x2, x3, .slice px4 ((things (t.at_ 4).l).length) capx4, x5, x6], .rep (wrF (.mk 2 0 (-1) (-1) (-1) 0 0 []) false V false (t.at_ 0)) [x0], .rep (wrF (.mk 8 0 (-1) (-1) (-1) 0 0 []) false V false (t.at_ 1)) [x1], .rep (wrF (.mk 8 0 (-1) (-1) (-1) 0 0 []) false V false (t.at_ 2)) [x2], .rep (wrF (.mk 4 0 (-1) (-1) (-1) 0 0 []) false V false (t.at_ 3)) [x3], .rep (wrF (.mk 11 0 (-1) (-1) (-1) 0 10 sch_sConnectMemberAssignmentAssignment) false V false (t.at_ 4)) [.slice px4 ((things (t.at_ 4).l).length) capx4], .rep (wrF (.mk 11 1 (-1) (-1) (-1) 0 10 sch_sConnectMemberAssignmentRevoked) false V false (t.at_ 5)) [x5], .rep (wrF (.mk 3 1 (-1) (-1) (-1) 0 0 []) false V false (t.at_ 6)) [x6]] w) ?_ (fun a w hJ => ?_)
      · have hh : ((.mk 8 0 (-1) (-1) (-1) 0 0 []) : Fld).has V = true := has_of (by omega) (.inl (by decide))
        have hx := hm.rep (i := 1) rfl
        rw [wrF_hasT (t := (tx1.at_ 0)) (by decide) hh] at hx
        obtain rfl : x1_0 = .string (bs (whole (tx1.at_ 0).s)) := rep_v_inv hx
        have hpc : pieceP (.mk 8 0 (-1) (-1) (-1) 0 0 []) V false (tx1.at_ 0) = fixed (((whole (tx1.at_ 0).s).length : Nat) : Int) 2 ++ whole (tx1.at_ 0).s := piece_text (by decide) (by decide) hh
        have hlp := congrArg List.length hpc
        simp only [List.length_append, fixed_length] at hlp
        have hwl := whole_len (tx1.at_ 0).s
        refine c_region ?_
        refine o_move hk rfl rfl fun a hk => ?_
        refine o_nilCheck hk rfl rfl fun a hk => ?_
        refine o_fieldAddr hk fo_97_0 rfl rfl fun a hk => ?_
        refine o_load hk ts_9 rfl (hm.cell_cel (i := 2) (j := 0) rfl rfl) rfl fun a hk => ?_
        refine o_assign hk rfl rfl fun a hk => ?_
        refine c_end ?_
        refine c_reg ?_
        refine o_move hk rfl rfl fun a hk => ?_
        refine o_move hk rfl rfl fun a hk => ?_
        refine o_call hk cb_42 (appendString_c (hm.row (i := 4) rfl) (whole (tx1.at_ 0).s) (by omega)) ⟨rfl, rfl, trivial⟩ rfl fun v13 w a hR hk => ?_
        have hm := hm.rowCall (i := 4) rfl hR
        have hm := hm.rowEq (i := 4) (n' := n + (([] : List UInt8) ++ (fixed V 2) ++ pieceP (.mk 2 0 (-1) (-1) (-1) 0 0 []) V false (t.at_ 0) ++ pieceP (.mk 8 0 (-1) (-1) (-1) 0 0 []) V false (t.at_ 1) ++ pieceP (.mk 8 0 (-1) (-1) (-1) 0 0 []) V false (t.at_ 2) ++ pieceP (.mk 4 0 (-1) (-1) (-1) 0 0 []) V false (t.at_ 3) ++ (fixed (((things (t.at_ 4).l).length : Nat) : Int) 4) ++ ((things (t.at_ 4).l).take k1).flatMap (partP sch_sConnectMemberAssignmentAssignment V false) ++ (fixed ((whole (tx1.at_ 0).s).length : Int) 2 ++ (whole (tx1.at_ 0).s))).length) (xs' := xs ++ bv (([] : List UInt8) ++ (fixed V 2) ++ pieceP (.mk 2 0 (-1) (-1) (-1) 0 0 []) V false (t.at_ 0) ++ pieceP (.mk 8 0 (-1) (-1) (-1) 0 0 []) V false (t.at_ 1) ++ pieceP (.mk 8 0 (-1) (-1) (-1) 0 0 []) V false (t.at_ 2) ++ pieceP (.mk 4 0 (-1) (-1) (-1) 0 0 []) V false (t.at_ 3) ++ (fixed (((things (t.at_ 4).l).length : Nat) : Int) 4) ++ ((things (t.at_ 4).l).take k1).flatMap (partP sch_sConnectMemberAssignmentAssignment V false) ++ (fixed ((whole (tx1.at_ 0).s).length : Int) 2 ++ (whole (tx1.at_ 0).s)))) rfl (by simp only [List.length_append, Nat.add_assoc]) (by simp only [bv_append, List.append_assoc])
        refine o_assign hk rfl rfl fun a hk => ?_
        refine c_endQ ?_
        have hm := hm.rowEq (i := 4) (n' := n + (([] : List UInt8) ++ (fixed V 2) ++ pieceP (.mk 2 0 (-1) (-1) (-1) 0 0 []) V false (t.at_ 0) ++ pieceP (.mk 8 0 (-1) (-1) (-1) 0 0 []) V false (t.at_ 1) ++ pieceP (.mk 8 0 (-1) (-1) (-1) 0 0 []) V false (t.at_ 2) ++ pieceP (.mk 4 0 (-1) (-1) (-1) 0 0 []) V false (t.at_ 3) ++ (fixed (((things (t.at_ 4).l).length : Nat) : Int) 4) ++ ((things (t.at_ 4).l).take k1).flatMap (partP sch_sConnectMemberAssignmentAssignment V false) ++ pieceP (.mk 8 0 (-1) (-1) (-1) 0 0 []) V false (tx1.at_ 0)).length) (xs' := xs ++ bv (([] : List UInt8) ++ (fixed V 2) ++ pieceP (.mk 2 0 (-1) (-1) (-1) 0 0 []) V false (t.at_ 0) ++ pieceP (.mk 8 0 (-1) (-1) (-1) 0 0 []) V false (t.at_ 1) ++ pieceP (.mk 8 0 (-1) (-1) (-1) 0 0 []) V false (t.at_ 2) ++ pieceP (.mk 4 0 (-1) (-1) (-1) 0 0 []) V false (t.at_ 3) ++ (fixed (((things (t.at_ 4).l).length : Nat) : Int) 4) ++ ((things (t.at_ 4).l).take k1).flatMap (partP sch_sConnectMemberAssignmentAssignment V false) ++ pieceP (.mk 8 0 (-1) (-1) (-1) 0 0 []) V false (tx1.at_ 0))) rfl (by rw [hpc]; try simp only [List.append_assoc, List.append_nil]) (by rw [hpc]; try simp only [List.append_assoc, List.append_nil])
        exact c_then ⟨_, hk.sub ⟨rfl, rfl, rfl, rfl, rfl, rfl, rfl, trivial⟩, hm.pick [0, 1, 2, 3, 4, 5, 6, 7, 8, 9, 10, 11, 12] rfl rfl⟩
      obtain ⟨vq12, hk, hm⟩ := hJ
      have hr : n + (([] : List UInt8) ++ (fixed V 2) ++ pieceP (.mk 2 0 (-1) (-1) (-1) 0 0 []) V false (t.at_ 0) ++ pieceP (.mk 8 0 (-1) (-1) (-1) 0 0 []) V false (t.at_ 1) ++ pieceP (.mk 8 0 (-1) (-1) (-1) 0 0 []) V false (t.at_ 2) ++ pieceP (.mk 4 0 (-1) (-1) (-1) 0 0 []) V false (t.at_ 3) ++ (fixed (((things (t.at_ 4).l).length : Nat) : Int) 4) ++ ((things (t.at_ 4).l).take k1).flatMap (partP sch_sConnectMemberAssignmentAssignment V false) ++ pieceP (.mk 8 0 (-1) (-1) (-1) 0 0 []) V false (tx1.at_ 0)).length + (pieceP (.mk 11 0 (-1) (-1) (-1) 0 2 []) V false (tx1.at_ 1)).length ≤ room := by simp only [List.length_append, List.length_nil, fixed_length]; omega
      have hh : ((.mk 11 0 (-1) (-1) (-1) 0 2 []) : Fld).has V = true := has_of (by omega) (.inl (by decide))
      have hx := hm.rep (i := 0) rfl
      rw [wrF_hasT (t := (tx1.at_ 1)) (by decide) hh] at hx
      replace hx : Rep _ _ (.sl false 1 ((things (tx1.at_ 1).l).map (wrVal 2 (-1) false (wrS [] false V false)))) [x1_1] := hx
      obtain ⟨px1_1, capx1_1, rfl⟩ := rep_sl_lenM hx
      have hm := hm.add (e := .rep (.sl false 1 ((things (tx1.at_ 1).l).map (wrVal 2 (-1) false (wrS [] false V false)))) [.slice px1_1 ((things (tx1.at_ 1).l).length) capx1_1]) rfl hx
      have hpc : pieceP (.mk 11 0 (-1) (-1) (-1) 0 2 []) V false (tx1.at_ 1) = fixed (((things (tx1.at_ 1).l).length : Nat) : Int) 4 ++ (things (tx1.at_ 1).l).flatMap (valueP 2 (partP [] V false) false false) := piece_list (by decide) (by decide) hh
      have hlp := congrArg List.length hpc
      simp only [List.length_append, fixed_length] at hlp
      have htl := things_len (tx1.at_ 1).l
      refine c_region ?_
      refine o_move hk rfl rfl fun a hk => ?_
      refine o_nilCheck hk rfl rfl fun a hk => ?_
      refine o_fieldAddr hk fo_97_1 rfl rfl fun a hk => ?_
      refine o_load hk ts_95 rfl (hm.cell_cel (i := 3) (j := 1) rfl rfl) rfl fun a hk => ?_
      refine o_assign hk rfl rfl fun a hk => ?_
      refine c_end ?_
      refine c_region ?_
      refine o_move hk rfl rfl fun a hk => ?_
      refine o_move hk rfl rfl fun a hk => ?_
      refine o_lenSlice hk te_95 rfl rfl fun a hk => ?_
      refine o_call hk cb_41 (appendArrayLen_c (hm.row (i := 5) rfl) (((things (tx1.at_ 1).l).length : Nat) : Int) (by omega)) ⟨rfl, rfl, trivial⟩ rfl fun v15 w a hR hk => ?_
      have hm := hm.rowCall (i := 5) rfl hR
      have hm := hm.rowEq (i := 5) (n' := n + (([] : List UInt8) ++ (fixed V 2) ++ pieceP (.mk 2 0 (-1) (-1) (-1) 0 0 []) V false (t.at_ 0) ++ pieceP (.mk 8 0 (-1) (-1) (-1) 0 0 []) V false (t.at_ 1) ++ pieceP (.mk 8 0 (-1) (-1) (-1) 0 0 []) V false (t.at_ 2) ++ pieceP (.mk 4 0 (-1) (-1) (-1) 0 0 []) V false (t.at_ 3) ++ (fixed (((things (t.at_ 4).l).length : Nat) : Int) 4) ++ ((things (t.at_ 4).l).take k1).flatMap (partP sch_sConnectMemberAssignmentAssignment V false) ++ pieceP (.mk 8 0 (-1) (-1) (-1) 0 0 []) V false (tx1.at_ 0) ++ (fixed (((things (tx1.at_ 1).l).length : Nat) : Int) 4)).length) (xs' := xs ++ bv (([] : List UInt8) ++ (fixed V 2) ++ pieceP (.mk 2 0 (-1) (-1) (-1) 0 0 []) V false (t.at_ 0) ++ pieceP (.mk 8 0 (-1) (-1) (-1) 0 0 []) V false (t.at_ 1) ++ pieceP (.mk 8 0 (-1) (-1) (-1) 0 0 []) V false (t.at_ 2) ++ pieceP (.mk 4 0 (-1) (-1) (-1) 0 0 []) V false (t.at_ 3) ++ (fixed (((things (t.at_ 4).l).length : Nat) : Int) 4) ++ ((things (t.at_ 4).l).take k1).flatMap (partP sch_sConnectMemberAssignmentAssignment V false) ++ pieceP (.mk 8 0 (-1) (-1) (-1) 0 0 []) V false (tx1.at_ 0) ++ (fixed (((things (tx1.at_ 1).l).length : Nat) : Int) 4))) rfl (by simp only [List.length_append, Nat.add_assoc]) (by simp only [bv_append, List.append_assoc])
      refine o_assign hk rfl rfl fun a hk => ?_
      refine c_end ?_
      refine c_region ?_
      refine o_move hk rfl rfl fun a hk => ?_
      refine o_lenSlice hk te_95 rfl rfl fun a hk => ?_
      refine o_move hk rfl rfl fun a hk => ?_
      refine c_end ?_
      have hm := hm.rowEq (i := 5) (n' := n + (([] : List UInt8) ++ (fixed V 2) ++ pieceP (.mk 2 0 (-1) (-1) (-1) 0 0 []) V false (t.at_ 0) ++ pieceP (.mk 8 0 (-1) (-1) (-1) 0 0 []) V false (t.at_ 1) ++ pieceP (.mk 8 0 (-1) (-1) (-1) 0 0 []) V false (t.at_ 2) ++ pieceP (.mk 4 0 (-1) (-1) (-1) 0 0 []) V false (t.at_ 3) ++ (fixed (((things (t.at_ 4).l).length : Nat) : Int) 4) ++ ((things (t.at_ 4).l).take k1).flatMap (partP sch_sConnectMemberAssignmentAssignment V false) ++ pieceP (.mk 8 0 (-1) (-1) (-1) 0 0 []) V false (tx1.at_ 0) ++ (fixed (((things (tx1.at_ 1).l).length : Nat) : Int) 4) ++ ((things (tx1.at_ 1).l).take 0).flatMap (valueP 2 (partP [] V false) false false)).length) (xs' := xs ++ bv (([] : List UInt8) ++ (fixed V 2) ++ pieceP (.mk 2 0 (-1) (-1) (-1) 0 0 []) V false (t.at_ 0) ++ pieceP (.mk 8 0 (-1) (-1) (-1) 0 0 []) V false (t.at_ 1) ++ pieceP (.mk 8 0 (-1) (-1) (-1) 0 0 []) V false (t.at_ 2) ++ pieceP (.mk 4 0 (-1) (-1) (-1) 0 0 []) V false (t.at_ 3) ++ (fixed (((things (t.at_ 4).l).length : Nat) : Int) 4) ++ ((things (t.at_ 4).l).take k1).flatMap (partP sch_sConnectMemberAssignmentAssignment V false) ++ pieceP (.mk 8 0 (-1) (-1) (-1) 0 0 []) V false (tx1.at_ 0) ++ (fixed (((things (tx1.at_ 1).l).length : Nat) : Int) 4) ++ ((things (tx1.at_ 1).l).take 0).flatMap (valueP 2 (partP [] V false) false false))) rfl (by simp only [List.take_zero, List.flatMap_nil, List.append_nil]) (by simp only [List.take_zero, List.flatMap_nil, List.append_nil])
      refine c_range (L0 := [(0, .pointer (some ⟨g, 0, none⟩)), (1, v15), (5, .int .i16 V), (11, .slice px4 ((things (t.at_ 4).l).length) capx4), (13, .pointer (some ⟨bl1, off1 + k1 * 2, none⟩)), (15, .slice px1_1 ((things (tx1.at_ 1).l).length) capx1_1), (75, .int .i64 (((things (t.at_ 4).l).length : Nat) : Int)), (76, .int .i64 (k1 : Int))]) (N := (things (tx1.at_ 1).l).length) (by omega) (fun k2 L w => ∃ vr, L = [(0, .pointer (some ⟨g, 0, none⟩)), (1, vr), (5, .int .i16 V), (11, .slice px4 ((things (t.at_ 4).l).length) capx4), (13, .pointer (some ⟨bl1, off1 + k1 * 2, none⟩)), (15, .slice px1_1 ((things (tx1.at_ 1).l).length) capx1_1), (75, .int .i64 (((things (t.at_ 4).l).length : Nat) : Int)), (76, .int .i64 (k1 : Int))] ∧ Mem w0 (fun k => v.ownBlock = some k) Y [.rep (.sl false 1 ((things (tx1.at_ 1).l).map (wrVal 2 (-1) false (wrS [] false V false)))) [.slice px1_1 ((things (tx1.at_ 1).l).length) capx1_1], .rep (wrF (.mk 11 0 (-1) (-1) (-1) 0 2 []) false V false (tx1.at_ 1)) [.slice px1_1 ((things (tx1.at_ 1).l).length) capx1_1], .rep (wrF (.mk 8 0 (-1) (-1) (-1) 0 0 []) false V false (tx1.at_ 0)) [x1_0], .cel bl1 (off1 + k1 * 2) [x1_0, .slice px1_1 ((things (tx1.at_ 1).l).length) capx1_1], .rep (.sl false 2 ((things (t.at_ 4).l).map (wrS sch_sConnectMemberAssignmentAssignment false V false))) [.slice px4 ((things (t.at_ 4).l).length) capx4], .row 5 1 vr (n + (([] : List UInt8) ++ (fixed V 2) ++ pieceP (.mk 2 0 (-1) (-1) (-1) 0 0 []) V false (t.at_ 0) ++ pieceP (.mk 8 0 (-1) (-1) (-1) 0 0 []) V false (t.at_ 1) ++ pieceP (.mk 8 0 (-1) (-1) (-1) 0 0 []) V false (t.at_ 2) ++ pieceP (.mk 4 0 (-1) (-1) (-1) 0 0 []) V false (t.at_ 3) ++ (fixed (((things (t.at_ 4).l).length : Nat) : Int) 4) ++ ((things (t.at_ 4).l).take k1).flatMap (partP sch_sConnectMemberAssignmentAssignment V false) ++ pieceP (.mk 8 0 (-1) (-1) (-1) 0 0 []) V false (tx1.at_ 0) ++ (fixed (((things (tx1.at_ 1).l).length : Nat) : Int) 4) ++ ((things (tx1.at_ 1).l).take k2).flatMap (valueP 2 (partP [] V false) false false)).length) (xs ++ bv (([] : List UInt8) ++ (fixed V 2) ++ pieceP (.mk 2 0 (-1) (-1) (-1) 0 0 []) V false (t.at_ 0) ++ pieceP (.mk 8 0 (-1) (-1) (-1) 0 0 []) V false (t.at_ 1) ++ pieceP (.mk 8 0 (-1) (-1) (-1) 0 0 []) V false (t.at_ 2) ++ pieceP (.mk 4 0 (-1) (-1) (-1) 0 0 []) V false (t.at_ 3) ++ (fixed (((things (t.at_ 4).l).length : Nat) : Int) 4) ++ ((things (t.at_ 4).l).take k1).flatMap (partP sch_sConnectMemberAssignmentAssignment V false) ++ pieceP (.mk 8 0 (-1) (-1) (-1) 0 0 []) V false (tx1.at_ 0) ++ (fixed (((things (tx1.at_ 1).l).length : Nat) : Int) 4) ++ ((things (tx1.at_ 1).l).take k2).flatMap (valueP 2 (partP [] V false) false false))), .cel g 0 [.int .i16 V, x0, x1, x2, x3, .slice px4 ((things (t.at_ 4).l).length) capx4, x5, x6], .rep (wrF (.mk 2 0 (-1) (-1) (-1) 0 0 []) false V false (t.at_ 0)) [x0], .rep (wrF (.mk 8 0 (-1) (-1) (-1) 0 0 []) false V false (t.at_ 1)) [x1], .rep (wrF (.mk 8 0 (-1) (-1) (-1) 0 0 []) false V false (t.at_ 2)) [x2], .rep (wrF (.mk 4 0 (-1) (-1) (-1) 0 0 []) false V false (t.at_ 3)) [x3], .rep (wrF (.mk 11 0 (-1) (-1) (-1) 0 10 sch_sConnectMemberAssignmentAssignment) false V false (t.at_ 4)) [.slice px4 ((things (t.at_ 4).l).length) capx4], .rep (wrF (.mk 11 1 (-1) (-1) (-1) 0 10 sch_sConnectMemberAssignmentRevoked) false V false (t.at_ 5)) [x5], .rep (wrF (.mk 3 1 (-1) (-1) (-1) 0 0 []) false V false (t.at_ 6)) [x6]] w) (hk.sub ⟨rfl, rfl, rfl, rfl, rfl, rfl, rfl, rfl, rfl, rfl, trivial⟩) ⟨_, rfl, hm⟩ rfl rfl rfl rfl rfl rfl rfl (fun k2 L a w hlt hR hk => ?_) rfl (fun L a w hR hk => ?_)
      · obtain ⟨vr, rfl, hm⟩ := hR
        obtain ⟨hlt2, bl2, off2, e2, hpl2, hel, hRe, hCe⟩ := rep_sl_get (hm.rep (i := 0) rfl) (getD_map (wrVal 2 (-1) false (wrS [] false V false)) (things (tx1.at_ 1).l) k2 T.nil hlt)
        have hfl := flatMap_take_le (valueP 2 (partP [] V false) false false) (things (tx1.at_ 1).l) k2 T.nil hlt
        replace hRe : Rep _ _ (.v (.int .i16 (IntKind.i16.wrap ((things (tx1.at_ 1).l).getD k2 T.nil).n))) e2 := hRe
        simp only [Rep] at hRe
        subst hRe
        have hm := hm.add (e := .cel bl2 (off2 + k2 * 1) [.int .i16 (IntKind.i16.wrap ((things (tx1.at_ 1).l).getD k2 T.nil).n)]) rfl hCe
        have hTe : (valueP 2 (partP [] V false) false false) ((things (tx1.at_ 1).l).getD k2 T.nil) = fixed (IntKind.i16.wrap ((things (tx1.at_ 1).l).getD k2 T.nil).n) 2 := by first | rfl | exact (fixed_i16 _).symm
        rw [hTe] at hfl
        simp only [List.length_append, fixed_length, List.length_cons, List.length_nil] at hfl
        have hr2 : n + (([] : List UInt8) ++ (fixed V 2) ++ pieceP (.mk 2 0 (-1) (-1) (-1) 0 0 []) V false (t.at_ 0) ++ pieceP (.mk 8 0 (-1) (-1) (-1) 0 0 []) V false (t.at_ 1) ++ pieceP (.mk 8 0 (-1) (-1) (-1) 0 0 []) V false (t.at_ 2) ++ pieceP (.mk 4 0 (-1) (-1) (-1) 0 0 []) V false (t.at_ 3) ++ (fixed (((things (t.at_ 4).l).length : Nat) : Int) 4) ++ ((things (t.at_ 4).l).take k1).flatMap (partP sch_sConnectMemberAssignmentAssignment V false) ++ pieceP (.mk 8 0 (-1) (-1) (-1) 0 0 []) V false (tx1.at_ 0) ++ (fixed (((things (tx1.at_ 1).l).length : Nat) : Int) 4) ++ ((things (tx1.at_ 1).l).take k2).flatMap (valueP 2 (partP [] V false) false false)).length + 2 ≤ room := by simp only [List.length_append, List.length_nil, fixed_length]; omega
        refine c_region ?_
        refine o_move hk rfl rfl fun a hk => ?_
        refine o_assign hk rfl rfl fun a hk => ?_
        refine c_end ?_
        refine c_region ?_
        refine o_move hk rfl rfl fun a hk => ?_
        refine o_move hk rfl rfl fun a hk => ?_
        refine o_indexAddr (j := k2) (b := bl2) (off := off2) hk te_95 ts_45 (by rw [← hpl2]; rfl) rfl hlt2 rfl fun a hk => ?_
        refine o_load hk ts_45 rfl (hm.cell_cel (i := 0) (j := 0) rfl rfl) rfl fun a hk => ?_
        refine o_assign hk rfl rfl fun a hk => ?_
        refine c_end ?_
        refine c_reg ?_
        refine o_move hk rfl rfl fun a hk => ?_
        refine o_move hk rfl rfl fun a hk => ?_
        refine o_call hk cb_39 (appendInt16_c (hm.row (i := 6) rfl) (IntKind.i16.wrap ((things (tx1.at_ 1).l).getD k2 T.nil).n) (by omega)) ⟨rfl, rfl, trivial⟩ rfl fun v16 w a hR hk => ?_
        have hm := hm.rowCall (i := 6) rfl hR
        have hm := hm.rowEq (i := 6) (n' := n + (([] : List UInt8) ++ (fixed V 2) ++ pieceP (.mk 2 0 (-1) (-1) (-1) 0 0 []) V false (t.at_ 0) ++ pieceP (.mk 8 0 (-1) (-1) (-1) 0 0 []) V false (t.at_ 1) ++ pieceP (.mk 8 0 (-1) (-1) (-1) 0 0 []) V false (t.at_ 2) ++ pieceP (.mk 4 0 (-1) (-1) (-1) 0 0 []) V false (t.at_ 3) ++ (fixed (((things (t.at_ 4).l).length : Nat) : Int) 4) ++ ((things (t.at_ 4).l).take k1).flatMap (partP sch_sConnectMemberAssignmentAssignment V false) ++ pieceP (.mk 8 0 (-1) (-1) (-1) 0 0 []) V false (tx1.at_ 0) ++ (fixed (((things (tx1.at_ 1).l).length : Nat) : Int) 4) ++ ((things (tx1.at_ 1).l).take k2).flatMap (valueP 2 (partP [] V false) false false) ++ (fixed (IntKind.i16.wrap ((things (tx1.at_ 1).l).getD k2 T.nil).n) 2)).length) (xs' := xs ++ bv (([] : List UInt8) ++ (fixed V 2) ++ pieceP (.mk 2 0 (-1) (-1) (-1) 0 0 []) V false (t.at_ 0) ++ pieceP (.mk 8 0 (-1) (-1) (-1) 0 0 []) V false (t.at_ 1) ++ pieceP (.mk 8 0 (-1) (-1) (-1) 0 0 []) V false (t.at_ 2) ++ pieceP (.mk 4 0 (-1) (-1) (-1) 0 0 []) V false (t.at_ 3) ++ (fixed (((things (t.at_ 4).l).length : Nat) : Int) 4) ++ ((things (t.at_ 4).l).take k1).flatMap (partP sch_sConnectMemberAssignmentAssignment V false) ++ pieceP (.mk 8 0 (-1) (-1) (-1) 0 0 []) V false (tx1.at_ 0) ++ (fixed (((things (tx1.at_ 1).l).length : Nat) : Int) 4) ++ ((things (tx1.at_ 1).l).take k2).flatMap (valueP 2 (partP [] V false) false false) ++ (fixed (IntKind.i16.wrap ((things (tx1.at_ 1).l).getD k2 T.nil).n) 2))) rfl (by simp only [List.length_append, Nat.add_assoc]) (by simp only [bv_append, List.append_assoc])
        refine o_assign hk rfl rfl fun a hk => ?_
        refine c_endQ ?_
        refine c_inNormal ?_
        have hsucc := flatMap_take_succ (valueP 2 (partP [] V false) false false) (things (tx1.at_ 1).l) k2 T.nil hlt
        rw [hTe] at hsucc
        have hm := hm.rowEq (i := 6) (n' := n + (([] : List UInt8) ++ (fixed V 2) ++ pieceP (.mk 2 0 (-1) (-1) (-1) 0 0 []) V false (t.at_ 0) ++ pieceP (.mk 8 0 (-1) (-1) (-1) 0 0 []) V false (t.at_ 1) ++ pieceP (.mk 8 0 (-1) (-1) (-1) 0 0 []) V false (t.at_ 2) ++ pieceP (.mk 4 0 (-1) (-1) (-1) 0 0 []) V false (t.at_ 3) ++ (fixed (((things (t.at_ 4).l).length : Nat) : Int) 4) ++ ((things (t.at_ 4).l).take k1).flatMap (partP sch_sConnectMemberAssignmentAssignment V false) ++ pieceP (.mk 8 0 (-1) (-1) (-1) 0 0 []) V false (tx1.at_ 0) ++ (fixed (((things (tx1.at_ 1).l).length : Nat) : Int) 4) ++ ((things (tx1.at_ 1).l).take (k2 + 1)).flatMap (valueP 2 (partP [] V false) false false)).length) (xs' := xs ++ bv (([] : List UInt8) ++ (fixed V 2) ++ pieceP (.mk 2 0 (-1) (-1) (-1) 0 0 []) V false (t.at_ 0) ++ pieceP (.mk 8 0 (-1) (-1) (-1) 0 0 []) V false (t.at_ 1) ++ pieceP (.mk 8 0 (-1) (-1) (-1) 0 0 []) V false (t.at_ 2) ++ pieceP (.mk 4 0 (-1) (-1) (-1) 0 0 []) V false (t.at_ 3) ++ (fixed (((things (t.at_ 4).l).length : Nat) : Int) 4) ++ ((things (t.at_ 4).l).take k1).flatMap (partP sch_sConnectMemberAssignmentAssignment V false) ++ pieceP (.mk 8 0 (-1) (-1) (-1) 0 0 []) V false (tx1.at_ 0) ++ (fixed (((things (tx1.at_ 1).l).length : Nat) : Int) 4) ++ ((things (tx1.at_ 1).l).take (k2 + 1)).flatMap (valueP 2 (partP [] V false) false false))) rfl (by rw [hsucc]; try simp only [List.append_assoc, List.append_nil]) (by rw [hsucc]; try simp only [List.append_assoc, List.append_nil])
        exact c_round (L' := [(0, .pointer (some ⟨g, 0, none⟩)), (1, v16), (5, .int .i16 V), (11, .slice px4 ((things (t.at_ 4).l).length) capx4), (13, .pointer (some ⟨bl1, off1 + k1 * 2, none⟩)), (15, .slice px1_1 ((things (tx1.at_ 1).l).length) capx1_1), (75, .int .i64 (((things (t.at_ 4).l).length : Nat) : Int)), (76, .int .i64 (k1 : Int))]) hk ⟨rfl, rfl, rfl, rfl, rfl, rfl, rfl, rfl, rfl, rfl, trivial⟩ rfl ⟨_, rfl, hm.pick [1, 2, 3, 4, 5, 6, 7, 8, 9, 10, 11, 12, 13, 14] rfl rfl⟩
      · obtain ⟨vl17, rfl, hm⟩ := hR
        rw [List.take_length] at hm
        have hm := hm.pick [1, 2, 3, 4, 5, 6, 7, 8, 9, 10, 11, 12, 13] rfl rfl
        have hm := hm.rowEq (i := 4) (n' := n + (([] : List UInt8) ++ (fixed V 2) ++ pieceP (.mk 2 0 (-1) (-1) (-1) 0 0 []) V false (t.at_ 0) ++ pieceP (.mk 8 0 (-1) (-1) (-1) 0 0 []) V false (t.at_ 1) ++ pieceP (.mk 8 0 (-1) (-1) (-1) 0 0 []) V false (t.at_ 2) ++ pieceP (.mk 4 0 (-1) (-1) (-1) 0 0 []) V false (t.at_ 3) ++ (fixed (((things (t.at_ 4).l).length : Nat) : Int) 4) ++ ((things (t.at_ 4).l).take k1).flatMap (partP sch_sConnectMemberAssignmentAssignment V false) ++ pieceP (.mk 8 0 (-1) (-1) (-1) 0 0 []) V false (tx1.at_ 0) ++ pieceP (.mk 11 0 (-1) (-1) (-1) 0 2 []) V false (tx1.at_ 1)).length) (xs' := xs ++ bv (([] : List UInt8) ++ (fixed V 2) ++ pieceP (.mk 2 0 (-1) (-1) (-1) 0 0 []) V false (t.at_ 0) ++ pieceP (.mk 8 0 (-1) (-1) (-1) 0 0 []) V false (t.at_ 1) ++ pieceP (.mk 8 0 (-1) (-1) (-1) 0 0 []) V false (t.at_ 2) ++ pieceP (.mk 4 0 (-1) (-1) (-1) 0 0 []) V false (t.at_ 3) ++ (fixed (((things (t.at_ 4).l).length : Nat) : Int) 4) ++ ((things (t.at_ 4).l).take k1).flatMap (partP sch_sConnectMemberAssignmentAssignment V false) ++ pieceP (.mk 8 0 (-1) (-1) (-1) 0 0 []) V false (tx1.at_ 0) ++ pieceP (.mk 11 0 (-1) (-1) (-1) 0 2 []) V false (tx1.at_ 1))) rfl (by rw [hpc]; try simp only [List.append_assoc, List.append_nil]) (by rw [hpc]; try simp only [List.append_assoc, List.append_nil])
        refine c_inNormal ?_
        have hsucc := flatMap_take_succ (partP sch_sConnectMemberAssignmentAssignment V false) (things (t.at_ 4).l) k1 T.nil hlt
        rw [← htx1, hTe] at hsucc
        have hm := hm.rowEq (i := 4) (n' := n + (([] : List UInt8) ++ (fixed V 2) ++ pieceP (.mk 2 0 (-1) (-1) (-1) 0 0 []) V false (t.at_ 0) ++ pieceP (.mk 8 0 (-1) (-1) (-1) 0 0 []) V false (t.at_ 1) ++ pieceP (.mk 8 0 (-1) (-1) (-1) 0 0 []) V false (t.at_ 2) ++ pieceP (.mk 4 0 (-1) (-1) (-1) 0 0 []) V false (t.at_ 3) ++ (fixed (((things (t.at_ 4).l).length : Nat) : Int) 4) ++ ((things (t.at_ 4).l).take (k1 + 1)).flatMap (partP sch_sConnectMemberAssignmentAssignment V false)).length) (xs' := xs ++ bv (([] : List UInt8) ++ (fixed V 2) ++ pieceP (.mk 2 0 (-1) (-1) (-1) 0 0 []) V false (t.at_ 0) ++ pieceP (.mk 8 0 (-1) (-1) (-1) 0 0 []) V false (t.at_ 1) ++ pieceP (.mk 8 0 (-1) (-1) (-1) 0 0 []) V false (t.at_ 2) ++ pieceP (.mk 4 0 (-1) (-1) (-1) 0 0 []) V false (t.at_ 3) ++ (fixed (((things (t.at_ 4).l).length : Nat) : Int) 4) ++ ((things (t.at_ 4).l).take (k1 + 1)).flatMap (partP sch_sConnectMemberAssignmentAssignment V false))) rfl (by rw [hsucc]; try simp only [List.append_assoc, List.append_nil]) (by rw [hsucc]; try simp only [List.append_assoc, List.append_nil])
        exact c_round (L' := [(0, .pointer (some ⟨g, 0, none⟩)), (1, vl17), (5, .int .i16 V), (11, .slice px4 ((things (t.at_ 4).l).length) capx4)]) hk ⟨rfl, rfl, rfl, rfl, rfl, rfl, trivial⟩ rfl ⟨_, rfl, hm.pick [3, 4, 5, 6, 7, 8, 9, 10, 11, 12] rfl rfl⟩
    · obtain ⟨vl18, rfl, hm⟩ := hR
      rw [List.take_length] at hm
      have hm := hm.rowEq (i := 1) (n' := n + (([] : List UInt8) ++ (fixed V 2) ++ pieceP (.mk 2 0 (-1) (-1) (-1) 0 0 []) V false (t.at_ 0) ++ pieceP (.mk 8 0 (-1) (-1) (-1) 0 0 []) V false (t.at_ 1) ++ pieceP (.mk 8 0 (-1) (-1) (-1) 0 0 []) V false (t.at_ 2) ++ pieceP (.mk 4 0 (-1) (-1) (-1) 0 0 []) V false (t.at_ 3) ++ pieceP (.mk 11 0 (-1) (-1) (-1) 0 10 sch_sConnectMemberAssignmentAssignment) V false (t.at_ 4)).length) (xs' := xs ++ bv (([] : List UInt8) ++ (fixed V 2) ++ pieceP (.mk 2 0 (-1) (-1) (-1) 0 0 []) V false (t.at_ 0) ++ pieceP (.mk 8 0 (-1) (-1) (-1) 0 0 []) V false (t.at_ 1) ++ pieceP (.mk 8 0 (-1) (-1) (-1) 0 0 []) V false (t.at_ 2) ++ pieceP (.mk 4 0 (-1) (-1) (-1) 0 0 []) V false (t.at_ 3) ++ pieceP (.mk 11 0 (-1) (-1) (-1) 0 10 sch_sConnectMemberAssignmentAssignment) V false (t.at_ 4))) rfl (by rw [hpc]; try simp only [List.append_assoc, List.append_nil]) (by rw [hpc]; try simp only [List.append_assoc, List.append_nil])
      exact c_then ⟨_, hk.sub ⟨rfl, rfl, rfl, trivial⟩, hm.pick [1, 2, 3, 4, 5, 6, 7, 8, 9] rfl rfl⟩
  obtain ⟨vq10, hk, hm⟩ := hJ
  have hr : n + (([] : List UInt8) ++ (fixed V 2) ++ pieceP (.mk 2 0 (-1) (-1) (-1) 0 0 []) V false (t.at_ 0) ++ pieceP (.mk 8 0 (-1) (-1) (-1) 0 0 []) V false (t.at_ 1) ++ pieceP (.mk 8 0 (-1) (-1) (-1) 0 0 []) V false (t.at_ 2) ++ pieceP (.mk 4 0 (-1) (-1) (-1) 0 0 []) V false (t.at_ 3) ++ pieceP (.mk 11 0 (-1) (-1) (-1) 0 10 sch_sConnectMemberAssignmentAssignment) V false (t.at_ 4)).length + (pieceP (.mk 11 1 (-1) (-1) (-1) 0 10 sch_sConnectMemberAssignmentRevoked) V false (t.at_ 5)).length ≤ room := by simp only [List.length_append, List.length_nil, fixed_length]; omega
  refine c_cut (fun a w => ∃ vq19, Kn 168 [(0, .pointer (some ⟨g, 0, none⟩)), (1, vq19), (5, .int .i16 V)] a ∧ Mem w0 (fun k => v.ownBlock = some k) Y [.row 5 1 vq19 (n + (([] : List UInt8) ++ (fixed V 2) ++ pieceP (.mk 2 0 (-1) (-1) (-1) 0 0 []) V false (t.at_ 0) ++ pieceP (.mk 8 0 (-1) (-1) (-1) 0 0 []) V false (t.at_ 1) ++ pieceP (.mk 8 0 (-1) (-1) (-1) 0 0 []) V false (t.at_ 2) ++ pieceP (.mk 4 0 (-1) (-1) (-1) 0 0 []) V false (t.at_ 3) ++ pieceP (.mk 11 0 (-1) (-1) (-1) 0 10 sch_sConnectMemberAssignmentAssignment) V false (t.at_ 4) ++ pieceP (.mk 11 1 (-1) (-1) (-1) 0 10 sch_sConnectMemberAssignmentRevoked) V false (t.at_ 5)).length) (xs ++ bv (([] : List UInt8) ++ (fixed V 2) ++ pieceP (.mk 2 0 (-1) (-1) (-1) 0 0 []) V false (t.at_ 0) ++ pieceP (.mk 8 0 (-1) (-1) (-1) 0 0 []) V false (t.at_ 1) ++ pieceP (.mk 8 0 (-1) (-1) (-1) 0 0 []) V false (t.at_ 2) ++ pieceP (.mk 4 0 (-1) (-1) (-1) 0 0 []) V false (t.at_ 3) ++ pieceP (.mk 11 0 (-1) (-1) (-1) 0 10 sch_sConnectMemberAssignmentAssignment) V false (t.at_ 4) ++ pieceP (.mk 11 1 (-1) (-1) (-1) 0 10 sch_sConnectMemberAssignmentRevoked) V false (t.at_ 5))), .cel g 0 [.int .i16 V, x0, x1, x2, x3, x4, x5, x6], .rep (wrF (.mk 2 0 (-1) (-1) (-1) 0 0 []) false V false (t.at_ 0)) [x0], .rep (wrF (.mk 8 0 (-1) (-1) (-1) 0 0 []) false V false (t.at_ 1)) [x1], .rep (wrF (.mk 8 0 (-1) (-1) (-1) 0 0 []) false V false (t.at_ 2)) [x2], .rep (wrF (.mk 4 0 (-1) (-1) (-1) 0 0 []) false V false (t.at_ 3)) [x3], .rep (wrF (.mk 11 0 (-1) (-1) (-1) 0 10 sch_sConnectMemberAssignmentAssignment) false V false (t.at_ 4)) [x4], .rep (wrF (.mk 11 1 (-1) (-1) (-1) 0 10 sch_sConnectMemberAssignmentRevoked) false V false (t.at_ 5)) [x5], .rep (wrF (.mk 3 1 (-1) (-1) (-1) 0 0 []) false V false (t.at_ 6)) [x6]] w) ?_ (fun a w hJ => ?_)
  · refine c_region ?_
    refine o_move hk rfl rfl fun a hk => ?_
    refine o_icmp hk rfl rfl rfl rfl fun a hk => ?_
    refine c_end ?_
    refine c_cond hk rfl (fun hc => ?_) (fun hc => ?_)
    · simp only [decide_eq_true_eq, decide_eq_false_iff_not, Bool.and_eq_true] at hc
      have hh : ((.mk 11 1 (-1) (-1) (-1) 0 10 sch_sConnectMemberAssignmentRevoked) : Fld).has V = true := has_of (by omega) (.inl (by decide))
      have hx := hm.rep (i := 7) rfl
      rw [wrF_hasT (t := (t.at_ 5)) (by decide) hh] at hx
      replace hx : Rep _ _ (.sl false 2 ((things (t.at_ 5).l).map (wrS sch_sConnectMemberAssignmentRevoked false V false))) [x5] := hx
      obtain ⟨px5, capx5, rfl⟩ := rep_sl_lenM hx
      have hm := hm.add (e := .rep (.sl false 2 ((things (t.at_ 5).l).map (wrS sch_sConnectMemberAssignmentRevoked false V false))) [.slice px5 ((things (t.at_ 5).l).length) capx5]) rfl hx
      have hpc : pieceP (.mk 11 1 (-1) (-1) (-1) 0 10 sch_sConnectMemberAssignmentRevoked) V false (t.at_ 5) = fixed (((things (t.at_ 5).l).length : Nat) : Int) 4 ++ (things (t.at_ 5).l).flatMap (partP sch_sConnectMemberAssignmentRevoked V false) := piece_list (by decide) (by decide) hh
      have hlp := congrArg List.length hpc
      simp only [List.length_append, fixed_length] at hlp
      have htl := things_len (t.at_ 5).l
      refine c_region ?_
      refine o_move hk rfl rfl fun a hk => ?_
      refine o_nilCheck hk rfl rfl fun a hk => ?_
      refine o_fieldAddr hk fo_70_6 rfl rfl fun a hk => ?_
      refine o_load hk ts_68 rfl (hm.cell_cel (i := 2) (j := 6) rfl rfl) rfl fun a hk => ?_
      refine o_assign hk rfl rfl fun a hk => ?_
      refine c_end ?_
      refine c_region ?_
      refine o_move hk rfl rfl fun a hk => ?_
      refine o_move hk rfl rfl fun a hk => ?_
      refine o_lenSlice hk te_68 rfl rfl fun a hk => ?_
      refine o_call hk cb_41 (appendArrayLen_c (hm.row (i := 1) rfl) (((things (t.at_ 5).l).length : Nat) : Int) (by omega)) ⟨rfl, rfl, trivial⟩ rfl fun v20 w a hR hk => ?_
      have hm := hm.rowCall (i := 1) rfl hR
      have hm := hm.rowEq (i := 1) (n' := n + (([] : List UInt8) ++ (fixed V 2) ++ pieceP (.mk 2 0 (-1) (-1) (-1) 0 0 []) V false (t.at_ 0) ++ pieceP (.mk 8 0 (-1) (-1) (-1) 0 0 []) V false (t.at_ 1) ++ pieceP (.mk 8 0 (-1) (-1) (-1) 0 0 []) V false (t.at_ 2) ++ pieceP (.mk 4 0 (-1) (-1) (-1) 0 0 []) V false (t.at_ 3) ++ pieceP (.mk 11 0 (-1) (-1) (-1) 0 10 sch_sConnectMemberAssignmentAssignment) V false (t.at_ 4) ++ (fixed (((things (t.at_ 5).l).length : Nat) : Int) 4)).length) (xs' := xs ++ bv (([] : List UInt8) ++ (fixed V 2) ++ pieceP (.mk 2 0 (-1) (-1) (-1) 0 0 []) V false (t.at_ 0) ++ pieceP (.mk 8 0 (-1) (-1) (-1) 0 0 []) V false (t.at_ 1) ++ pieceP (.mk 8 0 (-1) (-1) (-1) 0 0 []) V false (t.at_ 2) ++ pieceP (.mk 4 0 (-1) (-1) (-1) 0 0 []) V false (t.at_ 3) ++ pieceP (.mk 11 0 (-1) (-1) (-1) 0 10 sch_sConnectMemberAssignmentAssignment) V false (t.at_ 4) ++ (fixed (((things (t.at_ 5).l).length : Nat) : Int) 4))) rfl (by simp only [List.length_append, Nat.add_assoc]) (by simp only [bv_append, List.append_assoc])
      refine o_assign hk rfl rfl fun a hk => ?_
      refine c_end ?_
      refine c_region ?_
      refine o_move hk rfl rfl fun a hk => ?_
      refine o_lenSlice hk te_68 rfl rfl fun a hk => ?_
      refine o_move hk rfl rfl fun a hk => ?_
      refine c_end ?_
      have hm := hm.rowEq (i := 1) (n' := n + (([] : List UInt8) ++ (fixed V 2) ++ pieceP (.mk 2 0 (-1) (-1) (-1) 0 0 []) V false (t.at_ 0) ++ pieceP (.mk 8 0 (-1) (-1) (-1) 0 0 []) V false (t.at_ 1) ++ pieceP (.mk 8 0 (-1) (-1) (-1) 0 0 []) V false (t.at_ 2) ++ pieceP (.mk 4 0 (-1) (-1) (-1) 0 0 []) V false (t.at_ 3) ++ pieceP (.mk 11 0 (-1) (-1) (-1) 0 10 sch_sConnectMemberAssignmentAssignment) V false (t.at_ 4) ++ (fixed (((things (t.at_ 5).l).length : Nat) : Int) 4) ++ ((things (t.at_ 5).l).take 0).flatMap (partP sch_sConnectMemberAssignmentRevoked V false)).length) (xs' := xs ++ bv (([] : List UInt8) ++ (fixed V 2) ++ pieceP (.mk 2 0 (-1) (-1) (-1) 0 0 []) V false (t.at_ 0) ++ pieceP (.mk 8 0 (-1) (-1) (-1) 0 0 []) V false (t.at_ 1) ++ pieceP (.mk 8 0 (-1) (-1) (-1) 0 0 []) V false (t.at_ 2) ++ pieceP (.mk 4 0 (-1) (-1) (-1) 0 0 []) V false (t.at_ 3) ++ pieceP (.mk 11 0 (-1) (-1) (-1) 0 10 sch_sConnectMemberAssignmentAssignment) V false (t.at_ 4) ++ (fixed (((things (t.at_ 5).l).length : Nat) : Int) 4) ++ ((things (t.at_ 5).l).take 0).flatMap (partP sch_sConnectMemberAssignmentRevoked V false))) rfl (by simp only [List.take_zero, List.flatMap_nil, List.append_nil]) (by simp only [List.take_zero, List.flatMap_nil, List.append_nil])
      refine c_range (L0 := [(0, .pointer (some ⟨g, 0, none⟩)), (1, v20), (5, .int .i16 V), (18, .slice px5 ((things (t.at_ 5).l).length) capx5)]) (N := (things (t.at_ 5).l).length) (by omega) (fun k3 L w => ∃ vr, L = [(0, .pointer (some ⟨g, 0, none⟩)), (1, vr), (5, .int .i16 V), (18, .slice px5 ((things (t.at_ 5).l).length) capx5)] ∧ Mem w0 (fun k => v.ownBlock = some k) Y [.rep (.sl false 2 ((things (t.at_ 5).l).map (wrS sch_sConnectMemberAssignmentRevoked false V false))) [.slice px5 ((things (t.at_ 5).l).length) capx5], .row 5 1 vr (n + (([] : List UInt8) ++ (fixed V 2) ++ pieceP (.mk 2 0 (-1) (-1) (-1) 0 0 []) V false (t.at_ 0) ++ pieceP (.mk 8 0 (-1) (-1) (-1) 0 0 []) V false (t.at_ 1) ++ pieceP (.mk 8 0 (-1) (-1) (-1) 0 0 []) V false (t.at_ 2) ++ pieceP (.mk 4 0 (-1) (-1) (-1) 0 0 []) V false (t.at_ 3) ++ pieceP (.mk 11 0 (-1) (-1) (-1) 0 10 sch_sConnectMemberAssignmentAssignment) V false (t.at_ 4) ++ (fixed (((things (t.at_ 5).l).length : Nat) : Int) 4) ++ ((things (t.at_ 5).l).take k3).flatMap (partP sch_sConnectMemberAssignmentRevoked V false)).length) (xs ++ bv (([] : List UInt8) ++ (fixed V 2) ++ pieceP (.mk 2 0 (-1) (-1) (-1) 0 0 []) V false (t.at_ 0) ++ pieceP (.mk 8 0 (-1) (-1) (-1) 0 0 []) V false (t.at_ 1) ++ pieceP (.mk 8 0 (-1) (-1) (-1) 0 0 []) V false (t.at_ 2) ++ pieceP (.mk 4 0 (-1) (-1) (-1) 0 0 []) V false (t.at_ 3) ++ pieceP (.mk 11 0 (-1) (-1) (-1) 0 10 sch_sConnectMemberAssignmentAssignment) V false (t.at_ 4) ++ (fixed (((things (t.at_ 5).l).length : Nat) : Int) 4) ++ ((things (t.at_ 5).l).take k3).flatMap (partP sch_sConnectMemberAssignmentRevoked V false))), .cel g 0 [.int .i16 V, x0, x1, x2, x3, x4, .slice px5 ((things (t.at_ 5).l).length) capx5, x6], .rep (wrF (.mk 2 0 (-1) (-1) (-1) 0 0 []) false V false (t.at_ 0)) [x0], .rep (wrF (.mk 8 0 (-1) (-1) (-1) 0 0 []) false V false (t.at_ 1)) [x1], .rep (wrF (.mk 8 0 (-1) (-1) (-1) 0 0 []) false V false (t.at_ 2)) [x2], .rep (wrF (.mk 4 0 (-1) (-1) (-1) 0 0 []) false V false (t.at_ 3)) [x3], .rep (wrF (.mk 11 0 (-1) (-1) (-1) 0 10 sch_sConnectMemberAssignmentAssignment) false V false (t.at_ 4)) [x4], .rep (wrF (.mk 11 1 (-1) (-1) (-1) 0 10 sch_sConnectMemberAssignmentRevoked) false V false (t.at_ 5)) [.slice px5 ((things (t.at_ 5).l).length) capx5], .rep (wrF (.mk 3 1 (-1) (-1) (-1) 0 0 []) false V false (t.at_ 6)) [x6]] w) (hk.sub ⟨rfl, rfl, rfl, rfl, rfl, rfl, trivial⟩) ⟨_, rfl, hm⟩ rfl rfl rfl rfl rfl rfl rfl (fun k3 L a w hlt hR hk => ?_) rfl (fun L a w hR hk => ?_)
      · obtain ⟨vr, rfl, hm⟩ := hR
        obtain ⟨hlt3, bl3, off3, e3, hpl3, hel, hRe, hCe⟩ := rep_sl_get (hm.rep (i := 0) rfl) (getD_map (wrS sch_sConnectMemberAssignmentRevoked false V false) (things (t.at_ 5).l) k3 T.nil hlt)
        have hfl := flatMap_take_le (partP sch_sConnectMemberAssignmentRevoked V false) (things (t.at_ 5).l) k3 T.nil hlt
        obtain ⟨tx3, htx3⟩ : ∃ y, y = ((things (t.at_ 5).l).getD k3 T.nil) := ⟨_, rfl⟩
        rw [← htx3] at hRe hfl
        have hL := rep_agg_inv hRe
        replace hL : RepL _ _ [wrF (.mk 8 0 (-1) (-1) (-1) 0 0 []) false V false (tx3.at_ 0), wrF (.mk 11 0 (-1) (-1) (-1) 0 2 []) false V false (tx3.at_ 1)] e3 := hL
        obtain ⟨x3_0, x3_r0, rfl, hx3_0, hL⟩ := hL.un1 (one1_wrF rfl (by decide))
        obtain ⟨x3_1, x3_r1, rfl, hx3_1, hL⟩ := hL.un1 (one1_wrF rfl (by decide))
        obtain rfl := hL.unNil
        have hm := hm.add (e := .cel bl3 (off3 + k3 * 2) [x3_0, x3_1]) rfl hCe
        have hm := hm.add (e := .rep (wrF (.mk 8 0 (-1) (-1) (-1) 0 0 []) false V false (tx3.at_ 0)) [x3_0]) rfl hx3_0
        have hm := hm.add (e := .rep (wrF (.mk 11 0 (-1) (-1) (-1) 0 2 []) false V false (tx3.at_ 1)) [x3_1]) rfl hx3_1
        have hTe : (partP sch_sConnectMemberAssignmentRevoked V false) tx3 = pieceP (.mk 8 0 (-1) (-1) (-1) 0 0 []) V false (tx3.at_ 0) ++ (pieceP (.mk 11 0 (-1) (-1) (-1) 0 2 []) V false (tx3.at_ 1) ++ ([])) := by rw [partP_plain]; rfl
        rw [hTe] at hfl
        simp only [List.length_append, List.length_nil] at hfl
        refine c_region ?_
        refine o_move hk rfl rfl fun a hk => ?_
        refine o_assign hk rfl rfl fun a hk => ?_
        refine c_end ?_
        refine c_region ?_
        refine o_move hk rfl rfl fun a hk => ?_
        refine o_move hk rfl rfl fun a hk => ?_
        refine o_indexAddr (j := k3) (b := bl3) (off := off3) hk te_68 ts_99 (by rw [← hpl3]; rfl) rfl hlt3 rfl fun a hk => ?_
        refine o_assign hk rfl rfl fun a hk => ?_
        refine c_end ?_
        have hr : n + (([] : List UInt8) ++ (fixed V 2) ++ pieceP (.mk 2 0 (-1) (-1) (-1) 0 0 []) V false (t.at_ 0) ++ pieceP (.mk 8 0 (-1) (-1) (-1) 0 0 []) V false (t.at_ 1) ++ pieceP (.mk 8 0 (-1) (-1) (-1) 0 0 []) V false (t.at_ 2) ++ pieceP (.mk 4 0 (-1) (-1) (-1) 0 0 []) V false (t.at_ 3) ++ pieceP (.mk 11 0 (-1) (-1) (-1) 0 10 sch_sConnectMemberAssignmentAssignment) V false (t.at_ 4) ++ (fixed (((things (t.at_ 5).l).length : Nat) : Int) 4) ++ ((things (t.at_ 5).l).take k3).flatMap (partP sch_sConnectMemberAssignmentRevoked V false)).length + (pieceP (.mk 8 0 (-1) (-1) (-1) 0 0 []) V false (tx3.at_ 0)).length ≤ room := by simp only [List.length_append, List.length_nil, fixed_length]; omega
        refine c_cut (fun a w => ∃ vq21, Kn 168 [(0, .pointer (some ⟨g, 0, none⟩)), (1, vq21), (5, .int .i16 V), (18, .slice px5 ((things (t.at_ 5).l).length) capx5), (20, .pointer (some ⟨bl3, off3 + k3 * 2, none⟩)), (122, .int .i64 (((things (t.at_ 5).l).length : Nat) : Int)), (123, .int .i64 (k3 : Int))] a ∧ Mem w0 (fun k => v.ownBlock = some k) Y [.rep (wrF (.mk 11 0 (-1) (-1) (-1) 0 2 []) false V false (tx3.at_ 1)) [x3_1], .rep (wrF (.mk 8 0 (-1) (-1) (-1) 0 0 []) false V false (tx3.at_ 0)) [x3_0], .cel bl3 (off3 + k3 * 2) [x3_0, x3_1], .rep (.sl false 2 ((things (t.at_ 5).l).map (wrS sch_sConnectMemberAssignmentRevoked false V false))) [.slice px5 ((things (t.at_ 5).l).length) capx5], .row 5 1 vq21 (n + (([] : List UInt8) ++ (fixed V 2) ++ pieceP (.mk 2 0 (-1) (-1) (-1) 0 0 []) V false (t.at_ 0) ++ pieceP (.mk 8 0 (-1) (-1) (-1) 0 0 []) V false (t.at_ 1) ++ pieceP (.mk 8 0 (-1) (-1) (-1) 0 0 []) V false (t.at_ 2) ++ pieceP (.mk 4 0 (-1) (-1) (-1) 0 0 []) V false (t.at_ 3) ++ pieceP (.mk 11 0 (-1) (-1) (-1) 0 10 sch_sConnectMemberAssignmentAssignment) V false (t.at_ 4) ++ (fixed (((things (t.at_ 5).l).length : Nat) : Int) 4) ++ ((things (t.at_ 5).l).take k3).flatMap (partP sch_sConnectMemberAssignmentRevoked V false) ++ pieceP (.mk 8 0 (-1) (-1) (-1) 0 0 []) V false (tx3.at_ 0)).length) (xs ++ bv (([] : List UInt8) ++ (fixed V 2) ++ pieceP (.mk 2 0 (-1) (-1) (-1) 0 0 []) V false (t.at_ 0) ++ pieceP (.mk 8 0 (-1) (-1) (-1) 0 0 []) V false (t.at_ 1) ++ pieceP (.mk 8 0 (-1) (-1) (-1) 0 0 []) V false (t.at_ 2) ++ pieceP (.mk 4 0 (-1) (-1) (-1) 0 0 []) V false (t.at_ 3) ++ pieceP (.mk 11 0 (-1) (-1) (-1) 0 10 sch_sConnectMemberAssignmentAssignment) V false (t.at_ 4) ++ (fixed (((things (t.at_ 5).l).length : Nat) : Int) 4) ++ ((things (t.at_ 5).l).take k3).flatMap (partP sch_sConnectMemberAssignmentRevoked V false) ++ pieceP (.mk 8 0 (-1) (-1) (-1) 0 0 []) V false (tx3.at_ 0))), .cel g 0 [.int .i16 V, x0, x1, x2, x3, x4, .slice px5 ((things (t.at_ 5).l).length) capx5, x6], .rep (wrF (.mk 2 0 (-1) (-1) (-1) 0 0 []) false V false (t.at_ 0)) [x0], .rep (wrF (.mk 8 0 (-1) (-1) (-1) 0 0 []) false V false (t.at_ 1)) [x1], .rep (wrF (.mk 8 0 (-1) (-1) (-1) 0 0 []) false V false (t.at_ 2)) [x2], .rep (wrF (.mk 4 0 (-1) (-1) (-1) 0 0 []) false V false (t.at_ 3)) [x3], .rep (wrF (.mk 11 0 (-1) (-1) (-1) 0 10 sch_sConnectMemberAssignmentAssignment) false V false (t.at_ 4)) [x4], .rep (wrF (.mk 11 1 (-1) (-1) (-1) 0 10 sch_sConnectMemberAssignmentRevoked) false V false (t.at_ 5)) [.slice px5 ((things (t.at_ 5).l).length) capx5], .rep (wrF (.mk 3 1 (-1) (-1) (-1) 0 0 []) false V false (t.at_ 6)) [x6]] w) ?_ (fun a w hJ => ?_)
        · have hh : ((.mk 8 0 (-1) (-1) (-1) 0 0 []) : Fld).has V = true := has_of (by omega) (.inl (by decide))
          have hx := hm.rep (i := 1) rfl
          rw [wrF_hasT (t := (tx3.at_ 0)) (by decide) hh] at hx
          obtain rfl : x3_0 = .string (bs (whole (tx3.at_ 0).s)) := rep_v_inv hx
          have hpc : pieceP (.mk 8 0 (-1) (-1) (-1) 0 0 []) V false (tx3.at_ 0) = fixed (((whole (tx3.at_ 0).s).length : Nat) : Int) 2 ++ whole (tx3.at_ 0).s := piece_text (by decide) (by decide) hh
          have hlp := congrArg List.length hpc
          simp only [List.length_append, fixed_length] at hlp
          have hwl := whole_len (tx3.at_ 0).s
          refine c_region ?_
          refine o_move hk rfl rfl fun a hk => ?_
          refine o_nilCheck hk rfl rfl fun a hk => ?_
          refine o_fieldAddr hk fo_99_0 rfl rfl fun a hk => ?_
          refine o_load hk ts_9 rfl (hm.cell_cel (i := 2) (j := 0) rfl rfl) rfl fun a hk => ?_
          refine o_assign hk rfl rfl fun a hk => ?_
          refine c_end ?_
          refine c_reg ?_
          refine o_move hk rfl rfl fun a hk => ?_
          refine o_move hk rfl rfl fun a hk => ?_
          refine o_call hk cb_42 (appendString_c (hm.row (i := 4) rfl) (whole (tx3.at_ 0).s) (by omega)) ⟨rfl, rfl, trivial⟩ rfl fun v22 w a hR hk => ?_
          have hm := hm.rowCall (i := 4) rfl hR
          have hm := hm.rowEq (i := 4) (n' := n + (([] : List UInt8) ++ (fixed V 2) ++ pieceP (.mk 2 0 (-1) (-1) (-1) 0 0 []) V false (t.at_ 0) ++ pieceP (.mk 8 0 (-1) (-1) (-1) 0 0 []) V false (t.at_ 1) ++ pieceP (.mk 8 0 (-1) (-1) (-1) 0 0 []) V false (t.at_ 2) ++ pieceP (.mk 4 0 (-1) (-1) (-1) 0 0 []) V false (t.at_ 3) ++ pieceP (.mk 11 0 (-1) (-1) (-1) 0 10 sch_sConnectMemberAssignmentAssignment) V false (t.at_ 4) ++ (fixed (((things (t.at_ 5).l).length : Nat) : Int) 4) ++ ((things (t.at_ 5).l).take k3).flatMap (partP sch_sConnectMemberAssignmentRevoked V false) ++ (fixed ((whole (tx3.at_ 0).s).length : Int) 2 ++ (whole (tx3.at_ 0).s))).length) (xs' := xs ++ bv (([] : List UInt8) ++ (fixed V 2) ++ pieceP (.mk 2 0 (-1) (-1) (-1) 0 0 []) V false (t.at_ 0) ++ pieceP (.mk 8 0 (-1) (-1) (-1) 0 0 []) V false (t.at_ 1) ++ pieceP (.mk 8 0 (-1) (-1) (-1) 0 0 []) V false (t.at_ 2) ++ pieceP (.mk 4 0 (-1) (-1) (-1) 0 0 []) V false (t.at_ 3) ++ pieceP (.mk 11 0 (-1) (-1) (-1) 0 10 sch_sConnectMemberAssignmentAssignment) V false (t.at_ 4) ++ (fixed (((things (t.at_ 5).l).length : Nat) : Int) 4) ++ ((things (t.at_ 5).l).take k3).flatMap (partP sch_sConnectMemberAssignmentRevoked V false) ++ (fixed ((whole (tx3.at_ 0).s).length : Int) 2 ++ (whole (tx3.at_ 0).s)))) rfl (by simp only [List.length_append, Nat.add_assoc]) (by simp only [bv_append, List.append_assoc])
          refine o_assign hk rfl rfl fun a hk => ?_
          refine c_endQ ?_
          have hm := hm.rowEq (i := 4) (n' := n + (([] : List UInt8) ++ (fixed V 2) ++ pieceP (.mk 2 0 (-1) (-1) (-1) 0 0 []) V false (t.at_ 0) ++ pieceP (.mk 8 0 (-1) (-1) (-1) 0 0 []) V false (t.at_ 1) ++ pieceP (.mk 8 0 (-1) (-1) (-1) 0 0 []) V false (t.at_ 2) ++ pieceP (.mk 4 0 (-1) (-1) (-1) 0 0 []) V false (t.at_ 3) ++ pieceP (.mk 11 0 (-1) (-1) (-1) 0 10 sch_sConnectMemberAssignmentAssignment) V false (t.at_ 4) ++ (fixed (((things (t.at_ 5).l).length : Nat) : Int) 4) ++ ((things (t.at_ 5).l).take k3).flatMap (partP sch_sConnectMemberAssignmentRevoked V false) ++ pieceP (.mk 8 0 (-1) (-1) (-1) 0 0 []) V false (tx3.at_ 0)).length) (xs' := xs ++ bv (([] : List UInt8) ++ (fixed V 2) ++ pieceP (.mk 2 0 (-1) (-1) (-1) 0 0 []) V false (t.at_ 0) ++ pieceP (.mk 8 0 (-1) (-1) (-1) 0 0 []) V false (t.at_ 1) ++ pieceP (.mk 8 0 (-1) (-1) (-1) 0 0 []) V false (t.at_ 2) ++ pieceP (.mk 4 0 (-1) (-1) (-1) 0 0 []) V false (t.at_ 3) ++ pieceP (.mk 11 0 (-1) (-1) (-1) 0 10 sch_sConnectMemberAssignmentAssignment) V false (t.at_ 4) ++ (fixed (((things (t.at_ 5).l).length : Nat) : Int) 4) ++ ((things (t.at_ 5).l).take k3).flatMap (partP sch_sConnectMemberAssignmentRevoked V false) ++ pieceP (.mk 8 0 (-1) (-1) (-1) 0 0 []) V false (tx3.at_ 0))) rfl (by rw [hpc]; try simp only [List.append_assoc, List.append_nil]) (by rw [hpc]; try simp only [List.append_assoc, List.append_nil])
          exact c_then ⟨_, hk.sub ⟨rfl, rfl, rfl, rfl, rfl, rfl, rfl, trivial⟩, hm.pick [0, 1, 2, 3, 4, 5, 6, 7, 8, 9, 10, 11, 12] rfl rfl⟩
        obtain ⟨vq21, hk, hm⟩ := hJ
        have hr : n + (([] : List UInt8) ++ (fixed V 2) ++ pieceP (.mk 2 0 (-1) (-1) (-1) 0 0 []) V false (t.at_ 0) ++ pieceP (.mk 8 0 (-1) (-1) (-1) 0 0 []) V false (t.at_ 1) ++ pieceP (.mk 8 0 (-1) (-1) (-1) 0 0 []) V false (t.at_ 2) ++ pieceP (.mk 4 0 (-1) (-1) (-1) 0 0 []) V false (t.at_ 3) ++ pieceP (.mk 11 0 (-1) (-1) (-1) 0 10 sch_sConnectMemberAssignmentAssignment) V false (t.at_ 4) ++ (fixed (((things (t.at_ 5).l).length : Nat) : Int) 4) ++ ((things (t.at_ 5).l).take k3).flatMap (partP sch_sConnectMemberAssignmentRevoked V false) ++ pieceP (.mk 8 0 (-1) (-1) (-1) 0 0 []) V false (tx3.at_ 0)).length + (pieceP (.mk 11 0 (-1) (-1) (-1) 0 2 []) V false (tx3.at_ 1)).length ≤ room := by simp only [List.length_append, List.length_nil, fixed_length]; omega
        have hh : ((.mk 11 0 (-1) (-1) (-1) 0 2 []) : Fld).has V = true := has_of (by omega) (.inl (by decide))
        have hx := hm.rep (i := 0) rfl
        rw [wrF_hasT (t := (tx3.at_ 1)) (by decide) hh] at hx
        replace hx : Rep _ _ (.sl false 1 ((things (tx3.at_ 1).l).map (wrVal 2 (-1) false (wrS [] false V false)))) [x3_1] := hx
        obtain ⟨px3_1, capx3_1, rfl⟩ := rep_sl_lenM hx
        have hm := hm.add (e := .rep (.sl false 1 ((things (tx3.at_ 1).l).map (wrVal 2 (-1) false (wrS [] false V false)))) [.slice px3_1 ((things (tx3.at_ 1).l).length) capx3_1]) rfl hx
        have hpc : pieceP (.mk 11 0 (-1) (-1) (-1) 0 2 []) V false (tx3.at_ 1) = fixed (((things (tx3.at_ 1).l).length : Nat) : Int) 4 ++ (things (tx3.at_ 1).l).flatMap (valueP 2 (partP [] V false) false false) := piece_list (by decide) (by decide) hh
        have hlp := congrArg List.length hpc
        simp only [List.length_append, fixed_length] at hlp
        have htl := things_len (tx3.at_ 1).l
        refine c_region ?_
        refine o_move hk rfl rfl fun a hk => ?_
        refine o_nilCheck hk rfl rfl fun a hk => ?_
        refine o_fieldAddr hk fo_99_1 rfl rfl fun a hk => ?_
        refine o_load hk ts_95 rfl (hm.cell_cel (i := 3) (j := 1) rfl rfl) rfl fun a hk => ?_
        refine o_assign hk rfl rfl fun a hk => ?_
        refine c_end ?_
        refine c_region ?_
        refine o_move hk rfl rfl fun a hk => ?_
        refine o_move hk rfl rfl fun a hk => ?_
        refine o_lenSlice hk te_95 rfl rfl fun a hk => ?_
        refine o_call hk cb_41 (appendArrayLen_c (hm.row (i := 5) rfl) (((things (tx3.at_ 1).l).length : Nat) : Int) (by omega)) ⟨rfl, rfl, trivial⟩ rfl fun v24 w a hR hk => ?_
        have hm := hm.rowCall (i := 5) rfl hR
        have hm := hm.rowEq (i := 5) (n' := n + (([] : List UInt8) ++ (fixed V 2) ++ pieceP (.mk 2 0 (-1) (-1) (-1) 0 0 []) V false (t.at_ 0) ++ pieceP (.mk 8 0 (-1) (-1) (-1) 0 0 []) V false (t.at_ 1) ++ pieceP (.mk 8 0 (-1) (-1) (-1) 0 0 []) V false (t.at_ 2) ++ pieceP (.mk 4 0 (-1) (-1) (-1) 0 0 []) V false (t.at_ 3) ++ pieceP (.mk 11 0 (-1) (-1) (-1) 0 10 sch_sConnectMemberAssignmentAssignment) V false (t.at_ 4) ++ (fixed (((things (t.at_ 5).l).length : Nat) : Int) 4) ++ ((things (t.at_ 5).l).take k3).flatMap (partP sch_sConnectMemberAssignmentRevoked V false) ++ pieceP (.mk 8 0 (-1) (-1) (-1) 0 0 []) V false (tx3.at_ 0) ++ (fixed (((things (tx3.at_ 1).l).length : Nat) : Int) 4)).length) (xs' := xs ++ bv (([] : List UInt8) ++ (fixed V 2) ++ pieceP (.mk 2 0 (-1) (-1) (-1) 0 0 []) V false (t.at_ 0) ++ pieceP (.mk 8 0 (-1) (-1) (-1) 0 0 []) V false (t.at_ 1) ++ pieceP (.mk 8 0 (-1) (-1) (-1) 0 0 []) V false (t.at_ 2) ++ pieceP (.mk 4 0 (-1) (-1) (-1) 0 0 []) V false (t.at_ 3) ++ pieceP (.mk 11 0 (-1) (-1) (-1) 0 10 sch_sConnectMemberAssignmentAssignment) V false (t.at_ 4) ++ (fixed (((things (t.at_ 5).l).length : Nat) : Int) 4) ++ ((things (t.at_ 5).l).take k3).flatMap (partP sch_sConnectMemberAssignmentRevoked V false) ++ pieceP (.mk 8 0 (-1) (-1) (-1) 0 0 []) V false (tx3.at_ 0) ++ (fixed (((things (tx3.at_ 1).l).length : Nat) : Int) 4))) rfl (by simp only [List.length_append, Nat.add_assoc]) (by simp only [bv_append, List.append_assoc])
        refine o_assign hk rfl rfl fun a hk => ?_
        refine c_end ?_
        refine c_region ?_
        refine o_move hk rfl rfl fun a hk => ?_
        refine o_lenSlice hk te_95 rfl rfl fun a hk => ?_
        refine o_move hk rfl rfl fun a hk => ?_
        refine c_end ?_
        have hm := hm.rowEq (i := 5) (n' := n + (([] : List UInt8) ++ (fixed V 2) ++ pieceP (.mk 2 0 (-1) (-1) (-1) 0 0 []) V false (t.at_ 0) ++ pieceP (.mk 8 0 (-1) (-1) (-1) 0 0 []) V false (t.at_ 1) ++ pieceP (.mk 8 0 (-1) (-1) (-1) 0 0 []) V false (t.at_ 2) ++ pieceP (.mk 4 0 (-1) (-1) (-1) 0 0 []) V false (t.at_ 3) ++ pieceP (.mk 11 0 (-1) (-1) (-1) 0 10 sch_sConnectMemberAssignmentAssignment) V false (t.at_ 4) ++ (fixed (((things (t.at_ 5).l).length : Nat) : Int) 4) ++ ((things (t.at_ 5).l).take k3).flatMap (partP sch_sConnectMemberAssignmentRevoked V false) ++ pieceP (.mk 8 0 (-1) (-1) (-1) 0 0 []) V false (tx3.at_ 0) ++ (fixed (((things (tx3.at_ 1).l).length : Nat) : Int) 4) ++ ((things (tx3.at_ 1).l).take 0).flatMap (valueP 2 (partP [] V false) false false)).length) (xs' := xs ++ bv (([] : List UInt8) ++ (fixed V 2) ++ pieceP (.mk 2 0 (-1) (-1) (-1) 0 0 []) V false (t.at_ 0) ++ pieceP (.mk 8 0 (-1) (-1) (-1) 0 0 []) V false (t.at_ 1) ++ pieceP (.mk 8 0 (-1) (-1) (-1) 0 0 []) V false (t.at_ 2) ++ pieceP (.mk 4 0 (-1) (-1) (-1) 0 0 []) V false (t.at_ 3) ++ pieceP (.mk 11 0 (-1) (-1) (-1) 0 10 sch_sConnectMemberAssignmentAssignment) V false (t.at_ 4) ++ (fixed (((things (t.at_ 5).l).length : Nat) : Int) 4) ++ ((things (t.at_ 5).l).take k3).flatMap (partP sch_sConnectMemberAssignmentRevoked V false) ++ pieceP (.mk 8 0 (-1) (-1) (-1) 0 0 []) V false (tx3.at_ 0) ++ (fixed (((things (tx3.at_ 1).l).length : Nat) : Int) 4) ++ ((things (tx3.at_ 1).l).take 0).flatMap (valueP 2 (partP [] V false) false false))) rfl (by simp only [List.take_zero, List.flatMap_nil, List.append_nil]) (by simp only [List.take_zero, List.flatMap_nil, List.append_nil])
        refine c_range (L0 := [(0, .pointer (some ⟨g, 0, none⟩)), (1, v24), (5, .int .i16 V), (18, .slice px5 ((things (t.at_ 5).l).length) capx5), (20, .pointer (some ⟨bl3, off3 + k3 * 2, none⟩)), (22, .slice px3_1 ((things (tx3.at_ 1).l).length) capx3_1), (122, .int .i64 (((things (t.at_ 5).l).length : Nat) : Int)), (123, .int .i64 (k3 : Int))]) (N := (things (tx3.at_ 1).l).length) (by omega) (fun k4 L w => ∃ vr, L = [(0, .pointer (some ⟨g, 0, none⟩)), (1, vr), (5, .int .i16 V), (18, .slice px5 ((things (t.at_ 5).l).length) capx5), (20, .pointer (some ⟨bl3, off3 + k3 * 2, none⟩)), (22, .slice px3_1 ((things (tx3.at_ 1).l).length) capx3_1), (122, .int .i64 (((things (t.at_ 5).l).length : Nat) : Int)), (123, .int .i64 (k3 : Int))] ∧ Mem w0 (fun k => v.ownBlock = some k) Y [.rep (.sl false 1 ((things (tx3.at_ 1).l).map (wrVal 2 (-1) false (wrS [] false V false)))) [.slice px3_1 ((things (tx3.at_ 1).l).length) capx3_1], .rep (wrF (.mk 11 0 (-1) (-1) (-1) 0 2 []) false V false (tx3.at_ 1)) [.slice px3_1 ((things (tx3.at_ 1).l).length) capx3_1], .rep (wrF (.mk 8 0 (-1) (-1) (-1) 0 0 []) false V false (tx3.at_ 0)) [x3_0], .cel bl3 (off3 + k3 * 2) [x3_0, .slice px3_1 ((things (tx3.at_ 1).l).length) capx3_1], .rep (.sl false 2 ((things (t.at_ 5).l).map (wrS sch_sConnectMemberAssignmentRevoked false V false))) [.slice px5 ((things (t.at_ 5).l).length) capx5], .row 5 1 vr (n + (([] : List UInt8) ++ (fixed V 2) ++ pieceP (.mk 2 0 (-1) (-1) (-1) 0 0 []) V false (t.at_ 0) ++ pieceP (.mk 8 0 (-1) (-1) (-1) 0 0 []) V false (t.at_ 1) ++ pieceP (.mk 8 0 (-1) (-1) (-1) 0 0 []) V false (t.at_ 2) ++ pieceP (.mk 4 0 (-1) (-1) (-1) 0 0 []) V false (t.at_ 3) ++ pieceP (.mk 11 0 (-1) (-1) (-1) 0 10 sch_sConnectMemberAssignmentAssignment) V false (t.at_ 4) ++ (fixed (((things (t.at_ 5).l).length : Nat) : Int) 4) ++ ((things (t.at_ 5).l).take k3).flatMap (partP sch_sConnectMemberAssignmentRevoked V false) ++ pieceP (.mk 8 0 (-1) (-1) (-1) 0 0 []) V false (tx3.at_ 0) ++ (fixed (((things (tx3.at_ 1).l).length : Nat) : Int) 4) ++ ((things (tx3.at_ 1).l).take k4).flatMap (valueP 2 (partP [] V false) false false)).length) (xs ++ bv (([] : List UInt8) ++ (fixed V 2) ++ pieceP (.mk 2 0 (-1) (-1) (-1) 0 0 []) V false (t.at_ 0) ++ pieceP (.mk 8 0 (-1) (-1) (-1) 0 0 []) V false (t.at_ 1) ++ pieceP (.mk 8 0 (-1) (-1) (-1) 0 0 []) V false (t.at_ 2) ++ pieceP (.mk 4 0 (-1) (-1) (-1) 0 0 []) V false (t.at_ 3) ++ pieceP (.mk 11 0 (-1) (-1) (-1) 0 10 sch_sConnectMemberAssignmentAssignment) V false (t.at_ 4) ++ (fixed (((things (t.at_ 5).l).length : Nat) : Int) 4) ++ ((things (t.at_ 5).l).take k3).flatMap (partP sch_sConnectMemberAssignmentRevoked V false) ++ pieceP (.mk 8 0 (-1) (-1) (-1) 0 0 []) V false (tx3.at_ 0) ++ (fixed (((things (tx3.at_ 1).l).length : Nat) : Int) 4) ++ ((things (tx3.at_ 1).l).take k4).flatMap (valueP 2 (partP [] V false) false false))), .cel g 0 [.int .i16 V, x0, x1, x2, x3, x4, .slice px5 ((things (t.at_ 5).l).length) capx5, x6], .rep (wrF (.mk 2 0 (-1) (-1) (-1) 0 0 []) false V false (t.at_ 0)) [x0], .rep (wrF (.mk 8 0 (-1) (-1) (-1) 0 0 []) false V false (t.at_ 1)) [x1], .rep (wrF (.mk 8 0 (-1) (-1) (-1) 0 0 []) false V false (t.at_ 2)) [x2], .rep (wrF (.mk 4 0 (-1) (-1) (-1) 0 0 []) false V false (t.at_ 3)) [x3], .rep (wrF (.mk 11 0 (-1) (-1) (-1) 0 10 sch_sConnectMemberAssignmentAssignment) false V false (t.at_ 4)) [x4], .rep (wrF (.mk 11 1 (-1) (-1) (-1) 0 10 sch_sConnectMemberAssignmentRevoked) false V false (t.at_ 5)) [.slice px5 ((things (t.at_ 5).l).length) capx5], .rep (wrF (.mk 3 1 (-1) (-1) (-1) 0 0 []) false V false (t.at_ 6)) [x6]] w) (hk.sub ⟨rfl, rfl, rfl, rfl, rfl, rfl, rfl, rfl, rfl, rfl, trivial⟩) ⟨_, rfl, hm⟩ rfl rfl rfl rfl rfl rfl rfl (fun k4 L a w hlt hR hk => ?_) rfl (fun L a w hR hk => ?_)
        · obtain ⟨vr, rfl, hm⟩ := hR
          obtain ⟨hlt4, bl4, off4, e4, hpl4, hel, hRe, hCe⟩ := rep_sl_get (hm.rep (i := 0) rfl) (getD_map (wrVal 2 (-1) false (wrS [] false V false)) (things (tx3.at_ 1).l) k4 T.nil hlt)
          have hfl := flatMap_take_le (valueP 2 (partP [] V false) false false) (things (tx3.at_ 1).l) k4 T.nil hlt
          replace hRe : Rep _ _ (.v (.int .i16 (IntKind.i16.wrap ((things (tx3.at_ 1).l).getD k4 T.nil).n))) e4 := hRe
          simp only [Rep] at hRe
          subst hRe
          have hm := hm.add (e := .cel bl4 (off4 + k4 * 1) [.int .i16 (IntKind.i16.wrap ((things (tx3.at_ 1).l).getD k4 T.nil).n)]) rfl hCe
          have hTe : (valueP 2 (partP [] V false) false false) ((things (tx3.at_ 1).l).getD k4 T.nil) = fixed (IntKind.i16.wrap ((things (tx3.at_ 1).l).getD k4 T.nil).n) 2 := by first | rfl | exact (fixed_i16 _).symm
          rw [hTe] at hfl
          simp only [List.length_append, fixed_length, List.length_cons, List.length_nil] at hfl
          have hr2 : n + (([] : List UInt8) ++ (fixed V 2) ++ pieceP (.mk 2 0 (-1) (-1) (-1) 0 0 []) V false (t.at_ 0) ++ pieceP (.mk 8 0 (-1) (-1) (-1) 0 0 []) V false (t.at_ 1) ++ pieceP (.mk 8 0 (-1) (-1) (-1) 0 0 []) V false (t.at_ 2) ++ pieceP (.mk 4 0 (-1) (-1) (-1) 0 0 []) V false (t.at_ 3) ++ pieceP (.mk 11 0 (-1) (-1) (-1) 0 10 sch_sConnectMemberAssignmentAssignment) V false (t.at_ 4) ++ (fixed (((things (t.at_ 5).l).length : Nat) : Int) 4) ++ ((things (t.at_ 5).l).take k3).flatMap (partP sch_sConnectMemberAssignmentRevoked V false) ++ pieceP (.mk 8 0 (-1) (-1) (-1) 0 0 []) V false (tx3.at_ 0) ++ (fixed (((things (tx3.at_ 1).l).length : Nat) : Int) 4) ++ ((things (tx3.at_ 1).l).take k4).flatMap (valueP 2 (partP [] V false) false false)).length + 2 ≤ room := by simp only [List.length_append, List.length_nil, fixed_length]; omega
          refine c_region ?_
          refine o_move hk rfl rfl fun a hk => ?_
          refine o_assign hk rfl rfl fun a hk => ?_
          refine c_end ?_
          refine c_region ?_
          refine o_move hk rfl rfl fun a hk => ?_
          refine o_move hk rfl rfl fun a hk => ?_
          refine o_indexAddr (j := k4) (b := bl4) (off := off4) hk te_95 ts_45 (by rw [← hpl4]; rfl) rfl hlt4 rfl fun a hk => ?_
          refine o_load hk ts_45 rfl (hm.cell_cel (i := 0) (j := 0) rfl rfl) rfl fun a hk => ?_
          refine o_assign hk rfl rfl fun a hk => ?_
          refine c_end ?_
          refine c_reg ?_
          refine o_move hk rfl rfl fun a hk => ?_
          refine o_move hk rfl rfl fun a hk => ?_
          refine o_call hk cb_39 (appendInt16_c (hm.row (i := 6) rfl) (IntKind.i16.wrap ((things (tx3.at_ 1).l).getD k4 T.nil).n) (by omega)) ⟨rfl, rfl, trivial⟩ rfl fun v25 w a hR hk => ?_
          have hm := hm.rowCall (i := 6) rfl hR
          have hm := hm.rowEq (i := 6) (n' := n + (([] : List UInt8) ++ (fixed V 2) ++ pieceP (.mk 2 0 (-1) (-1) (-1) 0 0 []) V false (t.at_ 0) ++ pieceP (.mk 8 0 (-1) (-1) (-1) 0 0 []) V false (t.at_ 1) ++ pieceP (.mk 8 0 (-1) (-1) (-1) 0 0 []) V false (t.at_ 2) ++ pieceP (.mk 4 0 (-1) (-1) (-1) 0 0 []) V false (t.at_ 3) ++ pieceP (.mk 11 0 (-1) (-1) (-1) 0 10 sch_sConnectMemberAssignmentAssignment) V false (t.at_ 4) ++ (fixed (((things (t.at_ 5).l).length : Nat) : Int) 4) ++ ((things (t.at_ 5).l).take k3).flatMap (partP sch_sConnectMemberAssignmentRevoked V false) ++ pieceP (.mk 8 0 (-1) (-1) (-1) 0 0 []) V false (tx3.at_ 0) ++ (fixed (((things (tx3.at_ 1).l).length : Nat) : Int) 4) ++ ((things (tx3.at_ 1).l).take k4).flatMap (valueP 2 (partP [] V false) false false) ++ (fixed (IntKind.i16.wrap ((things (tx3.at_ 1).l).getD k4 T.nil).n) 2)).length) (xs' := xs ++ bv (([] : List UInt8) ++ (fixed V 2) ++ pieceP (.mk 2 0 (-1) (-1) (-1) 0 0 []) V false (t.at_ 0) ++ pieceP (.mk 8 0 (-1) (-1) (-1) 0 0 []) V false (t.at_ 1) ++ pieceP (.mk 8 0 (-1) (-1) (-1) 0 0 []) V false (t.at_ 2) ++ pieceP (.mk 4 0 (-1) (-1) (-1) 0 0 []) V false (t.at_ 3) ++ pieceP (.mk 11 0 (-1) (-1) (-1) 0 10 sch_sConnectMemberAssignmentAssignment) V false (t.at_ 4) ++ (fixed (((things (t.at_ 5).l).length : Nat) : Int) 4) ++ ((things (t.at_ 5).l).take k3).flatMap (partP sch_sConnectMemberAssignmentRevoked V false) ++ pieceP (.mk 8 0 (-1) (-1) (-1) 0 0 []) V false (tx3.at_ 0) ++ (fixed (((things (tx3.at_ 1).l).length : Nat) : Int) 4) ++ ((things (tx3.at_ 1).l).take k4).flatMap (valueP 2 (partP [] V false) false false) ++ (fixed (IntKind.i16.wrap ((things (tx3.at_ 1).l).getD k4 T.nil).n) 2))) rfl (by simp only [List.length_append, Nat.add_assoc]) (by simp only [bv_append, List.append_assoc])
          refine o_assign hk rfl rfl fun a hk => ?_
          refine c_endQ ?_
          refine c_inNormal ?_
          have hsucc := flatMap_take_succ (valueP 2 (partP [] V false) false false) (things (tx3.at_ 1).l) k4 T.nil hlt
          rw [hTe] at hsucc
          have hm := hm.rowEq (i := 6) (n' := n + (([] : List UInt8) ++ (fixed V 2) ++ pieceP (.mk 2 0 (-1) (-1) (-1) 0 0 []) V false (t.at_ 0) ++ pieceP (.mk 8 0 (-1) (-1) (-1) 0 0 []) V false (t.at_ 1) ++ pieceP (.mk 8 0 (-1) (-1) (-1) 0 0 []) V false (t.at_ 2) ++ pieceP (.mk 4 0 (-1) (-1) (-1) 0 0 []) V false (t.at_ 3) ++ pieceP (.mk 11 0 (-1) (-1) (-1) 0 10 sch_sConnectMemberAssignmentAssignment) V false (t.at_ 4) ++ (fixed (((things (t.at_ 5).l).length : Nat) : Int) 4) ++ ((things (t.at_ 5).l).take k3).flatMap (partP sch_sConnectMemberAssignmentRevoked V false) ++ pieceP (.mk 8 0 (-1) (-1) (-1) 0 0 []) V false (tx3.at_ 0) ++ (fixed (((things (tx3.at_ 1).l).length : Nat) : Int) 4) ++ ((things (tx3.at_ 1).l).take (k4 + 1)).flatMap (valueP 2 (partP [] V false) false false)).length) (xs' := xs ++ bv (([] : List UInt8) ++ (fixed V 2) ++ pieceP (.mk 2 0 (-1) (-1) (-1) 0 0 []) V false (t.at_ 0) ++ pieceP (.mk 8 0 (-1) (-1) (-1) 0 0 []) V false (t.at_ 1) ++ pieceP (.mk 8 0 (-1) (-1) (-1) 0 0 []) V false (t.at_ 2) ++ pieceP (.mk 4 0 (-1) (-1) (-1) 0 0 []) V false (t.at_ 3) ++ pieceP (.mk 11 0 (-1) (-1) (-1) 0 10 sch_sConnectMemberAssignmentAssignment) V false (t.at_ 4) ++ (fixed (((things (t.at_ 5).l).length : Nat) : Int) 4) ++ ((things (t.at_ 5).l).take k3).flatMap (partP sch_sConnectMemberAssignmentRevoked V false) ++ pieceP (.mk 8 0 (-1) (-1) (-1) 0 0 []) V false (tx3.at_ 0) ++ (fixed (((things (tx3.at_ 1).l).length : Nat) : Int) 4) ++ ((things (tx3.at_ 1).l).take (k4 + 1)).flatMap (valueP 2 (partP [] V false) false false))) rfl (by rw [hsucc]; try simp only [List.append_assoc, List.append_nil]) (by rw [hsucc]; try simp only [List.append_assoc, List.append_nil])
          exact c_round (L' := [(0, .pointer (some ⟨g, 0, none⟩)), (1, v25), (5, .int .i16 V), (18, .slice px5 ((things (t.at_ 5).l).length) capx5), (20, .pointer (some ⟨bl3, off3 + k3 * 2, none⟩)), (22, .slice px3_1 ((things (tx3.at_ 1).l).length) capx3_1), (122, .int .i64 (((things (t.at_ 5).l).length : Nat) : Int)), (123, .int .i64 (k3 : Int))]) hk ⟨rfl, rfl, rfl, rfl, rfl, rfl, rfl, rfl, rfl, rfl, trivial⟩ rfl ⟨_, rfl, hm.pick [1, 2, 3, 4, 5, 6, 7, 8, 9, 10, 11, 12, 13, 14] rfl rfl⟩
        · obtain ⟨vl26, rfl, hm⟩ := hR
          rw [List.take_length] at hm
          have hm := hm.pick [1, 2, 3, 4, 5, 6, 7, 8, 9, 10, 11, 12, 13] rfl rfl
          have hm := hm.rowEq (i := 4) (n' := n + (([] : List UInt8) ++ (fixed V 2) ++ pieceP (.mk 2 0 (-1) (-1) (-1) 0 0 []) V false (t.at_ 0) ++ pieceP (.mk 8 0 (-1) (-1) (-1) 0 0 []) V false (t.at_ 1) ++ pieceP (.mk 8 0 (-1) (-1) (-1) 0 0 []) V false (t.at_ 2) ++ pieceP (.mk 4 0 (-1) (-1) (-1) 0 0 []) V false (t.at_ 3) ++ pieceP (.mk 11 0 (-1) (-1) (-1) 0 10 sch_sConnectMemberAssignmentAssignment) V false (t.at_ 4) ++ (fixed (((things (t.at_ 5).l).length : Nat) : Int) 4) ++ ((things (t.at_ 5).l).take k3).flatMap (partP sch_sConnectMemberAssignmentRevoked V false) ++ pieceP (.mk 8 0 (-1) (-1) (-1) 0 0 []) V false (tx3.at_ 0) ++ pieceP (.mk 11 0 (-1) (-1) (-1) 0 2 []) V false (tx3.at_ 1)).length) (xs' := xs ++ bv (([] : List UInt8) ++ (fixed V 2) ++ pieceP (.mk 2 0 (-1) (-1) (-1) 0 0 []) V false (t.at_ 0) ++ pieceP (.mk 8 0 (-1) (-1) (-1) 0 0 []) V false (t.at_ 1) ++ pieceP (.mk 8 0 (-1) (-1) (-1) 0 0 []) V false (t.at_ 2) ++ pieceP (.mk 4 0 (-1) (-1) (-1) 0 0 []) V false (t.at_ 3) ++ pieceP (.mk 11 0 (-1) (-1) (-1) 0 10 sch_sConnectMemberAssignmentAssignment) V false (t.at_ 4) ++ (fixed (((things (t.at_ 5).l).length : Nat) : Int) 4) ++ ((things (t.at_ 5).l).take k3).flatMap (partP sch_sConnectMemberAssignmentRevoked V false) ++ pieceP (.mk 8 0 (-1) (-1) (-1) 0 0 []) V false (tx3.at_ 0) ++ pieceP (.mk 11 0 (-1) (-1) (-1) 0 2 []) V false (tx3.at_ 1))) rfl (by rw [hpc]; try simp only [List.append_assoc, List.append_nil]) (by rw [hpc]; try simp only [List.append_assoc, List.append_nil])
          refine c_inNormal ?_
          have hsucc := flatMap_take_succ (partP sch_sConnectMemberAssignmentRevoked V false) (things (t.at_ 5).l) k3 T.nil hlt
          rw [← htx3, hTe] at hsucc
          have hm := hm.rowEq (i := 4) (n' := n + (([] : List UInt8) ++ (fixed V 2) ++ pieceP (.mk 2 0 (-1) (-1) (-1) 0 0 []) V false (t.at_ 0) ++ pieceP (.mk 8 0 (-1) (-1) (-1) 0 0 []) V false (t.at_ 1) ++ pieceP (.mk 8 0 (-1) (-1) (-1) 0 0 []) V false (t.at_ 2) ++ pieceP (.mk 4 0 (-1) (-1) (-1) 0 0 []) V false (t.at_ 3) ++ pieceP (.mk 11 0 (-1) (-1) (-1) 0 10 sch_sConnectMemberAssignmentAssignment) V false (t.at_ 4) ++ (fixed (((things (t.at_ 5).l).length : Nat) : Int) 4) ++ ((things (t.at_ 5).l).take (k3 + 1)).flatMap (partP sch_sConnectMemberAssignmentRevoked V false)).length) (xs' := xs ++ bv (([] : List UInt8) ++ (fixed V 2) ++ pieceP (.mk 2 0 (-1) (-1) (-1) 0 0 []) V false (t.at_ 0) ++ pieceP (.mk 8 0 (-1) (-1) (-1) 0 0 []) V false (t.at_ 1) ++ pieceP (.mk 8 0 (-1) (-1) (-1) 0 0 []) V false (t.at_ 2) ++ pieceP (.mk 4 0 (-1) (-1) (-1) 0 0 []) V false (t.at_ 3) ++ pieceP (.mk 11 0 (-1) (-1) (-1) 0 10 sch_sConnectMemberAssignmentAssignment) V false (t.at_ 4) ++ (fixed (((things (t.at_ 5).l).length : Nat) : Int) 4) ++ ((things (t.at_ 5).l).take (k3 + 1)).flatMap (partP sch_sConnectMemberAssignmentRevoked V false))) rfl (by rw [hsucc]; try simp only [List.append_assoc, List.append_nil]) (by rw [hsucc]; try simp only [List.append_assoc, List.append_nil])
          exact c_round (L' := [(0, .pointer (some ⟨g, 0, none⟩)), (1, vl26), (5, .int .i16 V), (18, .slice px5 ((things (t.at_ 5).l).length) capx5)]) hk ⟨rfl, rfl, rfl, rfl, rfl, rfl, trivial⟩ rfl ⟨_, rfl, hm.pick [3, 4, 5, 6, 7, 8, 9, 10, 11, 12] rfl rfl⟩
      · obtain ⟨vl27, rfl, hm⟩ := hR
        rw [List.take_length] at hm
        have hm := hm.rowEq (i := 1) (n' := n + (([] : List UInt8) ++ (fixed V 2) ++ pieceP (.mk 2 0 (-1) (-1) (-1) 0 0 []) V false (t.at_ 0) ++ pieceP (.mk 8 0 (-1) (-1) (-1) 0 0 []) V false (t.at_ 1) ++ pieceP (.mk 8 0 (-1) (-1) (-1) 0 0 []) V false (t.at_ 2) ++ pieceP (.mk 4 0 (-1) (-1) (-1) 0 0 []) V false (t.at_ 3) ++ pieceP (.mk 11 0 (-1) (-1) (-1) 0 10 sch_sConnectMemberAssignmentAssignment) V false (t.at_ 4) ++ pieceP (.mk 11 1 (-1) (-1) (-1) 0 10 sch_sConnectMemberAssignmentRevoked) V false (t.at_ 5)).length) (xs' := xs ++ bv (([] : List UInt8) ++ (fixed V 2) ++ pieceP (.mk 2 0 (-1) (-1) (-1) 0 0 []) V false (t.at_ 0) ++ pieceP (.mk 8 0 (-1) (-1) (-1) 0 0 []) V false (t.at_ 1) ++ pieceP (.mk 8 0 (-1) (-1) (-1) 0 0 []) V false (t.at_ 2) ++ pieceP (.mk 4 0 (-1) (-1) (-1) 0 0 []) V false (t.at_ 3) ++ pieceP (.mk 11 0 (-1) (-1) (-1) 0 10 sch_sConnectMemberAssignmentAssignment) V false (t.at_ 4) ++ pieceP (.mk 11 1 (-1) (-1) (-1) 0 10 sch_sConnectMemberAssignmentRevoked) V false (t.at_ 5))) rfl (by rw [hpc]; try simp only [List.append_assoc, List.append_nil]) (by rw [hpc]; try simp only [List.append_assoc, List.append_nil])
        exact c_then ⟨_, hk.sub ⟨rfl, rfl, rfl, trivial⟩, hm.pick [1, 2, 3, 4, 5, 6, 7, 8, 9] rfl rfl⟩
    · simp only [decide_eq_true_eq, decide_eq_false_iff_not, Bool.and_eq_true] at hc
      have hpc : pieceP (.mk 11 1 (-1) (-1) (-1) 0 10 sch_sConnectMemberAssignmentRevoked) V false (t.at_ 5) = [] := pieceP_not (has_not (by omega))
      refine wp_skip ?_
      have hm := hm.rowEq (i := 0) (n' := n + (([] : List UInt8) ++ (fixed V 2) ++ pieceP (.mk 2 0 (-1) (-1) (-1) 0 0 []) V false (t.at_ 0) ++ pieceP (.mk 8 0 (-1) (-1) (-1) 0 0 []) V false (t.at_ 1) ++ pieceP (.mk 8 0 (-1) (-1) (-1) 0 0 []) V false (t.at_ 2) ++ pieceP (.mk 4 0 (-1) (-1) (-1) 0 0 []) V false (t.at_ 3) ++ pieceP (.mk 11 0 (-1) (-1) (-1) 0 10 sch_sConnectMemberAssignmentAssignment) V false (t.at_ 4) ++ pieceP (.mk 11 1 (-1) (-1) (-1) 0 10 sch_sConnectMemberAssignmentRevoked) V false (t.at_ 5)).length) (xs' := xs ++ bv (([] : List UInt8) ++ (fixed V 2) ++ pieceP (.mk 2 0 (-1) (-1) (-1) 0 0 []) V false (t.at_ 0) ++ pieceP (.mk 8 0 (-1) (-1) (-1) 0 0 []) V false (t.at_ 1) ++ pieceP (.mk 8 0 (-1) (-1) (-1) 0 0 []) V false (t.at_ 2) ++ pieceP (.mk 4 0 (-1) (-1) (-1) 0 0 []) V false (t.at_ 3) ++ pieceP (.mk 11 0 (-1) (-1) (-1) 0 10 sch_sConnectMemberAssignmentAssignment) V false (t.at_ 4) ++ pieceP (.mk 11 1 (-1) (-1) (-1) 0 10 sch_sConnectMemberAssignmentRevoked) V false (t.at_ 5))) rfl (by rw [hpc]; try simp only [List.append_assoc, List.append_nil]) (by rw [hpc]; try simp only [List.append_assoc, List.append_nil])
      exact c_then ⟨_, hk.sub ⟨rfl, rfl, rfl, trivial⟩, hm.pick [0, 1, 2, 3, 4, 5, 6, 7, 8] rfl rfl⟩
  obtain ⟨vq19, hk, hm⟩ := hJ
  have hr : n + (([] : List UInt8) ++ (fixed V 2) ++ pieceP (.mk 2 0 (-1) (-1) (-1) 0 0 []) V false (t.at_ 0) ++ pieceP (.mk 8 0 (-1) (-1) (-1) 0 0 []) V false (t.at_ 1) ++ pieceP (.mk 8 0 (-1) (-1) (-1) 0 0 []) V false (t.at_ 2) ++ pieceP (.mk 4 0 (-1) (-1) (-1) 0 0 []) V false (t.at_ 3) ++ pieceP (.mk 11 0 (-1) (-1) (-1) 0 10 sch_sConnectMemberAssignmentAssignment) V false (t.at_ 4) ++ pieceP (.mk 11 1 (-1) (-1) (-1) 0 10 sch_sConnectMemberAssignmentRevoked) V false (t.at_ 5)).length + (pieceP (.mk 3 1 (-1) (-1) (-1) 0 0 []) V false (t.at_ 6)).length ≤ room := by simp only [List.length_append, List.length_nil, fixed_length]; omega
  refine c_cut (fun a w => ∃ vq28, Kn 168 [(0, .pointer (some ⟨g, 0, none⟩)), (1, vq28), (5, .int .i16 V)] a ∧ Mem w0 (fun k => v.ownBlock = some k) Y [.row 5 1 vq28 (n + (([] : List UInt8) ++ (fixed V 2) ++ pieceP (.mk 2 0 (-1) (-1) (-1) 0 0 []) V false (t.at_ 0) ++ pieceP (.mk 8 0 (-1) (-1) (-1) 0 0 []) V false (t.at_ 1) ++ pieceP (.mk 8 0 (-1) (-1) (-1) 0 0 []) V false (t.at_ 2) ++ pieceP (.mk 4 0 (-1) (-1) (-1) 0 0 []) V false (t.at_ 3) ++ pieceP (.mk 11 0 (-1) (-1) (-1) 0 10 sch_sConnectMemberAssignmentAssignment) V false (t.at_ 4) ++ pieceP (.mk 11 1 (-1) (-1) (-1) 0 10 sch_sConnectMemberAssignmentRevoked) V false (t.at_ 5) ++ pieceP (.mk 3 1 (-1) (-1) (-1) 0 0 []) V false (t.at_ 6)).length) (xs ++ bv (([] : List UInt8) ++ (fixed V 2) ++ pieceP (.mk 2 0 (-1) (-1) (-1) 0 0 []) V false (t.at_ 0) ++ pieceP (.mk 8 0 (-1) (-1) (-1) 0 0 []) V false (t.at_ 1) ++ pieceP (.mk 8 0 (-1) (-1) (-1) 0 0 []) V false (t.at_ 2) ++ pieceP (.mk 4 0 (-1) (-1) (-1) 0 0 []) V false (t.at_ 3) ++ pieceP (.mk 11 0 (-1) (-1) (-1) 0 10 sch_sConnectMemberAssignmentAssignment) V false (t.at_ 4) ++ pieceP (.mk 11 1 (-1) (-1) (-1) 0 10 sch_sConnectMemberAssignmentRevoked) V false (t.at_ 5) ++ pieceP (.mk 3 1 (-1) (-1) (-1) 0 0 []) V false (t.at_ 6))), .cel g 0 [.int .i16 V, x0, x1, x2, x3, x4, x5, x6], .rep (wrF (.mk 2 0 (-1) (-1) (-1) 0 0 []) false V false (t.at_ 0)) [x0], .rep (wrF (.mk 8 0 (-1) (-1) (-1) 0 0 []) false V false (t.at_ 1)) [x1], .rep (wrF (.mk 8 0 (-1) (-1) (-1) 0 0 []) false V false (t.at_ 2)) [x2], .rep (wrF (.mk 4 0 (-1) (-1) (-1) 0 0 []) false V false (t.at_ 3)) [x3], .rep (wrF (.mk 11 0 (-1) (-1) (-1) 0 10 sch_sConnectMemberAssignmentAssignment) false V false (t.at_ 4)) [x4], .rep (wrF (.mk 11 1 (-1) (-1) (-1) 0 10 sch_sConnectMemberAssignmentRevoked) false V false (t.at_ 5)) [x5], .rep (wrF (.mk 3 1 (-1) (-1) (-1) 0 0 []) false V false (t.at_ 6)) [x6]] w) ?_ (fun a w hJ => ?_)
  · refine c_region ?_
    refine o_move hk rfl rfl fun a hk => ?_
    refine o_icmp hk rfl rfl rfl rfl fun a hk => ?_
    refine c_end ?_
    refine c_cond hk rfl (fun hc => ?_) (fun hc => ?_)
    · simp only [decide_eq_true_eq, decide_eq_false_iff_not, Bool.and_eq_true] at hc
      have hh : ((.mk 3 1 (-1) (-1) (-1) 0 0 []) : Fld).has V = true := has_of (by omega) (.inl (by decide))
      have hx := hm.rep (i := 8) rfl
      rw [wrF_hasT (t := (t.at_ 6)) (by decide) hh] at hx
      obtain rfl : x6 = .int .i32 (IntKind.i32.wrap ((t.at_ 6).n)) := rep_v_inv hx
      have hpc := piece_i32 (v := V) (flex := false) (t := (t.at_ 6)) (by decide) hh
      have hlp := congrArg List.length hpc
      simp only [fixed_length, List.length_cons, List.length_nil] at hlp
      refine c_region ?_
      refine o_move hk rfl rfl fun a hk => ?_
      refine o_nilCheck hk rfl rfl fun a hk => ?_
      refine o_fieldAddr hk fo_70_7 rfl rfl fun a hk => ?_
      refine o_load hk ts_21 rfl (hm.cell_cel (i := 1) (j := 7) rfl rfl) rfl fun a hk => ?_
      refine o_assign hk rfl rfl fun a hk => ?_
      refine c_end ?_
      refine c_reg ?_
      refine o_move hk rfl rfl fun a hk => ?_
      refine o_move hk rfl rfl fun a hk => ?_
      refine o_call hk cb_40 (appendInt32_c (hm.row (i := 0) rfl) (IntKind.i32.wrap ((t.at_ 6).n)) (by omega)) ⟨rfl, rfl, trivial⟩ rfl fun v29 w a hR hk => ?_
      have hm := hm.rowCall (i := 0) rfl hR
      have hm := hm.rowEq (i := 0) (n' := n + (([] : List UInt8) ++ (fixed V 2) ++ pieceP (.mk 2 0 (-1) (-1) (-1) 0 0 []) V false (t.at_ 0) ++ pieceP (.mk 8 0 (-1) (-1) (-1) 0 0 []) V false (t.at_ 1) ++ pieceP (.mk 8 0 (-1) (-1) (-1) 0 0 []) V false (t.at_ 2) ++ pieceP (.mk 4 0 (-1) (-1) (-1) 0 0 []) V false (t.at_ 3) ++ pieceP (.mk 11 0 (-1) (-1) (-1) 0 10 sch_sConnectMemberAssignmentAssignment) V false (t.at_ 4) ++ pieceP (.mk 11 1 (-1) (-1) (-1) 0 10 sch_sConnectMemberAssignmentRevoked) V false (t.at_ 5) ++ (fixed (IntKind.i32.wrap ((t.at_ 6).n)) 4)).length) (xs' := xs ++ bv (([] : List UInt8) ++ (fixed V 2) ++ pieceP (.mk 2 0 (-1) (-1) (-1) 0 0 []) V false (t.at_ 0) ++ pieceP (.mk 8 0 (-1) (-1) (-1) 0 0 []) V false (t.at_ 1) ++ pieceP (.mk 8 0 (-1) (-1) (-1) 0 0 []) V false (t.at_ 2) ++ pieceP (.mk 4 0 (-1) (-1) (-1) 0 0 []) V false (t.at_ 3) ++ pieceP (.mk 11 0 (-1) (-1) (-1) 0 10 sch_sConnectMemberAssignmentAssignment) V false (t.at_ 4) ++ pieceP (.mk 11 1 (-1) (-1) (-1) 0 10 sch_sConnectMemberAssignmentRevoked) V false (t.at_ 5) ++ (fixed (IntKind.i32.wrap ((t.at_ 6).n)) 4))) rfl (by simp only [List.length_append, Nat.add_assoc]) (by simp only [bv_append, List.append_assoc])
      refine o_assign hk rfl rfl fun a hk => ?_
      refine c_endQ ?_
      have hm := hm.rowEq (i := 0) (n' := n + (([] : List UInt8) ++ (fixed V 2) ++ pieceP (.mk 2 0 (-1) (-1) (-1) 0 0 []) V false (t.at_ 0) ++ pieceP (.mk 8 0 (-1) (-1) (-1) 0 0 []) V false (t.at_ 1) ++ pieceP (.mk 8 0 (-1) (-1) (-1) 0 0 []) V false (t.at_ 2) ++ pieceP (.mk 4 0 (-1) (-1) (-1) 0 0 []) V false (t.at_ 3) ++ pieceP (.mk 11 0 (-1) (-1) (-1) 0 10 sch_sConnectMemberAssignmentAssignment) V false (t.at_ 4) ++ pieceP (.mk 11 1 (-1) (-1) (-1) 0 10 sch_sConnectMemberAssignmentRevoked) V false (t.at_ 5) ++ pieceP (.mk 3 1 (-1) (-1) (-1) 0 0 []) V false (t.at_ 6)).length) (xs' := xs ++ bv (([] : List UInt8) ++ (fixed V 2) ++ pieceP (.mk 2 0 (-1) (-1) (-1) 0 0 []) V false (t.at_ 0) ++ pieceP (.mk 8 0 (-1) (-1) (-1) 0 0 []) V false (t.at_ 1) ++ pieceP (.mk 8 0 (-1) (-1) (-1) 0 0 []) V false (t.at_ 2) ++ pieceP (.mk 4 0 (-1) (-1) (-1) 0 0 []) V false (t.at_ 3) ++ pieceP (.mk 11 0 (-1) (-1) (-1) 0 10 sch_sConnectMemberAssignmentAssignment) V false (t.at_ 4) ++ pieceP (.mk 11 1 (-1) (-1) (-1) 0 10 sch_sConnectMemberAssignmentRevoked) V false (t.at_ 5) ++ pieceP (.mk 3 1 (-1) (-1) (-1) 0 0 []) V false (t.at_ 6))) rfl (by rw [hpc]; try simp only [List.append_assoc, List.append_nil]) (by rw [hpc]; try simp only [List.append_assoc, List.append_nil])
      exact c_then ⟨_, hk.sub ⟨rfl, rfl, rfl, trivial⟩, hm.pick [0, 1, 2, 3, 4, 5, 6, 7, 8] rfl rfl⟩
    · simp only [decide_eq_true_eq, decide_eq_false_iff_not, Bool.and_eq_true] at hc
      have hpc : pieceP (.mk 3 1 (-1) (-1) (-1) 0 0 []) V false (t.at_ 6) = [] := pieceP_not (has_not (by omega))
      refine wp_skip ?_
      have hm := hm.rowEq (i := 0) (n' := n + (([] : List UInt8) ++ (fixed V 2) ++ pieceP (.mk 2 0 (-1) (-1) (-1) 0 0 []) V false (t.at_ 0) ++ pieceP (.mk 8 0 (-1) (-1) (-1) 0 0 []) V false (t.at_ 1) ++ pieceP (.mk 8 0 (-1) (-1) (-1) 0 0 []) V false (t.at_ 2) ++ pieceP (.mk 4 0 (-1) (-1) (-1) 0 0 []) V false (t.at_ 3) ++ pieceP (.mk 11 0 (-1) (-1) (-1) 0 10 sch_sConnectMemberAssignmentAssignment) V false (t.at_ 4) ++ pieceP (.mk 11 1 (-1) (-1) (-1) 0 10 sch_sConnectMemberAssignmentRevoked) V false (t.at_ 5) ++ pieceP (.mk 3 1 (-1) (-1) (-1) 0 0 []) V false (t.at_ 6)).length) (xs' := xs ++ bv (([] : List UInt8) ++ (fixed V 2) ++ pieceP (.mk 2 0 (-1) (-1) (-1) 0 0 []) V false (t.at_ 0) ++ pieceP (.mk 8 0 (-1) (-1) (-1) 0 0 []) V false (t.at_ 1) ++ pieceP (.mk 8 0 (-1) (-1) (-1) 0 0 []) V false (t.at_ 2) ++ pieceP (.mk 4 0 (-1) (-1) (-1) 0 0 []) V false (t.at_ 3) ++ pieceP (.mk 11 0 (-1) (-1) (-1) 0 10 sch_sConnectMemberAssignmentAssignment) V false (t.at_ 4) ++ pieceP (.mk 11 1 (-1) (-1) (-1) 0 10 sch_sConnectMemberAssignmentRevoked) V false (t.at_ 5) ++ pieceP (.mk 3 1 (-1) (-1) (-1) 0 0 []) V false (t.at_ 6))) rfl (by rw [hpc]; try simp only [List.append_assoc, List.append_nil]) (by rw [hpc]; try simp only [List.append_assoc, List.append_nil])
      exact c_then ⟨_, hk.sub ⟨rfl, rfl, rfl, trivial⟩, hm.pick [0, 1, 2, 3, 4, 5, 6, 7, 8] rfl rfl⟩
  obtain ⟨vq28, hk, hm⟩ := hJ
  refine c_region ?_
  refine o_move hk rfl rfl fun a hk => ?_
  refine o_assign hk rfl rfl fun a hk => ?_
  refine c_end ?_
  refine wp_ret ?_
  refine b_retTmp rfl hk rfl ?_
  have hr := hm.rowTo (i := 0) rfl
  simp only [List.nil_append, List.append_assoc, List.append_nil] at hr ⊢
  exact hr
end Go.Proofs.Ytbljeefficdemaa
