/- Walks of functions that the laws of this seat reach. No statement of the seat stands here. -/
import Derived.Test.YtbljeefficdemaaMkOpen
import Derived.Test.YtbljeefficdemaaRows
import Derived.Test.YtbljeefficdemaaFa
import Derived.Test.YtbljeefficdemaaKb
import Derived.Test.YtbljeefficdemaaSch
namespace Go.Proofs.Ytbljeefficdemaa
open Go Go.Mk
theorem appendTo_OffsetDeleteResponse {w0 : World} {Y : Nat → Prop} {t : T} {v : Value} {n g : Nat} {V : Int} {c xs : List Value} (hrow : w0.ownsRow 0 5 1 v n xs) (hY : ∀ k, v.ownBlock = some k → Y k) (hV : 0 ≤ V)
    (hC : Cel w0 Y g 0 (.int .i16 V :: c)) (hR : Rep w0 Y (wrS sch_OffsetDeleteResponse false V false t) c) (hroom : n + (partP sch_OffsetDeleteResponse V false t).length ≤ room) :
    Ret Try.prog 23 [.pointer (some ⟨g, 0, none⟩), v] w0 fun v' w' => RowTo w0 5 1 v (n + (partP sch_OffsetDeleteResponse V false t).length) (xs ++ bv (partP sch_OffsetDeleteResponse V false t)) v' w' := by
  refine c_call Try.func23 rfl rfl fun a hk => ?_
  have hk : Kn 92 [(0, .pointer (some ⟨g, 0, none⟩)), (1, v)] a := hk
  have hL := rep_agg_inv hR
  replace hL : RepL _ _ [wrF (.mk 2 0 (-1) (-1) (-1) 0 0 []) false V false (t.at_ 0), wrF (.mk 3 0 (-1) (-1) (-1) 0 0 []) false V false (t.at_ 1), wrF (.mk 11 0 (-1) (-1) (-1) 0 10 sch_sOffsetDeleteResponseTopic) false V false (t.at_ 2)] c := hL
  obtain ⟨x0, xr0, rfl, hx0, hL⟩ := hL.un1 (one1_wrF rfl (by decide))
  obtain ⟨x1, xr1, rfl, hx1, hL⟩ := hL.un1 (one1_wrF rfl (by decide))
  obtain ⟨x2, xr2, rfl, hx2, hL⟩ := hL.un1 (one1_wrF rfl (by decide))
  obtain rfl := hL.unNil
  have hm : Mem w0 (fun k => v.ownBlock = some k) Y [.row 5 1 v n xs, .cel g 0 [.int .i16 V, x0, x1, x2], .rep (wrF (.mk 2 0 (-1) (-1) (-1) 0 0 []) false V false (t.at_ 0)) [x0], .rep (wrF (.mk 3 0 (-1) (-1) (-1) 0 0 []) false V false (t.at_ 1)) [x1], .rep (wrF (.mk 11 0 (-1) (-1) (-1) 0 10 sch_sOffsetDeleteResponseTopic) false V false (t.at_ 2)) [x2]] w0 := Mem.startRow hrow hY rfl (by simp only [List.forall_mem_cons, List.not_mem_nil, false_imp_iff, implies_true, and_true]; exact ⟨hC, hx0, hx1, hx2⟩)
  have hm := hm.rowEq (i := 0) (n' := n + (([] : List UInt8)).length) (xs' := xs ++ bv (([] : List UInt8))) rfl (by simp) (by simp [bv])
  have hT : partP sch_OffsetDeleteResponse V false t = pieceP (.mk 2 0 (-1) (-1) (-1) 0 0 []) V false (t.at_ 0) ++ (pieceP (.mk 3 0 (-1) (-1) (-1) 0 0 []) V false (t.at_ 1) ++ (pieceP (.mk 11 0 (-1) (-1) (-1) 0 10 sch_sOffsetDeleteResponseTopic) V false (t.at_ 2) ++ ([]))) := by rw [partP_plain]; rfl
  rw [hT] at hroom ⊢
  simp only [List.length_append, List.length_nil] at hroom
  refine c_region ?_
  refine o_assign hk rfl rfl fun a hk => ?_
  refine c_end ?_
  refine c_region ?_
  refine o_move hk rfl rfl fun a hk => ?_
  refine o_nilCheck hk rfl rfl fun a hk => ?_
  refine o_fieldAddr hk fo_54_0 rfl rfl fun a hk => ?_
  refine o_load hk ts_45 rfl (hm.cell_cel (i := 1) (j := 0) rfl rfl) rfl fun a hk => ?_
  refine o_assign hk rfl rfl fun a hk => ?_
  refine c_end ?_
  refine c_region ?_
  refine o_move hk rfl rfl fun a hk => ?_
  refine c_end ?_
  have hr : n + (([] : List UInt8)).length + (pieceP (.mk 2 0 (-1) (-1) (-1) 0 0 []) V false (t.at_ 0)).length ≤ room := by simp only [List.length_append, List.length_nil, fixed_length]; omega
  refine c_cut (fun a w => ∃ vq1, Kn 92 [(0, .pointer (some ⟨g, 0, none⟩)), (1, vq1)] a ∧ Mem w0 (fun k => v.ownBlock = some k) Y [.row 5 1 vq1 (n + (([] : List UInt8) ++ pieceP (.mk 2 0 (-1) (-1) (-1) 0 0 []) V false (t.at_ 0)).length) (xs ++ bv (([] : List UInt8) ++ pieceP (.mk 2 0 (-1) (-1) (-1) 0 0 []) V false (t.at_ 0))), .cel g 0 [.int .i16 V, x0, x1, x2], .rep (wrF (.mk 2 0 (-1) (-1) (-1) 0 0 []) false V false (t.at_ 0)) [x0], .rep (wrF (.mk 3 0 (-1) (-1) (-1) 0 0 []) false V false (t.at_ 1)) [x1], .rep (wrF (.mk 11 0 (-1) (-1) (-1) 0 10 sch_sOffsetDeleteResponseTopic) false V false (t.at_ 2)) [x2]] w) ?_ (fun a w hJ => ?_)
  · have hh : ((.mk 2 0 (-1) (-1) (-1) 0 0 []) : Fld).has V = true := has_of (by omega) (.inl (by decide))
    have hx := hm.rep (i := 2) rfl
    rw [wrF_hasT (by decide) hh] at hx
    obtain rfl : x0 = .int .i16 (IntKind.i16.wrap ((t.at_ 0).n)) := rep_v_inv hx
    have hpc := piece_i16 (v := V) (flex := false) (t := (t.at_ 0)) (by decide) hh
    have hlp := congrArg List.length hpc
    simp only [fixed_length, List.length_cons, List.length_nil] at hlp
    refine c_region ?_
    refine o_move hk rfl rfl fun a hk => ?_
    refine o_nilCheck hk rfl rfl fun a hk => ?_
    refine o_fieldAddr hk fo_54_1 rfl rfl fun a hk => ?_
    refine o_load hk ts_45 rfl (hm.cell_cel (i := 1) (j := 1) rfl rfl) rfl fun a hk => ?_
    refine o_assign hk rfl rfl fun a hk => ?_
    refine c_end ?_
    refine c_reg ?_
    refine o_move hk rfl rfl fun a hk => ?_
    refine o_move hk rfl rfl fun a hk => ?_
    refine o_call hk cb_39 (appendInt16_c (hm.row (i := 0) rfl) (IntKind.i16.wrap ((t.at_ 0).n)) (by omega)) ⟨rfl, rfl, trivial⟩ rfl fun v2 w a hR hk => ?_
    have hm := hm.rowCall (i := 0) rfl hR
    have hm := hm.rowEq (i := 0) (n' := n + (([] : List UInt8) ++ (fixed (IntKind.i16.wrap ((t.at_ 0).n)) 2)).length) (xs' := xs ++ bv (([] : List UInt8) ++ (fixed (IntKind.i16.wrap ((t.at_ 0).n)) 2))) rfl (by simp only [List.length_append, Nat.add_assoc]) (by simp only [bv_append, List.append_assoc])
    refine o_assign hk rfl rfl fun a hk => ?_
    refine c_endQ ?_
    have hm := hm.rowEq (i := 0) (n' := n + (([] : List UInt8) ++ pieceP (.mk 2 0 (-1) (-1) (-1) 0 0 []) V false (t.at_ 0)).length) (xs' := xs ++ bv (([] : List UInt8) ++ pieceP (.mk 2 0 (-1) (-1) (-1) 0 0 []) V false (t.at_ 0))) rfl (by rw [hpc]; try simp only [List.append_assoc, List.append_nil]) (by rw [hpc]; try simp only [List.append_assoc, List.append_nil])
    exact c_then ⟨_, hk.sub ⟨rfl, rfl, trivial⟩, hm.pick [0, 1, 2, 3, 4] rfl rfl⟩
  obtain ⟨vq1, hk, hm⟩ := hJ
  have hr : n + (([] : List UInt8) ++ pieceP (.mk 2 0 (-1) (-1) (-1) 0 0 []) V false (t.at_ 0)).length + (pieceP (.mk 3 0 (-1) (-1) (-1) 0 0 []) V false (t.at_ 1)).length ≤ room := by simp only [List.length_append, List.length_nil, fixed_length]; omega
  refine c_cut (fun a w => ∃ vq3, Kn 92 [(0, .pointer (some ⟨g, 0, none⟩)), (1, vq3)] a ∧ Mem w0 (fun k => v.ownBlock = some k) Y [.row 5 1 vq3 (n + (([] : List UInt8) ++ pieceP (.mk 2 0 (-1) (-1) (-1) 0 0 []) V false (t.at_ 0) ++ pieceP (.mk 3 0 (-1) (-1) (-1) 0 0 []) V false (t.at_ 1)).length) (xs ++ bv (([] : List UInt8) ++ pieceP (.mk 2 0 (-1) (-1) (-1) 0 0 []) V false (t.at_ 0) ++ pieceP (.mk 3 0 (-1) (-1) (-1) 0 0 []) V false (t.at_ 1))), .cel g 0 [.int .i16 V, x0, x1, x2], .rep (wrF (.mk 2 0 (-1) (-1) (-1) 0 0 []) false V false (t.at_ 0)) [x0], .rep (wrF (.mk 3 0 (-1) (-1) (-1) 0 0 []) false V false (t.at_ 1)) [x1], .rep (wrF (.mk 11 0 (-1) (-1) (-1) 0 10 sch_sOffsetDeleteResponseTopic) false V false (t.at_ 2)) [x2]] w) ?_ (fun a w hJ => ?_)
  · have hh : ((.mk 3 0 (-1) (-1) (-1) 0 0 []) : Fld).has V = true := has_of (by omega) (.inl (by decide))
    have hx := hm.rep (i := 3) rfl
    rw [wrF_hasT (by decide) hh] at hx
    obtain rfl : x1 = .int .i32 (IntKind.i32.wrap ((t.at_ 1).n)) := rep_v_inv hx
    have hpc := piece_i32 (v := V) (flex := false) (t := (t.at_ 1)) (by decide) hh
    have hlp := congrArg List.length hpc
    simp only [fixed_length, List.length_cons, List.length_nil] at hlp
    refine c_region ?_
    refine o_move hk rfl rfl fun a hk => ?_
    refine o_nilCheck hk rfl rfl fun a hk => ?_
    refine o_fieldAddr hk fo_54_2 rfl rfl fun a hk => ?_
    refine o_load hk ts_21 rfl (hm.cell_cel (i := 1) (j := 2) rfl rfl) rfl fun a hk => ?_
    refine o_assign hk rfl rfl fun a hk => ?_
    refine c_end ?_
    refine c_reg ?_
    refine o_move hk rfl rfl fun a hk => ?_
    refine o_move hk rfl rfl fun a hk => ?_
    refine o_call hk cb_40 (appendInt32_c (hm.row (i := 0) rfl) (IntKind.i32.wrap ((t.at_ 1).n)) (by omega)) ⟨rfl, rfl, trivial⟩ rfl fun v4 w a hR hk => ?_
    have hm := hm.rowCall (i := 0) rfl hR
    have hm := hm.rowEq (i := 0) (n' := n + (([] : List UInt8) ++ pieceP (.mk 2 0 (-1) (-1) (-1) 0 0 []) V false (t.at_ 0) ++ (fixed (IntKind.i32.wrap ((t.at_ 1).n)) 4)).length) (xs' := xs ++ bv (([] : List UInt8) ++ pieceP (.mk 2 0 (-1) (-1) (-1) 0 0 []) V false (t.at_ 0) ++ (fixed (IntKind.i32.wrap ((t.at_ 1).n)) 4))) rfl (by simp only [List.length_append, Nat.add_assoc]) (by simp only [bv_append, List.append_assoc])
    refine o_assign hk rfl rfl fun a hk => ?_
    refine c_endQ ?_
    have hm := hm.rowEq (i := 0) (n' := n + (([] : List UInt8) ++ pieceP (.mk 2 0 (-1) (-1) (-1) 0 0 []) V false (t.at_ 0) ++ pieceP (.mk 3 0 (-1) (-1) (-1) 0 0 []) V false (t.at_ 1)).length) (xs' := xs ++ bv (([] : List UInt8) ++ pieceP (.mk 2 0 (-1) (-1) (-1) 0 0 []) V false (t.at_ 0) ++ pieceP (.mk 3 0 (-1) (-1) (-1) 0 0 []) V false (t.at_ 1))) rfl (by rw [hpc]; try simp only [List.append_assoc, List.append_nil]) (by rw [hpc]; try simp only [List.append_assoc, List.append_nil])
    exact c_then ⟨_, hk.sub ⟨rfl, rfl, trivial⟩, hm.pick [0, 1, 2, 3, 4] rfl rfl⟩
  obtain ⟨vq3, hk, hm⟩ := hJ
  have hr : n + (([] : List UInt8) ++ pieceP (.mk 2 0 (-1) (-1) (-1) 0 0 []) V false (t.at_ 0) ++ pieceP (.mk 3 0 (-1) (-1) (-1) 0 0 []) V false (t.at_ 1)).length + (pieceP (.mk 11 0 (-1) (-1) (-1) 0 10 sch_sOffsetDeleteResponseTopic) V false (t.at_ 2)).length ≤ room := by simp only [List.length_append, List.length_nil, fixed_length]; omega
  refine c_cut (fun a w => ∃ vq5, Kn 92 [(0, .pointer (some ⟨g, 0, none⟩)), (1, vq5)] a ∧ Mem w0 (fun k => v.ownBlock = some k) Y [.row 5 1 vq5 (n + (([] : List UInt8) ++ pieceP (.mk 2 0 (-1) (-1) (-1) 0 0 []) V false (t.at_ 0) ++ pieceP (.mk 3 0 (-1) (-1) (-1) 0 0 []) V false (t.at_ 1) ++ pieceP (.mk 11 0 (-1) (-1) (-1) 0 10 sch_sOffsetDeleteResponseTopic) V false (t.at_ 2)).length) (xs ++ bv (([] : List UInt8) ++ pieceP (.mk 2 0 (-1) (-1) (-1) 0 0 []) V false (t.at_ 0) ++ pieceP (.mk 3 0 (-1) (-1) (-1) 0 0 []) V false (t.at_ 1) ++ pieceP (.mk 11 0 (-1) (-1) (-1) 0 10 sch_sOffsetDeleteResponseTopic) V false (t.at_ 2))), .cel g 0 [.int .i16 V, x0, x1, x2], .rep (wrF (.mk 2 0 (-1) (-1) (-1) 0 0 []) false V false (t.at_ 0)) [x0], .rep (wrF (.mk 3 0 (-1) (-1) (-1) 0 0 []) false V false (t.at_ 1)) [x1], .rep (wrF (.mk 11 0 (-1) (-1) (-1) 0 10 sch_sOffsetDeleteResponseTopic) false V false (t.at_ 2)) [x2]] w) ?_ (fun a w hJ => ?_)
  · have hh : ((.mk 11 0 (-1) (-1) (-1) 0 10 sch_sOffsetDeleteResponseTopic) : Fld).has V = true := has_of (by omega) (.inl (by decide))
    have hx := hm.rep (i := 4) rfl
    rw [wrF_hasT (by decide) hh] at hx
    replace hx : Rep _ _ (.sl false 2 ((things (t.at_ 2).l).map (wrS sch_sOffsetDeleteResponseTopic false V false))) [x2] := hx
    obtain ⟨px2, capx2, rfl⟩ := rep_sl_lenM hx
    have hm := hm.add (e := .rep (.sl false 2 ((things (t.at_ 2).l).map (wrS sch_sOffsetDeleteResponseTopic false V false))) [.slice px2 ((things (t.at_ 2).l).length) capx2]) rfl hx
    have hpc : pieceP (.mk 11 0 (-1) (-1) (-1) 0 10 sch_sOffsetDeleteResponseTopic) V false (t.at_ 2) = fixed (((things (t.at_ 2).l).length : Nat) : Int) 4 ++ (things (t.at_ 2).l).flatMap (partP sch_sOffsetDeleteResponseTopic V false) := piece_list (by decide) (by decide) hh
    have hlp := congrArg List.length hpc
    simp only [List.length_append, fixed_length] at hlp
    have htl := things_len (t.at_ 2).l
    refine c_region ?_
    refine o_move hk rfl rfl fun a hk => ?_
    refine o_nilCheck hk rfl rfl fun a hk => ?_
    refine o_fieldAddr hk fo_54_3 rfl rfl fun a hk => ?_
    refine o_load hk ts_52 rfl (hm.cell_cel (i := 2) (j := 3) rfl rfl) rfl fun a hk => ?_
    refine o_assign hk rfl rfl fun a hk => ?_
    refine c_end ?_
    refine c_region ?_
    refine o_move hk rfl rfl fun a hk => ?_
    refine o_move hk rfl rfl fun a hk => ?_
    refine o_lenSlice hk te_52 rfl rfl fun a hk => ?_
    refine o_call hk cb_41 (appendArrayLen_c (hm.row (i := 1) rfl) (((things (t.at_ 2).l).length : Nat) : Int) (by omega)) ⟨rfl, rfl, trivial⟩ rfl fun v6 w a hR hk => ?_
    have hm := hm.rowCall (i := 1) rfl hR
    have hm := hm.rowEq (i := 1) (n' := n + (([] : List UInt8) ++ pieceP (.mk 2 0 (-1) (-1) (-1) 0 0 []) V false (t.at_ 0) ++ pieceP (.mk 3 0 (-1) (-1) (-1) 0 0 []) V false (t.at_ 1) ++ (fixed (((things (t.at_ 2).l).length : Nat) : Int) 4)).length) (xs' := xs ++ bv (([] : List UInt8) ++ pieceP (.mk 2 0 (-1) (-1) (-1) 0 0 []) V false (t.at_ 0) ++ pieceP (.mk 3 0 (-1) (-1) (-1) 0 0 []) V false (t.at_ 1) ++ (fixed (((things (t.at_ 2).l).length : Nat) : Int) 4))) rfl (by simp only [List.length_append, Nat.add_assoc]) (by simp only [bv_append, List.append_assoc])
    refine o_assign hk rfl rfl fun a hk => ?_
    refine c_end ?_
    refine c_region ?_
    refine o_move hk rfl rfl fun a hk => ?_
    refine o_lenSlice hk te_52 rfl rfl fun a hk => ?_
    refine o_move hk rfl rfl fun a hk => ?_
    refine c_end ?_
    have hm := hm.rowEq (i := 1) (n' := n + (([] : List UInt8) ++ pieceP (.mk 2 0 (-1) (-1) (-1) 0 0 []) V false (t.at_ 0) ++ pieceP (.mk 3 0 (-1) (-1) (-1) 0 0 []) V false (t.at_ 1) ++ (fixed (((things (t.at_ 2).l).length : Nat) : Int) 4) ++ ((things (t.at_ 2).l).take 0).flatMap (partP sch_sOffsetDeleteResponseTopic V false)).length) (xs' := xs ++ bv (([] : List UInt8) ++ pieceP (.mk 2 0 (-1) (-1) (-1) 0 0 []) V false (t.at_ 0) ++ pieceP (.mk 3 0 (-1) (-1) (-1) 0 0 []) V false (t.at_ 1) ++ (fixed (((things (t.at_ 2).l).length : Nat) : Int) 4) ++ ((things (t.at_ 2).l).take 0).flatMap (partP sch_sOffsetDeleteResponseTopic V false))) rfl (by simp only [List.take_zero, List.flatMap_nil, List.append_nil]) (by simp only [List.take_zero, List.flatMap_nil, List.append_nil])
    refine c_range (L0 := [(0, .pointer (some ⟨g, 0, none⟩)), (1, v6), (8, .slice px2 ((things (t.at_ 2).l).length) capx2)]) (N := (things (t.at_ 2).l).length) (by omega) (fun k1 L w => ∃ vr, L = [(0, .pointer (some ⟨g, 0, none⟩)), (1, vr), (8, .slice px2 ((things (t.at_ 2).l).length) capx2)] ∧ Mem w0 (fun k => v.ownBlock = some k) Y [.rep (.sl false 2 ((things (t.at_ 2).l).map (wrS sch_sOffsetDeleteResponseTopic false V false))) [.slice px2 ((things (t.at_ 2).l).length) capx2], .row 5 1 vr (n + (([] : List UInt8) ++ pieceP (.mk 2 0 (-1) (-1) (-1) 0 0 []) V false (t.at_ 0) ++ pieceP (.mk 3 0 (-1) (-1) (-1) 0 0 []) V false (t.at_ 1) ++ (fixed (((things (t.at_ 2).l).length : Nat) : Int) 4) ++ ((things (t.at_ 2).l).take k1).flatMap (partP sch_sOffsetDeleteResponseTopic V false)).length) (xs ++ bv (([] : List UInt8) ++ pieceP (.mk 2 0 (-1) (-1) (-1) 0 0 []) V false (t.at_ 0) ++ pieceP (.mk 3 0 (-1) (-1) (-1) 0 0 []) V false (t.at_ 1) ++ (fixed (((things (t.at_ 2).l).length : Nat) : Int) 4) ++ ((things (t.at_ 2).l).take k1).flatMap (partP sch_sOffsetDeleteResponseTopic V false))), .cel g 0 [.int .i16 V, x0, x1, .slice px2 ((things (t.at_ 2).l).length) capx2], .rep (wrF (.mk 2 0 (-1) (-1) (-1) 0 0 []) false V false (t.at_ 0)) [x0], .rep (wrF (.mk 3 0 (-1) (-1) (-1) 0 0 []) false V false (t.at_ 1)) [x1], .rep (wrF (.mk 11 0 (-1) (-1) (-1) 0 10 sch_sOffsetDeleteResponseTopic) false V false (t.at_ 2)) [.slice px2 ((things (t.at_ 2).l).length) capx2]] w) (hk.sub ⟨rfl, rfl, rfl, rfl, rfl, trivial⟩) ⟨_, rfl, hm⟩ rfl rfl rfl rfl rfl rfl rfl (fun k1 L a w hlt hR hk => ?_) rfl (fun L a w hR hk => ?_)
    · obtain ⟨vr, rfl, hm⟩ := hR
      obtain ⟨hlt1, bl1, off1, e1, hpl1, hel, hRe, hCe⟩ := rep_sl_get (hm.rep (i := 0) rfl) (getD_map (wrS sch_sOffsetDeleteResponseTopic false V false) (things (t.at_ 2).l) k1 T.nil hlt)
      have hfl := flatMap_take_le (partP sch_sOffsetDeleteResponseTopic V false) (things (t.at_ 2).l) k1 T.nil hlt
      obtain ⟨tx1, htx1⟩ : ∃ y, y = ((things (t.at_ 2).l).getD k1 T.nil) := ⟨_, rfl⟩
      rw [← htx1] at hRe hfl
      have hL := rep_agg_inv hRe
      replace hL : RepL _ _ [wrF (.mk 8 0 (-1) (-1) (-1) 0 0 []) false V false (tx1.at_ 0), wrF (.mk 11 0 (-1) (-1) (-1) 0 10 sch_sOffsetDeleteResponseTopicPartition) false V false (tx1.at_ 1)] e1 := hL
      obtain ⟨x1_0, x1_r0, rfl, hx1_0, hL⟩ := hL.un1 (one1_wrF rfl (by decide))
      obtain ⟨x1_1, x1_r1, rfl, hx1_1, hL⟩ := hL.un1 (one1_wrF rfl (by decide))
      obtain rfl := hL.unNil
      have hm := hm.add (e := .cel bl1 (off1 + k1 * 2) [x1_0, x1_1]) rfl hCe
      have hm := hm.add (e := .rep (wrF (.mk 8 0 (-1) (-1) (-1) 0 0 []) false V false (tx1.at_ 0)) [x1_0]) rfl hx1_0
      have hm := hm.add (e := .rep (wrF (.mk 11 0 (-1) (-1) (-1) 0 10 sch_sOffsetDeleteResponseTopicPartition) false V false (tx1.at_ 1)) [x1_1]) rfl hx1_1
      have hTe : (partP sch_sOffsetDeleteResponseTopic V false) tx1 = pieceP (.mk 8 0 (-1) (-1) (-1) 0 0 []) V false (tx1.at_ 0) ++ (pieceP (.mk 11 0 (-1) (-1) (-1) 0 10 sch_sOffsetDeleteResponseTopicPartition) V false (tx1.at_ 1) ++ ([])) := by rw [partP_plain]; rfl
      rw [hTe] at hfl
      simp only [List.length_append, List.length_nil] at hfl
      refine c_region ?_
      refine o_move hk rfl rfl fun a hk => ?_
      refine o_assign hk rfl rfl fun a hk => ?_
      refine c_end ?_
      refine c_region ?_
      refine o_move hk rfl rfl fun a hk => ?_
      refine o_move hk rfl rfl fun a hk => ?_
      refine o_indexAddr (j := k1) (b := bl1) (off := off1) hk te_52 ts_77 (by rw [← hpl1]; rfl) rfl hlt1 rfl fun a hk => ?_
      refine o_assign hk rfl rfl fun a hk => ?_
      refine c_end ?_
      have hr : n + (([] : List UInt8) ++ pieceP (.mk 2 0 (-1) (-1) (-1) 0 0 []) V false (t.at_ 0) ++ pieceP (.mk 3 0 (-1) (-1) (-1) 0 0 []) V false (t.at_ 1) ++ (fixed (((things (t.at_ 2).l).length : Nat) : Int) 4) ++ ((things (t.at_ 2).l).take k1).flatMap (partP sch_sOffsetDeleteResponseTopic V false)).length + (pieceP (.mk 8 0 (-1) (-1) (-1) 0 0 []) V false (tx1.at_ 0)).length ≤ room := by simp only [List.length_append, List.length_nil, fixed_length]; omega
      refine c_cut (fun a w => ∃ vq7, Kn 92 [(0, .pointer (some ⟨g, 0, none⟩)), (1, vq7), (8, .slice px2 ((things (t.at_ 2).l).length) capx2), (10, .pointer (some ⟨bl1, off1 + k1 * 2, none⟩)), (45, .int .i64 (((things (t.at_ 2).l).length : Nat) : Int)), (46, .int .i64 (k1 : Int))] a ∧ Mem w0 (fun k => v.ownBlock = some k) Y [.rep (wrF (.mk 11 0 (-1) (-1) (-1) 0 10 sch_sOffsetDeleteResponseTopicPartition) false V false (tx1.at_ 1)) [x1_1], .rep (wrF (.mk 8 0 (-1) (-1) (-1) 0 0 []) false V false (tx1.at_ 0)) [x1_0], .cel bl1 (off1 + k1 * 2) [x1_0, x1_1], .rep (.sl false 2 ((things (t.at_ 2).l).map (wrS sch_sOffsetDeleteResponseTopic false V false))) [.slice px2 ((things (t.at_ 2).l).length) capx2], .row 5 1 vq7 (n + (([] : List UInt8) ++ pieceP (.mk 2 0 (-1) (-1) (-1) 0 0 []) V false (t.at_ 0) ++ pieceP (.mk 3 0 (-1) (-1) (-1) 0 0 []) V false (t.at_ 1) ++ (fixed (((things (t.at_ 2).l).length : Nat) : Int) 4) ++ ((things (t.at_ 2).l).take k1).flatMap (partP sch_sOffsetDeleteResponseTopic V false) ++ pieceP (.mk 8 0 (-1) (-1) (-1) 0 0 []) V false (tx1.at_ 0)).length) (xs ++ bv (([] : List UInt8) ++ pieceP (.mk 2 0 (-1) (-1) (-1) 0 0 []) V false (t.at_ 0) ++ pieceP (.mk 3 0 (-1) (-1) (-1) 0 0 []) V false (t.at_ 1) ++ (fixed (((things (t.at_ 2).l).length : Nat) : Int) 4) ++ ((things (t.at_ 2).l).take k1).flatMap (partP sch_sOffsetDeleteResponseTopic V false) ++ pieceP (.mk 8 0 (-1) (-1) (-1) 0 0 []) V false (tx1.at_ 0))), .cel g 0 [.int .i16 V, x0, x1, .slice px2 ((things (t.at_ 2).l).length) capx2], .rep (wrF (.mk 2 0 (-1) (-1) (-1) 0 0 []) false V false (t.at_ 0)) [x0], .rep (wrF (.mk 3 0 (-1) (-1) (-1) 0 0 []) false V false (t.at_ 1)) [x1], .rep (wrF (.mk 11 0 (-1) (-1) (-1) 0 10 sch_sOffsetDeleteResponseTopic) false V false (t.at_ 2)) [.slice px2 ((things (t.at_ 2).l).length) capx2]] w) ?_ (fun a w hJ => ?_)
      · have hh : ((.mk 8 0 (-1) (-1) (-1) 0 0 []) : Fld).has V = true := has_of (by omega) (.inl (by decide))
        have hx := hm.rep (i := 1) rfl
        rw [wrF_hasT (by decide) hh] at hx
        obtain rfl : x1_0 = .string (bs (whole (tx1.at_ 0).s)) := rep_v_inv hx
        have hpc : pieceP (.mk 8 0 (-1) (-1) (-1) 0 0 []) V false (tx1.at_ 0) = fixed (((whole (tx1.at_ 0).s).length : Nat) : Int) 2 ++ whole (tx1.at_ 0).s := piece_text (by decide) (by decide) hh
        have hlp := congrArg List.length hpc
        simp only [List.length_append, fixed_length] at hlp
        have hwl := whole_len (tx1.at_ 0).s
        refine c_region ?_
        refine o_move hk rfl rfl fun a hk => ?_
        refine o_nilCheck hk rfl rfl fun a hk => ?_
        refine o_fieldAddr hk fo_77_0 rfl rfl fun a hk => ?_
        refine o_load hk ts_9 rfl (hm.cell_cel (i := 2) (j := 0) rfl rfl) rfl fun a hk => ?_
        refine o_assign hk rfl rfl fun a hk => ?_
        refine c_end ?_
        refine c_reg ?_
        refine o_move hk rfl rfl fun a hk => ?_
        refine o_move hk rfl rfl fun a hk => ?_
        refine o_call hk cb_42 (appendString_c (hm.row (i := 4) rfl) (whole (tx1.at_ 0).s) (by omega)) ⟨rfl, rfl, trivial⟩ rfl fun v8 w a hR hk => ?_
        have hm := hm.rowCall (i := 4) rfl hR
        have hm := hm.rowEq (i := 4) (n' := n + (([] : List UInt8) ++ pieceP (.mk 2 0 (-1) (-1) (-1) 0 0 []) V false (t.at_ 0) ++ pieceP (.mk 3 0 (-1) (-1) (-1) 0 0 []) V false (t.at_ 1) ++ (fixed (((things (t.at_ 2).l).length : Nat) : Int) 4) ++ ((things (t.at_ 2).l).take k1).flatMap (partP sch_sOffsetDeleteResponseTopic V false) ++ (fixed ((whole (tx1.at_ 0).s).length : Int) 2 ++ (whole (tx1.at_ 0).s))).length) (xs' := xs ++ bv (([] : List UInt8) ++ pieceP (.mk 2 0 (-1) (-1) (-1) 0 0 []) V false (t.at_ 0) ++ pieceP (.mk 3 0 (-1) (-1) (-1) 0 0 []) V false (t.at_ 1) ++ (fixed (((things (t.at_ 2).l).length : Nat) : Int) 4) ++ ((things (t.at_ 2).l).take k1).flatMap (partP sch_sOffsetDeleteResponseTopic V false) ++ (fixed ((whole (tx1.at_ 0).s).length : Int) 2 ++ (whole (tx1.at_ 0).s)))) rfl (by simp only [List.length_append, Nat.add_assoc]) (by simp only [bv_append, List.append_assoc])
        refine o_assign hk rfl rfl fun a hk => ?_
        refine c_endQ ?_
        have hm := hm.rowEq (i := 4) (n' := n + (([] : List UInt8) ++ pieceP (.mk 2 0 (-1) (-1) (-1) 0 0 []) V false (t.at_ 0) ++ pieceP (.mk 3 0 (-1) (-1) (-1) 0 0 []) V false (t.at_ 1) ++ (fixed (((things (t.at_ 2).l).length : Nat) : Int) 4) ++ ((things (t.at_ 2).l).take k1).flatMap (partP sch_sOffsetDeleteResponseTopic V false) ++ pieceP (.mk 8 0 (-1) (-1) (-1) 0 0 []) V false (tx1.at_ 0)).length) (xs' := xs ++ bv (([] : List UInt8) ++ pieceP (.mk 2 0 (-1) (-1) (-1) 0 0 []) V false (t.at_ 0) ++ pieceP (.mk 3 0 (-1) (-1) (-1) 0 0 []) V false (t.at_ 1) ++ (fixed (((things (t.at_ 2).l).length : Nat) : Int) 4) ++ ((things (t.at_ 2).l).take k1).flatMap (partP sch_sOffsetDeleteResponseTopic V false) ++ pieceP (.mk 8 0 (-1) (-1) (-1) 0 0 []) V false (tx1.at_ 0))) rfl (by rw [hpc]; try simp only [List.append_assoc, List.append_nil]) (by rw [hpc]; try simp only [List.append_assoc, List.append_nil])
        exact c_then ⟨_, hk.sub ⟨rfl, rfl, rfl, rfl, rfl, rfl, trivial⟩, hm.pick [0, 1, 2, 3, 4, 5, 6, 7, 8] rfl rfl⟩
      obtain ⟨vq7, hk, hm⟩ := hJ
      have hr : n + (([] : List UInt8) ++ pieceP (.mk 2 0 (-1) (-1) (-1) 0 0 []) V false (t.at_ 0) ++ pieceP (.mk 3 0 (-1) (-1) (-1) 0 0 []) V false (t.at_ 1) ++ (fixed (((things (t.at_ 2).l).length : Nat) : Int) 4) ++ ((things (t.at_ 2).l).take k1).flatMap (partP sch_sOffsetDeleteResponseTopic V false) ++ pieceP (.mk 8 0 (-1) (-1) (-1) 0 0 []) V false (tx1.at_ 0)).length + (pieceP (.mk 11 0 (-1) (-1) (-1) 0 10 sch_sOffsetDeleteResponseTopicPartition) V false (tx1.at_ 1)).length ≤ room := by simp only [List.length_append, List.length_nil, fixed_length]; omega
      have hh : ((.mk 11 0 (-1) (-1) (-1) 0 10 sch_sOffsetDeleteResponseTopicPartition) : Fld).has V = true := has_of (by omega) (.inl (by decide))
      have hx := hm.rep (i := 0) rfl
      rw [wrF_hasT (by decide) hh] at hx
      replace hx : Rep _ _ (.sl false 2 ((things (tx1.at_ 1).l).map (wrS sch_sOffsetDeleteResponseTopicPartition false V false))) [x1_1] := hx
      obtain ⟨px1_1, capx1_1, rfl⟩ := rep_sl_lenM hx
      have hm := hm.add (e := .rep (.sl false 2 ((things (tx1.at_ 1).l).map (wrS sch_sOffsetDeleteResponseTopicPartition false V false))) [.slice px1_1 ((things (tx1.at_ 1).l).length) capx1_1]) rfl hx
      have hpc : pieceP (.mk 11 0 (-1) (-1) (-1) 0 10 sch_sOffsetDeleteResponseTopicPartition) V false (tx1.at_ 1) = fixed (((things (tx1.at_ 1).l).length : Nat) : Int) 4 ++ (things (tx1.at_ 1).l).flatMap (partP sch_sOffsetDeleteResponseTopicPartition V false) := piece_list (by decide) (by decide) hh
      have hlp := congrArg List.length hpc
      simp only [List.length_append, fixed_length] at hlp
      have htl := things_len (tx1.at_ 1).l
      refine c_region ?_
      refine o_move hk rfl rfl fun a hk => ?_
      refine o_nilCheck hk rfl rfl fun a hk => ?_
      refine o_fieldAddr hk fo_77_1 rfl rfl fun a hk => ?_
      refine o_load hk ts_75 rfl (hm.cell_cel (i := 3) (j := 1) rfl rfl) rfl fun a hk => ?_
      refine o_assign hk rfl rfl fun a hk => ?_
      refine c_end ?_
      refine c_region ?_
      refine o_move hk rfl rfl fun a hk => ?_
      refine o_move hk rfl rfl fun a hk => ?_
      refine o_lenSlice hk te_75 rfl rfl fun a hk => ?_
      refine o_call hk cb_41 (appendArrayLen_c (hm.row (i := 5) rfl) (((things (tx1.at_ 1).l).length : Nat) : Int) (by omega)) ⟨rfl, rfl, trivial⟩ rfl fun v10 w a hR hk => ?_
      have hm := hm.rowCall (i := 5) rfl hR
      have hm := hm.rowEq (i := 5) (n' := n + (([] : List UInt8) ++ pieceP (.mk 2 0 (-1) (-1) (-1) 0 0 []) V false (t.at_ 0) ++ pieceP (.mk 3 0 (-1) (-1) (-1) 0 0 []) V false (t.at_ 1) ++ (fixed (((things (t.at_ 2).l).length : Nat) : Int) 4) ++ ((things (t.at_ 2).l).take k1).flatMap (partP sch_sOffsetDeleteResponseTopic V false) ++ pieceP (.mk 8 0 (-1) (-1) (-1) 0 0 []) V false (tx1.at_ 0) ++ (fixed (((things (tx1.at_ 1).l).length : Nat) : Int) 4)).length) (xs' := xs ++ bv (([] : List UInt8) ++ pieceP (.mk 2 0 (-1) (-1) (-1) 0 0 []) V false (t.at_ 0) ++ pieceP (.mk 3 0 (-1) (-1) (-1) 0 0 []) V false (t.at_ 1) ++ (fixed (((things (t.at_ 2).l).length : Nat) : Int) 4) ++ ((things (t.at_ 2).l).take k1).flatMap (partP sch_sOffsetDeleteResponseTopic V false) ++ pieceP (.mk 8 0 (-1) (-1) (-1) 0 0 []) V false (tx1.at_ 0) ++ (fixed (((things (tx1.at_ 1).l).length : Nat) : Int) 4))) rfl (by simp only [List.length_append, Nat.add_assoc]) (by simp only [bv_append, List.append_assoc])
      refine o_assign hk rfl rfl fun a hk => ?_
      refine c_end ?_
      refine c_region ?_
      refine o_move hk rfl rfl fun a hk => ?_
      refine o_lenSlice hk te_75 rfl rfl fun a hk => ?_
      refine o_move hk rfl rfl fun a hk => ?_
      refine c_end ?_
      have hm := hm.rowEq (i := 5) (n' := n + (([] : List UInt8) ++ pieceP (.mk 2 0 (-1) (-1) (-1) 0 0 []) V false (t.at_ 0) ++ pieceP (.mk 3 0 (-1) (-1) (-1) 0 0 []) V false (t.at_ 1) ++ (fixed (((things (t.at_ 2).l).length : Nat) : Int) 4) ++ ((things (t.at_ 2).l).take k1).flatMap (partP sch_sOffsetDeleteResponseTopic V false) ++ pieceP (.mk 8 0 (-1) (-1) (-1) 0 0 []) V false (tx1.at_ 0) ++ (fixed (((things (tx1.at_ 1).l).length : Nat) : Int) 4) ++ ((things (tx1.at_ 1).l).take 0).flatMap (partP sch_sOffsetDeleteResponseTopicPartition V false)).length) (xs' := xs ++ bv (([] : List UInt8) ++ pieceP (.mk 2 0 (-1) (-1) (-1) 0 0 []) V false (t.at_ 0) ++ pieceP (.mk 3 0 (-1) (-1) (-1) 0 0 []) V false (t.at_ 1) ++ (fixed (((things (t.at_ 2).l).length : Nat) : Int) 4) ++ ((things (t.at_ 2).l).take k1).flatMap (partP sch_sOffsetDeleteResponseTopic V false) ++ pieceP (.mk 8 0 (-1) (-1) (-1) 0 0 []) V false (tx1.at_ 0) ++ (fixed (((things (tx1.at_ 1).l).length : Nat) : Int) 4) ++ ((things (tx1.at_ 1).l).take 0).flatMap (partP sch_sOffsetDeleteResponseTopicPartition V false))) rfl (by simp only [List.take_zero, List.flatMap_nil, List.append_nil]) (by simp only [List.take_zero, List.flatMap_nil, List.append_nil])
      refine c_range (L0 := [(0, .pointer (some ⟨g, 0, none⟩)), (1, v10), (8, .slice px2 ((things (t.at_ 2).l).length) capx2), (10, .pointer (some ⟨bl1, off1 + k1 * 2, none⟩)), (12, .slice px1_1 ((things (tx1.at_ 1).l).length) capx1_1), (45, .int .i64 (((things (t.at_ 2).l).length : Nat) : Int)), (46, .int .i64 (k1 : Int))]) (N := (things (tx1.at_ 1).l).length) (by omega) (fun k2 L w => ∃ vr, L = [(0, .pointer (some ⟨g, 0, none⟩)), (1, vr), (8, .slice px2 ((things (t.at_ 2).l).length) capx2), (10, .pointer (some ⟨bl1, off1 + k1 * 2, none⟩)), (12, .slice px1_1 ((things (tx1.at_ 1).l).length) capx1_1), (45, .int .i64 (((things (t.at_ 2).l).length : Nat) : Int)), (46, .int .i64 (k1 : Int))] ∧ Mem w0 (fun k => v.ownBlock = some k) Y [.rep (.sl false 2 ((things (tx1.at_ 1).l).map (wrS sch_sOffsetDeleteResponseTopicPartition false V false))) [.slice px1_1 ((things (tx1.at_ 1).l).length) capx1_1], .rep (wrF (.mk 11 0 (-1) (-1) (-1) 0 10 sch_sOffsetDeleteResponseTopicPartition) false V false (tx1.at_ 1)) [.slice px1_1 ((things (tx1.at_ 1).l).length) capx1_1], .rep (wrF (.mk 8 0 (-1) (-1) (-1) 0 0 []) false V false (tx1.at_ 0)) [x1_0], .cel bl1 (off1 + k1 * 2) [x1_0, .slice px1_1 ((things (tx1.at_ 1).l).length) capx1_1], .rep (.sl false 2 ((things (t.at_ 2).l).map (wrS sch_sOffsetDeleteResponseTopic false V false))) [.slice px2 ((things (t.at_ 2).l).length) capx2], .row 5 1 vr (n + (([] : List UInt8) ++ pieceP (.mk 2 0 (-1) (-1) (-1) 0 0 []) V false (t.at_ 0) ++ pieceP (.mk 3 0 (-1) (-1) (-1) 0 0 []) V false (t.at_ 1) ++ (fixed (((things (t.at_ 2).l).length : Nat) : Int) 4) ++ ((things (t.at_ 2).l).take k1).flatMap (partP sch_sOffsetDeleteResponseTopic V false) ++ pieceP (.mk 8 0 (-1) (-1) (-1) 0 0 []) V false (tx1.at_ 0) ++ (fixed (((things (tx1.at_ 1).l).length : Nat) : Int) 4) ++ ((things (tx1.at_ 1).l).take k2).flatMap (partP sch_sOffsetDeleteResponseTopicPartition V false)).length) (xs ++ bv (([] : List UInt8) ++ pieceP (.mk 2 0 (-1) (-1) (-1) 0 0 []) V false (t.at_ 0) ++ pieceP (.mk 3 0 (-1) (-1) (-1) 0 0 []) V false (t.at_ 1) ++ (fixed (((things (t.at_ 2).l).length : Nat) : Int) 4) ++ ((things (t.at_ 2).l).take k1).flatMap (partP sch_sOffsetDeleteResponseTopic V false) ++ pieceP (.mk 8 0 (-1) (-1) (-1) 0 0 []) V false (tx1.at_ 0) ++ (fixed (((things (tx1.at_ 1).l).length : Nat) : Int) 4) ++ ((things (tx1.at_ 1).l).take k2).flatMap (partP sch_sOffsetDeleteResponseTopicPartition V false))), .cel g 0 [.int .i16 V, x0, x1, .slice px2 ((things (t.at_ 2).l).length) capx2], .rep (wrF (.mk 2 0 (-1) (-1) (-1) 0 0 []) false V false (t.at_ 0)) [x0], .rep (wrF (.mk 3 0 (-1) (-1) (-1) 0 0 []) false V false (t.at_ 1)) [x1], .rep (wrF (.mk 11 0 (-1) (-1) (-1) 0 10 sch_sOffsetDeleteResponseTopic) false V false (t.at_ 2)) [.slice px2 ((things (t.at_ 2).l).length) capx2]] w) (hk.sub ⟨rfl, rfl, rfl, rfl, rfl, rfl, rfl, rfl, rfl, trivial⟩) ⟨_, rfl, hm⟩ rfl rfl rfl rfl rfl rfl rfl (fun k2 L a w hlt hR hk => ?_) rfl (fun L a w hR hk => ?_)
      · obtain ⟨vr, rfl, hm⟩ := hR
        obtain ⟨hlt2, bl2, off2, e2, hpl2, hel, hRe, hCe⟩ := rep_sl_get (hm.rep (i := 0) rfl) (getD_map (wrS sch_sOffsetDeleteResponseTopicPartition false V false) (things (tx1.at_ 1).l) k2 T.nil hlt)
        have hfl := flatMap_take_le (partP sch_sOffsetDeleteResponseTopicPartition V false) (things (tx1.at_ 1).l) k2 T.nil hlt
        obtain ⟨tx2, htx2⟩ : ∃ y, y = ((things (tx1.at_ 1).l).getD k2 T.nil) := ⟨_, rfl⟩
        rw [← htx2] at hRe hfl
        have hL := rep_agg_inv hRe
        replace hL : RepL _ _ [wrF (.mk 3 0 (-1) (-1) (-1) 0 0 []) false V false (tx2.at_ 0), wrF (.mk 2 0 (-1) (-1) (-1) 0 0 []) false V false (tx2.at_ 1)] e2 := hL
        obtain ⟨x2_0, x2_r0, rfl, hx2_0, hL⟩ := hL.un1 (one1_wrF rfl (by decide))
        obtain ⟨x2_1, x2_r1, rfl, hx2_1, hL⟩ := hL.un1 (one1_wrF rfl (by decide))
        obtain rfl := hL.unNil
        have hm := hm.add (e := .cel bl2 (off2 + k2 * 2) [x2_0, x2_1]) rfl hCe
        have hm := hm.add (e := .rep (wrF (.mk 3 0 (-1) (-1) (-1) 0 0 []) false V false (tx2.at_ 0)) [x2_0]) rfl hx2_0
        have hm := hm.add (e := .rep (wrF (.mk 2 0 (-1) (-1) (-1) 0 0 []) false V false (tx2.at_ 1)) [x2_1]) rfl hx2_1
        have hTe : (partP sch_sOffsetDeleteResponseTopicPartition V false) tx2 = pieceP (.mk 3 0 (-1) (-1) (-1) 0 0 []) V false (tx2.at_ 0) ++ (pieceP (.mk 2 0 (-1) (-1) (-1) 0 0 []) V false (tx2.at_ 1) ++ ([])) := by rw [partP_plain]; rfl
        rw [hTe] at hfl
        simp only [List.length_append, List.length_nil] at hfl
        refine c_region ?_
        refine o_move hk rfl rfl fun a hk => ?_
        refine o_assign hk rfl rfl fun a hk => ?_
        refine c_end ?_
        refine c_region ?_
        refine o_move hk rfl rfl fun a hk => ?_
        refine o_move hk rfl rfl fun a hk => ?_
        refine o_indexAddr (j := k2) (b := bl2) (off := off2) hk te_75 ts_86 (by rw [← hpl2]; rfl) rfl hlt2 rfl fun a hk => ?_
        refine o_assign hk rfl rfl fun a hk => ?_
        refine c_end ?_
        have hr : n + (([] : List UInt8) ++ pieceP (.mk 2 0 (-1) (-1) (-1) 0 0 []) V false (t.at_ 0) ++ pieceP (.mk 3 0 (-1) (-1) (-1) 0 0 []) V false (t.at_ 1) ++ (fixed (((things (t.at_ 2).l).length : Nat) : Int) 4) ++ ((things (t.at_ 2).l).take k1).flatMap (partP sch_sOffsetDeleteResponseTopic V false) ++ pieceP (.mk 8 0 (-1) (-1) (-1) 0 0 []) V false (tx1.at_ 0) ++ (fixed (((things (tx1.at_ 1).l).length : Nat) : Int) 4) ++ ((things (tx1.at_ 1).l).take k2).flatMap (partP sch_sOffsetDeleteResponseTopicPartition V false)).length + (pieceP (.mk 3 0 (-1) (-1) (-1) 0 0 []) V false (tx2.at_ 0)).length ≤ room := by simp only [List.length_append, List.length_nil, fixed_length]; omega
        refine c_cut (fun a w => ∃ vq11, Kn 92 [(0, .pointer (some ⟨g, 0, none⟩)), (1, vq11), (8, .slice px2 ((things (t.at_ 2).l).length) capx2), (10, .pointer (some ⟨bl1, off1 + k1 * 2, none⟩)), (12, .slice px1_1 ((things (tx1.at_ 1).l).length) capx1_1), (14, .pointer (some ⟨bl2, off2 + k2 * 2, none⟩)), (45, .int .i64 (((things (t.at_ 2).l).length : Nat) : Int)), (46, .int .i64 (k1 : Int)), (68, .int .i64 (((things (tx1.at_ 1).l).length : Nat) : Int)), (69, .int .i64 (k2 : Int))] a ∧ Mem w0 (fun k => v.ownBlock = some k) Y [.rep (wrF (.mk 2 0 (-1) (-1) (-1) 0 0 []) false V false (tx2.at_ 1)) [x2_1], .rep (wrF (.mk 3 0 (-1) (-1) (-1) 0 0 []) false V false (tx2.at_ 0)) [x2_0], .cel bl2 (off2 + k2 * 2) [x2_0, x2_1], .rep (.sl false 2 ((things (tx1.at_ 1).l).map (wrS sch_sOffsetDeleteResponseTopicPartition false V false))) [.slice px1_1 ((things (tx1.at_ 1).l).length) capx1_1], .rep (wrF (.mk 11 0 (-1) (-1) (-1) 0 10 sch_sOffsetDeleteResponseTopicPartition) false V false (tx1.at_ 1)) [.slice px1_1 ((things (tx1.at_ 1).l).length) capx1_1], .rep (wrF (.mk 8 0 (-1) (-1) (-1) 0 0 []) false V false (tx1.at_ 0)) [x1_0], .cel bl1 (off1 + k1 * 2) [x1_0, .slice px1_1 ((things (tx1.at_ 1).l).length) capx1_1], .rep (.sl false 2 ((things (t.at_ 2).l).map (wrS sch_sOffsetDeleteResponseTopic false V false))) [.slice px2 ((things (t.at_ 2).l).length) capx2], .row 5 1 vq11 (n + (([] : List UInt8) ++ pieceP (.mk 2 0 (-1) (-1) (-1) 0 0 []) V false (t.at_ 0) ++ pieceP (.mk 3 0 (-1) (-1) (-1) 0 0 []) V false (t.at_ 1) ++ (fixed (((things (t.at_ 2).l).length : Nat) : Int) 4) ++ ((things (t.at_ 2).l).take k1).flatMap (partP sch_sOffsetDeleteResponseTopic V false) ++ pieceP (.mk 8 0 (-1) (-1) (-1) 0 0 []) V false (tx1.at_ 0) ++ (fixed (((things (tx1.at_ 1).l).length : Nat) : Int) 4) ++ ((things (tx1.at_ 1).l).take k2).flatMap (partP sch_sOffsetDeleteResponseTopicPartition V false) ++ pieceP (.mk 3 0 (-1) (-1) (-1) 0 0 []) V false (tx2.at_ 0)).length) (xs ++ bv (([] : List UInt8) ++ pieceP (.mk 2 0 (-1) (-1) (-1) 0 0 []) V false (t.at_ 0) ++ pieceP (.mk 3 0 (-1) (-1) (-1) 0 0 []) V false (t.at_ 1) ++ (fixed (((things (t.at_ 2).l).length : Nat) : Int) 4) ++ ((things (t.at_ 2).l).take k1).flatMap (partP sch_sOffsetDeleteResponseTopic V false) ++ pieceP (.mk 8 0 (-1) (-1) (-1) 0 0 []) V false (tx1.at_ 0) ++ (fixed (((things (tx1.at_ 1).l).length : Nat) : Int) 4) ++ ((things (tx1.at_ 1).l).take k2).flatMap (partP sch_sOffsetDeleteResponseTopicPartition V false) ++ pieceP (.mk 3 0 (-1) (-1) (-1) 0 0 []) V false (tx2.at_ 0))), .cel g 0 [.int .i16 V, x0, x1, .slice px2 ((things (t.at_ 2).l).length) capx2], .rep (wrF (.mk 2 0 (-1) (-1) (-1) 0 0 []) false V false (t.at_ 0)) [x0], .rep (wrF (.mk 3 0 (-1) (-1) (-1) 0 0 []) false V false (t.at_ 1)) [x1], .rep (wrF (.mk 11 0 (-1) (-1) (-1) 0 10 sch_sOffsetDeleteResponseTopic) false V false (t.at_ 2)) [.slice px2 ((things (t.at_ 2).l).length) capx2]] w) ?_ (fun a w hJ => ?_)
        · have hh : ((.mk 3 0 (-1) (-1) (-1) 0 0 []) : Fld).has V = true := has_of (by omega) (.inl (by decide))
          have hx := hm.rep (i := 1) rfl
          rw [wrF_hasT (by decide) hh] at hx
          obtain rfl : x2_0 = .int .i32 (IntKind.i32.wrap ((tx2.at_ 0).n)) := rep_v_inv hx
          have hpc := piece_i32 (v := V) (flex := false) (t := (tx2.at_ 0)) (by decide) hh
          have hlp := congrArg List.length hpc
          simp only [fixed_length, List.length_cons, List.length_nil] at hlp
          refine c_region ?_
          refine o_move hk rfl rfl fun a hk => ?_
          refine o_nilCheck hk rfl rfl fun a hk => ?_
          refine o_fieldAddr hk fo_86_0 rfl rfl fun a hk => ?_
          refine o_load hk ts_21 rfl (hm.cell_cel (i := 2) (j := 0) rfl rfl) rfl fun a hk => ?_
          refine o_assign hk rfl rfl fun a hk => ?_
          refine c_end ?_
          refine c_reg ?_
          refine o_move hk rfl rfl fun a hk => ?_
          refine o_move hk rfl rfl fun a hk => ?_
          refine o_call hk cb_40 (appendInt32_c (hm.row (i := 8) rfl) (IntKind.i32.wrap ((tx2.at_ 0).n)) (by omega)) ⟨rfl, rfl, trivial⟩ rfl fun v12 w a hR hk => ?_
          have hm := hm.rowCall (i := 8) rfl hR
          have hm := hm.rowEq (i := 8) (n' := n + (([] : List UInt8) ++ pieceP (.mk 2 0 (-1) (-1) (-1) 0 0 []) V false (t.at_ 0) ++ pieceP (.mk 3 0 (-1) (-1) (-1) 0 0 []) V false (t.at_ 1) ++ (fixed (((things (t.at_ 2).l).length : Nat) : Int) 4) ++ ((things (t.at_ 2).l).take k1).flatMap (partP sch_sOffsetDeleteResponseTopic V false) ++ pieceP (.mk 8 0 (-1) (-1) (-1) 0 0 []) V false (tx1.at_ 0) ++ (fixed (((things (tx1.at_ 1).l).length : Nat) : Int) 4) ++ ((things (tx1.at_ 1).l).take k2).flatMap (partP sch_sOffsetDeleteResponseTopicPartition V false) ++ (fixed (IntKind.i32.wrap ((tx2.at_ 0).n)) 4)).length) (xs' := xs ++ bv (([] : List UInt8) ++ pieceP (.mk 2 0 (-1) (-1) (-1) 0 0 []) V false (t.at_ 0) ++ pieceP (.mk 3 0 (-1) (-1) (-1) 0 0 []) V false (t.at_ 1) ++ (fixed (((things (t.at_ 2).l).length : Nat) : Int) 4) ++ ((things (t.at_ 2).l).take k1).flatMap (partP sch_sOffsetDeleteResponseTopic V false) ++ pieceP (.mk 8 0 (-1) (-1) (-1) 0 0 []) V false (tx1.at_ 0) ++ (fixed (((things (tx1.at_ 1).l).length : Nat) : Int) 4) ++ ((things (tx1.at_ 1).l).take k2).flatMap (partP sch_sOffsetDeleteResponseTopicPartition V false) ++ (fixed (IntKind.i32.wrap ((tx2.at_ 0).n)) 4))) rfl (by simp only [List.length_append, Nat.add_assoc]) (by simp only [bv_append, List.append_assoc])
          refine o_assign hk rfl rfl fun a hk => ?_
          refine c_endQ ?_
          have hm := hm.rowEq (i := 8) (n' := n + (([] : List UInt8) ++ pieceP (.mk 2 0 (-1) (-1) (-1) 0 0 []) V false (t.at_ 0) ++ pieceP (.mk 3 0 (-1) (-1) (-1) 0 0 []) V false (t.at_ 1) ++ (fixed (((things (t.at_ 2).l).length : Nat) : Int) 4) ++ ((things (t.at_ 2).l).take k1).flatMap (partP sch_sOffsetDeleteResponseTopic V false) ++ pieceP (.mk 8 0 (-1) (-1) (-1) 0 0 []) V false (tx1.at_ 0) ++ (fixed (((things (tx1.at_ 1).l).length : Nat) : Int) 4) ++ ((things (tx1.at_ 1).l).take k2).flatMap (partP sch_sOffsetDeleteResponseTopicPartition V false) ++ pieceP (.mk 3 0 (-1) (-1) (-1) 0 0 []) V false (tx2.at_ 0)).length) (xs' := xs ++ bv (([] : List UInt8) ++ pieceP (.mk 2 0 (-1) (-1) (-1) 0 0 []) V false (t.at_ 0) ++ pieceP (.mk 3 0 (-1) (-1) (-1) 0 0 []) V false (t.at_ 1) ++ (fixed (((things (t.at_ 2).l).length : Nat) : Int) 4) ++ ((things (t.at_ 2).l).take k1).flatMap (partP sch_sOffsetDeleteResponseTopic V false) ++ pieceP (.mk 8 0 (-1) (-1) (-1) 0 0 []) V false (tx1.at_ 0) ++ (fixed (((things (tx1.at_ 1).l).length : Nat) : Int) 4) ++ ((things (tx1.at_ 1).l).take k2).flatMap (partP sch_sOffsetDeleteResponseTopicPartition V false) ++ pieceP (.mk 3 0 (-1) (-1) (-1) 0 0 []) V false (tx2.at_ 0))) rfl (by rw [hpc]; try simp only [List.append_assoc, List.append_nil]) (by rw [hpc]; try simp only [List.append_assoc, List.append_nil])
          exact c_then ⟨_, hk.sub ⟨rfl, rfl, rfl, rfl, rfl, rfl, rfl, rfl, rfl, rfl, trivial⟩, hm.pick [0, 1, 2, 3, 4, 5, 6, 7, 8, 9, 10, 11, 12] rfl rfl⟩
        obtain ⟨vq11, hk, hm⟩ := hJ
        have hr : n + (([] : List UInt8) ++ pieceP (.mk 2 0 (-1) (-1) (-1) 0 0 []) V false (t.at_ 0) ++ pieceP (.mk 3 0 (-1) (-1) (-1) 0 0 []) V false (t.at_ 1) ++ (fixed (((things (t.at_ 2).l).length : Nat) : Int) 4) ++ ((things (t.at_ 2).l).take k1).flatMap (partP sch_sOffsetDeleteResponseTopic V false) ++ pieceP (.mk 8 0 (-1) (-1) (-1) 0 0 []) V false (tx1.at_ 0) ++ (fixed (((things (tx1.at_ 1).l).length : Nat) : Int) 4) ++ ((things (tx1.at_ 1).l).take k2).flatMap (partP sch_sOffsetDeleteResponseTopicPartition V false) ++ pieceP (.mk 3 0 (-1) (-1) (-1) 0 0 []) V false (tx2.at_ 0)).length + (pieceP (.mk 2 0 (-1) (-1) (-1) 0 0 []) V false (tx2.at_ 1)).length ≤ room := by simp only [List.length_append, List.length_nil, fixed_length]; omega
        have hh : ((.mk 2 0 (-1) (-1) (-1) 0 0 []) : Fld).has V = true := has_of (by omega) (.inl (by decide))
        have hx := hm.rep (i := 0) rfl
        rw [wrF_hasT (by decide) hh] at hx
        obtain rfl : x2_1 = .int .i16 (IntKind.i16.wrap ((tx2.at_ 1).n)) := rep_v_inv hx
        have hpc := piece_i16 (v := V) (flex := false) (t := (tx2.at_ 1)) (by decide) hh
        have hlp := congrArg List.length hpc
        simp only [fixed_length, List.length_cons, List.length_nil] at hlp
        refine c_region ?_
        refine o_move hk rfl rfl fun a hk => ?_
        refine o_nilCheck hk rfl rfl fun a hk => ?_
        refine o_fieldAddr hk fo_86_1 rfl rfl fun a hk => ?_
        refine o_load hk ts_45 rfl (hm.cell_cel (i := 2) (j := 1) rfl rfl) rfl fun a hk => ?_
        refine o_assign hk rfl rfl fun a hk => ?_
        refine c_end ?_
        refine c_reg ?_
        refine o_move hk rfl rfl fun a hk => ?_
        refine o_move hk rfl rfl fun a hk => ?_
        refine o_call hk cb_39 (appendInt16_c (hm.row (i := 8) rfl) (IntKind.i16.wrap ((tx2.at_ 1).n)) (by omega)) ⟨rfl, rfl, trivial⟩ rfl fun v14 w a hR hk => ?_
        have hm := hm.rowCall (i := 8) rfl hR
        have hm := hm.rowEq (i := 8) (n' := n + (([] : List UInt8) ++ pieceP (.mk 2 0 (-1) (-1) (-1) 0 0 []) V false (t.at_ 0) ++ pieceP (.mk 3 0 (-1) (-1) (-1) 0 0 []) V false (t.at_ 1) ++ (fixed (((things (t.at_ 2).l).length : Nat) : Int) 4) ++ ((things (t.at_ 2).l).take k1).flatMap (partP sch_sOffsetDeleteResponseTopic V false) ++ pieceP (.mk 8 0 (-1) (-1) (-1) 0 0 []) V false (tx1.at_ 0) ++ (fixed (((things (tx1.at_ 1).l).length : Nat) : Int) 4) ++ ((things (tx1.at_ 1).l).take k2).flatMap (partP sch_sOffsetDeleteResponseTopicPartition V false) ++ pieceP (.mk 3 0 (-1) (-1) (-1) 0 0 []) V false (tx2.at_ 0) ++ (fixed (IntKind.i16.wrap ((tx2.at_ 1).n)) 2)).length) (xs' := xs ++ bv (([] : List UInt8) ++ pieceP (.mk 2 0 (-1) (-1) (-1) 0 0 []) V false (t.at_ 0) ++ pieceP (.mk 3 0 (-1) (-1) (-1) 0 0 []) V false (t.at_ 1) ++ (fixed (((things (t.at_ 2).l).length : Nat) : Int) 4) ++ ((things (t.at_ 2).l).take k1).flatMap (partP sch_sOffsetDeleteResponseTopic V false) ++ pieceP (.mk 8 0 (-1) (-1) (-1) 0 0 []) V false (tx1.at_ 0) ++ (fixed (((things (tx1.at_ 1).l).length : Nat) : Int) 4) ++ ((things (tx1.at_ 1).l).take k2).flatMap (partP sch_sOffsetDeleteResponseTopicPartition V false) ++ pieceP (.mk 3 0 (-1) (-1) (-1) 0 0 []) V false (tx2.at_ 0) ++ (fixed (IntKind.i16.wrap ((tx2.at_ 1).n)) 2))) rfl (by simp only [List.length_append, Nat.add_assoc]) (by simp only [bv_append, List.append_assoc])
        refine o_assign hk rfl rfl fun a hk => ?_
        refine c_endQ ?_
        have hm := hm.pick [0, 1, 2, 3, 4, 5, 6, 7, 8, 9, 10, 11, 12] rfl rfl
        have hm := hm.rowEq (i := 8) (n' := n + (([] : List UInt8) ++ pieceP (.mk 2 0 (-1) (-1) (-1) 0 0 []) V false (t.at_ 0) ++ pieceP (.mk 3 0 (-1) (-1) (-1) 0 0 []) V false (t.at_ 1) ++ (fixed (((things (t.at_ 2).l).length : Nat) : Int) 4) ++ ((things (t.at_ 2).l).take k1).flatMap (partP sch_sOffsetDeleteResponseTopic V false) ++ pieceP (.mk 8 0 (-1) (-1) (-1) 0 0 []) V false (tx1.at_ 0) ++ (fixed (((things (tx1.at_ 1).l).length : Nat) : Int) 4) ++ ((things (tx1.at_ 1).l).take k2).flatMap (partP sch_sOffsetDeleteResponseTopicPartition V false) ++ pieceP (.mk 3 0 (-1) (-1) (-1) 0 0 []) V false (tx2.at_ 0) ++ pieceP (.mk 2 0 (-1) (-1) (-1) 0 0 []) V false (tx2.at_ 1)).length) (xs' := xs ++ bv (([] : List UInt8) ++ pieceP (.mk 2 0 (-1) (-1) (-1) 0 0 []) V false (t.at_ 0) ++ pieceP (.mk 3 0 (-1) (-1) (-1) 0 0 []) V false (t.at_ 1) ++ (fixed (((things (t.at_ 2).l).length : Nat) : Int) 4) ++ ((things (t.at_ 2).l).take k1).flatMap (partP sch_sOffsetDeleteResponseTopic V false) ++ pieceP (.mk 8 0 (-1) (-1) (-1) 0 0 []) V false (tx1.at_ 0) ++ (fixed (((things (tx1.at_ 1).l).length : Nat) : Int) 4) ++ ((things (tx1.at_ 1).l).take k2).flatMap (partP sch_sOffsetDeleteResponseTopicPartition V false) ++ pieceP (.mk 3 0 (-1) (-1) (-1) 0 0 []) V false (tx2.at_ 0) ++ pieceP (.mk 2 0 (-1) (-1) (-1) 0 0 []) V false (tx2.at_ 1))) rfl (by rw [hpc]; try simp only [List.append_assoc, List.append_nil]) (by rw [hpc]; try simp only [List.append_assoc, List.append_nil])
        refine c_inNormal ?_
        have hsucc := flatMap_take_succ (partP sch_sOffsetDeleteResponseTopicPartition V false) (things (tx1.at_ 1).l) k2 T.nil hlt
        rw [← htx2, hTe] at hsucc
        have hm := hm.rowEq (i := 8) (n' := n + (([] : List UInt8) ++ pieceP (.mk 2 0 (-1) (-1) (-1) 0 0 []) V false (t.at_ 0) ++ pieceP (.mk 3 0 (-1) (-1) (-1) 0 0 []) V false (t.at_ 1) ++ (fixed (((things (t.at_ 2).l).length : Nat) : Int) 4) ++ ((things (t.at_ 2).l).take k1).flatMap (partP sch_sOffsetDeleteResponseTopic V false) ++ pieceP (.mk 8 0 (-1) (-1) (-1) 0 0 []) V false (tx1.at_ 0) ++ (fixed (((things (tx1.at_ 1).l).length : Nat) : Int) 4) ++ ((things (tx1.at_ 1).l).take (k2 + 1)).flatMap (partP sch_sOffsetDeleteResponseTopicPartition V false)).length) (xs' := xs ++ bv (([] : List UInt8) ++ pieceP (.mk 2 0 (-1) (-1) (-1) 0 0 []) V false (t.at_ 0) ++ pieceP (.mk 3 0 (-1) (-1) (-1) 0 0 []) V false (t.at_ 1) ++ (fixed (((things (t.at_ 2).l).length : Nat) : Int) 4) ++ ((things (t.at_ 2).l).take k1).flatMap (partP sch_sOffsetDeleteResponseTopic V false) ++ pieceP (.mk 8 0 (-1) (-1) (-1) 0 0 []) V false (tx1.at_ 0) ++ (fixed (((things (tx1.at_ 1).l).length : Nat) : Int) 4) ++ ((things (tx1.at_ 1).l).take (k2 + 1)).flatMap (partP sch_sOffsetDeleteResponseTopicPartition V false))) rfl (by rw [hsucc]; try simp only [List.append_assoc, List.append_nil]) (by rw [hsucc]; try simp only [List.append_assoc, List.append_nil])
        exact c_round (L' := [(0, .pointer (some ⟨g, 0, none⟩)), (1, v14), (8, .slice px2 ((things (t.at_ 2).l).length) capx2), (10, .pointer (some ⟨bl1, off1 + k1 * 2, none⟩)), (12, .slice px1_1 ((things (tx1.at_ 1).l).length) capx1_1), (45, .int .i64 (((things (t.at_ 2).l).length : Nat) : Int)), (46, .int .i64 (k1 : Int))]) hk ⟨rfl, rfl, rfl, rfl, rfl, rfl, rfl, rfl, rfl, trivial⟩ rfl ⟨_, rfl, hm.pick [3, 4, 5, 6, 7, 8, 9, 10, 11, 12] rfl rfl⟩
      · obtain ⟨vl15, rfl, hm⟩ := hR
        rw [List.take_length] at hm
        have hm := hm.pick [1, 2, 3, 4, 5, 6, 7, 8, 9] rfl rfl
        have hm := hm.rowEq (i := 4) (n' := n + (([] : List UInt8) ++ pieceP (.mk 2 0 (-1) (-1) (-1) 0 0 []) V false (t.at_ 0) ++ pieceP (.mk 3 0 (-1) (-1) (-1) 0 0 []) V false (t.at_ 1) ++ (fixed (((things (t.at_ 2).l).length : Nat) : Int) 4) ++ ((things (t.at_ 2).l).take k1).flatMap (partP sch_sOffsetDeleteResponseTopic V false) ++ pieceP (.mk 8 0 (-1) (-1) (-1) 0 0 []) V false (tx1.at_ 0) ++ pieceP (.mk 11 0 (-1) (-1) (-1) 0 10 sch_sOffsetDeleteResponseTopicPartition) V false (tx1.at_ 1)).length) (xs' := xs ++ bv (([] : List UInt8) ++ pieceP (.mk 2 0 (-1) (-1) (-1) 0 0 []) V false (t.at_ 0) ++ pieceP (.mk 3 0 (-1) (-1) (-1) 0 0 []) V false (t.at_ 1) ++ (fixed (((things (t.at_ 2).l).length : Nat) : Int) 4) ++ ((things (t.at_ 2).l).take k1).flatMap (partP sch_sOffsetDeleteResponseTopic V false) ++ pieceP (.mk 8 0 (-1) (-1) (-1) 0 0 []) V false (tx1.at_ 0) ++ pieceP (.mk 11 0 (-1) (-1) (-1) 0 10 sch_sOffsetDeleteResponseTopicPartition) V false (tx1.at_ 1))) rfl (by rw [hpc]; try simp only [List.append_assoc, List.append_nil]) (by rw [hpc]; try simp only [List.append_assoc, List.append_nil])
        refine c_inNormal ?_
        have hsucc := flatMap_take_succ (partP sch_sOffsetDeleteResponseTopic V false) (things (t.at_ 2).l) k1 T.nil hlt
        rw [← htx1, hTe] at hsucc
        have hm := hm.rowEq (i := 4) (n' := n + (([] : List UInt8) ++ pieceP (.mk 2 0 (-1) (-1) (-1) 0 0 []) V false (t.at_ 0) ++ pieceP (.mk 3 0 (-1) (-1) (-1) 0 0 []) V false (t.at_ 1) ++ (fixed (((things (t.at_ 2).l).length : Nat) : Int) 4) ++ ((things (t.at_ 2).l).take (k1 + 1)).flatMap (partP sch_sOffsetDeleteResponseTopic V false)).length) (xs' := xs ++ bv (([] : List UInt8) ++ pieceP (.mk 2 0 (-1) (-1) (-1) 0 0 []) V false (t.at_ 0) ++ pieceP (.mk 3 0 (-1) (-1) (-1) 0 0 []) V false (t.at_ 1) ++ (fixed (((things (t.at_ 2).l).length : Nat) : Int) 4) ++ ((things (t.at_ 2).l).take (k1 + 1)).flatMap (partP sch_sOffsetDeleteResponseTopic V false))) rfl (by rw [hsucc]; try simp only [List.append_assoc, List.append_nil]) (by rw [hsucc]; try simp only [List.append_assoc, List.append_nil])
        exact c_round (L' := [(0, .pointer (some ⟨g, 0, none⟩)), (1, vl15), (8, .slice px2 ((things (t.at_ 2).l).length) capx2)]) hk ⟨rfl, rfl, rfl, rfl, rfl, trivial⟩ rfl ⟨_, rfl, hm.pick [3, 4, 5, 6, 7, 8] rfl rfl⟩
    · obtain ⟨vl16, rfl, hm⟩ := hR
      rw [List.take_length] at hm
      have hm := hm.rowEq (i := 1) (n' := n + (([] : List UInt8) ++ pieceP (.mk 2 0 (-1) (-1) (-1) 0 0 []) V false (t.at_ 0) ++ pieceP (.mk 3 0 (-1) (-1) (-1) 0 0 []) V false (t.at_ 1) ++ pieceP (.mk 11 0 (-1) (-1) (-1) 0 10 sch_sOffsetDeleteResponseTopic) V false (t.at_ 2)).length) (xs' := xs ++ bv (([] : List UInt8) ++ pieceP (.mk 2 0 (-1) (-1) (-1) 0 0 []) V false (t.at_ 0) ++ pieceP (.mk 3 0 (-1) (-1) (-1) 0 0 []) V false (t.at_ 1) ++ pieceP (.mk 11 0 (-1) (-1) (-1) 0 10 sch_sOffsetDeleteResponseTopic) V false (t.at_ 2))) rfl (by rw [hpc]; try simp only [List.append_assoc, List.append_nil]) (by rw [hpc]; try simp only [List.append_assoc, List.append_nil])
      exact c_then ⟨_, hk.sub ⟨rfl, rfl, trivial⟩, hm.pick [1, 2, 3, 4, 5] rfl rfl⟩
  obtain ⟨vq5, hk, hm⟩ := hJ
  refine c_region ?_
  refine o_move hk rfl rfl fun a hk => ?_
  refine o_assign hk rfl rfl fun a hk => ?_
  refine c_end ?_
  refine wp_ret ?_
  refine b_retTmp rfl hk rfl ?_
  have hr := hm.rowTo (i := 0) rfl
  simp only [List.nil_append, List.append_assoc, List.append_nil] at hr ⊢
  exact hr
end Go.Proofs.Ytbljeefficdemaa
