/- Walks of functions that the laws of this seat reach. No statement of the seat stands here. -/
import Derived.Test.YthholdjpcdpceaaDoorL4
import Derived.Test.YthholdjpcdpceaaDoorRows
import Derived.Test.YthholdjpcdpceaaDoorFa
import Derived.Test.YthholdjpcdpceaaDoorRkControlRecordKey
import Derived.Test.YthholdjpcdpceaaDoorTt
namespace Go.Proofs.YthholdjpcdpceaaDoor
open Go Go.Mk
theorem crk_tell {w0 : World} {Y : Nat → Prop} {b off : Nat} {m : Int} (hC : Cel w0 Y b (off + 1) [.int .i16 (IntKind.i16.wrap m)]) :
  Ret Tryd.prog 37 [.pointer (some ⟨b, off, none⟩)] w0 fun v w' => Agr Nob w0 w' ∧ ∃ c', v = .agg c'.toArray ∧ Rep w' (fun b => b < w0.heap.size ∧ Y b) (ddT (.mk 0 [] false [ofNum (IntKind.i16.wrap m)] [])) c' := by
 have hR : Rep w0 Y (.agg [.v (.int .i16 (IntKind.i16.wrap m))]) [.int .i16 (IntKind.i16.wrap m)] := rep_agg (RepL.cons1 (rep_v _) RepL.nil)
 refine c_call Tryd.func37 rfl rfl fun a hk => ?_
 have hk : Kn 16 [(0, .pointer (some ⟨b, off, none⟩))] a := hk
 refine tl_start (m := 1) (su := 4) (sv := 5) treeP rowT (by decide) rfl (by decide) (by decide) (by decide) (by decide) (by decide) (by decide) hC hR hk fun a w1 w rb tb bb Y1 hb hC hR hk ht => ?_
 obtain ⟨c0, C0, hC, hR⟩ := cel_unV hC (rep_agg_inv hR)
 refine tl_num (s := 6) (k := 0)  treeP rfl rfl (by kernel_rfl) (by kernel_rfl) (by decide) (by decide) (by decide) fo_48_1 ts_46 un_46 ti_2 (wrap_in_i64 .i16 (by simp)) (fun _ _ _ _ _ h => h) C0 hk ht fun a w hk ht => ?_
 exact tl_bare (s := 15) (b := b) (off := off) treeP rfl rfl (fun h => Bool.noConfusion h) (by decide) (by decide) (by decide) hb hk ht
theorem crk_door {w0 : World} {Y : Nat → Prop} {d : List UInt8} {dv ep : Value} {et : Nat} (hd : d.length ≤ 1000) (hD : Rep w0 Y (ddBs d) [dv]) (hG : Cel w0 Y 1 0 [.iface et ep]) :
  Ret Tryd.prog 10 [dv] w0 fun v w' => Agr Nob w0 w' ∧ ∃ c', v = .tuple #[.agg c'.toArray, .bool (crk (srcOf d)).isSome] ∧ Rep w' (fun b => b < w0.heap.size ∧ Y b) (ddT (crkT (srcOf d))) c' := by
 refine c_call Tryd.func10 rfl rfl fun a hk => ?_
 have hk : Kn 18 [(0, dv)] a := hk
 have hm : Mem w0 Nob Y [.rep (ddBs d) [dv], .cel 1 0 [.iface et ep]] w0 := Mem.start rfl (by simp only [List.forall_mem_cons, List.not_mem_nil, false_imp_iff, implies_true, and_true]; exact ⟨hD, hG⟩)
 refine cR0 ?_
 refine o_alloc (cs := zT) hk hm tz_26 rfl rfl fun a rb w hk hm => ?_
 refine oA0 hk rfl rfl fun a hk => ?_
 refine cE0 ?_
 refine cR0 ?_
 refine o_call hk cb_35 newK_ControlRecordKey trivial rfl fun v w a hR hk => ?_
 obtain ⟨hp, rfl⟩ := hR
 have hm := hm.pure hp
 refine o_alloc (cs := [.int .i16 0, .int .i16 0]) hk hm tz_48 rfl rfl fun a g w hk hm => ?_
 refine o_store (i := 0) (b := g) (off := 0) (v := .agg ([.int .i16 0, .int .i16 0] : List Value).toArray) (vs := [.int .i16 0, .int .i16 0]) (cs := [.int .i16 0, .int .i16 0]) hk hm ts_48 rfl rfl rfl rfl rfl rfl (Nat.le_refl _) fun a w hk hm => ?_
 have hm : Mem w0 Nob Y [.blk g [.int .i16 0, .int .i16 0] 48, .blk rb zT 26, .rep (ddBs d) [dv], .cel 1 0 [.iface et ep]] w := hm
 refine cE0 ?_
 refine wp_seq ?_
 refine cR0 ?_
 refine oM0 hk rfl rfl fun a hk => ?_
 have hm := hm.addNil 5 1
 refine o_append (i := 0) hk hm rt_22 rfl rfl rfl (src_bs te_22 (hm.rep (i := 3) rfl)) (room_len (by unfold room; omega)) (room_by (by unfold room; omega)) rfl fun a v1 w hk hm hnil => ?_
 have hm := hm.freezeBytes (i := 0) (s := d) rfl (Nat.zero_add _)
 refine o_call hk cb_36 (crk_Read (hm.blkAt (i := 1) rfl) (src_or (hm.rep (i := 0) rfl) hnil) (hm.yofBlk (i := 1) rfl) (hm.all _ (eA0 (i := 4) rfl) 0 _ rfl)) ⟨rfl, rfl, trivial⟩ rfl fun x w a hR hk => ?_
 obtain ⟨hp, hb2, hv1, hv2⟩ := hR
 have hm := hm.write (i := 1) rfl hp hb2
 obtain ⟨m1, hm1⟩ : ∃ m1, m1 = (IntKind.i16.wrap ((RS.num 2 ⟨srcOf d, false⟩).1 : Int)) := ⟨_, rfl⟩
 obtain ⟨n2, hn2⟩ : ∃ n2, n2 = ((RS.num 2 (RS.num 2 ⟨srcOf d, false⟩).2).1 : Int) := ⟨_, rfl⟩
 cases hbad : (RS.num 2 (RS.num 2 ⟨srcOf d, false⟩).2).2.bad with
 | false =>
  have hcrk : crk (srcOf d) = some (m1, IntKind.i16.wrap n2) := by unfold crk; rw [hbad, hm1, hn2]; rfl
  have hT : crkT (srcOf d) = .mk m1 [] false [ofNum (IntKind.i16.wrap n2)] [] := by unfold crkT; rw [hcrk]
  rw [hcrk, hT]
  obtain rfl := hv1 hbad
  rw [← hm1, ← hn2] at hm
  refine o_ifaceNe0 hk (show isErrTy Tryd.prog 51 = true by kernel_rfl) rfl rfl fun a hk => ?_
  refine cE0 ?_
  refine c_condF hk rfl ?_
  refine wp_skip ?_
  refine cT0 ?_
  have hm := hm.freezeBlk (i := 1) rfl id
  have hcel : Cel w _ g (0 + 1) [.int .i16 (IntKind.i16.wrap n2)] := (show Cel w _ g 0 [.int .i16 m1, .int .i16 (IntKind.i16.wrap n2)] from hm.all _ (eA0 (i := 1) rfl)).tl
  refine cR0 ?_
  refine o_call hk cb_37 (crk_tell hcel) ⟨rfl, trivial⟩ rfl fun v w a hR hk => ?_
  obtain ⟨hp2, c2, rfl, hR3⟩ := hR
  have hm := hm.result hp2 hR3
  obtain ⟨c1, c3, c4, c5, hc2⟩ := rep_T5 (hm.rep (i := 0) rfl)
  have hc2 : c2 = [.int .i64 0, c1, .bool false, .slice c3 1 c4, c5] := hc2
  subst hc2
  refine o_alloc (cs := zT) hk hm tz_26 rfl rfl fun a b5 w hk hm => ?_
  refine o_store (i := 0) (b := b5) (off := 0) (v := .agg ([.int .i64 0, c1, .bool false, .slice c3 1 c4, c5] : List Value).toArray) (vs := [.int .i64 0, c1, .bool false, .slice c3 1 c4, c5]) (cs := zT) hk hm ts_26 rfl rfl (by simp [cellsOf]) rfl (rep_T_one (hm.rep (i := 1) rfl)) rfl (Nat.le_refl 5) fun a w hk hm => ?_
  have hm : Mem w0 Nob Y (putAt _ 0 (.blk b5 ([.int .i64 0, c1, .bool false, .slice c3 1 c4, c5]) 26)) w := hm
  refine cE0 ?_
  refine cR0 ?_
  refine oF0 hk fo_48_0 rfl rfl fun a hk => ?_
  refine o_load (v := .int .i16 m1) hk ts_45 rfl (hm.cell_cel (i := 3) (j := 0) rfl rfl) rfl fun a hk => ?_
  refine o_convInt (c := m1) hk un_45 ti_2 rfl (by rw [hm1]; exact wrap_in_i64 .i16 (by simp)) rfl fun a hk => ?_
  refine oF0 hk fo_26_0 rfl rfl fun a hk => ?_
  refine o_store (i := 0) (b := b5) (off := 0) (v := .int .i64 m1) (vs := [.int .i64 m1]) (cs := [.int .i64 0, c1, .bool false, .slice c3 1 c4, c5]) hk hm ts_2 rfl rfl rfl rfl rfl rfl (Nat.le_add_left 1 4) fun a w hk hm => ?_
  have hm : Mem w0 Nob Y (putAt _ 0 (.blk b5 ([.int .i64 m1, c1, .bool false, .slice c3 1 c4, c5]) 26)) w := hm
  refine cE0 ?_
  refine cR0 ?_
  refine o_loadN (cs := [.int .i64 m1, c1, .bool false, .slice c3 1 c4, c5]) hk ts_26 rfl (hm.cells_blk (i := 0) (off := 0) rfl rfl) rfl fun a hk => ?_
  have hone : oneCells ([.int .i64 m1, c1, .bool false, .slice c3 1 c4, c5]) = true := by
   have := rep_T_one (hm.rep (i := 1) rfl)
   simpa [oneCells, Value.oneCell'] using this
  refine o_store (i := 4) (b := rb) (off := 0) (v := .agg ([.int .i64 m1, c1, .bool false, .slice c3 1 c4, c5] : List Value).toArray) (vs := [.int .i64 m1, c1, .bool false, .slice c3 1 c4, c5]) (cs := zT) hk hm ts_26 rfl rfl (by simp [cellsOf]) rfl hone rfl (Nat.le_refl 5) fun a w hk hm => ?_
  have hm : Mem w0 Nob Y (putAt _ 4 (.blk rb ([.int .i64 m1, c1, .bool false, .slice c3 1 c4, c5]) 26)) w := hm
  refine oA0 hk rfl rfl fun a hk => ?_
  refine cE0 ?_
  refine wp_ret ?_
  exact b_retCellTmp (i := 4) (cs := [.int .i64 m1, c1, .bool false, .slice c3 1 c4, c5]) rfl ts_26 hk hm rfl rfl rfl ⟨hm.agr, _, rfl, hm.out (rep_setN (hm.rep (i := 1) rfl))⟩
 | true =>
  have hcrk : crk (srcOf d) = none := by unfold crk; rw [hbad]; rfl
  have hT : crkT (srcOf d) = T.nil := by unfold crkT; rw [hcrk]
  rw [hcrk, hT]
  obtain rfl := hv2 hbad
  refine o_ifaceNe1 hk (show isErrTy Tryd.prog 51 = true by kernel_rfl) rfl rfl fun a hk => ?_
  refine cE0 ?_
  refine c_condT hk rfl ?_
  refine cR0 ?_
  refine o_build (parts := []) (r := zT) hk tz_26 rfl fok_26 rfl rfl fun a hk => ?_
  refine o_store (i := 2) (b := rb) (off := 0) (v := .agg zT.toArray) (vs := zT) (cs := zT) hk hm ts_26 rfl rfl rfl rfl rfl rfl (Nat.le_refl 5) fun a w hk hm => ?_
  refine oA0 hk rfl rfl fun a hk => ?_
  refine cE0 ?_
  refine wp_ret ?_
  refine cQ0 ?_
  exact b_retCellTmp (i := 2) (cs := zT) rfl ts_26 hk hm rfl rfl rfl ⟨hm.agr, zT, rfl, rep_T_nil⟩
theorem crk_doorU {w0 : World} {Y : Nat → Prop} {d : List UInt8} {dv ep : Value} {et : Nat} (hd : d.length ≤ 1000) (hD : Rep w0 Y (ddBs d) [dv]) (hG : Cel w0 Y 1 0 [.iface et ep]) :
  Ret Tryd.prog 13 [dv] w0 fun v w' => Agr Nob w0 w' ∧ ∃ c', v = .tuple #[.agg c'.toArray, .bool (crk (srcOf d)).isSome] ∧ Rep w' (fun b => b < w0.heap.size ∧ Y b) (ddT (crkT (srcOf d))) c' := by
 refine c_call Tryd.func13 rfl rfl fun a hk => ?_
 have hk : Kn 18 [(0, dv)] a := hk
 have hm : Mem w0 Nob Y [.rep (ddBs d) [dv], .cel 1 0 [.iface et ep]] w0 := Mem.start rfl (by simp only [List.forall_mem_cons, List.not_mem_nil, false_imp_iff, implies_true, and_true]; exact ⟨hD, hG⟩)
 refine cR0 ?_
 refine o_alloc (cs := zT) hk hm tz_26 rfl rfl fun a rb w hk hm => ?_
 refine oA0 hk rfl rfl fun a hk => ?_
 refine cE0 ?_
 refine cR0 ?_
 refine o_call hk cb_35 newK_ControlRecordKey trivial rfl fun v w a hR hk => ?_
 obtain ⟨hp, rfl⟩ := hR
 have hm := hm.pure hp
 refine o_alloc (cs := [.int .i16 0, .int .i16 0]) hk hm tz_48 rfl rfl fun a g w hk hm => ?_
 refine o_store (i := 0) (b := g) (off := 0) (v := .agg ([.int .i16 0, .int .i16 0] : List Value).toArray) (vs := [.int .i16 0, .int .i16 0]) (cs := [.int .i16 0, .int .i16 0]) hk hm ts_48 rfl rfl rfl rfl rfl rfl (Nat.le_refl _) fun a w hk hm => ?_
 have hm : Mem w0 Nob Y [.blk g [.int .i16 0, .int .i16 0] 48, .blk rb zT 26, .rep (ddBs d) [dv], .cel 1 0 [.iface et ep]] w := hm
 refine cE0 ?_
 refine wp_seq ?_
 refine cR0 ?_
 refine oM0 hk rfl rfl fun a hk => ?_
 have hm := hm.addNil 5 1
 refine o_append (i := 0) hk hm rt_22 rfl rfl rfl (src_bs te_22 (hm.rep (i := 3) rfl)) (room_len (by unfold room; omega)) (room_by (by unfold room; omega)) rfl fun a v1 w hk hm hnil => ?_
 have hm := hm.freezeBytes (i := 0) (s := d) rfl (Nat.zero_add _)
 refine o_call hk cb_40 (crk_ReadU (hm.blkAt (i := 1) rfl) (src_or (hm.rep (i := 0) rfl) hnil) (hm.yofBlk (i := 1) rfl) (hm.all _ (eA0 (i := 4) rfl) 0 _ rfl)) ⟨rfl, rfl, trivial⟩ rfl fun x w a hR hk => ?_
 obtain ⟨hp, hb2, hv1, hv2⟩ := hR
 have hm := hm.write (i := 1) rfl hp hb2
 obtain ⟨m1, hm1⟩ : ∃ m1, m1 = (IntKind.i16.wrap ((RS.num 2 ⟨srcOf d, false⟩).1 : Int)) := ⟨_, rfl⟩
 obtain ⟨n2, hn2⟩ : ∃ n2, n2 = ((RS.num 2 (RS.num 2 ⟨srcOf d, false⟩).2).1 : Int) := ⟨_, rfl⟩
 cases hbad : (RS.num 2 (RS.num 2 ⟨srcOf d, false⟩).2).2.bad with
 | false =>
  have hcrk : crk (srcOf d) = some (m1, IntKind.i16.wrap n2) := by unfold crk; rw [hbad, hm1, hn2]; rfl
  have hT : crkT (srcOf d) = .mk m1 [] false [ofNum (IntKind.i16.wrap n2)] [] := by unfold crkT; rw [hcrk]
  rw [hcrk, hT]
  obtain rfl := hv1 hbad
  rw [← hm1, ← hn2] at hm
  refine o_ifaceNe0 hk (show isErrTy Tryd.prog 51 = true by kernel_rfl) rfl rfl fun a hk => ?_
  refine cE0 ?_
  refine c_condF hk rfl ?_
  refine wp_skip ?_
  refine cT0 ?_
  have hm := hm.freezeBlk (i := 1) rfl id
  have hcel : Cel w _ g (0 + 1) [.int .i16 (IntKind.i16.wrap n2)] := (show Cel w _ g 0 [.int .i16 m1, .int .i16 (IntKind.i16.wrap n2)] from hm.all _ (eA0 (i := 1) rfl)).tl
  refine cR0 ?_
  refine o_call hk cb_37 (crk_tell hcel) ⟨rfl, trivial⟩ rfl fun v w a hR hk => ?_
  obtain ⟨hp2, c2, rfl, hR3⟩ := hR
  have hm := hm.result hp2 hR3
  obtain ⟨c1, c3, c4, c5, hc2⟩ := rep_T5 (hm.rep (i := 0) rfl)
  have hc2 : c2 = [.int .i64 0, c1, .bool false, .slice c3 1 c4, c5] := hc2
  subst hc2
  refine o_alloc (cs := zT) hk hm tz_26 rfl rfl fun a b5 w hk hm => ?_
  refine o_store (i := 0) (b := b5) (off := 0) (v := .agg ([.int .i64 0, c1, .bool false, .slice c3 1 c4, c5] : List Value).toArray) (vs := [.int .i64 0, c1, .bool false, .slice c3 1 c4, c5]) (cs := zT) hk hm ts_26 rfl rfl (by simp [cellsOf]) rfl (rep_T_one (hm.rep (i := 1) rfl)) rfl (Nat.le_refl 5) fun a w hk hm => ?_
  have hm : Mem w0 Nob Y (putAt _ 0 (.blk b5 ([.int .i64 0, c1, .bool false, .slice c3 1 c4, c5]) 26)) w := hm
  refine cE0 ?_
  refine cR0 ?_
  refine oF0 hk fo_48_0 rfl rfl fun a hk => ?_
  refine o_load (v := .int .i16 m1) hk ts_45 rfl (hm.cell_cel (i := 3) (j := 0) rfl rfl) rfl fun a hk => ?_
  refine o_convInt (c := m1) hk un_45 ti_2 rfl (by rw [hm1]; exact wrap_in_i64 .i16 (by simp)) rfl fun a hk => ?_
  refine oF0 hk fo_26_0 rfl rfl fun a hk => ?_
  refine o_store (i := 0) (b := b5) (off := 0) (v := .int .i64 m1) (vs := [.int .i64 m1]) (cs := [.int .i64 0, c1, .bool false, .slice c3 1 c4, c5]) hk hm ts_2 rfl rfl rfl rfl rfl rfl (Nat.le_add_left 1 4) fun a w hk hm => ?_
  have hm : Mem w0 Nob Y (putAt _ 0 (.blk b5 ([.int .i64 m1, c1, .bool false, .slice c3 1 c4, c5]) 26)) w := hm
  refine cE0 ?_
  refine cR0 ?_
  refine o_loadN (cs := [.int .i64 m1, c1, .bool false, .slice c3 1 c4, c5]) hk ts_26 rfl (hm.cells_blk (i := 0) (off := 0) rfl rfl) rfl fun a hk => ?_
  have hone : oneCells ([.int .i64 m1, c1, .bool false, .slice c3 1 c4, c5]) = true := by
   have := rep_T_one (hm.rep (i := 1) rfl)
   simpa [oneCells, Value.oneCell'] using this
  refine o_store (i := 4) (b := rb) (off := 0) (v := .agg ([.int .i64 m1, c1, .bool false, .slice c3 1 c4, c5] : List Value).toArray) (vs := [.int .i64 m1, c1, .bool false, .slice c3 1 c4, c5]) (cs := zT) hk hm ts_26 rfl rfl (by simp [cellsOf]) rfl hone rfl (Nat.le_refl 5) fun a w hk hm => ?_
  have hm : Mem w0 Nob Y (putAt _ 4 (.blk rb ([.int .i64 m1, c1, .bool false, .slice c3 1 c4, c5]) 26)) w := hm
  refine oA0 hk rfl rfl fun a hk => ?_
  refine cE0 ?_
  refine wp_ret ?_
  exact b_retCellTmp (i := 4) (cs := [.int .i64 m1, c1, .bool false, .slice c3 1 c4, c5]) rfl ts_26 hk hm rfl rfl rfl ⟨hm.agr, _, rfl, hm.out (rep_setN (hm.rep (i := 1) rfl))⟩
 | true =>
  have hcrk : crk (srcOf d) = none := by unfold crk; rw [hbad]; rfl
  have hT : crkT (srcOf d) = T.nil := by unfold crkT; rw [hcrk]
  rw [hcrk, hT]
  obtain rfl := hv2 hbad
  refine o_ifaceNe1 hk (show isErrTy Tryd.prog 51 = true by kernel_rfl) rfl rfl fun a hk => ?_
  refine cE0 ?_
  refine c_condT hk rfl ?_
  refine cR0 ?_
  refine o_build (parts := []) (r := zT) hk tz_26 rfl fok_26 rfl rfl fun a hk => ?_
  refine o_store (i := 2) (b := rb) (off := 0) (v := .agg zT.toArray) (vs := zT) (cs := zT) hk hm ts_26 rfl rfl rfl rfl rfl rfl (Nat.le_refl 5) fun a w hk hm => ?_
  refine oA0 hk rfl rfl fun a hk => ?_
  refine cE0 ?_
  refine wp_ret ?_
  refine cQ0 ?_
  exact b_retCellTmp (i := 2) (cs := zT) rfl ts_26 hk hm rfl rfl rfl ⟨hm.agr, zT, rfl, rep_T_nil⟩
end Go.Proofs.YthholdjpcdpceaaDoor
