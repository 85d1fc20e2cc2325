/- Walks of functions that the laws of this seat reach. No statement of the seat stands here. -/
import Derived.Test.YthholdjpcdpceaaDoorL4
import Derived.Test.YthholdjpcdpceaaDoorRows
import Derived.Test.YthholdjpcdpceaaDoorFa
import Derived.Test.YthholdjpcdpceaaDoorRi
import Derived.Test.YthholdjpcdpceaaDoorSch
namespace Go.Proofs.YthholdjpcdpceaaDoor
open Go Go.Mk
theorem dflt_ControlRecordKey {good gv : Value} {gb : Nat} : Er.RkOk Tryd.prog 133 good gb gv 78 (.dflt []) := Er.rk_dflt0 (er := 133) (good := good) (gb := gb) (gv := gv) Tryd.func78 rfl rfl rfl
theorem newK_ControlRecordKey {w0 : World} : Ret Tryd.prog 35 [] w0 fun v w' => Agr Nob w0 w' ∧ v = .agg (.int .i16 0 :: Er.dflS sch_ControlRecordKey false).toArray := by
  refine c_call Tryd.func35 rfl rfl fun a hk => ?_
  have hk : Kn 4 [] a := hk
  have hm : Mem w0 Nob Nob [] w0 := Mem.start rfl (by simp)
  refine cR0 ?_
  refine o_alloc (cs := [.int .i16 0, .int .i16 0]) hk hm tz_48 rfl rfl fun a rb w hk hm => ?_
  refine cE0 ?_
  refine cR0 ?_
  refine o_alloc (cs := [.int .i16 0, .int .i16 0]) hk hm tz_48 rfl rfl fun a b w hk hm => ?_
  refine cE0 ?_
  refine cR0 ?_
  refine o_call hk cb_78 (dflt_ControlRecordKey (good := .nilIface) (gv := .nilIface) (gb := 1) (pre := []) (post := []) (c := [.int .i16 0, .int .i16 0]) (hm.all _ (eA0 (i := 0) rfl)) (by decide)) ⟨rfl, trivial⟩ rfl fun v w a hR hk => ?_
  obtain ⟨hp, hb⟩ := hR
  have hm := hm.write (i := 0) rfl hp hb
  refine cE0 ?_
  refine cR0 ?_
  refine o_loadN (cs := [.int .i16 0, .int .i16 0]) hk ts_48 rfl (hm.cells_blk (i := 0) (off := 0) rfl rfl) rfl fun a hk => ?_
  refine o_store (i := 1) (b := rb) (off := 0) (v := .agg ([.int .i16 0, .int .i16 0] : List Value).toArray) (vs := [.int .i16 0, .int .i16 0]) (cs := [.int .i16 0, .int .i16 0]) hk hm ts_48 rfl rfl rfl rfl rfl rfl (Nat.le_refl _) fun a w hk hm => ?_
  refine cE0 ?_
  refine wp_ret ?_
  exact b_retCell (i := 1) (cs := [.int .i16 0, .int .i16 0]) rfl ts_48 hk hm rfl rfl ⟨hm.agr, rfl⟩
theorem crk_read {w0 : World} {Y : Nat → Prop} {v gv x0 x1 : Value} {o : Option (List UInt8)} {g : Nat} (us : Bool) (hg : w0.heap[g]? = some (.cells [x0, x1].toArray 48 (0, 0))) (hR : Rep w0 Y (ddSrc o) [v]) (hY : Y g) (hG : ¬ Y 1 ∧ w0.cell? ⟨1, 0, none⟩ = some gv) :
    Ret Tryd.prog 79 [.pointer (some ⟨g, 0, none⟩), v, .bool us] w0 fun x w' => Agr (fun k => k = g) w0 w' ∧ w'.heap[g]? = some (.cells [.int .i16 (IntKind.i16.wrap ((RS.num 2 ⟨o, false⟩).1 : Int)), .int .i16 (IntKind.i16.wrap ((RS.num 2 (RS.num 2 ⟨o, false⟩).2).1 : Int))].toArray 48 (0, 0)) ∧
      ((RS.num 2 (RS.num 2 ⟨o, false⟩).2).2.bad = false → x = .nilIface) ∧ ((RS.num 2 (RS.num 2 ⟨o, false⟩).2).2.bad = true → x = gv) := by
  obtain ⟨px, capx, rfl, hcap⟩ := src_form hR
  refine c_call Tryd.func79 rfl rfl fun a hk => ?_
  have hk : Kn 35 [(0, .pointer (some ⟨g, 0, none⟩)), (1, .slice px (o.getD []).length capx), (2, .bool us)] a := hk
  have hm : Mem w0 (fun k => k = g) Y [.blk g [x0, x1] 48, .rep (ddSrc o) [.slice px (o.getD []).length capx], .cel 1 0 [gv]] w0 := Mem.startBlk hg hY rfl (by simp only [List.forall_mem_cons, List.not_mem_nil, false_imp_iff, implies_true, and_true]; exact ⟨hR, cel_one hG.1 hG.2⟩)
  refine cR0 ?_
  refine oA0 hk rfl rfl fun a hk => ?_
  refine cE0 ?_
  refine cR0 ?_
  refine oM0 hk rfl rfl fun a hk => ?_
  refine o_call hk cb_78 (dflt_ControlRecordKey (good := .nilIface) (gv := .nilIface) (gb := 1) (pre := []) (post := []) (c := [x0, x1]) (hm.blkAt (i := 0) rfl) (by intro d hd; cases hd)) ⟨rfl, trivial⟩ rfl fun v w a hR hk => ?_
  obtain ⟨hp, hb⟩ := hR
  have hm := hm.write (i := 0) rfl hp hb
  have hm : Mem w0 (fun k => k = g) Y [.blk g [x0, x1] 48, .rep (ddSrc o) [.slice px (o.getD []).length capx], .cel 1 0 [gv]] w := hm
  refine cE0 ?_
  refine cR0 ?_
  refine oM0 hk rfl rfl fun a hk => ?_
  refine o_build (r := [.slice px (o.getD []).length capx, .bool false]) hk tz_133 rfl fok_133 ⟨_, _, _, rfl, rfl, fa_133_0, rfl, rfl⟩ rfl fun a hk => ?_
  refine o_alloc hk hm tz_133 rfl rfl fun a b1 w hk hm => ?_
  refine o_store (i := 0) hk hm ts_133 rfl rfl rfl rfl rfl rfl (Nat.le_of_ble_eq_true rfl) fun a w hk hm => ?_
  refine cE0 ?_
  refine cR0 ?_
  refine oM0 hk rfl rfl fun a hk => ?_
  refine o_call hk cb_107 (rdInt16_c (s := (⟨o, false⟩ : RS)) ⟨_, hm.blkAt (i := 0) rfl, hm.rep (i := 2) rfl⟩ (hm.yofBlk (i := 0) rfl)) ⟨rfl, trivial⟩ rfl fun v w a hR hk => ?_
  obtain ⟨hp, rfl, y1, hb1, hy1⟩ := hR
  have hm := hm.blkCall (i := 0) rfl hp (cs' := [y1, .bool (RS.num 2 (⟨o, false⟩ : RS)).2.bad]) hb1 hy1
  refine oN0 hk rfl rfl fun a hk => ?_
  refine oF0 hk fo_48_0 rfl rfl fun a hk => ?_
  refine o_store (i := 2) hk hm ts_45 rfl rfl rfl rfl rfl rfl (Nat.le_of_ble_eq_true rfl) fun a w hk hm => ?_
  refine cE0 ?_
  refine cR0 ?_
  refine oM0 hk rfl rfl fun a hk => ?_
  refine oN0 hk rfl rfl fun a hk => ?_
  refine oF0 hk fo_48_0 rfl rfl fun a hk => ?_
  refine o_load hk ts_45 rfl (hm.cell_blk (i := 2) rfl rfl) rfl fun a hk => ?_
  refine oA0 hk rfl rfl fun a hk => ?_
  refine cE0 ?_
  refine cR0 ?_
  refine oM0 hk rfl rfl fun a hk => ?_
  refine cE0 ?_
  refine cR0 ?_
  refine oM0 hk rfl rfl fun a hk => ?_
  refine oA0 hk rfl rfl fun a hk => ?_
  refine cE0 ?_
  refine wp_seq ?_
  refine cR0 ?_
  refine oA0 hk rfl rfl fun a hk => ?_
  refine cE0 ?_
  refine wp_seq ?_
  refine cR0 ?_
  refine o_call hk cb_107 (rdInt16_c (s := (RS.num 2 (⟨o, false⟩ : RS)).2) ⟨_, hm.blkAt (i := 1) rfl, hm.rep (i := 0) rfl⟩ (hm.yofBlk (i := 1) rfl)) ⟨rfl, trivial⟩ rfl fun v w a hR hk => ?_
  obtain ⟨hp, rfl, y2, hb2, hy2⟩ := hR
  have hm := hm.blkCall (i := 1) rfl hp (cs' := [y2, .bool (RS.num 2 (RS.num 2 (⟨o, false⟩ : RS)).2).2.bad]) hb2 hy2
  refine oA0 hk rfl rfl fun a hk => ?_
  refine cE0 ?_
  refine c_reg ?_
  refine oM0 hk rfl rfl fun a hk => ?_
  refine oA0 hk rfl rfl fun a hk => ?_
  refine c_endQ ?_
  refine cT0 ?_
  refine cR0 ?_
  refine oM0 hk rfl rfl fun a hk => ?_
  refine oA0 hk rfl rfl fun a hk => ?_
  refine cE0 ?_
  refine c_reg ?_
  refine oM0 hk rfl rfl fun a hk => ?_
  refine oM0 hk rfl rfl fun a hk => ?_
  refine oN0 hk rfl rfl fun a hk => ?_
  refine oF0 hk fo_48_1 rfl rfl fun a hk => ?_
  refine o_store (i := 3) hk hm ts_46 rfl rfl rfl rfl rfl rfl (Nat.le_of_ble_eq_true rfl) fun a w hk hm => ?_
  refine c_endQ ?_
  refine cT0 ?_
  refine cR0 ?_
  refine o_call hk cb_108 (rdComplete_c (gv := gv) (s := (RS.num 2 (RS.num 2 (⟨o, false⟩ : RS)).2).2) ⟨_, hm.blkAt (i := 2) rfl, hm.rep (i := 0) rfl⟩ ((hm.all _ (eA0 (i := 5) rfl)) 0 _ rfl).2) ⟨rfl, trivial⟩ rfl fun vc w a hR hk => ?_
  obtain ⟨rfl, hv1, hv2⟩ := hR
  refine oA0 hk rfl rfl fun a hk => ?_
  refine cE0 ?_
  refine wp_ret ?_
  refine bT0 rfl hk rfl ?_
  exact ⟨hm.agr, hm.blkAt (i := 3) rfl, hv1, hv2⟩
theorem crk_Read {w0 : World} {Y : Nat → Prop} {v gv x0 x1 : Value} {o : Option (List UInt8)} {g : Nat} (hg : w0.heap[g]? = some (.cells [x0, x1].toArray 48 (0, 0))) (hR : Rep w0 Y (ddSrc o) [v]) (hY : Y g) (hG : ¬ Y 1 ∧ w0.cell? ⟨1, 0, none⟩ = some gv) :
    Ret Tryd.prog 36 [.pointer (some ⟨g, 0, none⟩), v] w0 fun x w' => Agr (fun k => k = g) w0 w' ∧ w'.heap[g]? = some (.cells [.int .i16 (IntKind.i16.wrap ((RS.num 2 ⟨o, false⟩).1 : Int)), .int .i16 (IntKind.i16.wrap ((RS.num 2 (RS.num 2 ⟨o, false⟩).2).1 : Int))].toArray 48 (0, 0)) ∧
      ((RS.num 2 (RS.num 2 ⟨o, false⟩).2).2.bad = false → x = .nilIface) ∧ ((RS.num 2 (RS.num 2 ⟨o, false⟩).2).2.bad = true → x = gv) := by
  refine c_call Tryd.func36 rfl rfl fun a hk => ?_
  have hk : Kn 8 [(0, .pointer (some ⟨g, 0, none⟩)), (1, v)] a := hk
  refine cR0 ?_
  refine oA0 hk rfl rfl fun a hk => ?_
  refine cE0 ?_
  refine cR0 ?_
  refine oM0 hk rfl rfl fun a hk => ?_
  refine oM0 hk rfl rfl fun a hk => ?_
  refine o_call hk cb_79 (crk_read false hg hR hY hG) ⟨rfl, rfl, rfl, trivial⟩ rfl fun x w a hR hk => ?_
  refine oA0 hk rfl rfl fun a hk => ?_
  refine cE0 ?_
  refine wp_ret ?_
  refine bT0 rfl hk rfl ?_
  exact hR
theorem crk_ReadU {w0 : World} {Y : Nat → Prop} {v gv x0 x1 : Value} {o : Option (List UInt8)} {g : Nat} (hg : w0.heap[g]? = some (.cells [x0, x1].toArray 48 (0, 0))) (hR : Rep w0 Y (ddSrc o) [v]) (hY : Y g) (hG : ¬ Y 1 ∧ w0.cell? ⟨1, 0, none⟩ = some gv) :
    Ret Tryd.prog 40 [.pointer (some ⟨g, 0, none⟩), v] w0 fun x w' => Agr (fun k => k = g) w0 w' ∧ w'.heap[g]? = some (.cells [.int .i16 (IntKind.i16.wrap ((RS.num 2 ⟨o, false⟩).1 : Int)), .int .i16 (IntKind.i16.wrap ((RS.num 2 (RS.num 2 ⟨o, false⟩).2).1 : Int))].toArray 48 (0, 0)) ∧
      ((RS.num 2 (RS.num 2 ⟨o, false⟩).2).2.bad = false → x = .nilIface) ∧ ((RS.num 2 (RS.num 2 ⟨o, false⟩).2).2.bad = true → x = gv) := by
  refine c_call Tryd.func40 rfl rfl fun a hk => ?_
  have hk : Kn 8 [(0, .pointer (some ⟨g, 0, none⟩)), (1, v)] a := hk
  refine cR0 ?_
  refine oA0 hk rfl rfl fun a hk => ?_
  refine cE0 ?_
  refine cR0 ?_
  refine oM0 hk rfl rfl fun a hk => ?_
  refine oM0 hk rfl rfl fun a hk => ?_
  refine o_call hk cb_79 (crk_read true hg hR hY hG) ⟨rfl, rfl, rfl, trivial⟩ rfl fun x w a hR hk => ?_
  refine oA0 hk rfl rfl fun a hk => ?_
  refine cE0 ?_
  refine wp_ret ?_
  refine bT0 rfl hk rfl ?_
  exact hR
end Go.Proofs.YthholdjpcdpceaaDoor
