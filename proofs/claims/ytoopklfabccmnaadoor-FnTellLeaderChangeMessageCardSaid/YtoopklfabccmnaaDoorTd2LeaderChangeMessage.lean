/- Walks of functions that the laws of this seat reach. No statement of the seat stands here. -/
import Derived.Test.YtoopklfabccmnaaDoorL4
import Derived.Test.YtoopklfabccmnaaDoorRows
import Derived.Test.YtoopklfabccmnaaDoorFa
import Derived.Test.YtoopklfabccmnaaDoorRkLeaderChangeMessage
import Derived.Test.YtoopklfabccmnaaDoorTlLeaderChangeMessage
namespace Go.Proofs.YtoopklfabccmnaaDoor
open Go Go.Mk
theorem oks_LeaderChangeMessage : (List.range 2).all (fun k => okRFs sch_LeaderChangeMessage ((k : Nat) : Int) (decide (((k : Nat) : Int) ≥ 0)) && thkP sch_LeaderChangeMessage ((k : Nat) : Int) (decide (((k : Nat) : Int) ≥ 0))) = true := by kernel_rfl
theorem tell_c_LeaderChangeMessage {w0 : World} {Y : Nat → Prop} {t : T} {sv gv : Value} (k : Nat) (h1 : k ≤ 1) (hsn : t.sane = true) (hS : Rep w0 Y (ddBs (fixed ((k : Nat) : Int) 2 ++ partP sch_LeaderChangeMessage ((k : Nat) : Int) (decide (((k : Nat) : Int) ≥ 0)) t)) [sv]) (hroom : 2 + (partP sch_LeaderChangeMessage ((k : Nat) : Int) (decide (((k : Nat) : Int) ≥ 0)) t).length ≤ room) (hG : Cel w0 Y 1 0 [gv]) :
  Ret Tryd.prog 6 [sv] w0 fun v w' => Agr Nob w0 w' ∧ ∃ c', v = .tuple #[.agg c'.toArray, .bool true] ∧ Rep w' (fun b => b < w0.heap.size ∧ Y b) (ddT (telK sch_LeaderChangeMessage ((k : Nat) : Int) (gotP sch_LeaderChangeMessage ((k : Nat) : Int) (decide (((k : Nat) : Int) ≥ 0)) t))) c' := by
 have hq := Ea.all_range oks_LeaderChangeMessage (k := k) (by omega)
 rw [Bool.and_eq_true] at hq
 have hlen : (fixed ((k : Nat) : Int) 2 ++ partP sch_LeaderChangeMessage ((k : Nat) : Int) (decide (((k : Nat) : Int) ≥ 0)) t).length = 2 + (partP sch_LeaderChangeMessage ((k : Nat) : Int) (decide (((k : Nat) : Int) ≥ 0)) t).length := by rw [List.length_append, fixed_length]
 obtain ⟨tv, hv, hV⟩ := rdV_fixed h1 (partP sch_LeaderChangeMessage ((k : Nat) : Int) (decide (((k : Nat) : Int) ≥ 0)) t)
 refine c_call Tryd.func6 rfl rfl fun a hk => ?_
 have hk : Kn 18 [(0, sv)] a := hk
 have hm : Mem w0 Nob Y [.rep (ddBs (fixed ((k : Nat) : Int) 2 ++ partP sch_LeaderChangeMessage ((k : Nat) : Int) (decide (((k : Nat) : Int) ≥ 0)) t)) [sv], .cel 1 0 [gv]] w0 := Mem.start rfl (by simp only [List.forall_mem_cons, List.not_mem_nil, false_imp_iff, implies_true, and_true]; exact ⟨hS, hG⟩)
 refine cR0 ?_
 refine o_alloc (cs := zT) hk hm tz_35 rfl rfl fun a rb w hk hm => ?_
 refine oA0 hk rfl rfl fun a hk => ?_
 refine cE0 ?_
 refine cR0 ?_
 refine o_call hk cb_13 newK_LeaderChangeMessage trivial rfl fun v w a hR hk => ?_
 obtain ⟨hp, rfl⟩ := hR
 have hm := hm.pure hp
 refine o_alloc (cs := [.int .i16 0, .int .i32 0, .slice none 0 0, .slice none 0 0, .map none]) hk hm tz_53 rfl rfl fun a g w hk hm => ?_
 refine o_store (i := 0) (b := g) (off := 0) (v := .agg ([.int .i16 0, .int .i32 0, .slice none 0 0, .slice none 0 0, .map none] : List Value).toArray) (vs := [.int .i16 0, .int .i32 0, .slice none 0 0, .slice none 0 0, .map none]) (cs := [.int .i16 0, .int .i32 0, .slice none 0 0, .slice none 0 0, .map none]) hk hm ts_53 rfl rfl rfl rfl rfl rfl (Nat.le_refl _) fun a w hk hm => ?_
 refine cE0 ?_
 refine wp_seq ?_
 refine cR0 ?_
 refine oM0 hk rfl rfl fun a hk => ?_
 have hm := hm.addNil 5 1
 refine o_append (i := 0) hk hm rt_22 rfl rfl rfl (src_bs te_22 (hm.rep (i := 3) rfl)) (room_len (by omega)) (room_by (by omega)) rfl fun a v1 w hk hm _ => ?_
 have hm := hm.freezeBytes (i := 0) (s := fixed ((k : Nat) : Int) 2 ++ partP sch_LeaderChangeMessage ((k : Nat) : Int) (decide (((k : Nat) : Int) ≥ 0)) t) rfl (Nat.zero_add _)
 refine o_call hk cb_14 (ReadFrom_LeaderChangeMessage k h1 (hm.all _ (eA0 (i := 1) rfl)) (src_of_bs (hm.rep (i := 0) rfl) (by rw [hlen]; omega)) (hm.yofBlk (i := 1) rfl) (hm.all _ (eA0 (i := 4) rfl) 0 _ rfl) hv hV) ⟨rfl, rfl, trivial⟩ rfl fun x w a hR hk => ?_
 obtain ⟨hp, rfl, c', hb2, hR2⟩ := told_readK rfl hq.1 hsn hR
 have hm := hm.blkCall (i := 1) rfl hp hb2 hR2
 refine o_ifaceNe0 hk (show isErrTy Tryd.prog 56 = true by kernel_rfl) rfl rfl fun a hk => ?_
 refine cE0 ?_
 refine c_condF hk rfl ?_
 refine wp_skip ?_
 refine cT0 ?_
 have hm := hm.freezeBlk (i := 2) rfl id
 have hcel : Cel w _ g (0 + 1) c' := (show Cel w _ g 0 (.int .i16 ((k : Nat) : Int) :: c') from hm.all _ (eA0 (i := 2) rfl)).tl
 refine cR0 ?_
 refine o_call hk cb_15 (tell_LeaderChangeMessage hcel (hm.rep (i := 0) rfl) (tiny_fine _ (tiny_gotP rfl (by decide) t))) ⟨rfl, trivial⟩ rfl fun v w a hR hk => ?_
 obtain ⟨hp2, c2, rfl, hR3⟩ := hR
 have hm := hm.result hp2 hR3
 obtain ⟨c1, c3, c4, c5, hc2⟩ := rep_T5 (hm.rep (i := 0) rfl)
 subst hc2
 refine o_alloc (cs := zT) hk hm tz_35 rfl rfl fun a b5 w hk hm => ?_
 refine o_store (i := 0) (b := b5) (off := 0) (v := .agg ([.int .i64 (telP sch_LeaderChangeMessage (gotP sch_LeaderChangeMessage ((k : Nat) : Int) (decide (((k : Nat) : Int) ≥ 0)) t)).n, c1, .bool (telP sch_LeaderChangeMessage (gotP sch_LeaderChangeMessage ((k : Nat) : Int) (decide (((k : Nat) : Int) ≥ 0)) t)).z, .slice c3 (telP sch_LeaderChangeMessage (gotP sch_LeaderChangeMessage ((k : Nat) : Int) (decide (((k : Nat) : Int) ≥ 0)) t)).l.length c4, c5] : List Value).toArray) (vs := [.int .i64 (telP sch_LeaderChangeMessage (gotP sch_LeaderChangeMessage ((k : Nat) : Int) (decide (((k : Nat) : Int) ≥ 0)) t)).n, c1, .bool (telP sch_LeaderChangeMessage (gotP sch_LeaderChangeMessage ((k : Nat) : Int) (decide (((k : Nat) : Int) ≥ 0)) t)).z, .slice c3 (telP sch_LeaderChangeMessage (gotP sch_LeaderChangeMessage ((k : Nat) : Int) (decide (((k : Nat) : Int) ≥ 0)) t)).l.length c4, c5]) (cs := zT) hk hm ts_35 rfl rfl (by simp [cellsOf]) rfl (rep_T_one (hm.rep (i := 1) rfl)) rfl (Nat.le_refl 5) fun a w hk hm => ?_
 have hm : Mem w0 Nob Y (putAt _ 0 (.blk b5 ([.int .i64 (telP sch_LeaderChangeMessage (gotP sch_LeaderChangeMessage ((k : Nat) : Int) (decide (((k : Nat) : Int) ≥ 0)) t)).n, c1, .bool (telP sch_LeaderChangeMessage (gotP sch_LeaderChangeMessage ((k : Nat) : Int) (decide (((k : Nat) : Int) ≥ 0)) t)).z, .slice c3 (telP sch_LeaderChangeMessage (gotP sch_LeaderChangeMessage ((k : Nat) : Int) (decide (((k : Nat) : Int) ≥ 0)) t)).l.length c4, c5]) 35)) w := hm
 refine cE0 ?_
 refine cR0 ?_
 refine oF0 hk fo_53_0 rfl rfl fun a hk => ?_
 refine o_load hk ts_47 rfl (hm.cell_cel (i := 4) (j := 0) rfl rfl) rfl fun a hk => ?_
 refine o_convInt (c := ((k : Nat) : Int)) hk un_47 ti_2 rfl (by simp only [IntKind.wrap, IntKind.bits, IntKind.signed]; simp; omega) rfl fun a hk => ?_
 refine oF0 hk fo_35_0 rfl rfl fun a hk => ?_
 refine o_store (i := 0) (b := b5) (off := 0) (v := .int .i64 ((k : Nat) : Int)) (vs := [.int .i64 ((k : Nat) : Int)]) (cs := [.int .i64 (telP sch_LeaderChangeMessage (gotP sch_LeaderChangeMessage ((k : Nat) : Int) (decide (((k : Nat) : Int) ≥ 0)) t)).n, c1, .bool (telP sch_LeaderChangeMessage (gotP sch_LeaderChangeMessage ((k : Nat) : Int) (decide (((k : Nat) : Int) ≥ 0)) t)).z, .slice c3 (telP sch_LeaderChangeMessage (gotP sch_LeaderChangeMessage ((k : Nat) : Int) (decide (((k : Nat) : Int) ≥ 0)) t)).l.length c4, c5]) hk hm ts_2 rfl rfl rfl rfl rfl rfl (Nat.le_add_left 1 4) fun a w hk hm => ?_
 have hm : Mem w0 Nob Y (putAt _ 0 (.blk b5 ([.int .i64 ((k : Nat) : Int), c1, .bool (telP sch_LeaderChangeMessage (gotP sch_LeaderChangeMessage ((k : Nat) : Int) (decide (((k : Nat) : Int) ≥ 0)) t)).z, .slice c3 (telP sch_LeaderChangeMessage (gotP sch_LeaderChangeMessage ((k : Nat) : Int) (decide (((k : Nat) : Int) ≥ 0)) t)).l.length c4, c5]) 35)) w := hm
 refine cE0 ?_
 refine cR0 ?_
 refine o_loadN (cs := [.int .i64 ((k : Nat) : Int), c1, .bool (telP sch_LeaderChangeMessage (gotP sch_LeaderChangeMessage ((k : Nat) : Int) (decide (((k : Nat) : Int) ≥ 0)) t)).z, .slice c3 (telP sch_LeaderChangeMessage (gotP sch_LeaderChangeMessage ((k : Nat) : Int) (decide (((k : Nat) : Int) ≥ 0)) t)).l.length c4, c5]) hk ts_35 rfl (hm.cells_blk (i := 0) (off := 0) rfl rfl) rfl fun a hk => ?_
 have hone : oneCells ([.int .i64 ((k : Nat) : Int), c1, .bool (telP sch_LeaderChangeMessage (gotP sch_LeaderChangeMessage ((k : Nat) : Int) (decide (((k : Nat) : Int) ≥ 0)) t)).z, .slice c3 (telP sch_LeaderChangeMessage (gotP sch_LeaderChangeMessage ((k : Nat) : Int) (decide (((k : Nat) : Int) ≥ 0)) t)).l.length c4, c5]) = true := by
  have := rep_T_one (hm.rep (i := 1) rfl)
  simpa [oneCells, Value.oneCell'] using this
 refine o_store (i := 5) (b := rb) (off := 0) (v := .agg ([.int .i64 ((k : Nat) : Int), c1, .bool (telP sch_LeaderChangeMessage (gotP sch_LeaderChangeMessage ((k : Nat) : Int) (decide (((k : Nat) : Int) ≥ 0)) t)).z, .slice c3 (telP sch_LeaderChangeMessage (gotP sch_LeaderChangeMessage ((k : Nat) : Int) (decide (((k : Nat) : Int) ≥ 0)) t)).l.length c4, c5] : List Value).toArray) (vs := [.int .i64 ((k : Nat) : Int), c1, .bool (telP sch_LeaderChangeMessage (gotP sch_LeaderChangeMessage ((k : Nat) : Int) (decide (((k : Nat) : Int) ≥ 0)) t)).z, .slice c3 (telP sch_LeaderChangeMessage (gotP sch_LeaderChangeMessage ((k : Nat) : Int) (decide (((k : Nat) : Int) ≥ 0)) t)).l.length c4, c5]) (cs := zT) hk hm ts_35 rfl rfl (by simp [cellsOf]) rfl hone rfl (Nat.le_refl 5) fun a w hk hm => ?_
 have hm : Mem w0 Nob Y (putAt _ 5 (.blk rb ([.int .i64 ((k : Nat) : Int), c1, .bool (telP sch_LeaderChangeMessage (gotP sch_LeaderChangeMessage ((k : Nat) : Int) (decide (((k : Nat) : Int) ≥ 0)) t)).z, .slice c3 (telP sch_LeaderChangeMessage (gotP sch_LeaderChangeMessage ((k : Nat) : Int) (decide (((k : Nat) : Int) ≥ 0)) t)).l.length c4, c5]) 35)) w := hm
 refine oA0 hk rfl rfl fun a hk => ?_
 refine cE0 ?_
 refine wp_ret ?_
 exact b_retCellTmp (i := 5) (cs := [.int .i64 ((k : Nat) : Int), c1, .bool (telP sch_LeaderChangeMessage (gotP sch_LeaderChangeMessage ((k : Nat) : Int) (decide (((k : Nat) : Int) ≥ 0)) t)).z, .slice c3 (telP sch_LeaderChangeMessage (gotP sch_LeaderChangeMessage ((k : Nat) : Int) (decide (((k : Nat) : Int) ≥ 0)) t)).l.length c4, c5]) rfl ts_35 hk hm rfl rfl rfl ⟨hm.agr, _, rfl, hm.out (rep_telK (hm.rep (i := 1) rfl))⟩
end Go.Proofs.YtoopklfabccmnaaDoor
