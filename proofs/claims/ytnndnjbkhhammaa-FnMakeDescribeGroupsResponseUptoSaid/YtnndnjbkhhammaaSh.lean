/- Walks of functions that the laws of this seat reach. No statement of the seat stands here. -/
import Derived.Test.YtnndnjbkhhammaaL2
import Derived.Test.YtnndnjbkhhammaaRows
import Derived.Test.YtnndnjbkhhammaaFa
import Derived.Test.YtnndnjbkhhammaaSg
namespace Go.Proofs.Ytnndnjbkhhammaa
open Go Go.Mk
def FitC (fs : List Fld) : Prop := ∀ {w0 : World} {Y : Nat → Prop} {t : T} {ct : List Value} {p : Option Addr} {cap : Nat} (V : Int), Rep w0 Y (.sl false 8 (fs.map ddFd)) [.slice p fs.length cap] → Rep w0 Y (ddT t) ct →
  Ret Try.prog 12 [.slice p fs.length cap, .int .i64 V, .agg ct.toArray] w0 fun v w' => Agr Nob w0 w' ∧ ∃ c', v = .agg c'.toArray ∧ Rep w' (fun b => b < w0.heap.size ∧ Y b) (ddT (fitP fs V t)) c'
def FittedC (f : Fld) : Prop := ∀ {w0 : World} {Y : Nat → Prop} {t : T} {cf ct : List Value} (V : Int), Rep w0 Y (ddFd f) cf → Rep w0 Y (ddT t) ct →
  Ret Try.prog 25 [.agg cf.toArray, .int .i64 V, .agg ct.toArray] w0 fun v w' => Agr Nob w0 w' ∧ ∃ c', v = .agg c'.toArray ∧ Rep w' (fun b => b < w0.heap.size ∧ Y b) (ddT (fitF f V t)) c'
theorem fit_walk {fs : List Fld} (hf : ∀ f ∈ fs, FittedC f) (hlen : fs.length ≤ 1000) (hok : tagsOk fs = true) : FitC fs := by
  intro w0 Y t ct p cap V hF hT
  rw [fitP_range]
  obtain ⟨pst, capst, pt, capt, put, caput, rfl⟩ := rep_T7 hT
  refine c_call Try.func12 rfl rfl fun a hk => ?_
  have hk : Kn 54 [(0, .slice p fs.length cap), (1, .int .i64 V), (2, .agg #[.int .i64 t.n, .slice pst t.s.length capst, .bool t.z, .slice pt t.l.length capt, .slice put t.u.length caput])] a := hk
  have hm : Mem w0 Nob Y [.rep (.sl false 8 (fs.map ddFd)) [.slice p fs.length cap], .rep (ddT t) [.int .i64 t.n, .slice pst t.s.length capst, .bool t.z, .slice pt t.l.length capt, .slice put t.u.length caput]] w0 := Mem.start rfl (by simp only [List.forall_mem_cons, List.not_mem_nil, false_imp_iff, implies_true, and_true]; exact ⟨hF, hT⟩)
  refine c_region ?_
  refine o_box hk hm rfl rfl rfl fun a b1 w hk hm => ?_
  refine o_alloc hk hm tz_26 rfl rfl fun a b2 w hk hm => ?_
  refine c_end ?_
  refine c_region ?_
  refine o_build (r := [.int .i64 0, .slice none 0 0, .bool false, .slice none 0 0, .slice none 0 0]) hk tz_26 rfl fok_26 rfl rfl fun a hk => ?_
  refine o_alloc hk hm tz_26 rfl rfl fun a b3 w hk hm => ?_
  refine o_store (i := 0) hk hm ts_26 rfl rfl rfl rfl rfl rfl (Nat.le_of_ble_eq_true rfl) fun a w hk hm => ?_
  refine c_end ?_
  refine wp_seq ?_
  refine c_region ?_
  refine o_move hk rfl rfl fun a hk => ?_
  refine o_lenSlice hk te_29 rfl rfl fun a hk => ?_
  refine o_move hk rfl rfl fun a hk => ?_
  refine c_end ?_
  have hm := hm.addNil 26 5
  have hm := hm.addEls 5
  refine c_range (L0 := [(0, .slice p fs.length cap), (1, .int .i64 V), (5, .pointer (some ⟨b1, 0, none⟩)), (6, .pointer (some ⟨b2, 0, none⟩)), (7, .pointer (some ⟨b3, 0, none⟩)), (13, .slice p fs.length cap)]) (N := fs.length) (by omega) (fun k L w => ∃ vr xs, L = [(0, .slice p fs.length cap), (1, .int .i64 V), (5, .pointer (some ⟨b1, 0, none⟩)), (6, .pointer (some ⟨b2, 0, none⟩)), (7, .pointer (some ⟨b3, 0, none⟩)), (13, .slice p fs.length cap)] ∧ Mem w0 Nob Y [.els 5 (((List.range k).map (fitAt fs V t)).map ddT) xs, .row 26 5 vr k xs, .blk b3 [.int .i64 0, .slice none 0 0, .bool false, vr, .slice none 0 0] 26, .blk b2 [.int .i64 0, .slice none 0 0, .bool false, .slice none 0 0, .slice none 0 0] 26, .blk b1 [.int .i64 t.n, .slice pst t.s.length capst, .bool t.z, .slice pt t.l.length capt, .slice put t.u.length caput] 26, .rep (.sl false 8 (fs.map ddFd)) [.slice p fs.length cap], .rep (ddT t) [.int .i64 t.n, .slice pst t.s.length capst, .bool t.z, .slice pt t.l.length capt, .slice put t.u.length caput]] w) (hk.sub ⟨rfl, rfl, rfl, rfl, rfl, rfl, rfl, rfl, trivial⟩) ⟨_, _, rfl, hm⟩ rfl rfl rfl rfl rfl rfl rfl (fun k L a w hlt hR hk => ?_) rfl (fun L a w hR hk => ?_)
  · obtain ⟨vr, xs, rfl, hm⟩ := hR
    obtain ⟨hltx, blx, offx, ex, hplx, helx, hRex, hCex⟩ := rep_sl_get (hm.rep (i := 5) rfl) (getD_map ddFd fs k FNIL hlt)
    obtain ⟨pfx, capfx, rfl, -⟩ := rep_Fd hRex
    have hm := hm.add (e := .rep (ddFd (fs.getD k FNIL)) [.int .i64 (((fs.getD k FNIL).kind : Nat) : Int), .int .i64 ((fs.getD k FNIL).fr), .int .i64 ((fs.getD k FNIL).to), .int .i64 ((fs.getD k FNIL).nu), .int .i64 ((fs.getD k FNIL).tag), .int .i64 ((fs.getD k FNIL).df), .int .i64 (((fs.getD k FNIL).of : Nat) : Int), .slice pfx ((fs.getD k FNIL).sub.length) capfx]) rfl hRex
    have hm := hm.add (e := .cel blx (offx + k * 8) [.int .i64 (((fs.getD k FNIL).kind : Nat) : Int), .int .i64 ((fs.getD k FNIL).fr), .int .i64 ((fs.getD k FNIL).to), .int .i64 ((fs.getD k FNIL).nu), .int .i64 ((fs.getD k FNIL).tag), .int .i64 ((fs.getD k FNIL).df), .int .i64 (((fs.getD k FNIL).of : Nat) : Int), .slice pfx ((fs.getD k FNIL).sub.length) capfx]) rfl hCex
    refine c_region ?_
    refine o_move hk rfl rfl fun a hk => ?_
    refine o_indexAddr (j := k) (b := blx) (off := offx) hk te_29 ts_50 (by rw [← hplx]; rfl) rfl hltx rfl fun a hk => ?_
    refine o_loadN (cs := [.int .i64 (((fs.getD k FNIL).kind : Nat) : Int), .int .i64 ((fs.getD k FNIL).fr), .int .i64 ((fs.getD k FNIL).to), .int .i64 ((fs.getD k FNIL).nu), .int .i64 ((fs.getD k FNIL).tag), .int .i64 ((fs.getD k FNIL).df), .int .i64 (((fs.getD k FNIL).of : Nat) : Int), .slice pfx ((fs.getD k FNIL).sub.length) capfx]) hk ts_50 rfl (hm.cells_cel (i := 0) (k := 0) rfl rfl) rfl fun a hk => ?_
    refine o_alloc hk hm tz_50 rfl rfl fun a b4 w hk hm => ?_
    refine o_assign hk rfl rfl fun a hk => ?_
    refine o_store (i := 0) hk hm ts_50 rfl rfl rfl rfl rfl rfl (Nat.le_of_ble_eq_true rfl) fun a w hk hm => ?_
    refine c_end ?_
    refine d_startM (K := 9) mixed hm fun w hm => ?_
    refine d_take (i := 0) rfl rfl rfl (by kernel_rfl) (fun _ _ _ h => h) hk rfl (fun w hm => r_fieldAddr hk fo_26_3 rfl) hm fun a hk => ?_
    refine d_take (i := 1) rfl rfl rfl (by kernel_rfl) (fun _ _ _ h => h) hk rfl (fun w hm => r_load1 hk ts_23 rfl (hm.cell_blk (i := 5) rfl rfl)) hm fun a hk => ?_
    refine d_take (i := 2) rfl rfl rfl (by kernel_rfl) (fun _ _ _ h => h) hk rfl (fun w hm => r_loadN (cs := [.int .i64 (((fs.getD k FNIL).kind : Nat) : Int), .int .i64 ((fs.getD k FNIL).fr), .int .i64 ((fs.getD k FNIL).to), .int .i64 ((fs.getD k FNIL).nu), .int .i64 ((fs.getD k FNIL).tag), .int .i64 ((fs.getD k FNIL).df), .int .i64 (((fs.getD k FNIL).of : Nat) : Int), .slice pfx ((fs.getD k FNIL).sub.length) capfx]) hk ts_50 rfl (hm.cells_blk (i := 0) rfl rfl)) hm fun a hk => ?_
    refine d_take (i := 3) rfl rfl rfl (by kernel_rfl) (fun _ _ _ h => h) hk rfl (fun w hm => r_move hk rfl) hm fun a hk => ?_
    refine d_take (i := 4) rfl rfl rfl (by kernel_rfl) (fun _ _ _ h => h) hk rfl (fun w hm => r_loadN (cs := [.int .i64 t.n, .slice pst t.s.length capst, .bool t.z, .slice pt t.l.length capt, .slice put t.u.length caput]) hk ts_26 rfl (hm.cells_blk (i := 7) rfl rfl)) hm fun a hk => ?_
    refine d_one (k := 5) (by kernel_rfl) rfl rfl ?_
    refine o_move hk rfl rfl fun a hk => ?_
    refine c_endQ (c_then ⟨fun _ => hm, ?_⟩)
    refine d_one (k := 6) (by kernel_rfl) rfl rfl ?_
    refine o_call hk cb_26 (at_spec (t := t) k (hm.rep (i := 9) rfl)) ⟨rfl, rfl, trivial⟩ rfl fun v w a hR hk => ?_
    obtain ⟨hp, ca1, rfl, hR⟩ := hR
    obtain ⟨psa1, capsa1, pa1, capa1, pua1, capua1, rfl⟩ := rep_T7 hR
    have hm := hm.result hp hR
    refine c_endQ (c_then ⟨fun _ => hm.tail, ?_⟩)
    refine d_one (k := 7) (by kernel_rfl) rfl rfl ?_
    refine o_call hk cb_25 (hf (fs.getD k FNIL) (getD_mem hlt) V (hm.rep (i := 3) rfl) (hm.rep (i := 0) rfl)) ⟨rfl, rfl, rfl, trivial⟩ rfl fun v w a hR hk => ?_
    obtain ⟨hp, cf, rfl, hR⟩ := hR
    obtain ⟨psf, capsf, pf, capf, puf, capuf, rfl⟩ := rep_T7 hR
    have hm := hm.result hp hR
    refine c_endQ (c_then ⟨fun _ => hm.tail.tail, ?_⟩)
    refine d_one (k := 8) (by kernel_rfl) rfl rfl ?_
    refine o_buildSlice (r := [.int .i64 ((fitAt fs V t k).n), .slice psf ((fitAt fs V t k).s.length) capsf, .bool ((fitAt fs V t k).z), .slice pf ((fitAt fs V t k).l.length) capf, .slice puf ((fitAt fs V t k).u.length) capuf]) hk hm rt_23 tz_26 rfl rfl rfl ⟨_, _, _, rfl, rfl, rfl, rfl, rfl⟩ rfl fun a b5 w hk hm => ?_
    refine c_endQ (c_then ⟨fun _ => hm.tail.tail.tail, ?_⟩)
    refine d_one (k := 9) (by kernel_rfl) rfl rfl ?_
    refine o_append (i := 7) hk hm rt_23 rfl rfl rfl (src_cells (k := 1) (news := [.int .i64 ((fitAt fs V t k).n), .slice psf ((fitAt fs V t k).s.length) capsf, .bool ((fitAt fs V t k).z), .slice pf ((fitAt fs V t k).l.length) capf, .slice puf ((fitAt fs V t k).u.length) capuf]) te_23 rfl (hm.cells_blk (i := 0) rfl rfl) rfl) (by unfold maxLen; omega) (by omega) rfl fun a v6 w hk hm hnilv6 => ?_
    refine c_endQ (c_then ⟨fun h => Bool.noConfusion (show true = false from h), ?_⟩)
    refine d_one (k := 10) (by kernel_rfl) rfl rfl ?_
    refine o_fieldAddr hk fo_26_3 rfl rfl fun a hk => ?_
    refine c_endQ (c_then ⟨fun h => Bool.noConfusion (show true = false from h), ?_⟩)
    refine d_one (k := 11) (by kernel_rfl) rfl rfl ?_
    refine o_store (i := 8) hk hm ts_23 rfl rfl (cells1 (row_one (hm.row (i := 7) rfl))) rfl (one1 (row_one (hm.row (i := 7) rfl))) rfl (Nat.le_of_ble_eq_true rfl) fun a w hk hm => ?_
    refine c_endQ (c_then ⟨fun h => Bool.noConfusion (show true = false from h), ?_⟩)
    refine d_done (by kernel_rfl) ?_ _
    refine c_inNormal ?_
    have hm := hm.elsPush (i := 6) (d := (ddT (fitAt fs V t k))) rfl (hm.rep (i := 1) rfl) rfl
    rw [← range_map_succ ddT (fitAt fs V t) k] at hm
    exact c_round (L' := [(0, .slice p fs.length cap), (1, .int .i64 V), (5, .pointer (some ⟨b1, 0, none⟩)), (6, .pointer (some ⟨b2, 0, none⟩)), (7, .pointer (some ⟨b3, 0, none⟩)), (13, .slice p fs.length cap)]) hk ⟨rfl, rfl, rfl, rfl, rfl, rfl, rfl, rfl, trivial⟩ rfl ⟨_, _, rfl, hm.tail.tail.tail.tail.tail.tail⟩
  · obtain ⟨vl1, xl1, rfl, hm⟩ := hR
    have hovl1 := row_one (hm.row (i := 1) rfl)
    have hm := hm.freezeRow (i := 1) (st := false) rfl (noX _) (hm.els (i := 0) rfl) (by simp) (fun _ => rfl)
    refine c_then ?_
    refine wp_seq ?_
    refine c_region ?_
    refine o_move hk rfl rfl fun a hk => ?_
    refine o_fieldAddr hk fo_26_4 rfl rfl fun a hk => ?_
    refine o_load hk ts_24 rfl (hm.cell_blk (i := 4) rfl rfl) rfl fun a hk => ?_
    refine o_call hk cb_27 (unknown_c (hm.rep (i := 5) rfl) (rep_T_u (hm.rep (i := 6) rfl)) (by omega) hok) ⟨rfl, rfl, trivial⟩ rfl fun v w a hR hk => ?_
    obtain ⟨hp, puu, cuu, rfl, hR⟩ := hR
    have hm := hm.result hp hR
    refine o_lenSlice hk te_24 rfl rfl fun a hk => ?_
    refine o_move hk rfl rfl fun a hk => ?_
    refine c_end ?_
    have hunl := unk_length fs t.u
    have hm := hm.addNil 67 2
    have hm := hm.addEls 2
    refine c_range (L0 := [(6, .pointer (some ⟨b2, 0, none⟩)), (7, .pointer (some ⟨b3, 0, none⟩)), (35, .slice puu ((unknownP fs t.u).length) cuu)]) (N := (unknownP fs t.u).length) (by omega) (fun k L w => ∃ vr xs, L = [(6, .pointer (some ⟨b2, 0, none⟩)), (7, .pointer (some ⟨b3, 0, none⟩)), (35, .slice puu ((unknownP fs t.u).length) cuu)] ∧ Mem w0 Nob Y [.els 2 ((((unknownP fs t.u).take k).map fitTag).map ddTag) xs, .row 67 2 vr k xs, .rep (ddTags (unknownP fs t.u)) [.slice puu ((unknownP fs t.u).length) cuu], .els 5 (((List.range fs.length).map (fitAt fs V t)).map ddT) xl1, .rep (.sl false 5 (((List.range fs.length).map (fitAt fs V t)).map ddT)) [vl1], .blk b3 [.int .i64 0, .slice none 0 0, .bool false, vl1, vr] 26, .blk b2 [.int .i64 0, .slice none 0 0, .bool false, .slice none 0 0, .slice none 0 0] 26, .blk b1 [.int .i64 t.n, .slice pst t.s.length capst, .bool t.z, .slice pt t.l.length capt, .slice put t.u.length caput] 26, .rep (.sl false 8 (fs.map ddFd)) [.slice p fs.length cap], .rep (ddT t) [.int .i64 t.n, .slice pst t.s.length capst, .bool t.z, .slice pt t.l.length capt, .slice put t.u.length caput]] w) (hk.sub ⟨rfl, rfl, rfl, rfl, rfl, trivial⟩) ⟨_, _, rfl, hm⟩ rfl rfl rfl rfl rfl rfl rfl (fun k L a w hlt hR hk => ?_) rfl (fun L a w hR hk => ?_)
    · obtain ⟨vr, xs, rfl, hm⟩ := hR
      obtain ⟨hlty, bly, offy, ey, hply, hely, hRey, hCey⟩ := rep_sl_get (hm.rep (i := 2) rfl) (getD_map ddTag (unknownP fs t.u) k (0, []) hlt)
      obtain ⟨pty, capty, rfl, -⟩ := rep_Tag hRey
      have hm := hm.add (e := .rep (ddTag ((unknownP fs t.u).getD k (0, []))) [.int .u32 ((((unknownP fs t.u).getD k (0, [])).1 : Nat) : Int), .slice pty (((unknownP fs t.u).getD k (0, [])).2.length) capty]) rfl hRey
      have hm := hm.add (e := .cel bly (offy + k * 2) [.int .u32 ((((unknownP fs t.u).getD k (0, [])).1 : Nat) : Int), .slice pty (((unknownP fs t.u).getD k (0, [])).2.length) capty]) rfl hCey
      refine c_region ?_
      refine o_indexAddr (j := k) (b := bly) (off := offy) hk te_24 ts_67 (by rw [← hply]; rfl) rfl hlty rfl fun a hk => ?_
      refine o_loadN (cs := [.int .u32 ((((unknownP fs t.u).getD k (0, [])).1 : Nat) : Int), .slice pty (((unknownP fs t.u).getD k (0, [])).2.length) capty]) hk ts_67 rfl (hm.cells_cel (i := 0) (k := 0) rfl rfl) rfl fun a hk => ?_
      refine o_alloc hk hm tz_67 rfl rfl fun a b7 w hk hm => ?_
      refine o_store (i := 0) hk hm ts_67 rfl rfl rfl rfl rfl rfl (Nat.le_of_ble_eq_true rfl) fun a w hk hm => ?_
      refine c_end ?_
      refine d_startM (K := 9) mixed hm fun w hm => ?_
      refine d_take (i := 0) rfl rfl rfl (by kernel_rfl) (fun _ _ _ h => h) hk rfl (fun w hm => r_fieldAddr hk fo_26_4 rfl) hm fun a hk => ?_
      refine d_take (i := 1) rfl rfl rfl (by kernel_rfl) (fun _ _ _ h => h) hk rfl (fun w hm => r_load1 hk ts_24 rfl (hm.cell_blk (i := 8) rfl rfl)) hm fun a hk => ?_
      refine d_take (i := 2) rfl rfl rfl (by kernel_rfl) (fun _ _ _ h => h) hk rfl (fun w hm => r_fieldAddr hk fo_67_0 rfl) hm fun a hk => ?_
      refine d_take (i := 3) rfl rfl rfl (by kernel_rfl) (fun _ _ _ h => h) hk rfl (fun w hm => r_load1 hk ts_65 rfl (hm.cell_blk (i := 0) rfl rfl)) hm fun a hk => ?_
      refine d_one (k := 4) (by kernel_rfl) rfl rfl ?_
      refine o_fieldAddr hk fo_67_1 rfl rfl fun a hk => ?_
      refine c_endQ (c_then ⟨fun _ => hm, ?_⟩)
      refine d_one (k := 5) (by kernel_rfl) rfl rfl ?_
      refine o_load hk ts_22 rfl (hm.cell_blk (i := 0) rfl rfl) rfl fun a hk => ?_
      refine c_endQ (c_then ⟨fun _ => hm, ?_⟩)
      refine d_one (k := 6) (by kernel_rfl) rfl rfl ?_
      refine o_call hk cb_28 (whole_c (rep_Tag2 (hm.rep (i := 2) rfl))) ⟨rfl, trivial⟩ rfl fun v w a hR hk => ?_
      obtain ⟨hp, rfl, hR⟩ := hR
      have hm := hm.result hp hR
      have hwl := whole_len (((unknownP fs t.u).getD k (0, [])).2)
      refine c_endQ (c_then ⟨fun _ => hm.tail, ?_⟩)
      refine d_one (k := 7) (by kernel_rfl) rfl rfl ?_
      refine o_build (r := [.int .u32 ((((unknownP fs t.u).getD k (0, [])).1 : Nat) : Int), .slice pty ((whole (((unknownP fs t.u).getD k (0, [])).2)).length) capty]) hk tz_67 rfl fok_67 ⟨_, _, _, rfl, rfl, fa_67_0, rfl, _, _, _, rfl, rfl, fa_67_1, rfl, rfl⟩ rfl fun a hk => ?_
      refine c_endQ (c_then ⟨fun _ => hm.tail, ?_⟩)
      refine d_one (k := 8) (by kernel_rfl) rfl rfl ?_
      refine o_buildSlice (r := [.int .u32 ((((unknownP fs t.u).getD k (0, [])).1 : Nat) : Int), .slice pty ((whole (((unknownP fs t.u).getD k (0, [])).2)).length) capty]) hk hm rt_24 tz_67 rfl rfl rfl ⟨_, _, _, rfl, rfl, rfl, rfl, rfl⟩ rfl fun a b8 w hk hm => ?_
      refine c_endQ (c_then ⟨fun _ => hm.tail.tail, ?_⟩)
      refine d_one (k := 9) (by kernel_rfl) rfl rfl ?_
      refine o_append (i := 6) hk hm rt_24 rfl rfl rfl (src_cells (k := 1) (news := [.int .u32 ((((unknownP fs t.u).getD k (0, [])).1 : Nat) : Int), .slice pty ((whole (((unknownP fs t.u).getD k (0, [])).2)).length) capty]) te_24 rfl (hm.cells_blk (i := 0) rfl rfl) rfl) (by unfold maxLen; omega) (by omega) rfl fun a v9 w hk hm hnilv9 => ?_
      refine c_endQ (c_then ⟨fun h => Bool.noConfusion (show true = false from h), ?_⟩)
      refine d_one (k := 10) (by kernel_rfl) rfl rfl ?_
      refine o_fieldAddr hk fo_26_4 rfl rfl fun a hk => ?_
      refine c_endQ (c_then ⟨fun h => Bool.noConfusion (show true = false from h), ?_⟩)
      refine d_one (k := 11) (by kernel_rfl) rfl rfl ?_
      refine o_store (i := 10) hk hm ts_24 rfl rfl (cells1 (row_one (hm.row (i := 6) rfl))) rfl (one1 (row_one (hm.row (i := 6) rfl))) rfl (Nat.le_of_ble_eq_true rfl) fun a w hk hm => ?_
      refine c_endQ (c_then ⟨fun h => Bool.noConfusion (show true = false from h), ?_⟩)
      refine d_done (by kernel_rfl) ?_ _
      refine c_inNormal ?_
      have hm := hm.elsPush (i := 5) (d := (ddTag (fitTag ((unknownP fs t.u).getD k (0, []))))) rfl (rep_Tag_mk (u := fitTag ((unknownP fs t.u).getD k (0, []))) (hm.rep (i := 1) rfl)) rfl
      rw [← take_map_succ ddTag fitTag (unknownP fs t.u) k (0, []) hlt] at hm
      exact c_round (L' := [(6, .pointer (some ⟨b2, 0, none⟩)), (7, .pointer (some ⟨b3, 0, none⟩)), (35, .slice puu ((unknownP fs t.u).length) cuu)]) hk ⟨rfl, rfl, rfl, rfl, rfl, trivial⟩ rfl ⟨_, _, rfl, hm.tail.tail.tail.tail.tail⟩
    · obtain ⟨vl2, xl2, rfl, hm⟩ := hR
      have hovl2 := row_one (hm.row (i := 1) rfl)
      have hm := hm.freezeRow (i := 1) (st := false) rfl (noX _) (hm.els (i := 0) rfl) (by simp only [List.length_map, List.length_take, Nat.min_self]) (fun _ => rfl)
      rw [List.take_length] at hm
      refine c_then ?_
      refine c_region ?_
      refine o_loadN (cs := [.int .i64 0, .slice none 0 0, .bool false, vl1, vl2]) hk ts_26 rfl (hm.cells_blk (i := 5) rfl rfl) rfl fun a hk => ?_
      refine o_store (i := 6) hk hm ts_26 rfl rfl rfl rfl (one_cons rfl (one_cons rfl (one_cons rfl (one_cons hovl1 (one_cons hovl2 rfl))))) rfl (Nat.le_of_ble_eq_true rfl) fun a w hk hm => ?_
      refine c_end ?_
      refine wp_ret ?_
      refine b_retCell (i := 6) (cs := [.int .i64 0, .slice none 0 0, .bool false, vl1, vl2]) rfl ts_26 hk hm rfl rfl ?_
      refine ⟨hm.agr, _, rfl, hm.out ?_⟩
      exact rep_T_mk (t := .mk 0 [] false ((List.range fs.length).map (fitAt fs V t)) (fitU fs t.u)) (by simp [Rep, ddBs, T.s]) (hm.rep (i := 4) rfl) (hm.rep (i := 1) rfl)
theorem fitted_walk {f : Fld} (hfit : FitC f.sub) (hone : f.kind = 11 → FittedC (oneOf f)) (hof : f.of ≤ 10) : FittedC f := by
  intro w0 Y t cf ct V hF hT
  obtain ⟨pf, capf, rfl, -⟩ := rep_Fd hF
  obtain ⟨pst, capst, pt, capt, put, caput, rfl⟩ := rep_T7 hT
  refine c_call Try.func25 rfl rfl fun a hk => ?_
  have hk : Kn 82 [(0, .agg #[.int .i64 ((f.kind : Nat) : Int), .int .i64 f.fr, .int .i64 f.to, .int .i64 f.nu, .int .i64 f.tag, .int .i64 f.df, .int .i64 ((f.of : Nat) : Int), .slice pf f.sub.length capf]), (1, .int .i64 V), (2, .agg #[.int .i64 t.n, .slice pst t.s.length capst, .bool t.z, .slice pt t.l.length capt, .slice put t.u.length caput])] a := hk
  have hm : Mem w0 Nob Y [.rep (ddFd f) [.int .i64 ((f.kind : Nat) : Int), .int .i64 f.fr, .int .i64 f.to, .int .i64 f.nu, .int .i64 f.tag, .int .i64 f.df, .int .i64 ((f.of : Nat) : Int), .slice pf f.sub.length capf], .rep (ddT t) [.int .i64 t.n, .slice pst t.s.length capst, .bool t.z, .slice pt t.l.length capt, .slice put t.u.length caput]] w0 := Mem.start rfl (by simp only [List.forall_mem_cons, List.not_mem_nil, false_imp_iff, implies_true, and_true]; exact ⟨hF, hT⟩)
  refine c_region ?_
  refine o_box hk hm rfl rfl rfl fun a b1 w hk hm => ?_
  refine o_box hk hm rfl rfl rfl fun a b2 w hk hm => ?_
  refine o_alloc hk hm tz_26 rfl rfl fun a b3 w hk hm => ?_
  refine c_end ?_
  refine c_region ?_
  refine o_loadN (cs := [.int .i64 ((f.kind : Nat) : Int), .int .i64 f.fr, .int .i64 f.to, .int .i64 f.nu, .int .i64 f.tag, .int .i64 f.df, .int .i64 ((f.of : Nat) : Int), .slice pf f.sub.length capf]) hk ts_50 rfl (hm.cells_blk (i := 2) rfl rfl) rfl fun a hk => ?_
  refine o_move hk rfl rfl fun a hk => ?_
  refine o_loadN (cs := [.int .i64 t.n, .slice pst t.s.length capst, .bool t.z, .slice pt t.l.length capt, .slice put t.u.length caput]) hk ts_26 rfl (hm.cells_blk (i := 1) rfl rfl) rfl fun a hk => ?_
  refine o_call hk cb_59 (null_c V (hm.rep (i := 3) rfl) (hm.rep (i := 4) rfl)) ⟨rfl, rfl, rfl, trivial⟩ rfl fun v w a hR hk => ?_
  obtain ⟨hp, rfl⟩ := hR
  have hm := hm.pure hp
  refine o_assign hk rfl rfl fun a hk => ?_
  refine c_end ?_
  refine wp_seq ?_
  refine c_region ?_
  refine o_fieldAddr hk fo_50_0 rfl rfl fun a hk => ?_
  refine o_load hk ts_3 rfl (hm.cell_blk (i := 2) rfl rfl) rfl fun a hk => ?_
  refine c_end ?_
  refine wp_block ?_
  refine wp_seq ?_
  refine c_region ?_
  refine o_icmp hk rfl rfl rfl rfl fun a hk => ?_
  refine o_assign hk rfl rfl fun a hk => ?_
  refine c_end ?_
  refine c_cond hk rfl (fun hc => ?_) (fun hc => ?_)
  · have hc4 := eq_of_beq hc
    refine wp_skip ?_
    refine c_then ?_
    refine c_cond hk rfl (fun hc => ?_) (fun hc => ?_)
    · have hc5 := eq_of_beq hc
      refine c_region ?_
      refine o_fieldAddr hk fo_26_1 rfl rfl fun a hk => ?_
      refine o_load hk ts_22 rfl (hm.cell_blk (i := 1) rfl rfl) rfl fun a hk => ?_
      refine o_call hk cb_28 (whole_c (rep_T_s (hm.rep (i := 4) rfl))) ⟨rfl, trivial⟩ rfl fun v w a hR hk => ?_
      obtain ⟨hp, rfl, hR⟩ := hR
      have hm := hm.result hp hR
      have hwl := whole_len t.s
      refine o_move hk rfl rfl fun a hk => ?_
      refine o_build (r := [.int .i64 0, .slice pst ((whole t.s).length) capst, .bool (f.null V t), .slice none 0 0, .slice none 0 0]) hk tz_26 rfl fok_26 ⟨_, _, _, rfl, rfl, fa_26_1, rfl, _, _, _, rfl, rfl, fa_26_2, rfl, rfl⟩ rfl fun a hk => ?_
      refine o_store (i := 1) hk hm ts_26 rfl rfl rfl rfl rfl rfl (Nat.le_of_ble_eq_true rfl) fun a w hk hm => ?_
      refine c_end ?_
      refine wp_ret ?_
      refine c_inRet ?_
      refine c_thenRet ?_
      refine b_retCell (i := 1) (cs := [.int .i64 0, .slice pst ((whole t.s).length) capst, .bool (f.null V t), .slice none 0 0, .slice none 0 0]) rfl ts_26 hk hm rfl rfl ?_
      refine ⟨hm.agr, _, rfl, hm.out ?_⟩
      rw [fitF_other (by omega), fitVal_text (by omega)]
      exact rep_T_mk (t := .mk 0 (whole t.s) (f.null V t) [] []) (hm.rep (i := 0) rfl) (by simp [Rep, T.l]) (by simp [Rep, ddTags, T.u])
    · have hc6 := beq_eq_false_iff_ne.1 hc
      refine c_region ?_
      refine o_icmp hk rfl rfl rfl rfl fun a hk => ?_
      refine o_assign hk rfl rfl fun a hk => ?_
      refine c_end ?_
      refine c_cond hk rfl (fun hc => ?_) (fun hc => ?_)
      · have hc7 := eq_of_beq hc
        refine c_region ?_
        refine o_fieldAddr hk fo_50_7 rfl rfl fun a hk => ?_
        refine o_load hk ts_29 rfl (hm.cell_blk (i := 2) rfl rfl) rfl fun a hk => ?_
        refine o_move hk rfl rfl fun a hk => ?_
        refine o_loadN (cs := [.int .i64 t.n, .slice pst t.s.length capst, .bool t.z, .slice pt t.l.length capt, .slice put t.u.length caput]) hk ts_26 rfl (hm.cells_blk (i := 1) rfl rfl) rfl fun a hk => ?_
        refine o_call hk cb_12 (hfit V (rep_Fd8 (hm.rep (i := 3) rfl)) (hm.rep (i := 4) rfl)) ⟨rfl, rfl, rfl, trivial⟩ rfl fun v w a hR hk => ?_
        obtain ⟨hp, cq, rfl, hR⟩ := hR
        obtain ⟨psq, capsq, pq, capq, puq, capuq, rfl⟩ := rep_T7 hR
        have hm := hm.result hp hR
        refine o_alloc hk hm tz_26 rfl rfl fun a b8 w hk hm => ?_
        refine o_store (i := 0) hk hm ts_26 rfl rfl rfl rfl rfl rfl (Nat.le_of_ble_eq_true rfl) fun a w hk hm => ?_
        refine c_end ?_
        refine c_region ?_
        refine o_move hk rfl rfl fun a hk => ?_
        refine o_fieldAddr hk fo_26_2 rfl rfl fun a hk => ?_
        refine o_store (i := 0) hk hm ts_4 rfl rfl rfl rfl rfl rfl (Nat.le_of_ble_eq_true rfl) fun a w hk hm => ?_
        refine c_end ?_
        refine c_region ?_
        refine o_loadN (cs := [.int .i64 ((fitP f.sub V t).n), .slice psq ((fitP f.sub V t).s.length) capsq, .bool (f.null V t), .slice pq ((fitP f.sub V t).l.length) capq, .slice puq ((fitP f.sub V t).u.length) capuq]) hk ts_26 rfl (hm.cells_blk (i := 0) rfl rfl) rfl fun a hk => ?_
        refine o_store (i := 2) hk hm ts_26 rfl rfl rfl rfl rfl rfl (Nat.le_of_ble_eq_true rfl) fun a w hk hm => ?_
        refine c_end ?_
        refine wp_ret ?_
        refine c_inRet ?_
        refine c_thenRet ?_
        refine b_retCell (i := 2) (cs := [.int .i64 ((fitP f.sub V t).n), .slice psq ((fitP f.sub V t).s.length) capsq, .bool (f.null V t), .slice pq ((fitP f.sub V t).l.length) capq, .slice puq ((fitP f.sub V t).u.length) capuq]) rfl ts_26 hk hm rfl rfl ?_
        refine ⟨hm.agr, _, rfl, hm.out ?_⟩
        rw [fitF_other (by omega), fitVal_part (by omega)]
        exact rep_T_mk (t := .mk (fitP f.sub V t).n (fitP f.sub V t).s (f.null V t) (fitP f.sub V t).l (fitP f.sub V t).u) (rep_T_s (t := fitP f.sub V t) (hm.rep (i := 1) rfl)) (rep_T_l (t := fitP f.sub V t) (hm.rep (i := 1) rfl)) (rep_T_u (t := fitP f.sub V t) (hm.rep (i := 1) rfl))
      · have hc9 := beq_eq_false_iff_ne.1 hc
        refine c_region ?_
        refine o_icmp hk rfl rfl rfl rfl fun a hk => ?_
        refine o_assign hk rfl rfl fun a hk => ?_
        refine c_end ?_
        refine c_cond hk rfl (fun hc => ?_) (fun hc => ?_)
        · have hc10 := eq_of_beq hc
          refine c_region ?_
          refine o_move hk rfl rfl fun a hk => ?_
          refine o_move hk rfl rfl fun a hk => ?_
          rcases Bool.eq_false_or_eq_true (f.null V t) with hb11 | hb11
          · rw [hb11] at hk
            refine o_skipV hk ⟨_, _, _, _, rfl, rfl, rfl, nb_tf⟩ rfl rfl fun a hk => ?_
            refine o_skipV hk ⟨_, _, _, _, rfl, rfl, rfl, nb_tf⟩ rfl rfl fun a hk => ?_
            refine o_skipV hk ⟨_, _, _, _, rfl, rfl, rfl, nb_tf⟩ rfl rfl fun a hk => ?_
            refine o_skipV hk ⟨_, _, _, _, rfl, rfl, rfl, nb_tf⟩ rfl rfl fun a hk => ?_
            refine o_skipV hk ⟨_, _, _, _, rfl, rfl, rfl, (nb_u _)⟩ rfl rfl fun a hk => ?_
            refine o_skipV hk ⟨_, _, _, _, rfl, rfl, rfl, (nb_u _)⟩ rfl rfl fun a hk => ?_
            refine o_skipV hk ⟨_, _, _, _, rfl, rfl, rfl, (nb_u _)⟩ rfl rfl fun a hk => ?_
            refine o_skipV hk ⟨_, _, _, _, rfl, rfl, rfl, (nb_u _)⟩ rfl rfl fun a hk => ?_
            refine o_skipV hk ⟨_, _, _, _, rfl, rfl, rfl, nb_tf⟩ rfl rfl fun a hk => ?_
            refine o_pick hk rfl rfl rfl rfl rfl fun a hk => ?_
            refine o_build (r := [.int .i64 0, .slice none 0 0, .bool true, .slice none 0 0, .slice none 0 0]) hk tz_26 rfl fok_26 ⟨_, _, _, rfl, rfl, fa_26_2, rfl, rfl⟩ rfl fun a hk => ?_
            refine o_alloc hk hm tz_26 rfl rfl fun a b12 w hk hm => ?_
            refine o_store (i := 0) hk hm ts_26 rfl rfl rfl rfl rfl rfl (Nat.le_of_ble_eq_true rfl) fun a w hk hm => ?_
            refine c_end ?_
            refine c_region ?_
            refine o_loadN (cs := [.int .i64 ((f.kind : Nat) : Int), .int .i64 f.fr, .int .i64 f.to, .int .i64 f.nu, .int .i64 f.tag, .int .i64 f.df, .int .i64 ((f.of : Nat) : Int), .slice pf f.sub.length capf]) hk ts_50 rfl (hm.cells_blk (i := 3) rfl rfl) rfl fun a hk => ?_
            refine o_alloc hk hm tz_50 rfl rfl fun a b13 w hk hm => ?_
            refine o_store (i := 0) hk hm ts_50 rfl rfl rfl rfl rfl rfl (Nat.le_of_ble_eq_true rfl) fun a w hk hm => ?_
            refine c_end ?_
            refine c_region ?_
            refine o_fieldAddr hk fo_50_6 rfl rfl fun a hk => ?_
            refine o_load hk ts_3 rfl (hm.cell_blk (i := 4) rfl rfl) rfl fun a hk => ?_
            refine o_fieldAddr hk fo_50_0 rfl rfl fun a hk => ?_
            refine o_store (i := 0) hk hm ts_3 rfl rfl rfl rfl rfl rfl (Nat.le_of_ble_eq_true rfl) fun a w hk hm => ?_
            refine o_fieldAddr hk fo_50_3 rfl rfl fun a hk => ?_
            refine o_store (i := 0) hk hm ts_3 rfl rfl rfl rfl rfl rfl (Nat.le_of_ble_eq_true rfl) fun a w hk hm => ?_
            refine o_fieldAddr hk fo_50_4 rfl rfl fun a hk => ?_
            refine o_store (i := 0) hk hm ts_3 rfl rfl rfl rfl rfl rfl (Nat.le_of_ble_eq_true rfl) fun a w hk hm => ?_
            refine c_end ?_
            refine wp_seq ?_
            refine c_region ?_
            refine o_fieldAddr hk fo_26_3 rfl rfl fun a hk => ?_
            refine o_load hk ts_23 rfl (hm.cell_blk (i := 3) rfl rfl) rfl fun a hk => ?_
            refine o_call hk cb_60 (things_c (rep_T_l (hm.rep (i := 6) rfl))) ⟨rfl, trivial⟩ rfl fun v w a hR hk => ?_
            obtain ⟨hp, rfl, hR⟩ := hR
            have hm := hm.result hp hR
            have htl := things_len t.l
            refine o_lenSlice hk te_23 rfl rfl fun a hk => ?_
            refine o_move hk rfl rfl fun a hk => ?_
            refine c_end ?_
            have h11 : f.kind = 11 := by omega
            have hm := hm.add (e := .rep (ddFd (oneOf f)) [.int .i64 ((f.of : Nat) : Int), .int .i64 f.fr, .int .i64 f.to, .int .i64 (-1), .int .i64 (-1), .int .i64 f.df, .int .i64 ((f.of : Nat) : Int), .slice pf f.sub.length capf]) rfl (rep_Fd_mk (rep_Fd8 (hm.rep (i := 6) rfl)))
            have hm := hm.addNil 26 5
            have hm := hm.addEls 5
            refine c_range (L0 := [(1, .int .i64 V), (5, .pointer (some ⟨b2, 0, none⟩)), (6, .pointer (some ⟨b3, 0, none⟩)), (9, .pointer (some ⟨b12, 0, none⟩)), (10, .pointer (some ⟨b13, 0, none⟩)), (60, .slice pt ((things t.l).length) capt)]) (N := (things t.l).length) (by omega) (fun k L w => ∃ vr xs, L = [(1, .int .i64 V), (5, .pointer (some ⟨b2, 0, none⟩)), (6, .pointer (some ⟨b3, 0, none⟩)), (9, .pointer (some ⟨b12, 0, none⟩)), (10, .pointer (some ⟨b13, 0, none⟩)), (60, .slice pt ((things t.l).length) capt)] ∧ Mem w0 Nob Y [.els 5 ((((things t.l).take k).map (fitF (oneOf f) V)).map ddT) xs, .row 26 5 vr k xs, .rep (ddFd (oneOf f)) [.int .i64 ((f.of : Nat) : Int), .int .i64 f.fr, .int .i64 f.to, .int .i64 (-1), .int .i64 (-1), .int .i64 f.df, .int .i64 ((f.of : Nat) : Int), .slice pf f.sub.length capf], .rep (.sl false 5 ((things t.l).map ddT)) [.slice pt ((things t.l).length) capt], .blk b13 [.int .i64 ((f.of : Nat) : Int), .int .i64 f.fr, .int .i64 f.to, .int .i64 (-1), .int .i64 (-1), .int .i64 f.df, .int .i64 ((f.of : Nat) : Int), .slice pf f.sub.length capf] 50, .blk b12 [.int .i64 0, .slice none 0 0, .bool true, vr, .slice none 0 0] 26, .blk b3 [.int .i64 0, .slice none 0 0, .bool false, .slice none 0 0, .slice none 0 0] 26, .blk b2 [.int .i64 t.n, .slice pst t.s.length capst, .bool t.z, .slice pt t.l.length capt, .slice put t.u.length caput] 26, .blk b1 [.int .i64 ((f.kind : Nat) : Int), .int .i64 f.fr, .int .i64 f.to, .int .i64 f.nu, .int .i64 f.tag, .int .i64 f.df, .int .i64 ((f.of : Nat) : Int), .slice pf f.sub.length capf] 50, .rep (ddFd f) [.int .i64 ((f.kind : Nat) : Int), .int .i64 f.fr, .int .i64 f.to, .int .i64 f.nu, .int .i64 f.tag, .int .i64 f.df, .int .i64 ((f.of : Nat) : Int), .slice pf f.sub.length capf], .rep (ddT t) [.int .i64 t.n, .slice pst t.s.length capst, .bool t.z, .slice pt t.l.length capt, .slice put t.u.length caput]] w) (hk.sub ⟨rfl, rfl, rfl, rfl, rfl, rfl, rfl, rfl, trivial⟩) ⟨_, _, rfl, hm⟩ rfl rfl rfl rfl rfl rfl rfl (fun k L a w hlt hR hk => ?_) rfl (fun L a w hR hk => ?_)
            · obtain ⟨vr, xs, rfl, hm⟩ := hR
              obtain ⟨hltx, blx, offx, ex, hplx, helx, hRex, hCex⟩ := rep_sl_get (hm.rep (i := 3) rfl) (getD_map ddT (things t.l) k T.nil hlt)
              obtain ⟨psx, capsx, px, capx, pux, capux, rfl⟩ := rep_T7 hRex
              have hm := hm.add (e := .rep (ddT ((things t.l).getD k T.nil)) [.int .i64 (((things t.l).getD k T.nil).n), .slice psx (((things t.l).getD k T.nil).s.length) capsx, .bool (((things t.l).getD k T.nil).z), .slice px (((things t.l).getD k T.nil).l.length) capx, .slice pux (((things t.l).getD k T.nil).u.length) capux]) rfl hRex
              have hm := hm.add (e := .cel blx (offx + k * 5) [.int .i64 (((things t.l).getD k T.nil).n), .slice psx (((things t.l).getD k T.nil).s.length) capsx, .bool (((things t.l).getD k T.nil).z), .slice px (((things t.l).getD k T.nil).l.length) capx, .slice pux (((things t.l).getD k T.nil).u.length) capux]) rfl hCex
              refine c_region ?_
              refine o_indexAddr (j := k) (b := blx) (off := offx) hk te_23 ts_26 (by rw [← hplx]; rfl) rfl hltx rfl fun a hk => ?_
              refine o_loadN (cs := [.int .i64 (((things t.l).getD k T.nil).n), .slice psx (((things t.l).getD k T.nil).s.length) capsx, .bool (((things t.l).getD k T.nil).z), .slice px (((things t.l).getD k T.nil).l.length) capx, .slice pux (((things t.l).getD k T.nil).u.length) capux]) hk ts_26 rfl (hm.cells_cel (i := 0) (k := 0) rfl rfl) rfl fun a hk => ?_
              refine o_alloc hk hm tz_26 rfl rfl fun a b14 w hk hm => ?_
              refine o_store (i := 0) hk hm ts_26 rfl rfl rfl rfl rfl rfl (Nat.le_of_ble_eq_true rfl) fun a w hk hm => ?_
              refine c_end ?_
              refine d_startM (K := 7) mixed hm fun w hm => ?_
              refine d_take (i := 0) rfl rfl rfl (by kernel_rfl) (fun _ _ _ h => h) hk rfl (fun w hm => r_fieldAddr hk fo_26_3 rfl) hm fun a hk => ?_
              refine d_take (i := 1) rfl rfl rfl (by kernel_rfl) (fun _ _ _ h => h) hk rfl (fun w hm => r_load1 hk ts_23 rfl (hm.cell_blk (i := 8) rfl rfl)) hm fun a hk => ?_
              refine d_take (i := 2) rfl rfl rfl (by kernel_rfl) (fun _ _ _ h => h) hk rfl (fun w hm => r_loadN (cs := [.int .i64 ((f.of : Nat) : Int), .int .i64 f.fr, .int .i64 f.to, .int .i64 (-1), .int .i64 (-1), .int .i64 f.df, .int .i64 ((f.of : Nat) : Int), .slice pf f.sub.length capf]) hk ts_50 rfl (hm.cells_blk (i := 7) rfl rfl)) hm fun a hk => ?_
              refine d_take (i := 3) rfl rfl rfl (by kernel_rfl) (fun _ _ _ h => h) hk rfl (fun w hm => r_move hk rfl) hm fun a hk => ?_
              refine d_one (k := 4) (by kernel_rfl) rfl rfl ?_
              refine o_loadN (cs := [.int .i64 (((things t.l).getD k T.nil).n), .slice psx (((things t.l).getD k T.nil).s.length) capsx, .bool (((things t.l).getD k T.nil).z), .slice px (((things t.l).getD k T.nil).l.length) capx, .slice pux (((things t.l).getD k T.nil).u.length) capux]) hk ts_26 rfl (hm.cells_blk (i := 0) rfl rfl) rfl fun a hk => ?_
              refine c_endQ (c_then ⟨fun _ => hm, ?_⟩)
              refine d_one (k := 5) (by kernel_rfl) rfl rfl ?_
              refine o_call hk cb_25 (hone h11 V (hm.rep (i := 5) rfl) (hm.rep (i := 2) rfl)) ⟨rfl, rfl, rfl, trivial⟩ rfl fun v w a hR hk => ?_
              obtain ⟨hp, cg, rfl, hR⟩ := hR
              obtain ⟨psg, capsg, pg, capg, pug, capug, rfl⟩ := rep_T7 hR
              have hm := hm.result hp hR
              refine c_endQ (c_then ⟨fun _ => hm.tail, ?_⟩)
              refine d_one (k := 6) (by kernel_rfl) rfl rfl ?_
              refine o_buildSlice (r := [.int .i64 ((fitF (oneOf f) V ((things t.l).getD k T.nil)).n), .slice psg ((fitF (oneOf f) V ((things t.l).getD k T.nil)).s.length) capsg, .bool ((fitF (oneOf f) V ((things t.l).getD k T.nil)).z), .slice pg ((fitF (oneOf f) V ((things t.l).getD k T.nil)).l.length) capg, .slice pug ((fitF (oneOf f) V ((things t.l).getD k T.nil)).u.length) capug]) hk hm rt_23 tz_26 rfl rfl rfl ⟨_, _, _, rfl, rfl, rfl, rfl, rfl⟩ rfl fun a b15 w hk hm => ?_
              refine c_endQ (c_then ⟨fun _ => hm.tail.tail, ?_⟩)
              refine d_one (k := 7) (by kernel_rfl) rfl rfl ?_
              refine o_append (i := 6) hk hm rt_23 rfl rfl rfl (src_cells (k := 1) (news := [.int .i64 ((fitF (oneOf f) V ((things t.l).getD k T.nil)).n), .slice psg ((fitF (oneOf f) V ((things t.l).getD k T.nil)).s.length) capsg, .bool ((fitF (oneOf f) V ((things t.l).getD k T.nil)).z), .slice pg ((fitF (oneOf f) V ((things t.l).getD k T.nil)).l.length) capg, .slice pug ((fitF (oneOf f) V ((things t.l).getD k T.nil)).u.length) capug]) te_23 rfl (hm.cells_blk (i := 0) rfl rfl) rfl) (by unfold maxLen; omega) (by omega) rfl fun a v16 w hk hm hnilv16 => ?_
              refine c_endQ (c_then ⟨fun h => Bool.noConfusion (show true = false from h), ?_⟩)
              refine d_one (k := 8) (by kernel_rfl) rfl rfl ?_
              refine o_fieldAddr hk fo_26_3 rfl rfl fun a hk => ?_
              refine c_endQ (c_then ⟨fun h => Bool.noConfusion (show true = false from h), ?_⟩)
              refine d_one (k := 9) (by kernel_rfl) rfl rfl ?_
              refine o_store (i := 10) hk hm ts_23 rfl rfl (cells1 (row_one (hm.row (i := 6) rfl))) rfl (one1 (row_one (hm.row (i := 6) rfl))) rfl (Nat.le_of_ble_eq_true rfl) fun a w hk hm => ?_
              refine c_endQ (c_then ⟨fun h => Bool.noConfusion (show true = false from h), ?_⟩)
              refine d_done (by kernel_rfl) ?_ _
              refine c_inNormal ?_
              have hm := hm.elsPush (i := 5) (d := (ddT (fitF (oneOf f) V ((things t.l).getD k T.nil)))) rfl (hm.rep (i := 1) rfl) rfl
              rw [← take_map_succ ddT (fitF (oneOf f) V) (things t.l) k T.nil hlt] at hm
              exact c_round (L' := [(1, .int .i64 V), (5, .pointer (some ⟨b2, 0, none⟩)), (6, .pointer (some ⟨b3, 0, none⟩)), (9, .pointer (some ⟨b12, 0, none⟩)), (10, .pointer (some ⟨b13, 0, none⟩)), (60, .slice pt ((things t.l).length) capt)]) hk ⟨rfl, rfl, rfl, rfl, rfl, rfl, rfl, rfl, trivial⟩ rfl ⟨_, _, rfl, hm.tail.tail.tail.tail.tail⟩
            · obtain ⟨vl1, xl1, rfl, hm⟩ := hR
              have hovl1 := row_one (hm.row (i := 1) rfl)
              have hm := hm.freezeRow (i := 1) (st := false) rfl (noX _) (hm.els (i := 0) rfl) (by simp only [List.length_map, List.length_take, Nat.min_self]) (fun _ => rfl)
              rw [List.take_length] at hm
              refine c_then ?_
              refine c_region ?_
              refine o_loadN (cs := [.int .i64 0, .slice none 0 0, .bool true, vl1, .slice none 0 0]) hk ts_26 rfl (hm.cells_blk (i := 5) rfl rfl) rfl fun a hk => ?_
              refine o_store (i := 6) hk hm ts_26 rfl rfl rfl rfl (one_cons rfl (one_cons rfl (one_cons rfl (one_cons hovl1 (one_cons rfl rfl))))) rfl (Nat.le_of_ble_eq_true rfl) fun a w hk hm => ?_
              refine c_end ?_
              refine wp_ret ?_
              refine c_inRet ?_
              refine c_thenRet ?_
              refine b_retCell (i := 6) (cs := [.int .i64 0, .slice none 0 0, .bool true, vl1, .slice none 0 0]) rfl ts_26 hk hm rfl rfl ?_
              refine ⟨hm.agr, _, rfl, hm.out ?_⟩
              rw [fitF_list h11 hof]
              have hz : true = (f.null V t || (decide (f.tag ≥ 0) && decide (t.l.length = 0))) := Bool.eq_iff_iff.2 (by simp [hb11])
              rw [show Value.bool (true) = Value.bool (f.null V t || (decide (f.tag ≥ 0) && decide (t.l.length = 0))) from congrArg Value.bool hz]
              exact rep_T_mk (t := .mk 0 [] (f.null V t || (decide (f.tag ≥ 0) && decide (t.l.length = 0))) ((things t.l).map (fitF (oneOf f) V)) []) (by simp [Rep, ddBs, T.s]) (hm.rep (i := 1) rfl) (by simp [Rep, ddTags, T.u])
          · rw [hb11] at hk
            refine o_want (o' := _) hk ⟨_, _, _, rfl, rfl, rfl⟩ rfl ?_
            refine o_fieldAddr hk fo_50_4 rfl rfl fun a hk => ?_
            refine o_want (o' := _) hk ⟨_, _, _, rfl, rfl, rfl⟩ rfl ?_
            refine o_load hk ts_3 rfl (hm.cell_blk (i := 2) rfl rfl) rfl fun a hk => ?_
            refine o_want (o' := _) hk ⟨_, _, _, rfl, rfl, rfl⟩ rfl ?_
            refine o_icmp hk rfl rfl rfl rfl fun a hk => ?_
            refine o_want (o' := _) hk ⟨_, _, _, rfl, rfl, rfl⟩ rfl ?_
            refine o_move hk rfl rfl fun a hk => ?_
            rcases Bool.eq_false_or_eq_true (decide ((f.tag : Int) ≥ 0)) with hb17 | hb17
            · rw [hb17] at hk
              refine o_want (o' := _) hk ⟨_, _, _, rfl, rfl, rfl⟩ rfl ?_
              refine o_fieldAddr hk fo_26_3 rfl rfl fun a hk => ?_
              refine o_want (o' := _) hk ⟨_, _, _, rfl, rfl, rfl⟩ rfl ?_
              refine o_load hk ts_23 rfl (hm.cell_blk (i := 1) rfl rfl) rfl fun a hk => ?_
              refine o_want (o' := _) hk ⟨_, _, _, rfl, rfl, rfl⟩ rfl ?_
              refine o_lenSlice hk te_23 rfl rfl fun a hk => ?_
              refine o_want (o' := _) hk ⟨_, _, _, rfl, rfl, rfl⟩ rfl ?_
              refine o_icmp hk rfl rfl rfl rfl fun a hk => ?_
              refine o_want (o' := _) hk ⟨_, _, _, rfl, rfl, rfl⟩ rfl ?_
              refine o_pick hk rfl rfl rfl rfl rfl fun a hk => ?_
              refine o_pick hk rfl rfl rfl rfl rfl fun a hk => ?_
              refine o_build (r := [.int .i64 0, .slice none 0 0, .bool ((((t.l.length : Nat) : Int) : Int) == 0), .slice none 0 0, .slice none 0 0]) hk tz_26 rfl fok_26 ⟨_, _, _, rfl, rfl, fa_26_2, rfl, rfl⟩ rfl fun a hk => ?_
              refine o_alloc hk hm tz_26 rfl rfl fun a b18 w hk hm => ?_
              refine o_store (i := 0) hk hm ts_26 rfl rfl rfl rfl rfl rfl (Nat.le_of_ble_eq_true rfl) fun a w hk hm => ?_
              refine c_end ?_
              refine c_region ?_
              refine o_loadN (cs := [.int .i64 ((f.kind : Nat) : Int), .int .i64 f.fr, .int .i64 f.to, .int .i64 f.nu, .int .i64 f.tag, .int .i64 f.df, .int .i64 ((f.of : Nat) : Int), .slice pf f.sub.length capf]) hk ts_50 rfl (hm.cells_blk (i := 3) rfl rfl) rfl fun a hk => ?_
              refine o_alloc hk hm tz_50 rfl rfl fun a b19 w hk hm => ?_
              refine o_store (i := 0) hk hm ts_50 rfl rfl rfl rfl rfl rfl (Nat.le_of_ble_eq_true rfl) fun a w hk hm => ?_
              refine c_end ?_
              refine c_region ?_
              refine o_fieldAddr hk fo_50_6 rfl rfl fun a hk => ?_
              refine o_load hk ts_3 rfl (hm.cell_blk (i := 4) rfl rfl) rfl fun a hk => ?_
              refine o_fieldAddr hk fo_50_0 rfl rfl fun a hk => ?_
              refine o_store (i := 0) hk hm ts_3 rfl rfl rfl rfl rfl rfl (Nat.le_of_ble_eq_true rfl) fun a w hk hm => ?_
              refine o_fieldAddr hk fo_50_3 rfl rfl fun a hk => ?_
              refine o_store (i := 0) hk hm ts_3 rfl rfl rfl rfl rfl rfl (Nat.le_of_ble_eq_true rfl) fun a w hk hm => ?_
              refine o_fieldAddr hk fo_50_4 rfl rfl fun a hk => ?_
              refine o_store (i := 0) hk hm ts_3 rfl rfl rfl rfl rfl rfl (Nat.le_of_ble_eq_true rfl) fun a w hk hm => ?_
              refine c_end ?_
              refine wp_seq ?_
              refine c_region ?_
              refine o_fieldAddr hk fo_26_3 rfl rfl fun a hk => ?_
              refine o_load hk ts_23 rfl (hm.cell_blk (i := 3) rfl rfl) rfl fun a hk => ?_
              refine o_call hk cb_60 (things_c (rep_T_l (hm.rep (i := 6) rfl))) ⟨rfl, trivial⟩ rfl fun v w a hR hk => ?_
              obtain ⟨hp, rfl, hR⟩ := hR
              have hm := hm.result hp hR
              have htl := things_len t.l
              refine o_lenSlice hk te_23 rfl rfl fun a hk => ?_
              refine o_move hk rfl rfl fun a hk => ?_
              refine c_end ?_
              have h11 : f.kind = 11 := by omega
              have hm := hm.add (e := .rep (ddFd (oneOf f)) [.int .i64 ((f.of : Nat) : Int), .int .i64 f.fr, .int .i64 f.to, .int .i64 (-1), .int .i64 (-1), .int .i64 f.df, .int .i64 ((f.of : Nat) : Int), .slice pf f.sub.length capf]) rfl (rep_Fd_mk (rep_Fd8 (hm.rep (i := 6) rfl)))
              have hm := hm.addNil 26 5
              have hm := hm.addEls 5
              refine c_range (L0 := [(1, .int .i64 V), (5, .pointer (some ⟨b2, 0, none⟩)), (6, .pointer (some ⟨b3, 0, none⟩)), (9, .pointer (some ⟨b18, 0, none⟩)), (10, .pointer (some ⟨b19, 0, none⟩)), (60, .slice pt ((things t.l).length) capt)]) (N := (things t.l).length) (by omega) (fun k L w => ∃ vr xs, L = [(1, .int .i64 V), (5, .pointer (some ⟨b2, 0, none⟩)), (6, .pointer (some ⟨b3, 0, none⟩)), (9, .pointer (some ⟨b18, 0, none⟩)), (10, .pointer (some ⟨b19, 0, none⟩)), (60, .slice pt ((things t.l).length) capt)] ∧ Mem w0 Nob Y [.els 5 ((((things t.l).take k).map (fitF (oneOf f) V)).map ddT) xs, .row 26 5 vr k xs, .rep (ddFd (oneOf f)) [.int .i64 ((f.of : Nat) : Int), .int .i64 f.fr, .int .i64 f.to, .int .i64 (-1), .int .i64 (-1), .int .i64 f.df, .int .i64 ((f.of : Nat) : Int), .slice pf f.sub.length capf], .rep (.sl false 5 ((things t.l).map ddT)) [.slice pt ((things t.l).length) capt], .blk b19 [.int .i64 ((f.of : Nat) : Int), .int .i64 f.fr, .int .i64 f.to, .int .i64 (-1), .int .i64 (-1), .int .i64 f.df, .int .i64 ((f.of : Nat) : Int), .slice pf f.sub.length capf] 50, .blk b18 [.int .i64 0, .slice none 0 0, .bool ((((t.l.length : Nat) : Int) : Int) == 0), vr, .slice none 0 0] 26, .blk b3 [.int .i64 0, .slice none 0 0, .bool false, .slice none 0 0, .slice none 0 0] 26, .blk b2 [.int .i64 t.n, .slice pst t.s.length capst, .bool t.z, .slice pt t.l.length capt, .slice put t.u.length caput] 26, .blk b1 [.int .i64 ((f.kind : Nat) : Int), .int .i64 f.fr, .int .i64 f.to, .int .i64 f.nu, .int .i64 f.tag, .int .i64 f.df, .int .i64 ((f.of : Nat) : Int), .slice pf f.sub.length capf] 50, .rep (ddFd f) [.int .i64 ((f.kind : Nat) : Int), .int .i64 f.fr, .int .i64 f.to, .int .i64 f.nu, .int .i64 f.tag, .int .i64 f.df, .int .i64 ((f.of : Nat) : Int), .slice pf f.sub.length capf], .rep (ddT t) [.int .i64 t.n, .slice pst t.s.length capst, .bool t.z, .slice pt t.l.length capt, .slice put t.u.length caput]] w) (hk.sub ⟨rfl, rfl, rfl, rfl, rfl, rfl, rfl, rfl, trivial⟩) ⟨_, _, rfl, hm⟩ rfl rfl rfl rfl rfl rfl rfl (fun k L a w hlt hR hk => ?_) rfl (fun L a w hR hk => ?_)
              · obtain ⟨vr, xs, rfl, hm⟩ := hR
                obtain ⟨hltx, blx, offx, ex, hplx, helx, hRex, hCex⟩ := rep_sl_get (hm.rep (i := 3) rfl) (getD_map ddT (things t.l) k T.nil hlt)
                obtain ⟨psx, capsx, px, capx, pux, capux, rfl⟩ := rep_T7 hRex
                have hm := hm.add (e := .rep (ddT ((things t.l).getD k T.nil)) [.int .i64 (((things t.l).getD k T.nil).n), .slice psx (((things t.l).getD k T.nil).s.length) capsx, .bool (((things t.l).getD k T.nil).z), .slice px (((things t.l).getD k T.nil).l.length) capx, .slice pux (((things t.l).getD k T.nil).u.length) capux]) rfl hRex
                have hm := hm.add (e := .cel blx (offx + k * 5) [.int .i64 (((things t.l).getD k T.nil).n), .slice psx (((things t.l).getD k T.nil).s.length) capsx, .bool (((things t.l).getD k T.nil).z), .slice px (((things t.l).getD k T.nil).l.length) capx, .slice pux (((things t.l).getD k T.nil).u.length) capux]) rfl hCex
                refine c_region ?_
                refine o_indexAddr (j := k) (b := blx) (off := offx) hk te_23 ts_26 (by rw [← hplx]; rfl) rfl hltx rfl fun a hk => ?_
                refine o_loadN (cs := [.int .i64 (((things t.l).getD k T.nil).n), .slice psx (((things t.l).getD k T.nil).s.length) capsx, .bool (((things t.l).getD k T.nil).z), .slice px (((things t.l).getD k T.nil).l.length) capx, .slice pux (((things t.l).getD k T.nil).u.length) capux]) hk ts_26 rfl (hm.cells_cel (i := 0) (k := 0) rfl rfl) rfl fun a hk => ?_
                refine o_alloc hk hm tz_26 rfl rfl fun a b20 w hk hm => ?_
                refine o_store (i := 0) hk hm ts_26 rfl rfl rfl rfl rfl rfl (Nat.le_of_ble_eq_true rfl) fun a w hk hm => ?_
                refine c_end ?_
                refine d_startM (K := 7) mixed hm fun w hm => ?_
                refine d_take (i := 0) rfl rfl rfl (by kernel_rfl) (fun _ _ _ h => h) hk rfl (fun w hm => r_fieldAddr hk fo_26_3 rfl) hm fun a hk => ?_
                refine d_take (i := 1) rfl rfl rfl (by kernel_rfl) (fun _ _ _ h => h) hk rfl (fun w hm => r_load1 hk ts_23 rfl (hm.cell_blk (i := 8) rfl rfl)) hm fun a hk => ?_
                refine d_take (i := 2) rfl rfl rfl (by kernel_rfl) (fun _ _ _ h => h) hk rfl (fun w hm => r_loadN (cs := [.int .i64 ((f.of : Nat) : Int), .int .i64 f.fr, .int .i64 f.to, .int .i64 (-1), .int .i64 (-1), .int .i64 f.df, .int .i64 ((f.of : Nat) : Int), .slice pf f.sub.length capf]) hk ts_50 rfl (hm.cells_blk (i := 7) rfl rfl)) hm fun a hk => ?_
                refine d_take (i := 3) rfl rfl rfl (by kernel_rfl) (fun _ _ _ h => h) hk rfl (fun w hm => r_move hk rfl) hm fun a hk => ?_
                refine d_one (k := 4) (by kernel_rfl) rfl rfl ?_
                refine o_loadN (cs := [.int .i64 (((things t.l).getD k T.nil).n), .slice psx (((things t.l).getD k T.nil).s.length) capsx, .bool (((things t.l).getD k T.nil).z), .slice px (((things t.l).getD k T.nil).l.length) capx, .slice pux (((things t.l).getD k T.nil).u.length) capux]) hk ts_26 rfl (hm.cells_blk (i := 0) rfl rfl) rfl fun a hk => ?_
                refine c_endQ (c_then ⟨fun _ => hm, ?_⟩)
                refine d_one (k := 5) (by kernel_rfl) rfl rfl ?_
                refine o_call hk cb_25 (hone h11 V (hm.rep (i := 5) rfl) (hm.rep (i := 2) rfl)) ⟨rfl, rfl, rfl, trivial⟩ rfl fun v w a hR hk => ?_
                obtain ⟨hp, cg, rfl, hR⟩ := hR
                obtain ⟨psg, capsg, pg, capg, pug, capug, rfl⟩ := rep_T7 hR
                have hm := hm.result hp hR
                refine c_endQ (c_then ⟨fun _ => hm.tail, ?_⟩)
                refine d_one (k := 6) (by kernel_rfl) rfl rfl ?_
                refine o_buildSlice (r := [.int .i64 ((fitF (oneOf f) V ((things t.l).getD k T.nil)).n), .slice psg ((fitF (oneOf f) V ((things t.l).getD k T.nil)).s.length) capsg, .bool ((fitF (oneOf f) V ((things t.l).getD k T.nil)).z), .slice pg ((fitF (oneOf f) V ((things t.l).getD k T.nil)).l.length) capg, .slice pug ((fitF (oneOf f) V ((things t.l).getD k T.nil)).u.length) capug]) hk hm rt_23 tz_26 rfl rfl rfl ⟨_, _, _, rfl, rfl, rfl, rfl, rfl⟩ rfl fun a b21 w hk hm => ?_
                refine c_endQ (c_then ⟨fun _ => hm.tail.tail, ?_⟩)
                refine d_one (k := 7) (by kernel_rfl) rfl rfl ?_
                refine o_append (i := 6) hk hm rt_23 rfl rfl rfl (src_cells (k := 1) (news := [.int .i64 ((fitF (oneOf f) V ((things t.l).getD k T.nil)).n), .slice psg ((fitF (oneOf f) V ((things t.l).getD k T.nil)).s.length) capsg, .bool ((fitF (oneOf f) V ((things t.l).getD k T.nil)).z), .slice pg ((fitF (oneOf f) V ((things t.l).getD k T.nil)).l.length) capg, .slice pug ((fitF (oneOf f) V ((things t.l).getD k T.nil)).u.length) capug]) te_23 rfl (hm.cells_blk (i := 0) rfl rfl) rfl) (by unfold maxLen; omega) (by omega) rfl fun a v22 w hk hm hnilv22 => ?_
                refine c_endQ (c_then ⟨fun h => Bool.noConfusion (show true = false from h), ?_⟩)
                refine d_one (k := 8) (by kernel_rfl) rfl rfl ?_
                refine o_fieldAddr hk fo_26_3 rfl rfl fun a hk => ?_
                refine c_endQ (c_then ⟨fun h => Bool.noConfusion (show true = false from h), ?_⟩)
                refine d_one (k := 9) (by kernel_rfl) rfl rfl ?_
                refine o_store (i := 10) hk hm ts_23 rfl rfl (cells1 (row_one (hm.row (i := 6) rfl))) rfl (one1 (row_one (hm.row (i := 6) rfl))) rfl (Nat.le_of_ble_eq_true rfl) fun a w hk hm => ?_
                refine c_endQ (c_then ⟨fun h => Bool.noConfusion (show true = false from h), ?_⟩)
                refine d_done (by kernel_rfl) ?_ _
                refine c_inNormal ?_
                have hm := hm.elsPush (i := 5) (d := (ddT (fitF (oneOf f) V ((things t.l).getD k T.nil)))) rfl (hm.rep (i := 1) rfl) rfl
                rw [← take_map_succ ddT (fitF (oneOf f) V) (things t.l) k T.nil hlt] at hm
                exact c_round (L' := [(1, .int .i64 V), (5, .pointer (some ⟨b2, 0, none⟩)), (6, .pointer (some ⟨b3, 0, none⟩)), (9, .pointer (some ⟨b18, 0, none⟩)), (10, .pointer (some ⟨b19, 0, none⟩)), (60, .slice pt ((things t.l).length) capt)]) hk ⟨rfl, rfl, rfl, rfl, rfl, rfl, rfl, rfl, trivial⟩ rfl ⟨_, _, rfl, hm.tail.tail.tail.tail.tail⟩
              · obtain ⟨vl2, xl2, rfl, hm⟩ := hR
                have hovl2 := row_one (hm.row (i := 1) rfl)
                have hm := hm.freezeRow (i := 1) (st := false) rfl (noX _) (hm.els (i := 0) rfl) (by simp only [List.length_map, List.length_take, Nat.min_self]) (fun _ => rfl)
                rw [List.take_length] at hm
                refine c_then ?_
                refine c_region ?_
                refine o_loadN (cs := [.int .i64 0, .slice none 0 0, .bool ((((t.l.length : Nat) : Int) : Int) == 0), vl2, .slice none 0 0]) hk ts_26 rfl (hm.cells_blk (i := 5) rfl rfl) rfl fun a hk => ?_
                refine o_store (i := 6) hk hm ts_26 rfl rfl rfl rfl (one_cons rfl (one_cons rfl (one_cons rfl (one_cons hovl2 (one_cons rfl rfl))))) rfl (Nat.le_of_ble_eq_true rfl) fun a w hk hm => ?_
                refine c_end ?_
                refine wp_ret ?_
                refine c_inRet ?_
                refine c_thenRet ?_
                refine b_retCell (i := 6) (cs := [.int .i64 0, .slice none 0 0, .bool ((((t.l.length : Nat) : Int) : Int) == 0), vl2, .slice none 0 0]) rfl ts_26 hk hm rfl rfl ?_
                refine ⟨hm.agr, _, rfl, hm.out ?_⟩
                rw [fitF_list h11 hof]
                have hz : ((((t.l.length : Nat) : Int) : Int) == 0) = (f.null V t || (decide (f.tag ≥ 0) && decide (t.l.length = 0))) := Bool.eq_iff_iff.2 (by simp [hb11, hb17])
                rw [show Value.bool (((((t.l.length : Nat) : Int) : Int) == 0)) = Value.bool (f.null V t || (decide (f.tag ≥ 0) && decide (t.l.length = 0))) from congrArg Value.bool hz]
                exact rep_T_mk (t := .mk 0 [] (f.null V t || (decide (f.tag ≥ 0) && decide (t.l.length = 0))) ((things t.l).map (fitF (oneOf f) V)) []) (by simp [Rep, ddBs, T.s]) (hm.rep (i := 1) rfl) (by simp [Rep, ddTags, T.u])
            · rw [hb17] at hk
              refine o_skipV hk ⟨_, _, _, _, rfl, rfl, rfl, nb_ft⟩ rfl rfl fun a hk => ?_
              refine o_skipV hk ⟨_, _, _, _, rfl, rfl, rfl, nb_ft⟩ rfl rfl fun a hk => ?_
              refine o_skipV hk ⟨_, _, _, _, rfl, rfl, rfl, nb_ft⟩ rfl rfl fun a hk => ?_
              refine o_skipV hk ⟨_, _, _, _, rfl, rfl, rfl, nb_ft⟩ rfl rfl fun a hk => ?_
              refine o_want (o' := _) hk ⟨_, _, _, rfl, rfl, rfl⟩ rfl ?_
              refine o_pick hk rfl rfl rfl rfl rfl fun a hk => ?_
              refine o_pick hk rfl rfl rfl rfl rfl fun a hk => ?_
              refine o_build (r := [.int .i64 0, .slice none 0 0, .bool false, .slice none 0 0, .slice none 0 0]) hk tz_26 rfl fok_26 ⟨_, _, _, rfl, rfl, fa_26_2, rfl, rfl⟩ rfl fun a hk => ?_
              refine o_alloc hk hm tz_26 rfl rfl fun a b23 w hk hm => ?_
              refine o_store (i := 0) hk hm ts_26 rfl rfl rfl rfl rfl rfl (Nat.le_of_ble_eq_true rfl) fun a w hk hm => ?_
              refine c_end ?_
              refine c_region ?_
              refine o_loadN (cs := [.int .i64 ((f.kind : Nat) : Int), .int .i64 f.fr, .int .i64 f.to, .int .i64 f.nu, .int .i64 f.tag, .int .i64 f.df, .int .i64 ((f.of : Nat) : Int), .slice pf f.sub.length capf]) hk ts_50 rfl (hm.cells_blk (i := 3) rfl rfl) rfl fun a hk => ?_
              refine o_alloc hk hm tz_50 rfl rfl fun a b24 w hk hm => ?_
              refine o_store (i := 0) hk hm ts_50 rfl rfl rfl rfl rfl rfl (Nat.le_of_ble_eq_true rfl) fun a w hk hm => ?_
              refine c_end ?_
              refine c_region ?_
              refine o_fieldAddr hk fo_50_6 rfl rfl fun a hk => ?_
              refine o_load hk ts_3 rfl (hm.cell_blk (i := 4) rfl rfl) rfl fun a hk => ?_
              refine o_fieldAddr hk fo_50_0 rfl rfl fun a hk => ?_
              refine o_store (i := 0) hk hm ts_3 rfl rfl rfl rfl rfl rfl (Nat.le_of_ble_eq_true rfl) fun a w hk hm => ?_
              refine o_fieldAddr hk fo_50_3 rfl rfl fun a hk => ?_
              refine o_store (i := 0) hk hm ts_3 rfl rfl rfl rfl rfl rfl (Nat.le_of_ble_eq_true rfl) fun a w hk hm => ?_
              refine o_fieldAddr hk fo_50_4 rfl rfl fun a hk => ?_
              refine o_store (i := 0) hk hm ts_3 rfl rfl rfl rfl rfl rfl (Nat.le_of_ble_eq_true rfl) fun a w hk hm => ?_
              refine c_end ?_
              refine wp_seq ?_
              refine c_region ?_
              refine o_fieldAddr hk fo_26_3 rfl rfl fun a hk => ?_
              refine o_load hk ts_23 rfl (hm.cell_blk (i := 3) rfl rfl) rfl fun a hk => ?_
              refine o_call hk cb_60 (things_c (rep_T_l (hm.rep (i := 6) rfl))) ⟨rfl, trivial⟩ rfl fun v w a hR hk => ?_
              obtain ⟨hp, rfl, hR⟩ := hR
              have hm := hm.result hp hR
              have htl := things_len t.l
              refine o_lenSlice hk te_23 rfl rfl fun a hk => ?_
              refine o_move hk rfl rfl fun a hk => ?_
              refine c_end ?_
              have h11 : f.kind = 11 := by omega
              have hm := hm.add (e := .rep (ddFd (oneOf f)) [.int .i64 ((f.of : Nat) : Int), .int .i64 f.fr, .int .i64 f.to, .int .i64 (-1), .int .i64 (-1), .int .i64 f.df, .int .i64 ((f.of : Nat) : Int), .slice pf f.sub.length capf]) rfl (rep_Fd_mk (rep_Fd8 (hm.rep (i := 6) rfl)))
              have hm := hm.addNil 26 5
              have hm := hm.addEls 5
              refine c_range (L0 := [(1, .int .i64 V), (5, .pointer (some ⟨b2, 0, none⟩)), (6, .pointer (some ⟨b3, 0, none⟩)), (9, .pointer (some ⟨b23, 0, none⟩)), (10, .pointer (some ⟨b24, 0, none⟩)), (60, .slice pt ((things t.l).length) capt)]) (N := (things t.l).length) (by omega) (fun k L w => ∃ vr xs, L = [(1, .int .i64 V), (5, .pointer (some ⟨b2, 0, none⟩)), (6, .pointer (some ⟨b3, 0, none⟩)), (9, .pointer (some ⟨b23, 0, none⟩)), (10, .pointer (some ⟨b24, 0, none⟩)), (60, .slice pt ((things t.l).length) capt)] ∧ Mem w0 Nob Y [.els 5 ((((things t.l).take k).map (fitF (oneOf f) V)).map ddT) xs, .row 26 5 vr k xs, .rep (ddFd (oneOf f)) [.int .i64 ((f.of : Nat) : Int), .int .i64 f.fr, .int .i64 f.to, .int .i64 (-1), .int .i64 (-1), .int .i64 f.df, .int .i64 ((f.of : Nat) : Int), .slice pf f.sub.length capf], .rep (.sl false 5 ((things t.l).map ddT)) [.slice pt ((things t.l).length) capt], .blk b24 [.int .i64 ((f.of : Nat) : Int), .int .i64 f.fr, .int .i64 f.to, .int .i64 (-1), .int .i64 (-1), .int .i64 f.df, .int .i64 ((f.of : Nat) : Int), .slice pf f.sub.length capf] 50, .blk b23 [.int .i64 0, .slice none 0 0, .bool false, vr, .slice none 0 0] 26, .blk b3 [.int .i64 0, .slice none 0 0, .bool false, .slice none 0 0, .slice none 0 0] 26, .blk b2 [.int .i64 t.n, .slice pst t.s.length capst, .bool t.z, .slice pt t.l.length capt, .slice put t.u.length caput] 26, .blk b1 [.int .i64 ((f.kind : Nat) : Int), .int .i64 f.fr, .int .i64 f.to, .int .i64 f.nu, .int .i64 f.tag, .int .i64 f.df, .int .i64 ((f.of : Nat) : Int), .slice pf f.sub.length capf] 50, .rep (ddFd f) [.int .i64 ((f.kind : Nat) : Int), .int .i64 f.fr, .int .i64 f.to, .int .i64 f.nu, .int .i64 f.tag, .int .i64 f.df, .int .i64 ((f.of : Nat) : Int), .slice pf f.sub.length capf], .rep (ddT t) [.int .i64 t.n, .slice pst t.s.length capst, .bool t.z, .slice pt t.l.length capt, .slice put t.u.length caput]] w) (hk.sub ⟨rfl, rfl, rfl, rfl, rfl, rfl, rfl, rfl, trivial⟩) ⟨_, _, rfl, hm⟩ rfl rfl rfl rfl rfl rfl rfl (fun k L a w hlt hR hk => ?_) rfl (fun L a w hR hk => ?_)
              · obtain ⟨vr, xs, rfl, hm⟩ := hR
                obtain ⟨hltx, blx, offx, ex, hplx, helx, hRex, hCex⟩ := rep_sl_get (hm.rep (i := 3) rfl) (getD_map ddT (things t.l) k T.nil hlt)
                obtain ⟨psx, capsx, px, capx, pux, capux, rfl⟩ := rep_T7 hRex
                have hm := hm.add (e := .rep (ddT ((things t.l).getD k T.nil)) [.int .i64 (((things t.l).getD k T.nil).n), .slice psx (((things t.l).getD k T.nil).s.length) capsx, .bool (((things t.l).getD k T.nil).z), .slice px (((things t.l).getD k T.nil).l.length) capx, .slice pux (((things t.l).getD k T.nil).u.length) capux]) rfl hRex
                have hm := hm.add (e := .cel blx (offx + k * 5) [.int .i64 (((things t.l).getD k T.nil).n), .slice psx (((things t.l).getD k T.nil).s.length) capsx, .bool (((things t.l).getD k T.nil).z), .slice px (((things t.l).getD k T.nil).l.length) capx, .slice pux (((things t.l).getD k T.nil).u.length) capux]) rfl hCex
                refine c_region ?_
                refine o_indexAddr (j := k) (b := blx) (off := offx) hk te_23 ts_26 (by rw [← hplx]; rfl) rfl hltx rfl fun a hk => ?_
                refine o_loadN (cs := [.int .i64 (((things t.l).getD k T.nil).n), .slice psx (((things t.l).getD k T.nil).s.length) capsx, .bool (((things t.l).getD k T.nil).z), .slice px (((things t.l).getD k T.nil).l.length) capx, .slice pux (((things t.l).getD k T.nil).u.length) capux]) hk ts_26 rfl (hm.cells_cel (i := 0) (k := 0) rfl rfl) rfl fun a hk => ?_
                refine o_alloc hk hm tz_26 rfl rfl fun a b25 w hk hm => ?_
                refine o_store (i := 0) hk hm ts_26 rfl rfl rfl rfl rfl rfl (Nat.le_of_ble_eq_true rfl) fun a w hk hm => ?_
                refine c_end ?_
                refine d_startM (K := 7) mixed hm fun w hm => ?_
                refine d_take (i := 0) rfl rfl rfl (by kernel_rfl) (fun _ _ _ h => h) hk rfl (fun w hm => r_fieldAddr hk fo_26_3 rfl) hm fun a hk => ?_
                refine d_take (i := 1) rfl rfl rfl (by kernel_rfl) (fun _ _ _ h => h) hk rfl (fun w hm => r_load1 hk ts_23 rfl (hm.cell_blk (i := 8) rfl rfl)) hm fun a hk => ?_
                refine d_take (i := 2) rfl rfl rfl (by kernel_rfl) (fun _ _ _ h => h) hk rfl (fun w hm => r_loadN (cs := [.int .i64 ((f.of : Nat) : Int), .int .i64 f.fr, .int .i64 f.to, .int .i64 (-1), .int .i64 (-1), .int .i64 f.df, .int .i64 ((f.of : Nat) : Int), .slice pf f.sub.length capf]) hk ts_50 rfl (hm.cells_blk (i := 7) rfl rfl)) hm fun a hk => ?_
                refine d_take (i := 3) rfl rfl rfl (by kernel_rfl) (fun _ _ _ h => h) hk rfl (fun w hm => r_move hk rfl) hm fun a hk => ?_
                refine d_one (k := 4) (by kernel_rfl) rfl rfl ?_
                refine o_loadN (cs := [.int .i64 (((things t.l).getD k T.nil).n), .slice psx (((things t.l).getD k T.nil).s.length) capsx, .bool (((things t.l).getD k T.nil).z), .slice px (((things t.l).getD k T.nil).l.length) capx, .slice pux (((things t.l).getD k T.nil).u.length) capux]) hk ts_26 rfl (hm.cells_blk (i := 0) rfl rfl) rfl fun a hk => ?_
                refine c_endQ (c_then ⟨fun _ => hm, ?_⟩)
                refine d_one (k := 5) (by kernel_rfl) rfl rfl ?_
                refine o_call hk cb_25 (hone h11 V (hm.rep (i := 5) rfl) (hm.rep (i := 2) rfl)) ⟨rfl, rfl, rfl, trivial⟩ rfl fun v w a hR hk => ?_
                obtain ⟨hp, cg, rfl, hR⟩ := hR
                obtain ⟨psg, capsg, pg, capg, pug, capug, rfl⟩ := rep_T7 hR
                have hm := hm.result hp hR
                refine c_endQ (c_then ⟨fun _ => hm.tail, ?_⟩)
                refine d_one (k := 6) (by kernel_rfl) rfl rfl ?_
                refine o_buildSlice (r := [.int .i64 ((fitF (oneOf f) V ((things t.l).getD k T.nil)).n), .slice psg ((fitF (oneOf f) V ((things t.l).getD k T.nil)).s.length) capsg, .bool ((fitF (oneOf f) V ((things t.l).getD k T.nil)).z), .slice pg ((fitF (oneOf f) V ((things t.l).getD k T.nil)).l.length) capg, .slice pug ((fitF (oneOf f) V ((things t.l).getD k T.nil)).u.length) capug]) hk hm rt_23 tz_26 rfl rfl rfl ⟨_, _, _, rfl, rfl, rfl, rfl, rfl⟩ rfl fun a b26 w hk hm => ?_
                refine c_endQ (c_then ⟨fun _ => hm.tail.tail, ?_⟩)
                refine d_one (k := 7) (by kernel_rfl) rfl rfl ?_
                refine o_append (i := 6) hk hm rt_23 rfl rfl rfl (src_cells (k := 1) (news := [.int .i64 ((fitF (oneOf f) V ((things t.l).getD k T.nil)).n), .slice psg ((fitF (oneOf f) V ((things t.l).getD k T.nil)).s.length) capsg, .bool ((fitF (oneOf f) V ((things t.l).getD k T.nil)).z), .slice pg ((fitF (oneOf f) V ((things t.l).getD k T.nil)).l.length) capg, .slice pug ((fitF (oneOf f) V ((things t.l).getD k T.nil)).u.length) capug]) te_23 rfl (hm.cells_blk (i := 0) rfl rfl) rfl) (by unfold maxLen; omega) (by omega) rfl fun a v27 w hk hm hnilv27 => ?_
                refine c_endQ (c_then ⟨fun h => Bool.noConfusion (show true = false from h), ?_⟩)
                refine d_one (k := 8) (by kernel_rfl) rfl rfl ?_
                refine o_fieldAddr hk fo_26_3 rfl rfl fun a hk => ?_
                refine c_endQ (c_then ⟨fun h => Bool.noConfusion (show true = false from h), ?_⟩)
                refine d_one (k := 9) (by kernel_rfl) rfl rfl ?_
                refine o_store (i := 10) hk hm ts_23 rfl rfl (cells1 (row_one (hm.row (i := 6) rfl))) rfl (one1 (row_one (hm.row (i := 6) rfl))) rfl (Nat.le_of_ble_eq_true rfl) fun a w hk hm => ?_
                refine c_endQ (c_then ⟨fun h => Bool.noConfusion (show true = false from h), ?_⟩)
                refine d_done (by kernel_rfl) ?_ _
                refine c_inNormal ?_
                have hm := hm.elsPush (i := 5) (d := (ddT (fitF (oneOf f) V ((things t.l).getD k T.nil)))) rfl (hm.rep (i := 1) rfl) rfl
                rw [← take_map_succ ddT (fitF (oneOf f) V) (things t.l) k T.nil hlt] at hm
                exact c_round (L' := [(1, .int .i64 V), (5, .pointer (some ⟨b2, 0, none⟩)), (6, .pointer (some ⟨b3, 0, none⟩)), (9, .pointer (some ⟨b23, 0, none⟩)), (10, .pointer (some ⟨b24, 0, none⟩)), (60, .slice pt ((things t.l).length) capt)]) hk ⟨rfl, rfl, rfl, rfl, rfl, rfl, rfl, rfl, trivial⟩ rfl ⟨_, _, rfl, hm.tail.tail.tail.tail.tail⟩
              · obtain ⟨vl3, xl3, rfl, hm⟩ := hR
                have hovl3 := row_one (hm.row (i := 1) rfl)
                have hm := hm.freezeRow (i := 1) (st := false) rfl (noX _) (hm.els (i := 0) rfl) (by simp only [List.length_map, List.length_take, Nat.min_self]) (fun _ => rfl)
                rw [List.take_length] at hm
                refine c_then ?_
                refine c_region ?_
                refine o_loadN (cs := [.int .i64 0, .slice none 0 0, .bool false, vl3, .slice none 0 0]) hk ts_26 rfl (hm.cells_blk (i := 5) rfl rfl) rfl fun a hk => ?_
                refine o_store (i := 6) hk hm ts_26 rfl rfl rfl rfl (one_cons rfl (one_cons rfl (one_cons rfl (one_cons hovl3 (one_cons rfl rfl))))) rfl (Nat.le_of_ble_eq_true rfl) fun a w hk hm => ?_
                refine c_end ?_
                refine wp_ret ?_
                refine c_inRet ?_
                refine c_thenRet ?_
                refine b_retCell (i := 6) (cs := [.int .i64 0, .slice none 0 0, .bool false, vl3, .slice none 0 0]) rfl ts_26 hk hm rfl rfl ?_
                refine ⟨hm.agr, _, rfl, hm.out ?_⟩
                rw [fitF_list h11 hof]
                have hz : false = (f.null V t || (decide (f.tag ≥ 0) && decide (t.l.length = 0))) := Bool.eq_iff_iff.2 (by simp [hb11, hb17])
                rw [show Value.bool (false) = Value.bool (f.null V t || (decide (f.tag ≥ 0) && decide (t.l.length = 0))) from congrArg Value.bool hz]
                exact rep_T_mk (t := .mk 0 [] (f.null V t || (decide (f.tag ≥ 0) && decide (t.l.length = 0))) ((things t.l).map (fitF (oneOf f) V)) []) (by simp [Rep, ddBs, T.s]) (hm.rep (i := 1) rfl) (by simp [Rep, ddTags, T.u])
        · have hc28 := beq_eq_false_iff_ne.1 hc
          refine wp_skip ?_
          refine c_inNormal ?_
          refine c_then ?_
          refine c_region ?_
          refine o_fieldAddr hk fo_26_0 rfl rfl fun a hk => ?_
          refine o_load hk ts_2 rfl (hm.cell_blk (i := 1) rfl rfl) rfl fun a hk => ?_
          refine o_fieldAddr hk fo_26_1 rfl rfl fun a hk => ?_
          refine o_load hk ts_22 rfl (hm.cell_blk (i := 1) rfl rfl) rfl fun a hk => ?_
          refine o_build (r := [.int .i64 t.n, .slice pst t.s.length capst, .bool false, .slice none 0 0, .slice none 0 0]) hk tz_26 rfl fok_26 ⟨_, _, _, rfl, rfl, fa_26_0, rfl, _, _, _, rfl, rfl, fa_26_1, rfl, rfl⟩ rfl fun a hk => ?_
          refine o_store (i := 0) hk hm ts_26 rfl rfl rfl rfl rfl rfl (Nat.le_of_ble_eq_true rfl) fun a w hk hm => ?_
          refine c_end ?_
          refine wp_ret ?_
          refine b_retCell (i := 0) (cs := [.int .i64 t.n, .slice pst t.s.length capst, .bool false, .slice none 0 0, .slice none 0 0]) rfl ts_26 hk hm rfl rfl ?_
          refine ⟨hm.agr, _, rfl, hm.out ?_⟩
          rw [fitF_other (by omega), fitVal_num (by omega) (by omega) (by omega)]
          exact rep_T_mk (t := .mk t.n t.s false [] []) (rep_T_s (t := t) (hm.rep (i := 4) rfl)) (by simp [Rep, T.l]) (by simp [Rep, ddTags, T.u])
  · have hc29 := beq_eq_false_iff_ne.1 hc
    refine c_reg ?_
    refine o_icmp hk rfl rfl rfl rfl fun a hk => ?_
    refine o_assign hk rfl rfl fun a hk => ?_
    refine c_endQ ?_
    refine c_then ?_
    refine c_cond hk rfl (fun hc => ?_) (fun hc => ?_)
    · have hc30 := eq_of_beq hc
      refine c_region ?_
      refine o_fieldAddr hk fo_26_1 rfl rfl fun a hk => ?_
      refine o_load hk ts_22 rfl (hm.cell_blk (i := 1) rfl rfl) rfl fun a hk => ?_
      refine o_call hk cb_28 (whole_c (rep_T_s (hm.rep (i := 4) rfl))) ⟨rfl, trivial⟩ rfl fun v w a hR hk => ?_
      obtain ⟨hp, rfl, hR⟩ := hR
      have hm := hm.result hp hR
      have hwl := whole_len t.s
      refine o_move hk rfl rfl fun a hk => ?_
      refine o_build (r := [.int .i64 0, .slice pst ((whole t.s).length) capst, .bool (f.null V t), .slice none 0 0, .slice none 0 0]) hk tz_26 rfl fok_26 ⟨_, _, _, rfl, rfl, fa_26_1, rfl, _, _, _, rfl, rfl, fa_26_2, rfl, rfl⟩ rfl fun a hk => ?_
      refine o_store (i := 1) hk hm ts_26 rfl rfl rfl rfl rfl rfl (Nat.le_of_ble_eq_true rfl) fun a w hk hm => ?_
      refine c_end ?_
      refine wp_ret ?_
      refine c_inRet ?_
      refine c_thenRet ?_
      refine b_retCell (i := 1) (cs := [.int .i64 0, .slice pst ((whole t.s).length) capst, .bool (f.null V t), .slice none 0 0, .slice none 0 0]) rfl ts_26 hk hm rfl rfl ?_
      refine ⟨hm.agr, _, rfl, hm.out ?_⟩
      rw [fitF_other (by omega), fitVal_text (by omega)]
      exact rep_T_mk (t := .mk 0 (whole t.s) (f.null V t) [] []) (hm.rep (i := 0) rfl) (by simp [Rep, T.l]) (by simp [Rep, ddTags, T.u])
    · have hc31 := beq_eq_false_iff_ne.1 hc
      refine c_region ?_
      refine o_icmp hk rfl rfl rfl rfl fun a hk => ?_
      refine o_assign hk rfl rfl fun a hk => ?_
      refine c_end ?_
      refine c_cond hk rfl (fun hc => ?_) (fun hc => ?_)
      · have hc32 := eq_of_beq hc
        refine c_region ?_
        refine o_fieldAddr hk fo_50_7 rfl rfl fun a hk => ?_
        refine o_load hk ts_29 rfl (hm.cell_blk (i := 2) rfl rfl) rfl fun a hk => ?_
        refine o_move hk rfl rfl fun a hk => ?_
        refine o_loadN (cs := [.int .i64 t.n, .slice pst t.s.length capst, .bool t.z, .slice pt t.l.length capt, .slice put t.u.length caput]) hk ts_26 rfl (hm.cells_blk (i := 1) rfl rfl) rfl fun a hk => ?_
        refine o_call hk cb_12 (hfit V (rep_Fd8 (hm.rep (i := 3) rfl)) (hm.rep (i := 4) rfl)) ⟨rfl, rfl, rfl, trivial⟩ rfl fun v w a hR hk => ?_
        obtain ⟨hp, cq, rfl, hR⟩ := hR
        obtain ⟨psq, capsq, pq, capq, puq, capuq, rfl⟩ := rep_T7 hR
        have hm := hm.result hp hR
        refine o_alloc hk hm tz_26 rfl rfl fun a b33 w hk hm => ?_
        refine o_store (i := 0) hk hm ts_26 rfl rfl rfl rfl rfl rfl (Nat.le_of_ble_eq_true rfl) fun a w hk hm => ?_
        refine c_end ?_
        refine c_region ?_
        refine o_move hk rfl rfl fun a hk => ?_
        refine o_fieldAddr hk fo_26_2 rfl rfl fun a hk => ?_
        refine o_store (i := 0) hk hm ts_4 rfl rfl rfl rfl rfl rfl (Nat.le_of_ble_eq_true rfl) fun a w hk hm => ?_
        refine c_end ?_
        refine c_region ?_
        refine o_loadN (cs := [.int .i64 ((fitP f.sub V t).n), .slice psq ((fitP f.sub V t).s.length) capsq, .bool (f.null V t), .slice pq ((fitP f.sub V t).l.length) capq, .slice puq ((fitP f.sub V t).u.length) capuq]) hk ts_26 rfl (hm.cells_blk (i := 0) rfl rfl) rfl fun a hk => ?_
        refine o_store (i := 2) hk hm ts_26 rfl rfl rfl rfl rfl rfl (Nat.le_of_ble_eq_true rfl) fun a w hk hm => ?_
        refine c_end ?_
        refine wp_ret ?_
        refine c_inRet ?_
        refine c_thenRet ?_
        refine b_retCell (i := 2) (cs := [.int .i64 ((fitP f.sub V t).n), .slice psq ((fitP f.sub V t).s.length) capsq, .bool (f.null V t), .slice pq ((fitP f.sub V t).l.length) capq, .slice puq ((fitP f.sub V t).u.length) capuq]) rfl ts_26 hk hm rfl rfl ?_
        refine ⟨hm.agr, _, rfl, hm.out ?_⟩
        rw [fitF_other (by omega), fitVal_part (by omega)]
        exact rep_T_mk (t := .mk (fitP f.sub V t).n (fitP f.sub V t).s (f.null V t) (fitP f.sub V t).l (fitP f.sub V t).u) (rep_T_s (t := fitP f.sub V t) (hm.rep (i := 1) rfl)) (rep_T_l (t := fitP f.sub V t) (hm.rep (i := 1) rfl)) (rep_T_u (t := fitP f.sub V t) (hm.rep (i := 1) rfl))
      · have hc34 := beq_eq_false_iff_ne.1 hc
        refine c_region ?_
        refine o_icmp hk rfl rfl rfl rfl fun a hk => ?_
        refine o_assign hk rfl rfl fun a hk => ?_
        refine c_end ?_
        refine c_cond hk rfl (fun hc => ?_) (fun hc => ?_)
        · have hc35 := eq_of_beq hc
          refine c_region ?_
          refine o_move hk rfl rfl fun a hk => ?_
          refine o_move hk rfl rfl fun a hk => ?_
          rcases Bool.eq_false_or_eq_true (f.null V t) with hb36 | hb36
          · rw [hb36] at hk
            refine o_skipV hk ⟨_, _, _, _, rfl, rfl, rfl, nb_tf⟩ rfl rfl fun a hk => ?_
            refine o_skipV hk ⟨_, _, _, _, rfl, rfl, rfl, nb_tf⟩ rfl rfl fun a hk => ?_
            refine o_skipV hk ⟨_, _, _, _, rfl, rfl, rfl, nb_tf⟩ rfl rfl fun a hk => ?_
            refine o_skipV hk ⟨_, _, _, _, rfl, rfl, rfl, nb_tf⟩ rfl rfl fun a hk => ?_
            refine o_skipV hk ⟨_, _, _, _, rfl, rfl, rfl, (nb_u _)⟩ rfl rfl fun a hk => ?_
            refine o_skipV hk ⟨_, _, _, _, rfl, rfl, rfl, (nb_u _)⟩ rfl rfl fun a hk => ?_
            refine o_skipV hk ⟨_, _, _, _, rfl, rfl, rfl, (nb_u _)⟩ rfl rfl fun a hk => ?_
            refine o_skipV hk ⟨_, _, _, _, rfl, rfl, rfl, (nb_u _)⟩ rfl rfl fun a hk => ?_
            refine o_skipV hk ⟨_, _, _, _, rfl, rfl, rfl, nb_tf⟩ rfl rfl fun a hk => ?_
            refine o_pick hk rfl rfl rfl rfl rfl fun a hk => ?_
            refine o_build (r := [.int .i64 0, .slice none 0 0, .bool true, .slice none 0 0, .slice none 0 0]) hk tz_26 rfl fok_26 ⟨_, _, _, rfl, rfl, fa_26_2, rfl, rfl⟩ rfl fun a hk => ?_
            refine o_alloc hk hm tz_26 rfl rfl fun a b37 w hk hm => ?_
            refine o_store (i := 0) hk hm ts_26 rfl rfl rfl rfl rfl rfl (Nat.le_of_ble_eq_true rfl) fun a w hk hm => ?_
            refine c_end ?_
            refine c_region ?_
            refine o_loadN (cs := [.int .i64 ((f.kind : Nat) : Int), .int .i64 f.fr, .int .i64 f.to, .int .i64 f.nu, .int .i64 f.tag, .int .i64 f.df, .int .i64 ((f.of : Nat) : Int), .slice pf f.sub.length capf]) hk ts_50 rfl (hm.cells_blk (i := 3) rfl rfl) rfl fun a hk => ?_
            refine o_alloc hk hm tz_50 rfl rfl fun a b38 w hk hm => ?_
            refine o_store (i := 0) hk hm ts_50 rfl rfl rfl rfl rfl rfl (Nat.le_of_ble_eq_true rfl) fun a w hk hm => ?_
            refine c_end ?_
            refine c_region ?_
            refine o_fieldAddr hk fo_50_6 rfl rfl fun a hk => ?_
            refine o_load hk ts_3 rfl (hm.cell_blk (i := 4) rfl rfl) rfl fun a hk => ?_
            refine o_fieldAddr hk fo_50_0 rfl rfl fun a hk => ?_
            refine o_store (i := 0) hk hm ts_3 rfl rfl rfl rfl rfl rfl (Nat.le_of_ble_eq_true rfl) fun a w hk hm => ?_
            refine o_fieldAddr hk fo_50_3 rfl rfl fun a hk => ?_
            refine o_store (i := 0) hk hm ts_3 rfl rfl rfl rfl rfl rfl (Nat.le_of_ble_eq_true rfl) fun a w hk hm => ?_
            refine o_fieldAddr hk fo_50_4 rfl rfl fun a hk => ?_
            refine o_store (i := 0) hk hm ts_3 rfl rfl rfl rfl rfl rfl (Nat.le_of_ble_eq_true rfl) fun a w hk hm => ?_
            refine c_end ?_
            refine wp_seq ?_
            refine c_region ?_
            refine o_fieldAddr hk fo_26_3 rfl rfl fun a hk => ?_
            refine o_load hk ts_23 rfl (hm.cell_blk (i := 3) rfl rfl) rfl fun a hk => ?_
            refine o_call hk cb_60 (things_c (rep_T_l (hm.rep (i := 6) rfl))) ⟨rfl, trivial⟩ rfl fun v w a hR hk => ?_
            obtain ⟨hp, rfl, hR⟩ := hR
            have hm := hm.result hp hR
            have htl := things_len t.l
            refine o_lenSlice hk te_23 rfl rfl fun a hk => ?_
            refine o_move hk rfl rfl fun a hk => ?_
            refine c_end ?_
            have h11 : f.kind = 11 := by omega
            have hm := hm.add (e := .rep (ddFd (oneOf f)) [.int .i64 ((f.of : Nat) : Int), .int .i64 f.fr, .int .i64 f.to, .int .i64 (-1), .int .i64 (-1), .int .i64 f.df, .int .i64 ((f.of : Nat) : Int), .slice pf f.sub.length capf]) rfl (rep_Fd_mk (rep_Fd8 (hm.rep (i := 6) rfl)))
            have hm := hm.addNil 26 5
            have hm := hm.addEls 5
            refine c_range (L0 := [(1, .int .i64 V), (5, .pointer (some ⟨b2, 0, none⟩)), (6, .pointer (some ⟨b3, 0, none⟩)), (9, .pointer (some ⟨b37, 0, none⟩)), (10, .pointer (some ⟨b38, 0, none⟩)), (60, .slice pt ((things t.l).length) capt)]) (N := (things t.l).length) (by omega) (fun k L w => ∃ vr xs, L = [(1, .int .i64 V), (5, .pointer (some ⟨b2, 0, none⟩)), (6, .pointer (some ⟨b3, 0, none⟩)), (9, .pointer (some ⟨b37, 0, none⟩)), (10, .pointer (some ⟨b38, 0, none⟩)), (60, .slice pt ((things t.l).length) capt)] ∧ Mem w0 Nob Y [.els 5 ((((things t.l).take k).map (fitF (oneOf f) V)).map ddT) xs, .row 26 5 vr k xs, .rep (ddFd (oneOf f)) [.int .i64 ((f.of : Nat) : Int), .int .i64 f.fr, .int .i64 f.to, .int .i64 (-1), .int .i64 (-1), .int .i64 f.df, .int .i64 ((f.of : Nat) : Int), .slice pf f.sub.length capf], .rep (.sl false 5 ((things t.l).map ddT)) [.slice pt ((things t.l).length) capt], .blk b38 [.int .i64 ((f.of : Nat) : Int), .int .i64 f.fr, .int .i64 f.to, .int .i64 (-1), .int .i64 (-1), .int .i64 f.df, .int .i64 ((f.of : Nat) : Int), .slice pf f.sub.length capf] 50, .blk b37 [.int .i64 0, .slice none 0 0, .bool true, vr, .slice none 0 0] 26, .blk b3 [.int .i64 0, .slice none 0 0, .bool false, .slice none 0 0, .slice none 0 0] 26, .blk b2 [.int .i64 t.n, .slice pst t.s.length capst, .bool t.z, .slice pt t.l.length capt, .slice put t.u.length caput] 26, .blk b1 [.int .i64 ((f.kind : Nat) : Int), .int .i64 f.fr, .int .i64 f.to, .int .i64 f.nu, .int .i64 f.tag, .int .i64 f.df, .int .i64 ((f.of : Nat) : Int), .slice pf f.sub.length capf] 50, .rep (ddFd f) [.int .i64 ((f.kind : Nat) : Int), .int .i64 f.fr, .int .i64 f.to, .int .i64 f.nu, .int .i64 f.tag, .int .i64 f.df, .int .i64 ((f.of : Nat) : Int), .slice pf f.sub.length capf], .rep (ddT t) [.int .i64 t.n, .slice pst t.s.length capst, .bool t.z, .slice pt t.l.length capt, .slice put t.u.length caput]] w) (hk.sub ⟨rfl, rfl, rfl, rfl, rfl, rfl, rfl, rfl, trivial⟩) ⟨_, _, rfl, hm⟩ rfl rfl rfl rfl rfl rfl rfl (fun k L a w hlt hR hk => ?_) rfl (fun L a w hR hk => ?_)
            · obtain ⟨vr, xs, rfl, hm⟩ := hR
              obtain ⟨hltx, blx, offx, ex, hplx, helx, hRex, hCex⟩ := rep_sl_get (hm.rep (i := 3) rfl) (getD_map ddT (things t.l) k T.nil hlt)
              obtain ⟨psx, capsx, px, capx, pux, capux, rfl⟩ := rep_T7 hRex
              have hm := hm.add (e := .rep (ddT ((things t.l).getD k T.nil)) [.int .i64 (((things t.l).getD k T.nil).n), .slice psx (((things t.l).getD k T.nil).s.length) capsx, .bool (((things t.l).getD k T.nil).z), .slice px (((things t.l).getD k T.nil).l.length) capx, .slice pux (((things t.l).getD k T.nil).u.length) capux]) rfl hRex
              have hm := hm.add (e := .cel blx (offx + k * 5) [.int .i64 (((things t.l).getD k T.nil).n), .slice psx (((things t.l).getD k T.nil).s.length) capsx, .bool (((things t.l).getD k T.nil).z), .slice px (((things t.l).getD k T.nil).l.length) capx, .slice pux (((things t.l).getD k T.nil).u.length) capux]) rfl hCex
              refine c_region ?_
              refine o_indexAddr (j := k) (b := blx) (off := offx) hk te_23 ts_26 (by rw [← hplx]; rfl) rfl hltx rfl fun a hk => ?_
              refine o_loadN (cs := [.int .i64 (((things t.l).getD k T.nil).n), .slice psx (((things t.l).getD k T.nil).s.length) capsx, .bool (((things t.l).getD k T.nil).z), .slice px (((things t.l).getD k T.nil).l.length) capx, .slice pux (((things t.l).getD k T.nil).u.length) capux]) hk ts_26 rfl (hm.cells_cel (i := 0) (k := 0) rfl rfl) rfl fun a hk => ?_
              refine o_alloc hk hm tz_26 rfl rfl fun a b39 w hk hm => ?_
              refine o_store (i := 0) hk hm ts_26 rfl rfl rfl rfl rfl rfl (Nat.le_of_ble_eq_true rfl) fun a w hk hm => ?_
              refine c_end ?_
              refine d_startM (K := 7) mixed hm fun w hm => ?_
              refine d_take (i := 0) rfl rfl rfl (by kernel_rfl) (fun _ _ _ h => h) hk rfl (fun w hm => r_fieldAddr hk fo_26_3 rfl) hm fun a hk => ?_
              refine d_take (i := 1) rfl rfl rfl (by kernel_rfl) (fun _ _ _ h => h) hk rfl (fun w hm => r_load1 hk ts_23 rfl (hm.cell_blk (i := 8) rfl rfl)) hm fun a hk => ?_
              refine d_take (i := 2) rfl rfl rfl (by kernel_rfl) (fun _ _ _ h => h) hk rfl (fun w hm => r_loadN (cs := [.int .i64 ((f.of : Nat) : Int), .int .i64 f.fr, .int .i64 f.to, .int .i64 (-1), .int .i64 (-1), .int .i64 f.df, .int .i64 ((f.of : Nat) : Int), .slice pf f.sub.length capf]) hk ts_50 rfl (hm.cells_blk (i := 7) rfl rfl)) hm fun a hk => ?_
              refine d_take (i := 3) rfl rfl rfl (by kernel_rfl) (fun _ _ _ h => h) hk rfl (fun w hm => r_move hk rfl) hm fun a hk => ?_
              refine d_one (k := 4) (by kernel_rfl) rfl rfl ?_
              refine o_loadN (cs := [.int .i64 (((things t.l).getD k T.nil).n), .slice psx (((things t.l).getD k T.nil).s.length) capsx, .bool (((things t.l).getD k T.nil).z), .slice px (((things t.l).getD k T.nil).l.length) capx, .slice pux (((things t.l).getD k T.nil).u.length) capux]) hk ts_26 rfl (hm.cells_blk (i := 0) rfl rfl) rfl fun a hk => ?_
              refine c_endQ (c_then ⟨fun _ => hm, ?_⟩)
              refine d_one (k := 5) (by kernel_rfl) rfl rfl ?_
              refine o_call hk cb_25 (hone h11 V (hm.rep (i := 5) rfl) (hm.rep (i := 2) rfl)) ⟨rfl, rfl, rfl, trivial⟩ rfl fun v w a hR hk => ?_
              obtain ⟨hp, cg, rfl, hR⟩ := hR
              obtain ⟨psg, capsg, pg, capg, pug, capug, rfl⟩ := rep_T7 hR
              have hm := hm.result hp hR
              refine c_endQ (c_then ⟨fun _ => hm.tail, ?_⟩)
              refine d_one (k := 6) (by kernel_rfl) rfl rfl ?_
              refine o_buildSlice (r := [.int .i64 ((fitF (oneOf f) V ((things t.l).getD k T.nil)).n), .slice psg ((fitF (oneOf f) V ((things t.l).getD k T.nil)).s.length) capsg, .bool ((fitF (oneOf f) V ((things t.l).getD k T.nil)).z), .slice pg ((fitF (oneOf f) V ((things t.l).getD k T.nil)).l.length) capg, .slice pug ((fitF (oneOf f) V ((things t.l).getD k T.nil)).u.length) capug]) hk hm rt_23 tz_26 rfl rfl rfl ⟨_, _, _, rfl, rfl, rfl, rfl, rfl⟩ rfl fun a b40 w hk hm => ?_
              refine c_endQ (c_then ⟨fun _ => hm.tail.tail, ?_⟩)
              refine d_one (k := 7) (by kernel_rfl) rfl rfl ?_
              refine o_append (i := 6) hk hm rt_23 rfl rfl rfl (src_cells (k := 1) (news := [.int .i64 ((fitF (oneOf f) V ((things t.l).getD k T.nil)).n), .slice psg ((fitF (oneOf f) V ((things t.l).getD k T.nil)).s.length) capsg, .bool ((fitF (oneOf f) V ((things t.l).getD k T.nil)).z), .slice pg ((fitF (oneOf f) V ((things t.l).getD k T.nil)).l.length) capg, .slice pug ((fitF (oneOf f) V ((things t.l).getD k T.nil)).u.length) capug]) te_23 rfl (hm.cells_blk (i := 0) rfl rfl) rfl) (by unfold maxLen; omega) (by omega) rfl fun a v41 w hk hm hnilv41 => ?_
              refine c_endQ (c_then ⟨fun h => Bool.noConfusion (show true = false from h), ?_⟩)
              refine d_one (k := 8) (by kernel_rfl) rfl rfl ?_
              refine o_fieldAddr hk fo_26_3 rfl rfl fun a hk => ?_
              refine c_endQ (c_then ⟨fun h => Bool.noConfusion (show true = false from h), ?_⟩)
              refine d_one (k := 9) (by kernel_rfl) rfl rfl ?_
              refine o_store (i := 10) hk hm ts_23 rfl rfl (cells1 (row_one (hm.row (i := 6) rfl))) rfl (one1 (row_one (hm.row (i := 6) rfl))) rfl (Nat.le_of_ble_eq_true rfl) fun a w hk hm => ?_
              refine c_endQ (c_then ⟨fun h => Bool.noConfusion (show true = false from h), ?_⟩)
              refine d_done (by kernel_rfl) ?_ _
              refine c_inNormal ?_
              have hm := hm.elsPush (i := 5) (d := (ddT (fitF (oneOf f) V ((things t.l).getD k T.nil)))) rfl (hm.rep (i := 1) rfl) rfl
              rw [← take_map_succ ddT (fitF (oneOf f) V) (things t.l) k T.nil hlt] at hm
              exact c_round (L' := [(1, .int .i64 V), (5, .pointer (some ⟨b2, 0, none⟩)), (6, .pointer (some ⟨b3, 0, none⟩)), (9, .pointer (some ⟨b37, 0, none⟩)), (10, .pointer (some ⟨b38, 0, none⟩)), (60, .slice pt ((things t.l).length) capt)]) hk ⟨rfl, rfl, rfl, rfl, rfl, rfl, rfl, rfl, trivial⟩ rfl ⟨_, _, rfl, hm.tail.tail.tail.tail.tail⟩
            · obtain ⟨vl4, xl4, rfl, hm⟩ := hR
              have hovl4 := row_one (hm.row (i := 1) rfl)
              have hm := hm.freezeRow (i := 1) (st := false) rfl (noX _) (hm.els (i := 0) rfl) (by simp only [List.length_map, List.length_take, Nat.min_self]) (fun _ => rfl)
              rw [List.take_length] at hm
              refine c_then ?_
              refine c_region ?_
              refine o_loadN (cs := [.int .i64 0, .slice none 0 0, .bool true, vl4, .slice none 0 0]) hk ts_26 rfl (hm.cells_blk (i := 5) rfl rfl) rfl fun a hk => ?_
              refine o_store (i := 6) hk hm ts_26 rfl rfl rfl rfl (one_cons rfl (one_cons rfl (one_cons rfl (one_cons hovl4 (one_cons rfl rfl))))) rfl (Nat.le_of_ble_eq_true rfl) fun a w hk hm => ?_
              refine c_end ?_
              refine wp_ret ?_
              refine c_inRet ?_
              refine c_thenRet ?_
              refine b_retCell (i := 6) (cs := [.int .i64 0, .slice none 0 0, .bool true, vl4, .slice none 0 0]) rfl ts_26 hk hm rfl rfl ?_
              refine ⟨hm.agr, _, rfl, hm.out ?_⟩
              rw [fitF_list h11 hof]
              have hz : true = (f.null V t || (decide (f.tag ≥ 0) && decide (t.l.length = 0))) := Bool.eq_iff_iff.2 (by simp [hb36])
              rw [show Value.bool (true) = Value.bool (f.null V t || (decide (f.tag ≥ 0) && decide (t.l.length = 0))) from congrArg Value.bool hz]
              exact rep_T_mk (t := .mk 0 [] (f.null V t || (decide (f.tag ≥ 0) && decide (t.l.length = 0))) ((things t.l).map (fitF (oneOf f) V)) []) (by simp [Rep, ddBs, T.s]) (hm.rep (i := 1) rfl) (by simp [Rep, ddTags, T.u])
          · rw [hb36] at hk
            refine o_want (o' := _) hk ⟨_, _, _, rfl, rfl, rfl⟩ rfl ?_
            refine o_fieldAddr hk fo_50_4 rfl rfl fun a hk => ?_
            refine o_want (o' := _) hk ⟨_, _, _, rfl, rfl, rfl⟩ rfl ?_
            refine o_load hk ts_3 rfl (hm.cell_blk (i := 2) rfl rfl) rfl fun a hk => ?_
            refine o_want (o' := _) hk ⟨_, _, _, rfl, rfl, rfl⟩ rfl ?_
            refine o_icmp hk rfl rfl rfl rfl fun a hk => ?_
            refine o_want (o' := _) hk ⟨_, _, _, rfl, rfl, rfl⟩ rfl ?_
            refine o_move hk rfl rfl fun a hk => ?_
            rcases Bool.eq_false_or_eq_true (decide ((f.tag : Int) ≥ 0)) with hb42 | hb42
            · rw [hb42] at hk
              refine o_want (o' := _) hk ⟨_, _, _, rfl, rfl, rfl⟩ rfl ?_
              refine o_fieldAddr hk fo_26_3 rfl rfl fun a hk => ?_
              refine o_want (o' := _) hk ⟨_, _, _, rfl, rfl, rfl⟩ rfl ?_
              refine o_load hk ts_23 rfl (hm.cell_blk (i := 1) rfl rfl) rfl fun a hk => ?_
              refine o_want (o' := _) hk ⟨_, _, _, rfl, rfl, rfl⟩ rfl ?_
              refine o_lenSlice hk te_23 rfl rfl fun a hk => ?_
              refine o_want (o' := _) hk ⟨_, _, _, rfl, rfl, rfl⟩ rfl ?_
              refine o_icmp hk rfl rfl rfl rfl fun a hk => ?_
              refine o_want (o' := _) hk ⟨_, _, _, rfl, rfl, rfl⟩ rfl ?_
              refine o_pick hk rfl rfl rfl rfl rfl fun a hk => ?_
              refine o_pick hk rfl rfl rfl rfl rfl fun a hk => ?_
              refine o_build (r := [.int .i64 0, .slice none 0 0, .bool ((((t.l.length : Nat) : Int) : Int) == 0), .slice none 0 0, .slice none 0 0]) hk tz_26 rfl fok_26 ⟨_, _, _, rfl, rfl, fa_26_2, rfl, rfl⟩ rfl fun a hk => ?_
              refine o_alloc hk hm tz_26 rfl rfl fun a b43 w hk hm => ?_
              refine o_store (i := 0) hk hm ts_26 rfl rfl rfl rfl rfl rfl (Nat.le_of_ble_eq_true rfl) fun a w hk hm => ?_
              refine c_end ?_
              refine c_region ?_
              refine o_loadN (cs := [.int .i64 ((f.kind : Nat) : Int), .int .i64 f.fr, .int .i64 f.to, .int .i64 f.nu, .int .i64 f.tag, .int .i64 f.df, .int .i64 ((f.of : Nat) : Int), .slice pf f.sub.length capf]) hk ts_50 rfl (hm.cells_blk (i := 3) rfl rfl) rfl fun a hk => ?_
              refine o_alloc hk hm tz_50 rfl rfl fun a b44 w hk hm => ?_
              refine o_store (i := 0) hk hm ts_50 rfl rfl rfl rfl rfl rfl (Nat.le_of_ble_eq_true rfl) fun a w hk hm => ?_
              refine c_end ?_
              refine c_region ?_
              refine o_fieldAddr hk fo_50_6 rfl rfl fun a hk => ?_
              refine o_load hk ts_3 rfl (hm.cell_blk (i := 4) rfl rfl) rfl fun a hk => ?_
              refine o_fieldAddr hk fo_50_0 rfl rfl fun a hk => ?_
              refine o_store (i := 0) hk hm ts_3 rfl rfl rfl rfl rfl rfl (Nat.le_of_ble_eq_true rfl) fun a w hk hm => ?_
              refine o_fieldAddr hk fo_50_3 rfl rfl fun a hk => ?_
              refine o_store (i := 0) hk hm ts_3 rfl rfl rfl rfl rfl rfl (Nat.le_of_ble_eq_true rfl) fun a w hk hm => ?_
              refine o_fieldAddr hk fo_50_4 rfl rfl fun a hk => ?_
              refine o_store (i := 0) hk hm ts_3 rfl rfl rfl rfl rfl rfl (Nat.le_of_ble_eq_true rfl) fun a w hk hm => ?_
              refine c_end ?_
              refine wp_seq ?_
              refine c_region ?_
              refine o_fieldAddr hk fo_26_3 rfl rfl fun a hk => ?_
              refine o_load hk ts_23 rfl (hm.cell_blk (i := 3) rfl rfl) rfl fun a hk => ?_
              refine o_call hk cb_60 (things_c (rep_T_l (hm.rep (i := 6) rfl))) ⟨rfl, trivial⟩ rfl fun v w a hR hk => ?_
              obtain ⟨hp, rfl, hR⟩ := hR
              have hm := hm.result hp hR
              have htl := things_len t.l
              refine o_lenSlice hk te_23 rfl rfl fun a hk => ?_
              refine o_move hk rfl rfl fun a hk => ?_
              refine c_end ?_
              have h11 : f.kind = 11 := by omega
              have hm := hm.add (e := .rep (ddFd (oneOf f)) [.int .i64 ((f.of : Nat) : Int), .int .i64 f.fr, .int .i64 f.to, .int .i64 (-1), .int .i64 (-1), .int .i64 f.df, .int .i64 ((f.of : Nat) : Int), .slice pf f.sub.length capf]) rfl (rep_Fd_mk (rep_Fd8 (hm.rep (i := 6) rfl)))
              have hm := hm.addNil 26 5
              have hm := hm.addEls 5
              refine c_range (L0 := [(1, .int .i64 V), (5, .pointer (some ⟨b2, 0, none⟩)), (6, .pointer (some ⟨b3, 0, none⟩)), (9, .pointer (some ⟨b43, 0, none⟩)), (10, .pointer (some ⟨b44, 0, none⟩)), (60, .slice pt ((things t.l).length) capt)]) (N := (things t.l).length) (by omega) (fun k L w => ∃ vr xs, L = [(1, .int .i64 V), (5, .pointer (some ⟨b2, 0, none⟩)), (6, .pointer (some ⟨b3, 0, none⟩)), (9, .pointer (some ⟨b43, 0, none⟩)), (10, .pointer (some ⟨b44, 0, none⟩)), (60, .slice pt ((things t.l).length) capt)] ∧ Mem w0 Nob Y [.els 5 ((((things t.l).take k).map (fitF (oneOf f) V)).map ddT) xs, .row 26 5 vr k xs, .rep (ddFd (oneOf f)) [.int .i64 ((f.of : Nat) : Int), .int .i64 f.fr, .int .i64 f.to, .int .i64 (-1), .int .i64 (-1), .int .i64 f.df, .int .i64 ((f.of : Nat) : Int), .slice pf f.sub.length capf], .rep (.sl false 5 ((things t.l).map ddT)) [.slice pt ((things t.l).length) capt], .blk b44 [.int .i64 ((f.of : Nat) : Int), .int .i64 f.fr, .int .i64 f.to, .int .i64 (-1), .int .i64 (-1), .int .i64 f.df, .int .i64 ((f.of : Nat) : Int), .slice pf f.sub.length capf] 50, .blk b43 [.int .i64 0, .slice none 0 0, .bool ((((t.l.length : Nat) : Int) : Int) == 0), vr, .slice none 0 0] 26, .blk b3 [.int .i64 0, .slice none 0 0, .bool false, .slice none 0 0, .slice none 0 0] 26, .blk b2 [.int .i64 t.n, .slice pst t.s.length capst, .bool t.z, .slice pt t.l.length capt, .slice put t.u.length caput] 26, .blk b1 [.int .i64 ((f.kind : Nat) : Int), .int .i64 f.fr, .int .i64 f.to, .int .i64 f.nu, .int .i64 f.tag, .int .i64 f.df, .int .i64 ((f.of : Nat) : Int), .slice pf f.sub.length capf] 50, .rep (ddFd f) [.int .i64 ((f.kind : Nat) : Int), .int .i64 f.fr, .int .i64 f.to, .int .i64 f.nu, .int .i64 f.tag, .int .i64 f.df, .int .i64 ((f.of : Nat) : Int), .slice pf f.sub.length capf], .rep (ddT t) [.int .i64 t.n, .slice pst t.s.length capst, .bool t.z, .slice pt t.l.length capt, .slice put t.u.length caput]] w) (hk.sub ⟨rfl, rfl, rfl, rfl, rfl, rfl, rfl, rfl, trivial⟩) ⟨_, _, rfl, hm⟩ rfl rfl rfl rfl rfl rfl rfl (fun k L a w hlt hR hk => ?_) rfl (fun L a w hR hk => ?_)
              · obtain ⟨vr, xs, rfl, hm⟩ := hR
                obtain ⟨hltx, blx, offx, ex, hplx, helx, hRex, hCex⟩ := rep_sl_get (hm.rep (i := 3) rfl) (getD_map ddT (things t.l) k T.nil hlt)
                obtain ⟨psx, capsx, px, capx, pux, capux, rfl⟩ := rep_T7 hRex
                have hm := hm.add (e := .rep (ddT ((things t.l).getD k T.nil)) [.int .i64 (((things t.l).getD k T.nil).n), .slice psx (((things t.l).getD k T.nil).s.length) capsx, .bool (((things t.l).getD k T.nil).z), .slice px (((things t.l).getD k T.nil).l.length) capx, .slice pux (((things t.l).getD k T.nil).u.length) capux]) rfl hRex
                have hm := hm.add (e := .cel blx (offx + k * 5) [.int .i64 (((things t.l).getD k T.nil).n), .slice psx (((things t.l).getD k T.nil).s.length) capsx, .bool (((things t.l).getD k T.nil).z), .slice px (((things t.l).getD k T.nil).l.length) capx, .slice pux (((things t.l).getD k T.nil).u.length) capux]) rfl hCex
                refine c_region ?_
                refine o_indexAddr (j := k) (b := blx) (off := offx) hk te_23 ts_26 (by rw [← hplx]; rfl) rfl hltx rfl fun a hk => ?_
                refine o_loadN (cs := [.int .i64 (((things t.l).getD k T.nil).n), .slice psx (((things t.l).getD k T.nil).s.length) capsx, .bool (((things t.l).getD k T.nil).z), .slice px (((things t.l).getD k T.nil).l.length) capx, .slice pux (((things t.l).getD k T.nil).u.length) capux]) hk ts_26 rfl (hm.cells_cel (i := 0) (k := 0) rfl rfl) rfl fun a hk => ?_
                refine o_alloc hk hm tz_26 rfl rfl fun a b45 w hk hm => ?_
                refine o_store (i := 0) hk hm ts_26 rfl rfl rfl rfl rfl rfl (Nat.le_of_ble_eq_true rfl) fun a w hk hm => ?_
                refine c_end ?_
                refine d_startM (K := 7) mixed hm fun w hm => ?_
                refine d_take (i := 0) rfl rfl rfl (by kernel_rfl) (fun _ _ _ h => h) hk rfl (fun w hm => r_fieldAddr hk fo_26_3 rfl) hm fun a hk => ?_
                refine d_take (i := 1) rfl rfl rfl (by kernel_rfl) (fun _ _ _ h => h) hk rfl (fun w hm => r_load1 hk ts_23 rfl (hm.cell_blk (i := 8) rfl rfl)) hm fun a hk => ?_
                refine d_take (i := 2) rfl rfl rfl (by kernel_rfl) (fun _ _ _ h => h) hk rfl (fun w hm => r_loadN (cs := [.int .i64 ((f.of : Nat) : Int), .int .i64 f.fr, .int .i64 f.to, .int .i64 (-1), .int .i64 (-1), .int .i64 f.df, .int .i64 ((f.of : Nat) : Int), .slice pf f.sub.length capf]) hk ts_50 rfl (hm.cells_blk (i := 7) rfl rfl)) hm fun a hk => ?_
                refine d_take (i := 3) rfl rfl rfl (by kernel_rfl) (fun _ _ _ h => h) hk rfl (fun w hm => r_move hk rfl) hm fun a hk => ?_
                refine d_one (k := 4) (by kernel_rfl) rfl rfl ?_
                refine o_loadN (cs := [.int .i64 (((things t.l).getD k T.nil).n), .slice psx (((things t.l).getD k T.nil).s.length) capsx, .bool (((things t.l).getD k T.nil).z), .slice px (((things t.l).getD k T.nil).l.length) capx, .slice pux (((things t.l).getD k T.nil).u.length) capux]) hk ts_26 rfl (hm.cells_blk (i := 0) rfl rfl) rfl fun a hk => ?_
                refine c_endQ (c_then ⟨fun _ => hm, ?_⟩)
                refine d_one (k := 5) (by kernel_rfl) rfl rfl ?_
                refine o_call hk cb_25 (hone h11 V (hm.rep (i := 5) rfl) (hm.rep (i := 2) rfl)) ⟨rfl, rfl, rfl, trivial⟩ rfl fun v w a hR hk => ?_
                obtain ⟨hp, cg, rfl, hR⟩ := hR
                obtain ⟨psg, capsg, pg, capg, pug, capug, rfl⟩ := rep_T7 hR
                have hm := hm.result hp hR
                refine c_endQ (c_then ⟨fun _ => hm.tail, ?_⟩)
                refine d_one (k := 6) (by kernel_rfl) rfl rfl ?_
                refine o_buildSlice (r := [.int .i64 ((fitF (oneOf f) V ((things t.l).getD k T.nil)).n), .slice psg ((fitF (oneOf f) V ((things t.l).getD k T.nil)).s.length) capsg, .bool ((fitF (oneOf f) V ((things t.l).getD k T.nil)).z), .slice pg ((fitF (oneOf f) V ((things t.l).getD k T.nil)).l.length) capg, .slice pug ((fitF (oneOf f) V ((things t.l).getD k T.nil)).u.length) capug]) hk hm rt_23 tz_26 rfl rfl rfl ⟨_, _, _, rfl, rfl, rfl, rfl, rfl⟩ rfl fun a b46 w hk hm => ?_
                refine c_endQ (c_then ⟨fun _ => hm.tail.tail, ?_⟩)
                refine d_one (k := 7) (by kernel_rfl) rfl rfl ?_
                refine o_append (i := 6) hk hm rt_23 rfl rfl rfl (src_cells (k := 1) (news := [.int .i64 ((fitF (oneOf f) V ((things t.l).getD k T.nil)).n), .slice psg ((fitF (oneOf f) V ((things t.l).getD k T.nil)).s.length) capsg, .bool ((fitF (oneOf f) V ((things t.l).getD k T.nil)).z), .slice pg ((fitF (oneOf f) V ((things t.l).getD k T.nil)).l.length) capg, .slice pug ((fitF (oneOf f) V ((things t.l).getD k T.nil)).u.length) capug]) te_23 rfl (hm.cells_blk (i := 0) rfl rfl) rfl) (by unfold maxLen; omega) (by omega) rfl fun a v47 w hk hm hnilv47 => ?_
                refine c_endQ (c_then ⟨fun h => Bool.noConfusion (show true = false from h), ?_⟩)
                refine d_one (k := 8) (by kernel_rfl) rfl rfl ?_
                refine o_fieldAddr hk fo_26_3 rfl rfl fun a hk => ?_
                refine c_endQ (c_then ⟨fun h => Bool.noConfusion (show true = false from h), ?_⟩)
                refine d_one (k := 9) (by kernel_rfl) rfl rfl ?_
                refine o_store (i := 10) hk hm ts_23 rfl rfl (cells1 (row_one (hm.row (i := 6) rfl))) rfl (one1 (row_one (hm.row (i := 6) rfl))) rfl (Nat.le_of_ble_eq_true rfl) fun a w hk hm => ?_
                refine c_endQ (c_then ⟨fun h => Bool.noConfusion (show true = false from h), ?_⟩)
                refine d_done (by kernel_rfl) ?_ _
                refine c_inNormal ?_
                have hm := hm.elsPush (i := 5) (d := (ddT (fitF (oneOf f) V ((things t.l).getD k T.nil)))) rfl (hm.rep (i := 1) rfl) rfl
                rw [← take_map_succ ddT (fitF (oneOf f) V) (things t.l) k T.nil hlt] at hm
                exact c_round (L' := [(1, .int .i64 V), (5, .pointer (some ⟨b2, 0, none⟩)), (6, .pointer (some ⟨b3, 0, none⟩)), (9, .pointer (some ⟨b43, 0, none⟩)), (10, .pointer (some ⟨b44, 0, none⟩)), (60, .slice pt ((things t.l).length) capt)]) hk ⟨rfl, rfl, rfl, rfl, rfl, rfl, rfl, rfl, trivial⟩ rfl ⟨_, _, rfl, hm.tail.tail.tail.tail.tail⟩
              · obtain ⟨vl5, xl5, rfl, hm⟩ := hR
                have hovl5 := row_one (hm.row (i := 1) rfl)
                have hm := hm.freezeRow (i := 1) (st := false) rfl (noX _) (hm.els (i := 0) rfl) (by simp only [List.length_map, List.length_take, Nat.min_self]) (fun _ => rfl)
                rw [List.take_length] at hm
                refine c_then ?_
                refine c_region ?_
                refine o_loadN (cs := [.int .i64 0, .slice none 0 0, .bool ((((t.l.length : Nat) : Int) : Int) == 0), vl5, .slice none 0 0]) hk ts_26 rfl (hm.cells_blk (i := 5) rfl rfl) rfl fun a hk => ?_
                refine o_store (i := 6) hk hm ts_26 rfl rfl rfl rfl (one_cons rfl (one_cons rfl (one_cons rfl (one_cons hovl5 (one_cons rfl rfl))))) rfl (Nat.le_of_ble_eq_true rfl) fun a w hk hm => ?_
                refine c_end ?_
                refine wp_ret ?_
                refine c_inRet ?_
                refine c_thenRet ?_
                refine b_retCell (i := 6) (cs := [.int .i64 0, .slice none 0 0, .bool ((((t.l.length : Nat) : Int) : Int) == 0), vl5, .slice none 0 0]) rfl ts_26 hk hm rfl rfl ?_
                refine ⟨hm.agr, _, rfl, hm.out ?_⟩
                rw [fitF_list h11 hof]
                have hz : ((((t.l.length : Nat) : Int) : Int) == 0) = (f.null V t || (decide (f.tag ≥ 0) && decide (t.l.length = 0))) := Bool.eq_iff_iff.2 (by simp [hb36, hb42])
                rw [show Value.bool (((((t.l.length : Nat) : Int) : Int) == 0)) = Value.bool (f.null V t || (decide (f.tag ≥ 0) && decide (t.l.length = 0))) from congrArg Value.bool hz]
                exact rep_T_mk (t := .mk 0 [] (f.null V t || (decide (f.tag ≥ 0) && decide (t.l.length = 0))) ((things t.l).map (fitF (oneOf f) V)) []) (by simp [Rep, ddBs, T.s]) (hm.rep (i := 1) rfl) (by simp [Rep, ddTags, T.u])
            · rw [hb42] at hk
              refine o_skipV hk ⟨_, _, _, _, rfl, rfl, rfl, nb_ft⟩ rfl rfl fun a hk => ?_
              refine o_skipV hk ⟨_, _, _, _, rfl, rfl, rfl, nb_ft⟩ rfl rfl fun a hk => ?_
              refine o_skipV hk ⟨_, _, _, _, rfl, rfl, rfl, nb_ft⟩ rfl rfl fun a hk => ?_
              refine o_skipV hk ⟨_, _, _, _, rfl, rfl, rfl, nb_ft⟩ rfl rfl fun a hk => ?_
              refine o_want (o' := _) hk ⟨_, _, _, rfl, rfl, rfl⟩ rfl ?_
              refine o_pick hk rfl rfl rfl rfl rfl fun a hk => ?_
              refine o_pick hk rfl rfl rfl rfl rfl fun a hk => ?_
              refine o_build (r := [.int .i64 0, .slice none 0 0, .bool false, .slice none 0 0, .slice none 0 0]) hk tz_26 rfl fok_26 ⟨_, _, _, rfl, rfl, fa_26_2, rfl, rfl⟩ rfl fun a hk => ?_
              refine o_alloc hk hm tz_26 rfl rfl fun a b48 w hk hm => ?_
              refine o_store (i := 0) hk hm ts_26 rfl rfl rfl rfl rfl rfl (Nat.le_of_ble_eq_true rfl) fun a w hk hm => ?_
              refine c_end ?_
              refine c_region ?_
              refine o_loadN (cs := [.int .i64 ((f.kind : Nat) : Int), .int .i64 f.fr, .int .i64 f.to, .int .i64 f.nu, .int .i64 f.tag, .int .i64 f.df, .int .i64 ((f.of : Nat) : Int), .slice pf f.sub.length capf]) hk ts_50 rfl (hm.cells_blk (i := 3) rfl rfl) rfl fun a hk => ?_
              refine o_alloc hk hm tz_50 rfl rfl fun a b49 w hk hm => ?_
              refine o_store (i := 0) hk hm ts_50 rfl rfl rfl rfl rfl rfl (Nat.le_of_ble_eq_true rfl) fun a w hk hm => ?_
              refine c_end ?_
              refine c_region ?_
              refine o_fieldAddr hk fo_50_6 rfl rfl fun a hk => ?_
              refine o_load hk ts_3 rfl (hm.cell_blk (i := 4) rfl rfl) rfl fun a hk => ?_
              refine o_fieldAddr hk fo_50_0 rfl rfl fun a hk => ?_
              refine o_store (i := 0) hk hm ts_3 rfl rfl rfl rfl rfl rfl (Nat.le_of_ble_eq_true rfl) fun a w hk hm => ?_
              refine o_fieldAddr hk fo_50_3 rfl rfl fun a hk => ?_
              refine o_store (i := 0) hk hm ts_3 rfl rfl rfl rfl rfl rfl (Nat.le_of_ble_eq_true rfl) fun a w hk hm => ?_
              refine o_fieldAddr hk fo_50_4 rfl rfl fun a hk => ?_
              refine o_store (i := 0) hk hm ts_3 rfl rfl rfl rfl rfl rfl (Nat.le_of_ble_eq_true rfl) fun a w hk hm => ?_
              refine c_end ?_
              refine wp_seq ?_
              refine c_region ?_
              refine o_fieldAddr hk fo_26_3 rfl rfl fun a hk => ?_
              refine o_load hk ts_23 rfl (hm.cell_blk (i := 3) rfl rfl) rfl fun a hk => ?_
              refine o_call hk cb_60 (things_c (rep_T_l (hm.rep (i := 6) rfl))) ⟨rfl, trivial⟩ rfl fun v w a hR hk => ?_
              obtain ⟨hp, rfl, hR⟩ := hR
              have hm := hm.result hp hR
              have htl := things_len t.l
              refine o_lenSlice hk te_23 rfl rfl fun a hk => ?_
              refine o_move hk rfl rfl fun a hk => ?_
              refine c_end ?_
              have h11 : f.kind = 11 := by omega
              have hm := hm.add (e := .rep (ddFd (oneOf f)) [.int .i64 ((f.of : Nat) : Int), .int .i64 f.fr, .int .i64 f.to, .int .i64 (-1), .int .i64 (-1), .int .i64 f.df, .int .i64 ((f.of : Nat) : Int), .slice pf f.sub.length capf]) rfl (rep_Fd_mk (rep_Fd8 (hm.rep (i := 6) rfl)))
              have hm := hm.addNil 26 5
              have hm := hm.addEls 5
              refine c_range (L0 := [(1, .int .i64 V), (5, .pointer (some ⟨b2, 0, none⟩)), (6, .pointer (some ⟨b3, 0, none⟩)), (9, .pointer (some ⟨b48, 0, none⟩)), (10, .pointer (some ⟨b49, 0, none⟩)), (60, .slice pt ((things t.l).length) capt)]) (N := (things t.l).length) (by omega) (fun k L w => ∃ vr xs, L = [(1, .int .i64 V), (5, .pointer (some ⟨b2, 0, none⟩)), (6, .pointer (some ⟨b3, 0, none⟩)), (9, .pointer (some ⟨b48, 0, none⟩)), (10, .pointer (some ⟨b49, 0, none⟩)), (60, .slice pt ((things t.l).length) capt)] ∧ Mem w0 Nob Y [.els 5 ((((things t.l).take k).map (fitF (oneOf f) V)).map ddT) xs, .row 26 5 vr k xs, .rep (ddFd (oneOf f)) [.int .i64 ((f.of : Nat) : Int), .int .i64 f.fr, .int .i64 f.to, .int .i64 (-1), .int .i64 (-1), .int .i64 f.df, .int .i64 ((f.of : Nat) : Int), .slice pf f.sub.length capf], .rep (.sl false 5 ((things t.l).map ddT)) [.slice pt ((things t.l).length) capt], .blk b49 [.int .i64 ((f.of : Nat) : Int), .int .i64 f.fr, .int .i64 f.to, .int .i64 (-1), .int .i64 (-1), .int .i64 f.df, .int .i64 ((f.of : Nat) : Int), .slice pf f.sub.length capf] 50, .blk b48 [.int .i64 0, .slice none 0 0, .bool false, vr, .slice none 0 0] 26, .blk b3 [.int .i64 0, .slice none 0 0, .bool false, .slice none 0 0, .slice none 0 0] 26, .blk b2 [.int .i64 t.n, .slice pst t.s.length capst, .bool t.z, .slice pt t.l.length capt, .slice put t.u.length caput] 26, .blk b1 [.int .i64 ((f.kind : Nat) : Int), .int .i64 f.fr, .int .i64 f.to, .int .i64 f.nu, .int .i64 f.tag, .int .i64 f.df, .int .i64 ((f.of : Nat) : Int), .slice pf f.sub.length capf] 50, .rep (ddFd f) [.int .i64 ((f.kind : Nat) : Int), .int .i64 f.fr, .int .i64 f.to, .int .i64 f.nu, .int .i64 f.tag, .int .i64 f.df, .int .i64 ((f.of : Nat) : Int), .slice pf f.sub.length capf], .rep (ddT t) [.int .i64 t.n, .slice pst t.s.length capst, .bool t.z, .slice pt t.l.length capt, .slice put t.u.length caput]] w) (hk.sub ⟨rfl, rfl, rfl, rfl, rfl, rfl, rfl, rfl, trivial⟩) ⟨_, _, rfl, hm⟩ rfl rfl rfl rfl rfl rfl rfl (fun k L a w hlt hR hk => ?_) rfl (fun L a w hR hk => ?_)
              · obtain ⟨vr, xs, rfl, hm⟩ := hR
                obtain ⟨hltx, blx, offx, ex, hplx, helx, hRex, hCex⟩ := rep_sl_get (hm.rep (i := 3) rfl) (getD_map ddT (things t.l) k T.nil hlt)
                obtain ⟨psx, capsx, px, capx, pux, capux, rfl⟩ := rep_T7 hRex
                have hm := hm.add (e := .rep (ddT ((things t.l).getD k T.nil)) [.int .i64 (((things t.l).getD k T.nil).n), .slice psx (((things t.l).getD k T.nil).s.length) capsx, .bool (((things t.l).getD k T.nil).z), .slice px (((things t.l).getD k T.nil).l.length) capx, .slice pux (((things t.l).getD k T.nil).u.length) capux]) rfl hRex
                have hm := hm.add (e := .cel blx (offx + k * 5) [.int .i64 (((things t.l).getD k T.nil).n), .slice psx (((things t.l).getD k T.nil).s.length) capsx, .bool (((things t.l).getD k T.nil).z), .slice px (((things t.l).getD k T.nil).l.length) capx, .slice pux (((things t.l).getD k T.nil).u.length) capux]) rfl hCex
                refine c_region ?_
                refine o_indexAddr (j := k) (b := blx) (off := offx) hk te_23 ts_26 (by rw [← hplx]; rfl) rfl hltx rfl fun a hk => ?_
                refine o_loadN (cs := [.int .i64 (((things t.l).getD k T.nil).n), .slice psx (((things t.l).getD k T.nil).s.length) capsx, .bool (((things t.l).getD k T.nil).z), .slice px (((things t.l).getD k T.nil).l.length) capx, .slice pux (((things t.l).getD k T.nil).u.length) capux]) hk ts_26 rfl (hm.cells_cel (i := 0) (k := 0) rfl rfl) rfl fun a hk => ?_
                refine o_alloc hk hm tz_26 rfl rfl fun a b50 w hk hm => ?_
                refine o_store (i := 0) hk hm ts_26 rfl rfl rfl rfl rfl rfl (Nat.le_of_ble_eq_true rfl) fun a w hk hm => ?_
                refine c_end ?_
                refine d_startM (K := 7) mixed hm fun w hm => ?_
                refine d_take (i := 0) rfl rfl rfl (by kernel_rfl) (fun _ _ _ h => h) hk rfl (fun w hm => r_fieldAddr hk fo_26_3 rfl) hm fun a hk => ?_
                refine d_take (i := 1) rfl rfl rfl (by kernel_rfl) (fun _ _ _ h => h) hk rfl (fun w hm => r_load1 hk ts_23 rfl (hm.cell_blk (i := 8) rfl rfl)) hm fun a hk => ?_
                refine d_take (i := 2) rfl rfl rfl (by kernel_rfl) (fun _ _ _ h => h) hk rfl (fun w hm => r_loadN (cs := [.int .i64 ((f.of : Nat) : Int), .int .i64 f.fr, .int .i64 f.to, .int .i64 (-1), .int .i64 (-1), .int .i64 f.df, .int .i64 ((f.of : Nat) : Int), .slice pf f.sub.length capf]) hk ts_50 rfl (hm.cells_blk (i := 7) rfl rfl)) hm fun a hk => ?_
                refine d_take (i := 3) rfl rfl rfl (by kernel_rfl) (fun _ _ _ h => h) hk rfl (fun w hm => r_move hk rfl) hm fun a hk => ?_
                refine d_one (k := 4) (by kernel_rfl) rfl rfl ?_
                refine o_loadN (cs := [.int .i64 (((things t.l).getD k T.nil).n), .slice psx (((things t.l).getD k T.nil).s.length) capsx, .bool (((things t.l).getD k T.nil).z), .slice px (((things t.l).getD k T.nil).l.length) capx, .slice pux (((things t.l).getD k T.nil).u.length) capux]) hk ts_26 rfl (hm.cells_blk (i := 0) rfl rfl) rfl fun a hk => ?_
                refine c_endQ (c_then ⟨fun _ => hm, ?_⟩)
                refine d_one (k := 5) (by kernel_rfl) rfl rfl ?_
                refine o_call hk cb_25 (hone h11 V (hm.rep (i := 5) rfl) (hm.rep (i := 2) rfl)) ⟨rfl, rfl, rfl, trivial⟩ rfl fun v w a hR hk => ?_
                obtain ⟨hp, cg, rfl, hR⟩ := hR
                obtain ⟨psg, capsg, pg, capg, pug, capug, rfl⟩ := rep_T7 hR
                have hm := hm.result hp hR
                refine c_endQ (c_then ⟨fun _ => hm.tail, ?_⟩)
                refine d_one (k := 6) (by kernel_rfl) rfl rfl ?_
                refine o_buildSlice (r := [.int .i64 ((fitF (oneOf f) V ((things t.l).getD k T.nil)).n), .slice psg ((fitF (oneOf f) V ((things t.l).getD k T.nil)).s.length) capsg, .bool ((fitF (oneOf f) V ((things t.l).getD k T.nil)).z), .slice pg ((fitF (oneOf f) V ((things t.l).getD k T.nil)).l.length) capg, .slice pug ((fitF (oneOf f) V ((things t.l).getD k T.nil)).u.length) capug]) hk hm rt_23 tz_26 rfl rfl rfl ⟨_, _, _, rfl, rfl, rfl, rfl, rfl⟩ rfl fun a b51 w hk hm => ?_
                refine c_endQ (c_then ⟨fun _ => hm.tail.tail, ?_⟩)
                refine d_one (k := 7) (by kernel_rfl) rfl rfl ?_
                refine o_append (i := 6) hk hm rt_23 rfl rfl rfl (src_cells (k := 1) (news := [.int .i64 ((fitF (oneOf f) V ((things t.l).getD k T.nil)).n), .slice psg ((fitF (oneOf f) V ((things t.l).getD k T.nil)).s.length) capsg, .bool ((fitF (oneOf f) V ((things t.l).getD k T.nil)).z), .slice pg ((fitF (oneOf f) V ((things t.l).getD k T.nil)).l.length) capg, .slice pug ((fitF (oneOf f) V ((things t.l).getD k T.nil)).u.length) capug]) te_23 rfl (hm.cells_blk (i := 0) rfl rfl) rfl) (by unfold maxLen; omega) (by omega) rfl fun a v52 w hk hm hnilv52 => ?_
                refine c_endQ (c_then ⟨fun h => Bool.noConfusion (show true = false from h), ?_⟩)
                refine d_one (k := 8) (by kernel_rfl) rfl rfl ?_
                refine o_fieldAddr hk fo_26_3 rfl rfl fun a hk => ?_
                refine c_endQ (c_then ⟨fun h => Bool.noConfusion (show true = false from h), ?_⟩)
                refine d_one (k := 9) (by kernel_rfl) rfl rfl ?_
                refine o_store (i := 10) hk hm ts_23 rfl rfl (cells1 (row_one (hm.row (i := 6) rfl))) rfl (one1 (row_one (hm.row (i := 6) rfl))) rfl (Nat.le_of_ble_eq_true rfl) fun a w hk hm => ?_
                refine c_endQ (c_then ⟨fun h => Bool.noConfusion (show true = false from h), ?_⟩)
                refine d_done (by kernel_rfl) ?_ _
                refine c_inNormal ?_
                have hm := hm.elsPush (i := 5) (d := (ddT (fitF (oneOf f) V ((things t.l).getD k T.nil)))) rfl (hm.rep (i := 1) rfl) rfl
                rw [← take_map_succ ddT (fitF (oneOf f) V) (things t.l) k T.nil hlt] at hm
                exact c_round (L' := [(1, .int .i64 V), (5, .pointer (some ⟨b2, 0, none⟩)), (6, .pointer (some ⟨b3, 0, none⟩)), (9, .pointer (some ⟨b48, 0, none⟩)), (10, .pointer (some ⟨b49, 0, none⟩)), (60, .slice pt ((things t.l).length) capt)]) hk ⟨rfl, rfl, rfl, rfl, rfl, rfl, rfl, rfl, trivial⟩ rfl ⟨_, _, rfl, hm.tail.tail.tail.tail.tail⟩
              · obtain ⟨vl6, xl6, rfl, hm⟩ := hR
                have hovl6 := row_one (hm.row (i := 1) rfl)
                have hm := hm.freezeRow (i := 1) (st := false) rfl (noX _) (hm.els (i := 0) rfl) (by simp only [List.length_map, List.length_take, Nat.min_self]) (fun _ => rfl)
                rw [List.take_length] at hm
                refine c_then ?_
                refine c_region ?_
                refine o_loadN (cs := [.int .i64 0, .slice none 0 0, .bool false, vl6, .slice none 0 0]) hk ts_26 rfl (hm.cells_blk (i := 5) rfl rfl) rfl fun a hk => ?_
                refine o_store (i := 6) hk hm ts_26 rfl rfl rfl rfl (one_cons rfl (one_cons rfl (one_cons rfl (one_cons hovl6 (one_cons rfl rfl))))) rfl (Nat.le_of_ble_eq_true rfl) fun a w hk hm => ?_
                refine c_end ?_
                refine wp_ret ?_
                refine c_inRet ?_
                refine c_thenRet ?_
                refine b_retCell (i := 6) (cs := [.int .i64 0, .slice none 0 0, .bool false, vl6, .slice none 0 0]) rfl ts_26 hk hm rfl rfl ?_
                refine ⟨hm.agr, _, rfl, hm.out ?_⟩
                rw [fitF_list h11 hof]
                have hz : false = (f.null V t || (decide (f.tag ≥ 0) && decide (t.l.length = 0))) := Bool.eq_iff_iff.2 (by simp [hb36, hb42])
                rw [show Value.bool (false) = Value.bool (f.null V t || (decide (f.tag ≥ 0) && decide (t.l.length = 0))) from congrArg Value.bool hz]
                exact rep_T_mk (t := .mk 0 [] (f.null V t || (decide (f.tag ≥ 0) && decide (t.l.length = 0))) ((things t.l).map (fitF (oneOf f) V)) []) (by simp [Rep, ddBs, T.s]) (hm.rep (i := 1) rfl) (by simp [Rep, ddTags, T.u])
        · have hc53 := beq_eq_false_iff_ne.1 hc
          refine wp_skip ?_
          refine c_inNormal ?_
          refine c_then ?_
          refine c_region ?_
          refine o_fieldAddr hk fo_26_0 rfl rfl fun a hk => ?_
          refine o_load hk ts_2 rfl (hm.cell_blk (i := 1) rfl rfl) rfl fun a hk => ?_
          refine o_fieldAddr hk fo_26_1 rfl rfl fun a hk => ?_
          refine o_load hk ts_22 rfl (hm.cell_blk (i := 1) rfl rfl) rfl fun a hk => ?_
          refine o_build (r := [.int .i64 t.n, .slice pst t.s.length capst, .bool false, .slice none 0 0, .slice none 0 0]) hk tz_26 rfl fok_26 ⟨_, _, _, rfl, rfl, fa_26_0, rfl, _, _, _, rfl, rfl, fa_26_1, rfl, rfl⟩ rfl fun a hk => ?_
          refine o_store (i := 0) hk hm ts_26 rfl rfl rfl rfl rfl rfl (Nat.le_of_ble_eq_true rfl) fun a w hk hm => ?_
          refine c_end ?_
          refine wp_ret ?_
          refine b_retCell (i := 0) (cs := [.int .i64 t.n, .slice pst t.s.length capst, .bool false, .slice none 0 0, .slice none 0 0]) rfl ts_26 hk hm rfl rfl ?_
          refine ⟨hm.agr, _, rfl, hm.out ?_⟩
          rw [fitF_other (by omega), fitVal_num (by omega) (by omega) (by omega)]
          exact rep_T_mk (t := .mk t.n t.s false [] []) (rep_T_s (t := t) (hm.rep (i := 4) rfl)) (by simp [Rep, T.l]) (by simp [Rep, ddTags, T.u])
theorem fitted_c : ∀ f : Fld, tidyF f = true → FittedC f := Fld_ind fun f ih h => by
  have ht := tidy_spec h
  have hfit : FitC f.sub := @fit_walk f.sub (fun g hg => ih g hg (tidy_mem ht.2.2.2.2 g hg)) ht.2.2.2.1 (tidy_tags ht.2.2.2.2)
  have hone : f.kind = 11 → FittedC (oneOf f) := fun _ => @fitted_walk (oneOf f) hfit (fun h11 => by
    have h' : f.of = 11 := h11
    have := ht.2.1
    omega) ht.2.1
  exact @fitted_walk f hfit hone ht.2.1
theorem fit_c {fs : List Fld} (h : tidyFs fs = true) (hl : fs.length ≤ 1000) : FitC fs := @fit_walk fs (fun f hf => fitted_c f (tidy_mem h f hf)) hl (tidy_tags h)
end Go.Proofs.Ytnndnjbkhhammaa
