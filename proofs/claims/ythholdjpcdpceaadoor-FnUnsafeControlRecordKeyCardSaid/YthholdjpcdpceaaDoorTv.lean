/- Walks of functions that the laws of this seat reach. No statement of the seat stands here. -/
import Derived.Test.YthholdjpcdpceaaDoorL4
import Derived.Test.YthholdjpcdpceaaDoorRows
import Derived.Test.YthholdjpcdpceaaDoorFa
import Derived.Test.YthholdjpcdpceaaDoorTb
import Derived.Test.YthholdjpcdpceaaDoorSa
namespace Go.Proofs.YthholdjpcdpceaaDoor
open Go Go.Mk
def SameC (t : T) : Prop := ∀ {w0 : World} {Y : Nat → Prop} {ca cb : List Value} {t2 : T}, t2 = t → Rep w0 Y (ddT t) ca → Rep w0 Y (ddT t2) cb → t.tiny = true → Ret Tryd.prog 14 [.agg ca.toArray, .agg cb.toArray] w0 fun v w' => Agr Nob w0 w' ∧ v = .bool true
set_option maxRecDepth 100000 in
theorem same_walk {t : T} (ih : ∀ x ∈ t.l, SameC x) : SameC t := by
  intro w0 Y ca cb t2 he hA hB hti
  have hs := tiny_spec hti
  have hs2 : t2.l.length = t.l.length ∧ t2.u.length = t.u.length := by rw [he]; exact ⟨rfl, rfl⟩
  obtain ⟨psa, capsa, pa, capa, pua, capua, rfl⟩ := rep_T7 hA
  obtain ⟨psb, capsb, pb, capb, pub, capub, rfl⟩ := rep_T7 hB
  refine c_call Tryd.func14 rfl rfl fun a hk => ?_
  have hk : Kn 100 [(0, .agg #[.int .i64 t.n, .slice psa t.s.length capsa, .bool t.z, .slice pa t.l.length capa, .slice pua t.u.length capua]), (1, .agg #[.int .i64 t2.n, .slice psb t2.s.length capsb, .bool t2.z, .slice pb t2.l.length capb, .slice pub t2.u.length capub])] a := hk
  have hm : Mem w0 Nob Y [.rep (ddT t) [.int .i64 t.n, .slice psa t.s.length capsa, .bool t.z, .slice pa t.l.length capa, .slice pua t.u.length capua], .rep (ddT t2) [.int .i64 t2.n, .slice psb t2.s.length capsb, .bool t2.z, .slice pb t2.l.length capb, .slice pub t2.u.length capub]] w0 := Mem.start rfl (by simp only [List.forall_mem_cons, List.not_mem_nil, false_imp_iff, implies_true, and_true]; exact ⟨hA, hB⟩)
  refine cR0 ?_
  refine o_box hk hm rfl rfl rfl fun a b1 w hk hm => ?_
  refine o_box hk hm rfl rfl rfl fun a b2 w hk hm => ?_
  refine oA0 hk rfl rfl fun a hk => ?_
  refine cE0 ?_
  refine wp_seq ?_
  refine cR0 ?_
  refine oF0 hk fo_37_0 rfl rfl fun a hk => ?_
  refine o_load hk ts_2 rfl (hm.cell_blk (i := 1) rfl rfl) rfl fun a hk => ?_
  refine oF0 hk fo_37_0 rfl rfl fun a hk => ?_
  refine o_load hk ts_2 rfl (hm.cell_blk (i := 0) rfl rfl) rfl fun a hk => ?_
  refine o_icmp (i := t.n) (j := t2.n) (b := false) hk rfl rfl (by rw [he]; simp [icmp]) rfl fun a hk => ?_
  refine oM0 hk rfl rfl fun a hk => ?_
  refine o_want (o' := _) hk ⟨_, _, _, rfl, rfl, rfl⟩ rfl ?_
  refine oF0 hk fo_37_2 rfl rfl fun a hk => ?_
  refine o_want (o' := _) hk ⟨_, _, _, rfl, rfl, rfl⟩ rfl ?_
  refine o_load hk ts_4 rfl (hm.cell_blk (i := 1) rfl rfl) rfl fun a hk => ?_
  refine o_want (o' := _) hk ⟨_, _, _, rfl, rfl, rfl⟩ rfl ?_
  refine oF0 hk fo_37_2 rfl rfl fun a hk => ?_
  refine o_want (o' := _) hk ⟨_, _, _, rfl, rfl, rfl⟩ rfl ?_
  refine o_load hk ts_4 rfl (hm.cell_blk (i := 0) rfl rfl) rfl fun a hk => ?_
  refine o_want (o' := _) hk ⟨_, _, _, rfl, rfl, rfl⟩ rfl ?_
  refine o_neBool hk ib_4 rfl rfl rfl fun a hk => ?_
  rw [show (t.z != t2.z) = false by rw [he]; exact bne_self_eq_false _] at hk
  refine o_pick hk rfl rfl rfl rfl rfl fun a hk => ?_
  refine oM0 hk rfl rfl fun a hk => ?_
  refine o_want (o' := _) hk ⟨_, _, _, rfl, rfl, rfl⟩ rfl ?_
  refine oF0 hk fo_37_1 rfl rfl fun a hk => ?_
  refine o_want (o' := _) hk ⟨_, _, _, rfl, rfl, rfl⟩ rfl ?_
  refine o_load hk ts_22 rfl (hm.cell_blk (i := 1) rfl rfl) rfl fun a hk => ?_
  refine o_want (o' := _) hk ⟨_, _, _, rfl, rfl, rfl⟩ rfl ?_
  refine oF0 hk fo_37_1 rfl rfl fun a hk => ?_
  refine o_want (o' := _) hk ⟨_, _, _, rfl, rfl, rfl⟩ rfl ?_
  refine o_load hk ts_22 rfl (hm.cell_blk (i := 0) rfl rfl) rfl fun a hk => ?_
  refine o_want (o' := _) hk ⟨_, _, _, rfl, rfl, rfl⟩ rfl ?_
  refine o_call hk cb_41 (same_c (rep_T_s (hm.rep (i := 2) rfl)) (rep_T_s (hm.rep (i := 3) rfl)) (by omega)) ⟨rfl, rfl, trivial⟩ rfl fun v w a hR hk => ?_
  obtain ⟨hp, rfl⟩ := hR
  have hm := hm.pure hp
  rw [show decide (t.s = t2.s) = true from decide_eq_true (by rw [he])] at hk
  refine o_want (o' := _) hk ⟨_, _, _, rfl, rfl, rfl⟩ rfl ?_
  refine o_not hk rfl rfl fun a hk => ?_
  refine o_pick hk rfl rfl rfl rfl rfl fun a hk => ?_
  refine oM0 hk rfl rfl fun a hk => ?_
  refine o_want (o' := _) hk ⟨_, _, _, rfl, rfl, rfl⟩ rfl ?_
  refine oF0 hk fo_37_3 rfl rfl fun a hk => ?_
  refine o_want (o' := _) hk ⟨_, _, _, rfl, rfl, rfl⟩ rfl ?_
  refine o_load hk ts_34 rfl (hm.cell_blk (i := 1) rfl rfl) rfl fun a hk => ?_
  refine o_want (o' := _) hk ⟨_, _, _, rfl, rfl, rfl⟩ rfl ?_
  refine oL0 hk te_34 rfl rfl fun a hk => ?_
  refine o_want (o' := _) hk ⟨_, _, _, rfl, rfl, rfl⟩ rfl ?_
  refine oF0 hk fo_37_3 rfl rfl fun a hk => ?_
  refine o_want (o' := _) hk ⟨_, _, _, rfl, rfl, rfl⟩ rfl ?_
  refine o_load hk ts_34 rfl (hm.cell_blk (i := 0) rfl rfl) rfl fun a hk => ?_
  refine o_want (o' := _) hk ⟨_, _, _, rfl, rfl, rfl⟩ rfl ?_
  refine oL0 hk te_34 rfl rfl fun a hk => ?_
  refine o_want (o' := _) hk ⟨_, _, _, rfl, rfl, rfl⟩ rfl ?_
  refine o_icmp (i := ((t.l.length : Nat) : Int)) (j := ((t2.l.length : Nat) : Int)) (b := false) hk rfl rfl (by rw [he]; simp [icmp]) rfl fun a hk => ?_
  refine o_pick hk rfl rfl rfl rfl rfl fun a hk => ?_
  refine oM0 hk rfl rfl fun a hk => ?_
  refine o_want (o' := _) hk ⟨_, _, _, rfl, rfl, rfl⟩ rfl ?_
  refine oF0 hk fo_37_4 rfl rfl fun a hk => ?_
  refine o_want (o' := _) hk ⟨_, _, _, rfl, rfl, rfl⟩ rfl ?_
  refine o_load hk ts_35 rfl (hm.cell_blk (i := 1) rfl rfl) rfl fun a hk => ?_
  refine o_want (o' := _) hk ⟨_, _, _, rfl, rfl, rfl⟩ rfl ?_
  refine oL0 hk te_35 rfl rfl fun a hk => ?_
  refine o_want (o' := _) hk ⟨_, _, _, rfl, rfl, rfl⟩ rfl ?_
  refine oF0 hk fo_37_4 rfl rfl fun a hk => ?_
  refine o_want (o' := _) hk ⟨_, _, _, rfl, rfl, rfl⟩ rfl ?_
  refine o_load hk ts_35 rfl (hm.cell_blk (i := 0) rfl rfl) rfl fun a hk => ?_
  refine o_want (o' := _) hk ⟨_, _, _, rfl, rfl, rfl⟩ rfl ?_
  refine oL0 hk te_35 rfl rfl fun a hk => ?_
  refine o_want (o' := _) hk ⟨_, _, _, rfl, rfl, rfl⟩ rfl ?_
  refine o_icmp (i := ((t.u.length : Nat) : Int)) (j := ((t2.u.length : Nat) : Int)) (b := false) hk rfl rfl (by rw [he]; simp [icmp]) rfl fun a hk => ?_
  refine o_pick hk rfl rfl rfl rfl rfl fun a hk => ?_
  refine cE0 ?_
  refine c_condF hk rfl ?_
  refine wp_skip ?_
  refine cT0 ?_
  refine wp_seq ?_
  refine cR0 ?_
  refine oF0 hk fo_37_3 rfl rfl fun a hk => ?_
  refine o_load hk ts_34 rfl (hm.cell_blk (i := 1) rfl rfl) rfl fun a hk => ?_
  refine oL0 hk te_34 rfl rfl fun a hk => ?_
  refine oM0 hk rfl rfl fun a hk => ?_
  refine cE0 ?_
  refine c_range (L0 := [(2, .pointer (some ⟨b1, 0, none⟩)), (3, .pointer (some ⟨b2, 0, none⟩))]) (N := t.l.length) (by omega) (fun k L w => L = [(2, .pointer (some ⟨b1, 0, none⟩)), (3, .pointer (some ⟨b2, 0, none⟩))] ∧ Mem w0 Nob Y [.blk b2 [.int .i64 t2.n, .slice psb t2.s.length capsb, .bool t2.z, .slice pb t2.l.length capb, .slice pub t2.u.length capub] 37, .blk b1 [.int .i64 t.n, .slice psa t.s.length capsa, .bool t.z, .slice pa t.l.length capa, .slice pua t.u.length capua] 37, .rep (ddT t) [.int .i64 t.n, .slice psa t.s.length capsa, .bool t.z, .slice pa t.l.length capa, .slice pua t.u.length capua], .rep (ddT t2) [.int .i64 t2.n, .slice psb t2.s.length capsb, .bool t2.z, .slice pb t2.l.length capb, .slice pub t2.u.length capub]] w) (hk.sub ⟨rfl, rfl, rfl, rfl, trivial⟩) ⟨rfl, hm⟩ rfl rfl rfl rfl rfl rfl rfl (fun k L a w hlt hR hk => ?_) rfl (fun L a w hR hk => ?_)
  · obtain ⟨rfl, hm⟩ := hR
    obtain ⟨hltxt, blxt, offxt, ext, hplxt, helxt, hRext, hCext⟩ := rep_sl_get (rep_T_l (hm.rep (i := 2) rfl)) (getD_map ddT t.l k T.nil hlt)
    obtain ⟨psxt, capsxt, pxt, capxt, puxt, capuxt, rfl⟩ := rep_T7 hRext
    have hm := hm.add (e := .rep (ddT (t.l.getD k T.nil)) [.int .i64 ((t.l.getD k T.nil).n), .slice psxt ((t.l.getD k T.nil).s.length) capsxt, .bool ((t.l.getD k T.nil).z), .slice pxt ((t.l.getD k T.nil).l.length) capxt, .slice puxt ((t.l.getD k T.nil).u.length) capuxt]) rfl hRext
    have hm := hm.add (e := .cel blxt (offxt + k * 5) [.int .i64 ((t.l.getD k T.nil).n), .slice psxt ((t.l.getD k T.nil).s.length) capsxt, .bool ((t.l.getD k T.nil).z), .slice pxt ((t.l.getD k T.nil).l.length) capxt, .slice puxt ((t.l.getD k T.nil).u.length) capuxt]) rfl hCext
    obtain ⟨hltyt, blyt, offyt, eyt, hplyt, helyt, hReyt, hCeyt⟩ := rep_sl_get (rep_T_l (hm.rep (i := 5) rfl)) (getD_map ddT t2.l k T.nil (by rw [he]; exact hlt))
    obtain ⟨psyt, capsyt, pyt, capyt, puyt, capuyt, rfl⟩ := rep_T7 hReyt
    have hm := hm.add (e := .rep (ddT (t2.l.getD k T.nil)) [.int .i64 ((t2.l.getD k T.nil).n), .slice psyt ((t2.l.getD k T.nil).s.length) capsyt, .bool ((t2.l.getD k T.nil).z), .slice pyt ((t2.l.getD k T.nil).l.length) capyt, .slice puyt ((t2.l.getD k T.nil).u.length) capuyt]) rfl hReyt
    have hm := hm.add (e := .cel blyt (offyt + k * 5) [.int .i64 ((t2.l.getD k T.nil).n), .slice psyt ((t2.l.getD k T.nil).s.length) capsyt, .bool ((t2.l.getD k T.nil).z), .slice pyt ((t2.l.getD k T.nil).l.length) capyt, .slice puyt ((t2.l.getD k T.nil).u.length) capuyt]) rfl hCeyt
    refine cR0 ?_
    refine oM0 hk rfl rfl fun a hk => ?_
    refine oA0 hk rfl rfl fun a hk => ?_
    refine cE0 ?_
    refine wp_seq ?_
    refine d_startM (K := 11) mixed hm fun w hm => ?_
    refine d_take (i := 0) rfl rfl rfl (by kernel_rfl) (fun _ _ _ h => h) hk rfl (fun w hm => rF0 hk fo_37_3 rfl) hm fun a hk => ?_
    refine d_take (i := 1) rfl rfl rfl (by kernel_rfl) (fun _ _ _ h => h) hk rfl (fun w hm => r_load1 hk ts_34 rfl (hm.cell_blk (i := 5) rfl rfl)) hm fun a hk => ?_
    refine d_take (i := 2) rfl rfl rfl (by kernel_rfl) (fun _ _ _ h => h) hk rfl (fun w hm => r_move hk rfl) hm fun a hk => ?_
    refine d_take (i := 3) rfl rfl rfl (by kernel_rfl) (fun _ _ _ h => h) hk rfl (fun w hm => r_indexAddr (j := k) (b := blxt) (off := offxt) hk te_34 ts_37 (by rw [← hplxt]; rfl) rfl hltxt) hm fun a hk => ?_
    refine d_take (i := 4) rfl rfl rfl (by kernel_rfl) (fun _ _ _ h => h) hk rfl (fun w hm => r_loadN (cs := [.int .i64 ((t.l.getD k T.nil).n), .slice psxt ((t.l.getD k T.nil).s.length) capsxt, .bool ((t.l.getD k T.nil).z), .slice pxt ((t.l.getD k T.nil).l.length) capxt, .slice puxt ((t.l.getD k T.nil).u.length) capuxt]) hk ts_37 rfl (hm.cells_cel (i := 2) (k := 0) rfl rfl)) hm fun a hk => ?_
    refine d_take (i := 5) rfl rfl rfl (by kernel_rfl) (fun _ _ _ h => h) hk rfl (fun w hm => rF0 hk fo_37_3 rfl) hm fun a hk => ?_
    refine d_take (i := 6) rfl rfl rfl (by kernel_rfl) (fun _ _ _ h => h) hk rfl (fun w hm => r_load1 hk ts_34 rfl (hm.cell_blk (i := 4) rfl rfl)) hm fun a hk => ?_
    refine d_one (k := 7) (by kernel_rfl) rfl rfl ?_
    refine oM0 hk rfl rfl fun a hk => ?_
    refine c_endQ (cT0 ⟨fun _ => hm, ?_⟩)
    refine d_one (k := 8) (by kernel_rfl) rfl rfl ?_
    refine oI0 (j := k) (b := blyt) (off := offyt) hk te_34 ts_37 (by rw [← hplyt]; rfl) rfl hltyt rfl fun a hk => ?_
    refine c_endQ (cT0 ⟨fun _ => hm, ?_⟩)
    refine d_one (k := 9) (by kernel_rfl) rfl rfl ?_
    refine o_loadN (cs := [.int .i64 ((t2.l.getD k T.nil).n), .slice psyt ((t2.l.getD k T.nil).s.length) capsyt, .bool ((t2.l.getD k T.nil).z), .slice pyt ((t2.l.getD k T.nil).l.length) capyt, .slice puyt ((t2.l.getD k T.nil).u.length) capuyt]) hk ts_37 rfl (hm.cells_cel (i := 0) (k := 0) rfl rfl) rfl fun a hk => ?_
    refine c_endQ (cT0 ⟨fun _ => hm, ?_⟩)
    refine d_one (k := 10) (by kernel_rfl) rfl rfl ?_
    refine o_call hk cb_14 (ih (t.l.getD k T.nil) (getD_mem hlt) (show (t2.l.getD k T.nil) = (t.l.getD k T.nil) by rw [he]) (hm.rep (i := 3) rfl) (hm.rep (i := 1) rfl) (tiny_getD hs.2.2.2.2.2 k)) ⟨rfl, rfl, trivial⟩ rfl fun v w a hR hk => ?_
    obtain ⟨hp, rfl⟩ := hR
    have hm := hm.pure hp
    refine c_endQ (cT0 ⟨fun _ => hm, ?_⟩)
    refine d_one (k := 11) (by kernel_rfl) rfl rfl ?_
    refine o_not hk rfl rfl fun a hk => ?_
    refine c_endQ (cT0 ⟨fun h => Bool.noConfusion (show true = false from h), ?_⟩)
    refine d_done (by kernel_rfl) ?_ _
    refine cT0 ?_
    refine c_condF hk rfl ?_
    refine wp_skip ?_
    refine cN0 ?_
    exact c_round (L' := [(2, .pointer (some ⟨b1, 0, none⟩)), (3, .pointer (some ⟨b2, 0, none⟩))]) hk ⟨rfl, rfl, rfl, rfl, trivial⟩ rfl ⟨rfl, hm.tail.tail.tail.tail⟩
  · obtain ⟨rfl, hm⟩ := hR
    refine cT0 ?_
    refine wp_seq ?_
    refine cR0 ?_
    refine oF0 hk fo_37_4 rfl rfl fun a hk => ?_
    refine o_load hk ts_35 rfl (hm.cell_blk (i := 1) rfl rfl) rfl fun a hk => ?_
    refine oL0 hk te_35 rfl rfl fun a hk => ?_
    refine oM0 hk rfl rfl fun a hk => ?_
    refine cE0 ?_
    have hus : ∀ k, (t.u.getD k (0, [])).2.length < 4611686018427387904 := small_tag (tiny_small _ hti)
    refine c_range (L0 := [(2, .pointer (some ⟨b1, 0, none⟩)), (3, .pointer (some ⟨b2, 0, none⟩))]) (N := t.u.length) (by omega) (fun k L w => L = [(2, .pointer (some ⟨b1, 0, none⟩)), (3, .pointer (some ⟨b2, 0, none⟩))] ∧ Mem w0 Nob Y [.blk b2 [.int .i64 t2.n, .slice psb t2.s.length capsb, .bool t2.z, .slice pb t2.l.length capb, .slice pub t2.u.length capub] 37, .blk b1 [.int .i64 t.n, .slice psa t.s.length capsa, .bool t.z, .slice pa t.l.length capa, .slice pua t.u.length capua] 37, .rep (ddT t) [.int .i64 t.n, .slice psa t.s.length capsa, .bool t.z, .slice pa t.l.length capa, .slice pua t.u.length capua], .rep (ddT t2) [.int .i64 t2.n, .slice psb t2.s.length capsb, .bool t2.z, .slice pb t2.l.length capb, .slice pub t2.u.length capub]] w) (hk.sub ⟨rfl, rfl, rfl, rfl, trivial⟩) ⟨rfl, hm⟩ rfl rfl rfl rfl rfl rfl rfl (fun k L a w hlt hR hk => ?_) rfl (fun L a w hR hk => ?_)
    · obtain ⟨rfl, hm⟩ := hR
      obtain ⟨hltxt, blxt, offxt, ext, hplxt, helxt, hRext, hCext⟩ := rep_sl_get (rep_T_u (hm.rep (i := 2) rfl)) (getD_map ddTag t.u k (0, []) hlt)
      obtain ⟨ptxt, captxt, rfl, -⟩ := rep_Tag hRext
      have hm := hm.add (e := .rep (ddTag (t.u.getD k (0, []))) [.int .u32 (((t.u.getD k (0, [])).1 : Nat) : Int), .slice ptxt ((t.u.getD k (0, [])).2.length) captxt]) rfl hRext
      have hm := hm.add (e := .cel blxt (offxt + k * 2) [.int .u32 (((t.u.getD k (0, [])).1 : Nat) : Int), .slice ptxt ((t.u.getD k (0, [])).2.length) captxt]) rfl hCext
      obtain ⟨hltyt, blyt, offyt, eyt, hplyt, helyt, hReyt, hCeyt⟩ := rep_sl_get (rep_T_u (hm.rep (i := 5) rfl)) (getD_map ddTag t2.u k (0, []) (by rw [he]; exact hlt))
      obtain ⟨ptyt, captyt, rfl, -⟩ := rep_Tag hReyt
      have hm := hm.add (e := .rep (ddTag (t2.u.getD k (0, []))) [.int .u32 (((t2.u.getD k (0, [])).1 : Nat) : Int), .slice ptyt ((t2.u.getD k (0, [])).2.length) captyt]) rfl hReyt
      have hm := hm.add (e := .cel blyt (offyt + k * 2) [.int .u32 (((t2.u.getD k (0, [])).1 : Nat) : Int), .slice ptyt ((t2.u.getD k (0, [])).2.length) captyt]) rfl hCeyt
      refine cR0 ?_
      refine oM0 hk rfl rfl fun a hk => ?_
      refine oA0 hk rfl rfl fun a hk => ?_
      refine cE0 ?_
      refine wp_seq ?_
      refine d_startM (K := 28) mixed hm fun w hm => ?_
      refine d_take (i := 0) rfl rfl rfl (by kernel_rfl) (fun _ _ _ h => h) hk rfl (fun w hm => rF0 hk fo_37_4 rfl) hm fun a hk => ?_
      refine d_take (i := 1) rfl rfl rfl (by kernel_rfl) (fun _ _ _ h => h) hk rfl (fun w hm => r_load1 hk ts_35 rfl (hm.cell_blk (i := 5) rfl rfl)) hm fun a hk => ?_
      refine d_take (i := 2) rfl rfl rfl (by kernel_rfl) (fun _ _ _ h => h) hk rfl (fun w hm => r_move hk rfl) hm fun a hk => ?_
      refine d_take (i := 3) rfl rfl rfl (by kernel_rfl) (fun _ _ _ h => h) hk rfl (fun w hm => r_indexAddr (j := k) (b := blxt) (off := offxt) hk te_35 ts_61 (by rw [← hplxt]; rfl) rfl hltxt) hm fun a hk => ?_
      refine d_take (i := 4) rfl rfl rfl (by kernel_rfl) (fun _ _ _ h => h) hk rfl (fun w hm => rF0 hk fo_61_0 rfl) hm fun a hk => ?_
      refine d_take (i := 5) rfl rfl rfl (by kernel_rfl) (fun _ _ _ h => h) hk rfl (fun w hm => r_load1 hk ts_59 rfl (hm.cell_cel (i := 2) (j := 0) rfl rfl)) hm fun a hk => ?_
      refine d_take (i := 6) rfl rfl rfl (by kernel_rfl) (fun _ _ _ h => h) hk rfl (fun w hm => rF0 hk fo_37_4 rfl) hm fun a hk => ?_
      refine d_take (i := 7) rfl rfl rfl (by kernel_rfl) (fun _ _ _ h => h) hk rfl (fun w hm => r_load1 hk ts_35 rfl (hm.cell_blk (i := 4) rfl rfl)) hm fun a hk => ?_
      refine d_one (k := 8) (by kernel_rfl) rfl rfl ?_
      refine oM0 hk rfl rfl fun a hk => ?_
      refine c_endQ (cT0 ⟨fun _ => hm, ?_⟩)
      refine d_one (k := 9) (by kernel_rfl) rfl rfl ?_
      refine oI0 (j := k) (b := blyt) (off := offyt) hk te_35 ts_61 (by rw [← hplyt]; rfl) rfl hltyt rfl fun a hk => ?_
      refine c_endQ (cT0 ⟨fun _ => hm, ?_⟩)
      refine d_one (k := 10) (by kernel_rfl) rfl rfl ?_
      refine oF0 hk fo_61_0 rfl rfl fun a hk => ?_
      refine c_endQ (cT0 ⟨fun _ => hm, ?_⟩)
      refine d_one (k := 11) (by kernel_rfl) rfl rfl ?_
      refine o_load hk ts_59 rfl (hm.cell_cel (i := 0) (j := 0) rfl rfl) rfl fun a hk => ?_
      refine c_endQ (cT0 ⟨fun _ => hm, ?_⟩)
      refine d_one (k := 12) (by kernel_rfl) rfl rfl ?_
      refine o_icmp (i := (((t.u.getD k (0, [])).1 : Nat) : Int)) (j := (((t2.u.getD k (0, [])).1 : Nat) : Int)) (b := false) hk rfl rfl (by rw [he]; simp [icmp]) rfl fun a hk => ?_
      refine c_endQ (cT0 ⟨fun _ => hm, ?_⟩)
      refine d_one (k := 13) (by kernel_rfl) rfl rfl ?_
      refine oM0 hk rfl rfl fun a hk => ?_
      refine c_endQ (cT0 ⟨fun _ => hm, ?_⟩)
      refine d_takeW (i := 14) rfl ⟨_, _, _, rfl, rfl, rfl⟩ rfl (by kernel_rfl) (fun _ _ _ h => h) hk rfl (fun w hm => rF0 hk fo_37_4 rfl) hm fun a hk => ?_
      refine d_takeW (i := 15) rfl ⟨_, _, _, rfl, rfl, rfl⟩ rfl (by kernel_rfl) (fun _ _ _ h => h) hk rfl (fun w hm => r_load1 hk ts_35 rfl (hm.cell_blk (i := 5) rfl rfl)) hm fun a hk => ?_
      refine d_takeW (i := 16) rfl ⟨_, _, _, rfl, rfl, rfl⟩ rfl (by kernel_rfl) (fun _ _ _ h => h) hk rfl (fun w hm => r_move hk rfl) hm fun a hk => ?_
      refine d_takeW (i := 17) rfl ⟨_, _, _, rfl, rfl, rfl⟩ rfl (by kernel_rfl) (fun _ _ _ h => h) hk rfl (fun w hm => r_indexAddr (j := k) (b := blxt) (off := offxt) hk te_35 ts_61 (by rw [← hplxt]; rfl) rfl hltxt) hm fun a hk => ?_
      refine d_takeW (i := 18) rfl ⟨_, _, _, rfl, rfl, rfl⟩ rfl (by kernel_rfl) (fun _ _ _ h => h) hk rfl (fun w hm => rF0 hk fo_61_1 rfl) hm fun a hk => ?_
      refine d_takeW (i := 19) rfl ⟨_, _, _, rfl, rfl, rfl⟩ rfl (by kernel_rfl) (fun _ _ _ h => h) hk rfl (fun w hm => r_load1 hk ts_22 rfl (hm.cell_cel (i := 2) (j := 1) rfl rfl)) hm fun a hk => ?_
      refine d_takeW (i := 20) rfl ⟨_, _, _, rfl, rfl, rfl⟩ rfl (by kernel_rfl) (fun _ _ _ h => h) hk rfl (fun w hm => rF0 hk fo_37_4 rfl) hm fun a hk => ?_
      refine d_takeW (i := 21) rfl ⟨_, _, _, rfl, rfl, rfl⟩ rfl (by kernel_rfl) (fun _ _ _ h => h) hk rfl (fun w hm => r_load1 hk ts_35 rfl (hm.cell_blk (i := 4) rfl rfl)) hm fun a hk => ?_
      refine d_oneW (k := 22) (by kernel_rfl) rfl hk ⟨_, _, _, rfl, rfl, rfl⟩ rfl ?_
      refine oM0 hk rfl rfl fun a hk => ?_
      refine c_endQ (cT0 ⟨fun _ => hm, ?_⟩)
      refine d_oneW (k := 23) (by kernel_rfl) rfl hk ⟨_, _, _, rfl, rfl, rfl⟩ rfl ?_
      refine oI0 (j := k) (b := blyt) (off := offyt) hk te_35 ts_61 (by rw [← hplyt]; rfl) rfl hltyt rfl fun a hk => ?_
      refine c_endQ (cT0 ⟨fun _ => hm, ?_⟩)
      refine d_oneW (k := 24) (by kernel_rfl) rfl hk ⟨_, _, _, rfl, rfl, rfl⟩ rfl ?_
      refine oF0 hk fo_61_1 rfl rfl fun a hk => ?_
      refine c_endQ (cT0 ⟨fun _ => hm, ?_⟩)
      refine d_oneW (k := 25) (by kernel_rfl) rfl hk ⟨_, _, _, rfl, rfl, rfl⟩ rfl ?_
      refine o_load hk ts_22 rfl (hm.cell_cel (i := 0) (j := 1) rfl rfl) rfl fun a hk => ?_
      refine c_endQ (cT0 ⟨fun _ => hm, ?_⟩)
      refine d_oneW (k := 26) (by kernel_rfl) rfl hk ⟨_, _, _, rfl, rfl, rfl⟩ rfl ?_
      refine o_call hk cb_41 (same_c (rep_Tag2 (hm.rep (i := 3) rfl)) (rep_Tag2 (hm.rep (i := 1) rfl)) (by have := hus k; omega)) ⟨rfl, rfl, trivial⟩ rfl fun v w a hR hk => ?_
      obtain ⟨hp, rfl⟩ := hR
      have hm := hm.pure hp
      rw [show decide ((t.u.getD k (0, [])).2 = (t2.u.getD k (0, [])).2) = true from decide_eq_true (by rw [he])] at hk
      refine c_endQ (cT0 ⟨fun _ => hm, ?_⟩)
      refine d_oneW (k := 27) (by kernel_rfl) rfl hk ⟨_, _, _, rfl, rfl, rfl⟩ rfl ?_
      refine o_not hk rfl rfl fun a hk => ?_
      refine c_endQ (cT0 ⟨fun _ => hm, ?_⟩)
      refine d_one (k := 28) (by kernel_rfl) rfl rfl ?_
      refine o_pick hk rfl rfl rfl rfl rfl fun a hk => ?_
      refine c_endQ (cT0 ⟨fun h => Bool.noConfusion (show true = false from h), ?_⟩)
      refine d_done (by kernel_rfl) ?_ _
      refine cT0 ?_
      refine c_condF hk rfl ?_
      refine wp_skip ?_
      refine cN0 ?_
      exact c_round (L' := [(2, .pointer (some ⟨b1, 0, none⟩)), (3, .pointer (some ⟨b2, 0, none⟩))]) hk ⟨rfl, rfl, rfl, rfl, trivial⟩ rfl ⟨rfl, hm.tail.tail.tail.tail⟩
    · obtain ⟨rfl, hm⟩ := hR
      refine cT0 ?_
      refine cR0 ?_
      refine oA0 hk rfl rfl fun a hk => ?_
      refine cE0 ?_
      refine wp_ret ?_
      refine bT0 rfl hk rfl ?_
      exact ⟨hm.agr, rfl⟩
theorem sametree_c : ∀ t, SameC t := T_ind fun t ih => same_walk ih
end Go.Proofs.YthholdjpcdpceaaDoor
