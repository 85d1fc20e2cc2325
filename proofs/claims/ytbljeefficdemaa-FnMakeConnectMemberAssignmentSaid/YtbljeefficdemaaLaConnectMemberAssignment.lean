/- Proved: FnMakeConnectMemberAssignment answers true at every input, and its arguments read behind the call as before. Conditions: those of the given statement, no other. -/
import Derived.Test.YtbljeefficdemaaMkOpen
import Derived.Test.YtbljeefficdemaaRows
import Derived.Test.YtbljeefficdemaaFa
import Derived.Test.YtbljeefficdemaaDoConnectMemberAssignment
import Derived.Test.YtbljeefficdemaaSxConnectMemberAssignment
namespace Go.Proofs.Ytbljeefficdemaa
open Go Go.Mk
theorem law_ConnectMemberAssignment {w0 : World} {Y : Nat → Prop} {t : T} {ct : List Value} (n : Nat) (hn : n < 256) (hT : Rep w0 Y (ddT t) ct) (hroom : ∀ V : Int, 0 ≤ V → (fixed V 2 ++ partP sch_ConnectMemberAssignment V false t).length ≤ room) : Ret Try.prog 4 [.int .u8 (n : Int), .agg ct.toArray] w0 fun v w' => Agr Nob w0 w' ∧ v = .bool true := by
  obtain ⟨pst, capst, pt, capt, put, caput, rfl⟩ := rep_T7 hT
  refine c_call Try.func4 rfl rfl fun a hk => ?_
  have hk : Kn 27 [(0, .int .u8 (n : Int)), (1, .agg #[.int .i64 t.n, .slice pst t.s.length capst, .bool t.z, .slice pt t.l.length capt, .slice put t.u.length caput])] a := hk
  have hm : Mem w0 Nob Y [.rep (ddT t) [.int .i64 t.n, .slice pst t.s.length capst, .bool t.z, .slice pt t.l.length capt, .slice put t.u.length caput]] w0 := Mem.start rfl (by simp only [List.forall_mem_cons, List.not_mem_nil, false_imp_iff, implies_true, and_true]; exact hT)
  refine c_region ?_
  refine o_box hk hm rfl rfl rfl fun a b1 w hk hm => ?_
  refine o_assign hk rfl rfl fun a hk => ?_
  refine c_end ?_
  refine wp_seq ?_
  refine c_region ?_
  refine o_loadN (cs := [.int .i64 t.n, .slice pst t.s.length capst, .bool t.z, .slice pt t.l.length capt, .slice put t.u.length caput]) hk ts_26 rfl (hm.cells_blk (i := 0) rfl rfl) rfl fun a hk => ?_
  refine o_call hk cb_5 (fits1_c (hm.rep (i := 1) rfl)) ⟨rfl, trivial⟩ rfl fun v w a hR hk => ?_
  obtain ⟨hp, rfl⟩ := hR
  have hm := hm.pure hp
  refine o_not hk rfl rfl fun a hk => ?_
  refine c_end ?_
  refine c_cond hk rfl (fun hc => ?_) (fun hc => ?_)
  · refine c_region ?_
    refine o_assign hk rfl rfl fun a hk => ?_
    refine c_end ?_
    refine wp_ret ?_
    refine c_thenRet ?_
    refine b_retTmp rfl hk rfl ?_
    exact ⟨hm.agr, rfl⟩
  · refine wp_skip ?_
    refine c_then ?_
    refine c_region ?_
    refine o_call hk cb_14 (msg_c_ConnectMemberAssignment (Y := Yof w0 Y [.blk b1 [.int .i64 t.n, .slice pst t.s.length capst, .bool t.z, .slice pt t.l.length capt, .slice put t.u.length caput] 26, .rep (ddT t) [.int .i64 t.n, .slice pst t.s.length capst, .bool t.z, .slice pt t.l.length capt, .slice put t.u.length caput]])) trivial rfl fun v w a hR hk => ?_
    obtain ⟨hp, pm, capm, rfl, hR⟩ := hR
    have hm := hm.result hp hR
    refine o_move hk rfl rfl fun a hk => ?_
    refine o_convInt (c := (n : Int)) hk un_5 ti_3 rfl (IntWalk.i64_in _ (by omega)) rfl fun a hk => ?_
    refine o_rem (c := (n : Int) % 2) hk rfl rfl (by decide) (Int.tmod_eq_emod_of_nonneg (by omega)) rfl fun a hk => ?_
    obtain ⟨V, hV⟩ : ∃ y, y = (n : Int) % 2 := ⟨_, rfl⟩
    rw [← hV] at hk
    have hV0 : 0 ≤ V := by omega
    have hV1 : V ≤ 1000 := by omega
    have hro := hroom V hV0
    refine o_alloc hk hm tz_31 rfl rfl fun a b2 w hk hm => ?_
    refine o_store (i := 0) hk hm ts_31 rfl rfl rfl rfl rfl rfl (Nat.le_of_ble_eq_true rfl) fun a w hk hm => ?_
    refine o_assign hk rfl rfl fun a hk => ?_
    refine c_end ?_
    refine wp_seq ?_
    refine d_startM (K := 13) mixed hm fun w hm => ?_
    refine d_take (i := 0) rfl rfl rfl (by kernel_rfl) (fun _ _ _ h => h) hk rfl (fun w hm => r_move hk rfl) hm fun a hk => ?_
    refine d_take (i := 1) rfl rfl rfl (by kernel_rfl) (fun _ _ _ h => h) hk rfl (fun w hm => r_fieldAddr hk fo_31_0 rfl) hm fun a hk => ?_
    refine d_take (i := 2) rfl rfl rfl (by kernel_rfl) (fun _ _ _ h => h) hk rfl (fun w hm => r_load1 hk ts_29 rfl (hm.cell_blk (i := 0) rfl rfl)) hm fun a hk => ?_
    refine d_take (i := 3) rfl rfl rfl (by kernel_rfl) (fun _ _ _ h => h) hk rfl (fun w hm => r_move hk rfl) hm fun a hk => ?_
    refine d_take (i := 4) rfl rfl rfl (by kernel_rfl) (fun _ _ _ h => h) hk rfl (fun w hm => r_loadN (cs := [.int .i64 t.n, .slice pst t.s.length capst, .bool t.z, .slice pt t.l.length capt, .slice put t.u.length caput]) hk ts_26 rfl (hm.cells_blk (i := 2) rfl rfl)) hm fun a hk => ?_
    refine d_take (i := 8) rfl rfl rfl (by kernel_rfl) (fun _ _ _ h => h) hk rfl (fun w hm => r_loadN (cs := [.slice pm sch_ConnectMemberAssignment.length capm, .int .i64 (-1)]) hk ts_31 rfl (hm.cells_blk (i := 0) rfl rfl)) hm fun a hk => ?_
    refine d_take (i := 9) rfl rfl rfl (by kernel_rfl) (fun _ _ _ h => h) hk rfl (fun w hm => r_move hk rfl) hm fun a hk => ?_
    refine d_take (i := 10) rfl rfl rfl (by kernel_rfl) (fun _ _ _ h => h) hk rfl (fun w hm => r_loadN (cs := [.int .i64 t.n, .slice pst t.s.length capst, .bool t.z, .slice pt t.l.length capt, .slice put t.u.length caput]) hk ts_26 rfl (hm.cells_blk (i := 2) rfl rfl)) hm fun a hk => ?_
    refine d_one (k := 5) (by kernel_rfl) rfl rfl ?_
    refine o_call hk cb_12 ((fit_c (fs := sch_ConnectMemberAssignment) rfl (by decide)) V (hm.rep (i := 1) rfl) (hm.rep (i := 3) rfl)) ⟨rfl, rfl, rfl, trivial⟩ rfl fun v w a hR hk => ?_
    obtain ⟨hp, cf, rfl, hR⟩ := hR
    obtain ⟨psf, capsf, pf, capf, puf, capuf, rfl⟩ := rep_T7 hR
    have hm := hm.result hp hR
    refine c_endQ (c_then ⟨fun _ => hm.tail, ?_⟩)
    refine d_one (k := 6) (by kernel_rfl) rfl rfl ?_
    refine o_call hk cb_11 (given_c (fitP sch_ConnectMemberAssignment V t) (hm.rep (i := 0) rfl) (small_fitP rfl (by decide) V t)) ⟨rfl, trivial⟩ rfl fun v w a hR hk => ?_
    obtain ⟨hp, cg, rfl, hR⟩ := hR
    obtain ⟨psg, capsg, pg, capg, pug, capug, rfl⟩ := rep_T7 hR
    have hm := hm.result hp hR
    refine c_endQ (c_then ⟨fun _ => hm.tail.tail, ?_⟩)
    refine d_one (k := 7) (by kernel_rfl) rfl rfl ?_
    refine o_call hk cb_15 (make_c_ConnectMemberAssignment V hV0 hV1 (hm.rep (i := 0) rfl) hro) ⟨rfl, rfl, trivial⟩ rfl fun v3 w a hR hk => ?_
    have hm := hm.rowNew hR
    refine c_endQ (c_then ⟨fun _ => hm.tail.tail.tail, ?_⟩)
    refine d_one (k := 11) (by kernel_rfl) rfl rfl ?_
    refine o_call hk cb_16 (kept_c (flex := false) (-1) V (partp_c (fs := sch_ConnectMemberAssignment) rfl (by decide)) (by simp) (hm.rep (i := 4) rfl) (hm.rep (i := 6) rfl) (by have := hro; rw [List.length_append, fixed_length] at this; exact this)) ⟨rfl, rfl, rfl, trivial⟩ rfl fun v4 w a hR hk => ?_
    have hm := hm.rowNew hR
    refine c_endQ (c_then ⟨fun _ => hm.tail.tail.tail.tail, ?_⟩)
    refine d_one (k := 12) (by kernel_rfl) rfl rfl ?_
    obtain ⟨pz0, cz0, rfl⟩ := row_form (hm.row (i := 1) rfl)
    have hm := hm.freezeBytes (i := 1) rfl rfl
    obtain ⟨pz1, cz1, rfl⟩ := row_form (hm.row (i := 0) rfl)
    have hm := hm.freezeBytes (i := 0) rfl rfl
    refine o_call hk cb_9 (same_c (hm.rep (i := 1) rfl) (hm.rep (i := 0) rfl) (by unfold room at hro; omega)) ⟨rfl, rfl, trivial⟩ rfl fun v w a hR hk => ?_
    obtain ⟨hp, rfl⟩ := hR
    have hm := hm.pure hp
    refine c_endQ (c_then ⟨fun _ => hm.tail.tail.tail.tail, ?_⟩)
    refine d_one (k := 13) (by kernel_rfl) rfl rfl ?_
    refine o_assign hk rfl rfl fun a hk => ?_
    refine c_endQ (c_then ⟨fun h => Bool.noConfusion (show true = false from h), ?_⟩)
    refine d_done (by kernel_rfl) ?_ _
    refine c_then ?_
    refine wp_ret ?_
    refine b_retTmp rfl hk rfl ?_
    exact ⟨hm.agr, by rw [decide_eq_true rfl]⟩
open Go.ChangeShapes Go.WideShapes Go.ChangeAt Go.RowKit
theorem own : ownKnob Try.prog.godebug = none := by kernel_rfl
theorem laidOut : laidOutB Try.prog = true := by kernel_rfl
theorem treeTy : TreeTy Try.prog 26 60 2 22 5 4 23 24 58 := ⟨by kernel_rfl, by kernel_rfl, by kernel_rfl, by kernel_rfl, by kernel_rfl, by kernel_rfl, by kernel_rfl, by kernel_rfl, by kernel_rfl⟩

set_option maxRecDepth 100000 in
theorem contract (H : Type) (enc : TypeId × Value → H) (W : World) (base : Nat) (args : Array Value) (ds gs : List (DataW H)) (before : List MemPlace)
    (hval : ∀ (j : Nat) t v, Try.f4.params[j]? = some t → args[j]? = some v → Value.okWide Try.prog W .any base t v)
    (hW : DataW.Whole enc Try.prog Try.f4.params.toList Rows.fnMakeConnectMemberAssignmentSpec.vars false W args.toList ds gs before) :
    Calls Try.prog 4 args W fun e W' => ∃ v, e = .returned v ∧ Rows.fnMakeConnectMemberAssignmentSpec.post enc Try.prog Try.f4 false true false false W args v W' := by
  have hW' := hW
  obtain ⟨p, q, hA0, hV, rfl, hfz, hnd⟩ := hW
  have hA : DataW.TrodAll enc Try.prog W 0 (fun _ => true) true Try.f4.params.toList args.toList ds p := hA0
  rw [Try.params4] at hA hval
  obtain ⟨v0, vs0, d0, ds0, p0, q0, hargs, rfl, rfl, h0, r0⟩ := trodAll_cons hA
  obtain ⟨v1, vs1, d1, ds1, p1, q1, rfl, rfl, rfl, h1, r1⟩ := trodAll_cons r0
  obtain ⟨rfl, rfl, rfl⟩ := trodAll_nil r1
  obtain rfl : args = #[v0, v1] := by cases args; simp_all
  obtain ⟨rfl, rfl⟩ := trodVars_none hV
  obtain ⟨a0, rfl, rfl, rfl, w0⟩ := open_int Try.underlying5 (hval 0 5 v0 rfl rfl) h0
  clear hA0
  obtain ⟨t, ct, rfl, hT⟩ := open_tree treeTy (fun _ => rfl) agg_of_len h1
  simp only [List.append_nil, List.nil_append] at hW'
  have hlt : ∀ x ∈ p1, x.block < W.heap.size := fun x hx => by simpa using hW'.lt x hx
  have hb0 : 0 ≤ a0 ∧ a0 < 256 := by
    simp only [Lit.wf, Bool.and_eq_true, decide_eq_true_eq] at w0
    simp [IntKind.min, IntKind.max, IntKind.bits, IntKind.signed] at w0
    omega
  obtain ⟨n, rfl⟩ : ∃ n : Nat, a0 = (n : Int) := ⟨a0.toNat, by omega⟩
  have hn : n < 256 := by omega
  refine Calls.mono (law_ConnectMemberAssignment (Y := Nob) n hn hT (fun V _ => by rw [List.length_append, fixed_length]; exact Nat.le_trans (Nat.add_le_add_left (mx_part sch_ConnectMemberAssignment V t) 2) (of_decide_eq_true (by kernel_rfl)))) fun e W' he => ?_
  obtain ⟨v, rfl, hg, rfl⟩ := he
  have hbel := hg.below
  have hargs := trodAll_cons_mk (enc := enc) (shut_int (base := 0) (w := W') (spare := fun b => decide (b < W.heap.size)) (held := true) Try.underlying5 w0) (trodAll_cons_mk (Below.trod laidOut (by kernel_rfl) (of_decide_eq_true (by kernel_rfl)) h1 hbel hlt) trodAll_mk0)
  simp only [List.append_nil, List.nil_append] at hargs
  exact ⟨_, rfl, _, _, _, [], p1, [], hW', trodAll_cons_mk (shut_bool Try.underlying4 _) trodAll_mk0, hargs, rfl, hbel.frame _, fun h => by cases h⟩

set_option maxRecDepth 100000 in
theorem lifted (os : Os) (started : os.Started) (H : Type) (enc : TypeId × Value → H) :
    ReturnsInHanded {} Try.checked os 4 .any (Rows.fnMakeConnectMemberAssignmentSpec.pre6 enc Try.prog Try.f4 Rows.fnMakeConnectMemberAssignmentRow.domain false) (Rows.fnMakeConnectMemberAssignmentSpec.post enc Try.prog Try.f4 false true false false) := by
  refine returnsInHanded_of_change (C := Try.checked) own started (by kernel_rfl) Try.func4
    (ChangeSpec.witness6 (enc := enc) (C := Try.checked) false ⟨#[], #[.int .u8 0, .agg #[.int .i64 0, .slice none 0 0, .bool false, .slice none 0 0, .slice none 0 0]], []⟩ 8 (by kernel_rfl) (by kernel_rfl) (by kernel_rfl) (by kernel_rfl)) ?_
  intro W base args ds gs before hval hW _ _
  exact contract H enc W base args ds gs before hval hW

theorem proved : Rows.FnMakeConnectMemberAssignmentSaid :=
  OpenClaim.holds_of_wide 4 Try.f4 rfl rfl rfl rfl rfl rfl rfl ⟨rfl, rfl, rfl, rfl, rfl⟩ rfl rfl rfl rfl rfl (by kernel_rfl) Try.func4 (by kernel_rfl)
    (of_decide_eq_true (by kernel_rfl)) (by unfold Func.isWrapper; first | (rw [if_pos (by decide +kernel)]; kernel_rfl) | (rw [if_neg (by decide +kernel)]; exact ⟨rfl, rfl⟩))
    (fun os started H enc _ => lifted os started H enc)
end Go.Proofs.Ytbljeefficdemaa
