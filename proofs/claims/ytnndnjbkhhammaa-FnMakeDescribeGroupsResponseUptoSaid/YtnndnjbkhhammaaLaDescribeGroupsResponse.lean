/- Proved: FnMakeDescribeGroupsResponse answers true at every input of the bulk that the statement names, and its arguments read behind the call as before. Conditions: those of the given statement, no other. -/
import Derived.Test.YtnndnjbkhhammaaL2
import Derived.Test.YtnndnjbkhhammaaRows
import Derived.Test.YtnndnjbkhhammaaFa
import Derived.Test.YtnndnjbkhhammaaDoDescribeGroupsResponse
import Derived.Test.YtnndnjbkhhammaaSxDescribeGroupsResponse
namespace Go.Proofs.Ytnndnjbkhhammaa
open Go Go.Mk
theorem law_DescribeGroupsResponse {w0 : World} {Y : Nat → Prop} {t : T} {ct : List Value} (n : Nat) (hn : n < 256) (hT : Rep w0 Y (ddT t) ct) (hsn : t.sane = true) (hroom : ∀ V : Int, 0 ≤ V → (partP sch_DescribeGroupsResponse V (decide (V ≥ 5)) t).length ≤ room) : Ret Try.prog 4 [.int .u8 (n : Int), .agg ct.toArray] w0 fun v w' => Agr Nob w0 w' ∧ v = .bool true := by
  obtain ⟨pst, capst, pt, capt, put, caput, rfl⟩ := rep_T7 hT
  refine c_call Try.func4 rfl rfl fun a hk => ?_
  have hk : Kn 31 [(0, .int .u8 (n : Int)), (1, .agg #[.int .i64 t.n, .slice pst t.s.length capst, .bool t.z, .slice pt t.l.length capt, .slice put t.u.length caput])] a := hk
  have hm : Mem w0 Nob Y [.rep (ddT t) [.int .i64 t.n, .slice pst t.s.length capst, .bool t.z, .slice pt t.l.length capt, .slice put t.u.length caput]] w0 := Mem.start rfl (by simp only [List.forall_mem_cons, List.not_mem_nil, false_imp_iff, implies_true, and_true]; exact hT)
  refine c_region ?_
  refine o_box hk hm rfl rfl rfl fun a b1 w hk hm => ?_
  refine o_assign hk rfl rfl fun a hk => ?_
  refine c_end ?_
  refine wp_seq ?_
  refine c_region ?_
  refine o_loadN (cs := [.int .i64 t.n, .slice pst t.s.length capst, .bool t.z, .slice pt t.l.length capt, .slice put t.u.length caput]) hk ts_26 rfl (hm.cells_blk (i := 0) rfl rfl) rfl fun a hk => ?_
  refine o_call hk cb_5 (fits1_c (hm.rep (i := 1) rfl)) ⟨rfl, trivial⟩ rfl fun v w a hR hk => ?_
  obtain ⟨hp, rfl⟩ := hR
  have hm := hm.pure hp
  refine o_not hk rfl rfl fun a hk => ?_
  refine c_end ?_
  refine c_cond hk rfl (fun hc => ?_) (fun hc => ?_)
  · refine c_region ?_
    refine o_assign hk rfl rfl fun a hk => ?_
    refine c_end ?_
    refine wp_ret ?_
    refine c_thenRet ?_
    refine b_retTmp rfl hk rfl ?_
    exact ⟨hm.agr, rfl⟩
  · refine wp_skip ?_
    refine c_then ?_
    refine c_region ?_
    refine o_call hk cb_14 (max_DescribeGroupsResponse (Y := Y)) trivial rfl fun v w a hR hk => ?_
    obtain ⟨hp, rfl⟩ := hR
    have hm := hm.pure hp
    refine o_assign hk rfl rfl fun a hk => ?_
    refine c_end ?_
    refine wp_seq ?_
    refine c_region ?_
    refine o_move hk rfl rfl fun a hk => ?_
    refine o_icmp hk rfl rfl rfl rfl fun a hk => ?_
    refine c_end ?_
    refine c_cond hk rfl (fun hc => ?_) (fun hc => ?_)
    · refine c_region ?_
      refine o_assign hk rfl rfl fun a hk => ?_
      refine c_end ?_
      refine wp_ret ?_
      refine c_thenRet ?_
      refine b_retTmp rfl hk rfl ?_
      exact absurd hc (by decide)
    · refine wp_skip ?_
      refine c_then ?_
      refine c_region ?_
      refine o_call hk cb_15 (msg_c_DescribeGroupsResponse (Y := Yof w0 Y [.blk b1 [.int .i64 t.n, .slice pst t.s.length capst, .bool t.z, .slice pt t.l.length capt, .slice put t.u.length caput] 26, .rep (ddT t) [.int .i64 t.n, .slice pst t.s.length capst, .bool t.z, .slice pt t.l.length capt, .slice put t.u.length caput]])) trivial rfl fun v w a hR hk => ?_
      obtain ⟨hp, pm, capm, rfl, hR⟩ := hR
      have hm := hm.result hp hR
      refine o_move hk rfl rfl fun a hk => ?_
      refine o_move hk rfl rfl fun a hk => ?_
      refine o_call hk cb_8 (version_c (Y := Y) hn (by decide) (by decide)) ⟨rfl, rfl, trivial⟩ rfl fun v w a hR hk => ?_
      obtain ⟨hp, rfl⟩ := hR
      have hm := hm.pure hp
      obtain ⟨V, hV⟩ : ∃ y, y = (n : Int) % ((6 : Int) + 1) := ⟨_, rfl⟩
      rw [← hV] at hk
      have hV0 : 0 ≤ V := by omega
      have hV1 : V ≤ 6 := by omega
      have hro := hroom V hV0
      refine o_alloc hk hm tz_31 rfl rfl fun a b2 w hk hm => ?_
      refine o_store (i := 0) hk hm ts_31 rfl rfl rfl rfl rfl rfl (Nat.le_of_ble_eq_true rfl) fun a w hk hm => ?_
      refine o_assign hk rfl rfl fun a hk => ?_
      refine c_end ?_
      refine wp_seq ?_
      refine d_startM (K := 13) mixed hm fun w hm => ?_
      refine d_take (i := 0) rfl rfl rfl (by kernel_rfl) (fun _ _ _ h => h) hk rfl (fun w hm => r_move hk rfl) hm fun a hk => ?_
      refine d_take (i := 1) rfl rfl rfl (by kernel_rfl) (fun _ _ _ h => h) hk rfl (fun w hm => r_fieldAddr hk fo_31_0 rfl) hm fun a hk => ?_
      refine d_take (i := 2) rfl rfl rfl (by kernel_rfl) (fun _ _ _ h => h) hk rfl (fun w hm => r_load1 hk ts_29 rfl (hm.cell_blk (i := 0) rfl rfl)) hm fun a hk => ?_
      refine d_take (i := 3) rfl rfl rfl (by kernel_rfl) (fun _ _ _ h => h) hk rfl (fun w hm => r_move hk rfl) hm fun a hk => ?_
      refine d_take (i := 4) rfl rfl rfl (by kernel_rfl) (fun _ _ _ h => h) hk rfl (fun w hm => r_loadN (cs := [.int .i64 t.n, .slice pst t.s.length capst, .bool t.z, .slice pt t.l.length capt, .slice put t.u.length caput]) hk ts_26 rfl (hm.cells_blk (i := 2) rfl rfl)) hm fun a hk => ?_
      refine d_take (i := 8) rfl rfl rfl (by kernel_rfl) (fun _ _ _ h => h) hk rfl (fun w hm => r_loadN (cs := [.slice pm sch_DescribeGroupsResponse.length capm, .int .i64 5]) hk ts_31 rfl (hm.cells_blk (i := 0) rfl rfl)) hm fun a hk => ?_
      refine d_take (i := 9) rfl rfl rfl (by kernel_rfl) (fun _ _ _ h => h) hk rfl (fun w hm => r_move hk rfl) hm fun a hk => ?_
      refine d_take (i := 10) rfl rfl rfl (by kernel_rfl) (fun _ _ _ h => h) hk rfl (fun w hm => r_loadN (cs := [.int .i64 t.n, .slice pst t.s.length capst, .bool t.z, .slice pt t.l.length capt, .slice put t.u.length caput]) hk ts_26 rfl (hm.cells_blk (i := 2) rfl rfl)) hm fun a hk => ?_
      refine d_one (k := 5) (by kernel_rfl) rfl rfl ?_
      refine o_call hk cb_12 ((fit_c (fs := sch_DescribeGroupsResponse) rfl (by decide)) V (hm.rep (i := 1) rfl) (hm.rep (i := 3) rfl)) ⟨rfl, rfl, rfl, trivial⟩ rfl fun v w a hR hk => ?_
      obtain ⟨hp, cf, rfl, hR⟩ := hR
      obtain ⟨psf, capsf, pf, capf, puf, capuf, rfl⟩ := rep_T7 hR
      have hm := hm.result hp hR
      refine c_endQ (c_then ⟨fun _ => hm.tail, ?_⟩)
      refine d_one (k := 6) (by kernel_rfl) rfl rfl ?_
      refine o_call hk cb_11 (given_c (fitP sch_DescribeGroupsResponse V t) (hm.rep (i := 0) rfl) (small_fitP rfl (by decide) V t)) ⟨rfl, trivial⟩ rfl fun v w a hR hk => ?_
      obtain ⟨hp, cg, rfl, hR⟩ := hR
      obtain ⟨psg, capsg, pg, capg, pug, capug, rfl⟩ := rep_T7 hR
      have hm := hm.result hp hR
      refine c_endQ (c_then ⟨fun _ => hm.tail.tail, ?_⟩)
      refine d_one (k := 7) (by kernel_rfl) rfl rfl ?_
      refine o_call hk cb_16 (make_c_DescribeGroupsResponse V hV0 hV1 hsn (hm.rep (i := 0) rfl) hro) ⟨rfl, rfl, trivial⟩ rfl fun v3 w a hR hk => ?_
      have hm := hm.rowNew hR
      refine c_endQ (c_then ⟨fun _ => hm.tail.tail.tail, ?_⟩)
      refine d_one (k := 11) (by kernel_rfl) rfl rfl ?_
      refine o_call hk cb_13 (write_c (flex := (decide (V ≥ 5))) 5 V (partx_c (fs := sch_DescribeGroupsResponse) rfl (fun _ => rfl) (by decide)) (by simp) (hm.rep (i := 4) rfl) (hm.rep (i := 6) rfl) hsn hro) ⟨rfl, rfl, rfl, trivial⟩ rfl fun v4 w a hR hk => ?_
      have hm := hm.rowNew hR
      refine c_endQ (c_then ⟨fun _ => hm.tail.tail.tail.tail, ?_⟩)
      refine d_one (k := 12) (by kernel_rfl) rfl rfl ?_
      obtain ⟨pz0, cz0, rfl⟩ := row_form (hm.row (i := 1) rfl)
      have hm := hm.freezeBytes (i := 1) rfl rfl
      obtain ⟨pz1, cz1, rfl⟩ := row_form (hm.row (i := 0) rfl)
      have hm := hm.freezeBytes (i := 0) rfl rfl
      refine o_call hk cb_9 (same_c (hm.rep (i := 1) rfl) (hm.rep (i := 0) rfl) (by unfold room at hro; omega)) ⟨rfl, rfl, trivial⟩ rfl fun v w a hR hk => ?_
      obtain ⟨hp, rfl⟩ := hR
      have hm := hm.pure hp
      refine c_endQ (c_then ⟨fun _ => hm.tail.tail.tail.tail, ?_⟩)
      refine d_one (k := 13) (by kernel_rfl) rfl rfl ?_
      refine o_assign hk rfl rfl fun a hk => ?_
      refine c_endQ (c_then ⟨fun h => Bool.noConfusion (show true = false from h), ?_⟩)
      refine d_done (by kernel_rfl) ?_ _
      refine c_then ?_
      refine wp_ret ?_
      refine b_retTmp rfl hk rfl ?_
      exact ⟨hm.agr, by rw [decide_eq_true rfl]⟩
open Go.ChangeShapes Go.WideShapes Go.ChangeAt Go.RowKit
theorem own : ownKnob Try.prog.godebug = none := by kernel_rfl
theorem laidOut : laidOutB Try.prog = true := by kernel_rfl
theorem treeTy : TreeTy Try.prog 26 67 2 22 5 4 23 24 65 := ⟨by kernel_rfl, by kernel_rfl, by kernel_rfl, by kernel_rfl, by kernel_rfl, by kernel_rfl, by kernel_rfl, by kernel_rfl, by kernel_rfl, by kernel_rfl, by kernel_rfl, by kernel_rfl⟩

set_option maxRecDepth 100000 in
theorem contract (H : Type) (enc : TypeId × Value → H) (W : World) (base : Nat) (args : Array Value) (ds gs : List (DataW H)) (before : List MemPlace)
    (hval : ∀ (j : Nat) t v, Try.f4.params[j]? = some t → args[j]? = some v → Value.okWide Try.prog W .any base t v)
    (hW : DataW.Whole enc Try.prog Try.f4.params.toList Rows.fnMakeDescribeGroupsResponseSpec.vars false W args.toList ds gs before)
    (hextra : ∀ d0 d1 : DataW H, ds ++ gs = [d0, d1] → Light Try.prog 26 d1 ∧ bulkD d1 ≤ 1048576) :
    Calls Try.prog 4 args W fun e W' => ∃ v, e = .returned v ∧ Rows.fnMakeDescribeGroupsResponseSpec.post enc Try.prog Try.f4 false true false false W args v W' := by
  have hW' := hW
  obtain ⟨p, q, hA0, hV, rfl, hfz, hnd⟩ := hW
  have hA : DataW.TrodAll enc Try.prog W 0 (fun _ => true) true Try.f4.params.toList args.toList ds p := hA0
  rw [Try.params4] at hA hval
  obtain ⟨v0, vs0, d0, ds0, p0, q0, hargs, rfl, rfl, h0, r0⟩ := trodAll_cons hA
  obtain ⟨v1, vs1, d1, ds1, p1, q1, rfl, rfl, rfl, h1, r1⟩ := trodAll_cons r0
  obtain ⟨rfl, rfl, rfl⟩ := trodAll_nil r1
  obtain rfl : args = #[v0, v1] := by cases args; simp_all
  obtain ⟨rfl, rfl⟩ := trodVars_none hV
  have hx := hextra d0 d1 (by simp)
  obtain ⟨a0, rfl, rfl, rfl, w0⟩ := open_int Try.underlying5 (hval 0 5 v0 rfl rfl) h0
  clear hA0
  obtain ⟨t, ct, rfl, hT, hbk0, hsn0⟩ := open_tree treeTy (fun _ => rfl) agg_of_len h1
  have hsn : t.sane = true := hsn0 hx.1
  have hbk : t.bulk ≤ 1048576 := Nat.le_trans hbk0 hx.2
  simp only [List.append_nil, List.nil_append] at hW'
  have hlt : ∀ x ∈ p1, x.block < W.heap.size := fun x hx => by simpa using hW'.lt x hx
  have hb0 : 0 ≤ a0 ∧ a0 < 256 := by
    simp only [Lit.wf, Bool.and_eq_true, decide_eq_true_eq] at w0
    simp [IntKind.min, IntKind.max, IntKind.bits, IntKind.signed] at w0
    omega
  obtain ⟨n, rfl⟩ : ∃ n : Nat, a0 = (n : Int) := ⟨a0.toNat, by omega⟩
  have hn : n < 256 := by omega
  refine Calls.mono (law_DescribeGroupsResponse (Y := Nob) n hn hT hsn (fun V _ => Nat.le_trans (kp_part sch_DescribeGroupsResponse (fun _ => rfl) V t hsn) (Nat.le_trans (Nat.mul_le_mul_left _ hbk) (of_decide_eq_true (by kernel_rfl))))) fun e W' he => ?_
  obtain ⟨v, rfl, hg, rfl⟩ := he
  have hbel := hg.below
  have hargs := trodAll_cons_mk (enc := enc) (shut_int (base := 0) (w := W') (spare := fun b => decide (b < W.heap.size)) (held := true) Try.underlying5 w0) (trodAll_cons_mk (Below.trod laidOut (by kernel_rfl) (of_decide_eq_true (by kernel_rfl)) h1 hbel hlt) trodAll_mk0)
  simp only [List.append_nil, List.nil_append] at hargs
  exact ⟨_, rfl, _, _, _, [], p1, [], hW', trodAll_cons_mk (shut_bool Try.underlying4 _) trodAll_mk0, hargs, rfl, hbel.frame _, fun h => by cases h⟩
theorem lightOf {H : Type} {ds gs : List (DataW H)} {d0 d1 : DataW H} (he : ds ++ gs = [d0, d1]) (hw : (DataW.weightsEach Try.prog [5, 26] (ds ++ gs)).all (· ≤ reachBytes) = true) : Light Try.prog 26 d1 := fun n hn => by
  rw [he] at hw
  refine of_decide_eq_true (List.all_eq_true.1 hw n ?_)
  simp only [DataW.weightsEach, List.mem_append]
  exact .inr (.inl hn)
mutual
theorem ub_d {H : Type} : ∀ d : DataW H, Rows.uptoBulk d = bulkD d
  | .lit (.string bytes) => by simp only [Rows.uptoBulk, bulkD]
  | .lit (.int _ _) => by simp only [Rows.uptoBulk, bulkD]
  | .lit (.bool _) => by simp only [Rows.uptoBulk, bulkD]
  | .lit (.float _ _) => by simp only [Rows.uptoBulk, bulkD]
  | .lit .nil => by simp only [Rows.uptoBulk, bulkD]
  | .nil => by simp only [Rows.uptoBulk, bulkD]
  | .ptr d => by simp only [Rows.uptoBulk, bulkD, ub_d d]
  | .slice elems spare => by simp only [Rows.uptoBulk, bulkD, ub_ds elems, ub_ds spare]
  | .agg parts => by simp only [Rows.uptoBulk, bulkD, ub_ds parts]
  | .iface _ d => by simp only [Rows.uptoBulk, bulkD, ub_d d]
  | .map entries => by simp only [Rows.uptoBulk, bulkD, ub_es entries]
  | .held _ => by simp only [Rows.uptoBulk, bulkD]
theorem ub_ds {H : Type} : ∀ l : List (DataW H), Rows.uptoBulkAll l = bulkDs l
  | [] => by simp only [Rows.uptoBulkAll, bulkDs]
  | d :: r => by simp only [Rows.uptoBulkAll, bulkDs, ub_d d, ub_ds r]
theorem ub_es {H : Type} : ∀ l : List (Lit × DataW H), Rows.uptoBulkEntries l = bulkEs l
  | [] => by simp only [Rows.uptoBulkEntries, bulkEs]
  | (x, d) :: r => by simp only [Rows.uptoBulkEntries, bulkEs, ub_e x d, ub_es r]
theorem ub_e {H : Type} : ∀ (x : Lit) (d : DataW H), Rows.uptoBulkEntry (x, d) = bulkE (x, d)
  | .string bytes, d => by simp only [Rows.uptoBulkEntry, bulkE, ub_d d]
  | .int _ _, d => by simp only [Rows.uptoBulkEntry, bulkE, ub_d d]
  | .bool _, d => by simp only [Rows.uptoBulkEntry, bulkE, ub_d d]
  | .float _ _, d => by simp only [Rows.uptoBulkEntry, bulkE, ub_d d]
  | .nil, d => by simp only [Rows.uptoBulkEntry, bulkE, ub_d d]
end
theorem bulkOf {H : Type} {ds gs : List (DataW H)} {d0 d1 : DataW H} (he : ds ++ gs = [d0, d1]) (hk : Rows.uptoSmall H (ds ++ gs) = true) : bulkD d1 ≤ 1048576 := by
  have hk2 : Rows.uptoBulkAll [d0, d1] ≤ 1048576 := of_decide_eq_true (he ▸ hk)
  rw [ub_ds] at hk2
  simp only [bulkDs] at hk2
  omega
set_option maxRecDepth 100000 in
theorem lifted (os : Os) (started : os.Started) (H : Type) (enc : TypeId × Value → H) (F : Stop.Interp) :
    ReturnsInHanded {} Try.checked os 4 .any ((Rows.OpenSpec.upto Rows.fnMakeDescribeGroupsResponseSpec).pre6 enc Try.prog Try.f4 Rows.fnMakeDescribeGroupsResponseUptoRow.domain false) (((Rows.OpenSpec.upto Rows.fnMakeDescribeGroupsResponseSpec).at F).post enc Try.prog Try.f4 false true false false) := by
  refine returnsInHanded_of_cond_sized (C := Try.checked) (s := Rows.OpenSpec.upto Rows.fnMakeDescribeGroupsResponseSpec) (k := Rows.uptoSmall) rfl own started (by kernel_rfl) Try.func4
    (OpenSpec.witness (enc := enc) (C := Try.checked) (s := Rows.OpenSpec.upto Rows.fnMakeDescribeGroupsResponseSpec) (k := Rows.uptoSmall) rfl false ⟨#[], #[.int .u8 0, .agg #[.int .i64 0, .slice none 0 0, .bool false, .slice none 0 0, .slice none 0 0]], []⟩ 8 (by kernel_rfl) (by kernel_rfl) (by kernel_rfl)
      (x := ([.lit (.int .u8 0), .agg [.lit (.int .i64 0), .nil, .lit (.bool false), .nil, .nil]], [], [])) (by kernel_rfl) rfl (by kernel_rfl)) ?_
  intro W base args ds gs before hval hW _ hk hwt _
  exact contract H enc W base args ds gs before hval hW fun d0 d1 he => ⟨lightOf he hwt, bulkOf he hk⟩

theorem j1 : (Try.prog.mayEnter && (Rows.fnMakeDescribeGroupsResponseUptoRow.lifted == Try.prog.liftsFinal) && (Try.prog.make == some Rows.fnMakeDescribeGroupsResponseUptoRow.make)) = true := by kernel_rfl
theorem j2 : mapsRowed Try.prog = true := by kernel_rfl
theorem j3 : ((Rows.fnMakeDescribeGroupsResponseUptoRow.inPlace == Try.prog.inPlace 4) && (Rows.fnMakeDescribeGroupsResponseUptoRow.unfollowed == Try.prog.unfollowed 4)) = true := by kernel_rfl
theorem j4 : ((Rows.fnMakeDescribeGroupsResponseUptoRow.recurses == Try.prog.recurses 4) && (Rows.fnMakeDescribeGroupsResponseUptoRow.named == Try.prog.varsNamed 4)) = true := by kernel_rfl
theorem j5 : ((Rows.fnMakeDescribeGroupsResponseUptoRow.plainKeys == Try.prog.plainKeys) && Try.prog.stopsHeard) = true := by kernel_rfl
theorem closed : joinedFacts Try.prog 4 Try.f4 (Rows.OpenSpec.upto Rows.fnMakeDescribeGroupsResponseSpec).bare Rows.fnMakeDescribeGroupsResponseUptoRow = true := by
  have h1 := j1
  have h3 := j3
  have h4 := j4
  have h5 := j5
  simp only [Bool.and_eq_true] at h1 h3 h4 h5
  simp only [joinedFacts, Bool.and_eq_true]
  exact ⟨⟨⟨⟨⟨⟨⟨⟨⟨⟨⟨⟨⟨⟨⟨⟨⟨⟨⟨⟨⟨⟨⟨⟨⟨⟨⟨⟨⟨⟨⟨by kernel_rfl, laidOut⟩, j2⟩, by kernel_rfl⟩, by kernel_rfl⟩, by kernel_rfl⟩, by kernel_rfl⟩, by kernel_rfl⟩, by kernel_rfl⟩, h3.1⟩, h3.2⟩, h4.1⟩, h4.2⟩, by kernel_rfl⟩, by kernel_rfl⟩, by kernel_rfl⟩, by kernel_rfl⟩, by kernel_rfl⟩, by kernel_rfl⟩, by kernel_rfl⟩, by kernel_rfl⟩, by kernel_rfl⟩, h5.1⟩, by kernel_rfl⟩, h5.2⟩, h1.1.1⟩, h1.1.2⟩, h1.2⟩, by kernel_rfl⟩, by kernel_rfl⟩, by kernel_rfl⟩, by kernel_rfl⟩
theorem proved : Rows.FnMakeDescribeGroupsResponseUptoSaid :=
  OpenClaim.holds_of_cond 4 Try.f4 rfl rfl rfl rfl rfl rfl rfl ⟨rfl, rfl, rfl, rfl, rfl⟩ rfl rfl rfl rfl rfl (by kernel_rfl) Try.func4 closed
    (of_decide_eq_true (by kernel_rfl)) (by unfold Func.isWrapper; first | (rw [if_pos (by decide +kernel)]; kernel_rfl) | (rw [if_neg (by decide +kernel)]; exact ⟨rfl, rfl⟩))
    (fun os started H enc _ F => by rw [OpenClaim.pre_of_none' (c := Rows.fnMakeDescribeGroupsResponseUptoRow) rfl]; exact lifted os started H enc F)
end Go.Proofs.Ytnndnjbkhhammaa
