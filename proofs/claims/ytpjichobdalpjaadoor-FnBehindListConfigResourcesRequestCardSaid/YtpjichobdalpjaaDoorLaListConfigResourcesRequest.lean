/- Proved: FnBehindListConfigResourcesRequest answers true at every input, and its arguments read behind the call as before; the card. Conditions: those of the given statement, no other. -/
import Derived.Test.YtpjichobdalpjaaDoorL5
import Derived.WalkKit
import Derived.ProofKit
import Derived.OpenShut
import Derived.Deep.DeepHandedRow
import Derived.Lib.LaidTab
import Derived.Stop.LaidErr
import Derived.SevenTiedAt
import Derived.MakeChecks
import Derived.Test.YtpjichobdalpjaaDoorRows
import Derived.Test.YtpjichobdalpjaaDoorFa
import Derived.Test.YtpjichobdalpjaaDoorLwListConfigResourcesRequest
import Derived.Test.YtpjichobdalpjaaDoorCards
import Derived.Test.YtpjichobdalpjaaDoorTie
namespace Go.Proofs.YtpjichobdalpjaaDoor
open Go Go.Mk
open Go.ChangeShapes Go.WideShapes Go.ChangeAt Go.RowKit
theorem own : ownKnob Tryd.prog.godebug = none := by kernel_rfl
theorem laidOut : laidOutB Tryd.prog = true := by kernel_rfl
theorem gVar : Tryd.prog.globalNamed "pub-mailsack/pub/kmsg/inner/kbin.ErrNotEnoughData" = some 0 := by kernel_rfl
theorem gVarType : (Tryd.prog.globals[0]?).map (·.type) = some 49 := by kernel_rfl
theorem star : "*" ++ "errors.errorString" = "*errors.errorString" := by decide
theorem rowErr (u : TypeId) (h : Tryd.prog.typeName? 3 u = some "*errors.errorString") : u = 137 :=
  typeName_ptr_named (nm := "errors.errorString") (by rw [star]; kernel_rfl) (by kernel_rfl) (by decide) u (by rw [star]; exact h)
theorem treeTy : TreeTy Tryd.prog 26 54 2 22 5 4 23 24 52 := ⟨by kernel_rfl, by kernel_rfl, by kernel_rfl, by kernel_rfl, by kernel_rfl, by kernel_rfl, by kernel_rfl, by kernel_rfl, by kernel_rfl, by kernel_rfl, by kernel_rfl, by kernel_rfl⟩

/-- What the row's list gives: the variable's cell. -/
theorem sentinel {W : World} (h : laidMetH Tryd.prog Rows.fnBehindListConfigResourcesRequestRow.laid W) : ∃ gv : Value, W.cell? ⟨0, 0, none⟩ = some gv := by
  rw [MakeChecks.laidMetH_plain _ _ _ (by kernel_rfl)] at h
  obtain ⟨a1, s1, hv1, _⟩ := laid_sentinel h gVar gVarType Tryd.underlying49 rowErr Tryd.underlying137 Tryd.underlying156 rfl rfl Tryd.underlying9 (by kernel_rfl) (by kernel_rfl)
  exact ⟨_, by simpa using World.var?_cell gVar hv1 0⟩
set_option maxRecDepth 100000 in
theorem contract (H : Type) (enc : TypeId × Value → H) (W : World) (base : Nat) (args : Array Value) (ds gs : List (DataW H)) (before : List MemPlace)
    (hval : ∀ (j : Nat) t v, Tryd.f3.params[j]? = some t → args[j]? = some v → Value.okWide Tryd.prog W .any base t v)
    (hW : DataW.Whole enc Tryd.prog Tryd.f3.params.toList Rows.fnBehindListConfigResourcesRequestSpec.vars false W args.toList ds gs before)
    (hextra : ∀ d0 d1 d2 : DataW H, ds ++ gs = [d0, d1, d2] → Light Tryd.prog 26 d2) (hL : laidMetH Tryd.prog Rows.fnBehindListConfigResourcesRequestRow.laid W) :
    Calls Tryd.prog 3 args W fun e W' => ∃ v, e = .returned v ∧ Rows.fnBehindListConfigResourcesRequestSpec.post enc Tryd.prog Tryd.f3 false true false false W args v W' := by
  have hW' := hW
  obtain ⟨p, q, hA0, hV, rfl, hfz, hnd⟩ := hW
  have hA : DataW.TrodAll enc Tryd.prog W 0 (fun _ => true) true Tryd.f3.params.toList args.toList ds p := hA0
  rw [Tryd.params3] at hA hval
  obtain ⟨v0, vs0, d0, ds0, p0, q0, hargs, rfl, rfl, h0, r0⟩ := trodAll_cons hA
  obtain ⟨v1, vs1, d1, ds1, p1, q1, rfl, rfl, rfl, h1, r1⟩ := trodAll_cons r0
  obtain ⟨v2, vs2, d2, ds2, p2, q2, rfl, rfl, rfl, h2, r2⟩ := trodAll_cons r1
  obtain ⟨rfl, rfl, rfl⟩ := trodAll_nil r2
  obtain rfl : args = #[v0, v1, v2] := by cases args; simp_all
  obtain ⟨rfl, rfl⟩ := trodVars_none hV
  have hx := hextra d0 d1 d2 (by simp)
  obtain ⟨a0, rfl, rfl, rfl, w0⟩ := open_int Tryd.underlying5 (hval 0 5 v0 rfl rfl) h0
  obtain ⟨pd, ld, cd, rfl⟩ := okWide_slice Tryd.underlying22 (hval 1 22 v1 rfl rfl)
  clear hA0
  obtain ⟨d, hD⟩ : ∃ d : List UInt8, Rep W Nob (ddBs d) [.slice pd ld cd] := by
    obtain ⟨fuel1, hf1⟩ := h1
    obtain ⟨d, el1, sp1, g1, _⟩ := open_sl ddB (fun _ _ => True) (by decide) treeTy.s (fun f ce y _ hc => open_byte treeTy.b8 hc) hf1 (fun _ => rfl)
    exact ⟨d, by simpa [Value.cells, ddBs] using g1⟩
  obtain rfl : ld = d.length := by
    obtain ⟨p', c', he⟩ := rep_sl_len hD
    rw [List.length_map] at he
    injection he
  obtain ⟨t, ct, rfl, hT, hbk0, hsn0, hwd⟩ := open_treeW treeTy (fun _ => rfl) agg_of_len h2
  have hsn : t.sane = true := hsn0 hx
  
  simp only [List.append_nil, List.nil_append] at hW'
  have hlt1 : ∀ x ∈ p1, x.block < W.heap.size := fun x hx => hW'.lt x (by simp [hx])
  have hlt2 : ∀ x ∈ p2, x.block < W.heap.size := fun x hx => hW'.lt x (by simp [hx])
  have hb0 : 0 ≤ a0 ∧ a0 < 256 := by
    simp only [Lit.wf, Bool.and_eq_true, decide_eq_true_eq] at w0
    simp [IntKind.min, IntKind.max, IntKind.bits, IntKind.signed] at w0
    omega
  obtain ⟨n, rfl⟩ : ∃ n : Nat, a0 = (n : Int) := ⟨a0.toNat, by omega⟩
  have hn : n < 256 := by omega
  obtain ⟨gv, hgv⟩ := sentinel hL
  refine Calls.mono (law_ListConfigResourcesRequest (Y := Nob) n hn hD hT hsn hwd (fun V _ => Nat.le_trans (Nat.add_le_add_right (my_part sch_ListConfigResourcesRequest (fun _ => rfl) V t hsn) 1000) (of_decide_eq_true (by kernel_rfl))) (cel_one id hgv)) fun e W' he => ?_
  obtain ⟨v, rfl, hg, rfl⟩ := he
  have hbel := hg.below
  have hargs := trodAll_cons_mk (enc := enc) (shut_int (base := 0) (w := W') (spare := fun b => decide (b < W.heap.size)) (held := true) Tryd.underlying5 w0) (trodAll_cons_mk (Below.trod laidOut (by kernel_rfl) (of_decide_eq_true (by kernel_rfl)) h1 hbel hlt1) (trodAll_cons_mk (Below.trod laidOut (by kernel_rfl) (of_decide_eq_true (by kernel_rfl)) h2 hbel hlt2) trodAll_mk0))
  simp only [List.append_nil, List.nil_append] at hargs
  exact ⟨_, rfl, _, _, _, [], p1 ++ p2, [], hW', trodAll_cons_mk (shut_bool Tryd.underlying4 _) trodAll_mk0, hargs, rfl, hbel.frame _, fun h => by cases h⟩
theorem lightOf {H : Type} {ds gs : List (DataW H)} {d0 d1 d2 : DataW H} (he : ds ++ gs = [d0, d1, d2]) (hw : (DataW.weightsEach Tryd.prog [5, 22, 26] (ds ++ gs)).all (· ≤ reachBytes) = true) : Light Tryd.prog 26 d2 := fun n hn => by
  rw [he] at hw
  refine of_decide_eq_true (List.all_eq_true.1 hw n ?_)
  simp only [DataW.weightsEach, List.mem_append]
  exact .inr (.inr (.inl hn))
noncomputable def low : Nat := (World.holding Tryd.prog default ⟨#[], #[], []⟩).heap.size
/-- a world for the witness -/
noncomputable def laidWorld (os : Os) : World :=
  let w0 := World.holding Tryd.prog os ⟨#[.cells #[.string ⟨#[114, 101, 115, 112, 111, 110, 115, 101, 32, 100, 105, 100, 32, 110, 111, 116, 32, 99, 111, 110, 116, 97, 105, 110, 32, 101, 110, 111, 117, 103, 104, 32, 100, 97, 116, 97, 32, 116, 111, 32, 98, 101, 32, 118, 97, 108, 105, 100]⟩] 156], #[], []⟩
  { w0 with heap := w0.heap.modify 0 fun
      | .cells _ t frozen => .cells #[.iface 137 (.pointer (some ⟨low, 0, none⟩))] t frozen
      | o => o }
theorem laid_met (os : Os) : laidMet Tryd.prog Rows.fnBehindListConfigResourcesRequestRow.laid ((laidWorld os).forCall (fun _ _ => 0) ⟨#[], #[.int .u8 0, .slice none 0 0, .agg #[.int .i64 0, .slice none 0 0, .bool false, .slice none 0 0, .slice none 0 0]], []⟩).memory :=
  laidMet_of_run' 8 (by kernel_rfl) (by kernel_rfl)
theorem reads (os : Os) {H : Type} (enc : TypeId × Value → H) : ∃ places, DataW.whole enc Tryd.prog ((laidWorld os).forCall (fun _ _ => 0) ⟨#[], #[.int .u8 0, .slice none 0 0, .agg #[.int .i64 0, .slice none 0 0, .bool false, .slice none 0 0, .slice none 0 0]], []⟩).memory Tryd.f3.params.toList Rows.fnBehindListConfigResourcesRequestSpec.vars false (#[.int .u8 0, .slice none 0 0, .agg #[.int .i64 0, .slice none 0 0, .bool false, .slice none 0 0, .slice none 0 0]] : Array Value).toList 8 = some ([.lit (.int .u8 0), .nil, .agg [.lit (.int .i64 0), .nil, .lit (.bool false), .nil, .nil]], [], places) :=
  ⟨[], by kernel_rfl⟩
set_option maxRecDepth 100000 in
theorem lifted (os : Os) (started : os.Started) (H : Type) (enc : TypeId × Value → H) (F : Stop.Interp) :
    ReturnsInHanded {} Tryd.checked os 3 .any ((OpenSpec.ofChange Rows.fnBehindListConfigResourcesRequestSpec).preRow enc Tryd.prog Tryd.f3 Rows.fnBehindListConfigResourcesRequestRow.domain false Rows.fnBehindListConfigResourcesRequestRow.laid) (((OpenSpec.ofChange Rows.fnBehindListConfigResourcesRequestSpec).at F).post enc Tryd.prog Tryd.f3 false true false false) := by
  obtain ⟨places, hx⟩ := reads os enc
  refine returnsInHanded_of_row (C := Tryd.checked) (s := OpenSpec.ofChange Rows.fnBehindListConfigResourcesRequestSpec) own started (by kernel_rfl) Tryd.func3
    (witness_row_at (enc := enc) (C := Tryd.checked) false (laidWorld os) #[.int .u8 0, .slice none 0 0, .agg #[.int .i64 0, .slice none 0 0, .bool false, .slice none 0 0, .slice none 0 0]] rfl (by kernel_rfl) (by kernel_rfl) (by kernel_rfl)
      (OpenSpec.preRow_of_cond 8 hx (by kernel_rfl) (fun k hk => by cases hk) (by kernel_rfl) (laid_met os))) ?_
  intro W base args ds gs before hval hW _ hk hwt hL _ _
  exact contract H enc W base args ds gs before hval hW (fun d0 d1 d2 he => lightOf he hwt) hL
theorem j1 : (Tryd.prog.mayEnter && (Rows.fnBehindListConfigResourcesRequestRow.lifted == Tryd.prog.liftsFinal) && (Tryd.prog.make == some Rows.fnBehindListConfigResourcesRequestRow.make)) = true := by kernel_rfl
theorem j2 : mapsRowed Tryd.prog = true := by kernel_rfl
theorem j3 : ((Rows.fnBehindListConfigResourcesRequestRow.inPlace == Tryd.prog.inPlace 3) && (Rows.fnBehindListConfigResourcesRequestRow.unfollowed == Tryd.prog.unfollowed 3)) = true := by kernel_rfl
theorem j4 : ((Rows.fnBehindListConfigResourcesRequestRow.recurses == Tryd.prog.recurses 3) && (Rows.fnBehindListConfigResourcesRequestRow.named == Tryd.prog.varsNamed 3)) = true := by kernel_rfl
theorem j5 : ((Rows.fnBehindListConfigResourcesRequestRow.plainKeys == Tryd.prog.plainKeys) && Tryd.prog.stopsHeard) = true := by kernel_rfl
theorem closed : joinedFacts Tryd.prog 3 Tryd.f3 (OpenSpec.ofChange Rows.fnBehindListConfigResourcesRequestSpec).bare Rows.fnBehindListConfigResourcesRequestRow = true := by
  have h1 := j1
  have h3 := j3
  have h4 := j4
  have h5 := j5
  simp only [Bool.and_eq_true] at h1 h3 h4 h5
  simp only [joinedFacts, Bool.and_eq_true]
  exact ⟨⟨⟨⟨⟨⟨⟨⟨⟨⟨⟨⟨⟨⟨⟨⟨⟨⟨⟨⟨⟨⟨⟨⟨⟨⟨⟨⟨⟨⟨⟨by kernel_rfl, laidOut⟩, j2⟩, by kernel_rfl⟩, by kernel_rfl⟩, by kernel_rfl⟩, by kernel_rfl⟩, by kernel_rfl⟩, by kernel_rfl⟩, h3.1⟩, h3.2⟩, h4.1⟩, h4.2⟩, by kernel_rfl⟩, by kernel_rfl⟩, by kernel_rfl⟩, by kernel_rfl⟩, by kernel_rfl⟩, by kernel_rfl⟩, by kernel_rfl⟩, by kernel_rfl⟩, by kernel_rfl⟩, h5.1⟩, by kernel_rfl⟩, h5.2⟩, h1.1.1⟩, h1.1.2⟩, h1.2⟩, by kernel_rfl⟩, by kernel_rfl⟩, by kernel_rfl⟩, by kernel_rfl⟩
theorem said : Rows.FnBehindListConfigResourcesRequestSaid :=
  OpenClaim.holds_of_cond 3 Tryd.f3 rfl rfl rfl rfl rfl rfl rfl ⟨rfl, rfl, rfl, rfl, rfl⟩ rfl rfl rfl rfl rfl (by kernel_rfl) Tryd.func3 closed
    (of_decide_eq_true (by kernel_rfl)) (by unfold Func.isWrapper; first | (rw [if_pos (by decide +kernel)]; kernel_rfl) | (rw [if_neg (by decide +kernel)]; exact ⟨rfl, rfl⟩))
    (fun os started H enc _ F => by rw [OpenClaim.pre_eq_preRow]; exact lifted os started H enc F)
/-- no parameter wants a stand-in; the program's own looks are off -/
theorem plain (f : FuncId) (fn : Func) (hf : Tryd.pinned.checked.prog.funcNamed "pub-mailsack/laws.FnBehindListConfigResourcesRequest" = some f) (hfn : Tryd.pinned.checked.prog.funcs[f]? = some fn) :
    false = Tryd.pinned.checked.prog.looks [] ∧ ∀ (j : Nat) t, fn.params[j]? = some t → Tryd.pinned.checked.prog.wantsStandIn t = false := by
  obtain rfl : f = 3 := Option.some.inj ((show Tryd.prog.funcNamed "pub-mailsack/laws.FnBehindListConfigResourcesRequest" = some 3 by kernel_rfl).symm.trans hf) |>.symm
  obtain rfl : fn = Tryd.f3 := (Option.some.inj (Tryd.func3.symm.trans hfn)).symm
  refine ⟨by kernel_rfl, fun j t ht => ?_⟩
  rw [Tryd.params3] at ht
  have hm := Array.mem_of_getElem? ht
  simp only [List.mem_toArray, List.mem_cons, List.not_mem_nil, or_false] at hm
  rcases hm with rfl | rfl | rfl
  · exact (show Tryd.prog.wantsStandIn 5 = false by kernel_rfl)
  · exact (show Tryd.prog.wantsStandIn 22 = false by kernel_rfl)
  · exact (show Tryd.prog.wantsStandIn 26 = false by kernel_rfl)
theorem proved : Rows.FnBehindListConfigResourcesRequestCardSaid :=
  Claim7.holds_tied_plain_at .later [] _ _ _ _ said (fun _ h => by cases h) (by kernel_rfl) (fun _ h => by cases h) fnBehindListConfigResourcesRequest_row_tie rfl ⟨rfl, rfl⟩ (by kernel_rfl) rfl plain (by kernel_rfl)
end Go.Proofs.YtpjichobdalpjaaDoor
