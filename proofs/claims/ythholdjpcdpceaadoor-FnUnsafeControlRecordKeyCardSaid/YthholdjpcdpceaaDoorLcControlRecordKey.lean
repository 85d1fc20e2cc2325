/- Walks of functions that the laws of this seat reach. No statement of the seat stands here. -/
import Derived.Test.YthholdjpcdpceaaDoorL3
import Derived.WalkKit
import Derived.ProofKit
import Derived.OpenShut
import Derived.Deep.DeepHandedRow
import Derived.Lib.LaidTab
import Derived.Stop.LaidErr
import Derived.SevenTiedAt
import Derived.MakeChecks
import Derived.Test.YthholdjpcdpceaaDoorRows
import Derived.Test.YthholdjpcdpceaaDoorFa
import Derived.Test.YthholdjpcdpceaaDoorLwControlRecordKey
import Derived.Test.YthholdjpcdpceaaDoorLjControlRecordKey
namespace Go.Proofs.YthholdjpcdpceaaDoor
open Go Go.Mk
open Go.ChangeShapes Go.WideShapes Go.ChangeAt Go.RowKit
theorem gVar : Tryd.prog.globalNamed "pub-mailsack/pub/kmsg/inner/kbin.ErrNotEnoughData" = some 1 := by kernel_rfl
theorem gVarType : (Tryd.prog.globals[1]?).map (·.type) = some 51 := by kernel_rfl
theorem star : "*" ++ "errors.errorString" = "*errors.errorString" := by decide
theorem rowErr (u : TypeId) (h : Tryd.prog.typeName? 3 u = some "*errors.errorString") : u = 212 :=
  typeName_ptr_named (nm := "errors.errorString") (by rw [star]; kernel_rfl) (by kernel_rfl) (by decide) u (by rw [star]; exact h)
/-- What the row's list gives: the variable's cell. -/
theorem sentinel {W : World} (h : laidMetH Tryd.prog Rows.fnUnsafeControlRecordKeyRow.laid W) : ∃ et ep, W.cell? ⟨1, 0, none⟩ = some (.iface et ep) := by
  rw [MakeChecks.laidMetH_plain _ _ _ (by kernel_rfl)] at h
  obtain ⟨a1, s1, hv1, _⟩ := laid_sentinel h gVar gVarType Tryd.underlying51 rowErr Tryd.underlying212 Tryd.underlying230 rfl rfl Tryd.underlying9 (by kernel_rfl) (by kernel_rfl)
  exact ⟨212, .pointer (some a1), by simpa using World.var?_cell gVar hv1 0⟩
theorem under8 : Tryd.prog.underlying 5 = some (.int .u8) := Tryd.underlying5
set_option maxRecDepth 100000 in
theorem contract (H : Type) (enc : TypeId × Value → H) (W : World) (base : Nat) (args : Array Value) (ds gs : List (DataW H)) (before : List MemPlace)
    (hval : ∀ (j : Nat) t v, Tryd.f3.params[j]? = some t → args[j]? = some v → Value.okWide Tryd.prog W .any base t v)
    (hW : DataW.Whole enc Tryd.prog Tryd.f3.params.toList Rows.fnUnsafeControlRecordKeySpec.vars false W args.toList ds gs before)
    (hL : laidMetH Tryd.prog Rows.fnUnsafeControlRecordKeyRow.laid W) :
    Calls Tryd.prog 3 args W fun e W' => ∃ v, e = .returned v ∧ Rows.fnUnsafeControlRecordKeySpec.post enc Tryd.prog Tryd.f3 false true false false W args v W' := by
  have hW' := hW
  obtain ⟨p, q, hA0, hV, rfl, hfz, hnd⟩ := hW
  have hA : DataW.TrodAll enc Tryd.prog W 0 (fun _ => true) true Tryd.f3.params.toList args.toList ds p := hA0
  rw [Tryd.params3] at hA hval
  obtain ⟨v1, vs1, d1, ds1, p1, q1, hargs, rfl, rfl, h1, r1⟩ := trodAll_cons hA
  obtain ⟨rfl, rfl, rfl⟩ := trodAll_nil r1
  obtain rfl : args = #[v1] := by cases args; simp_all
  obtain ⟨rfl, rfl⟩ := trodVars_none hV
  obtain ⟨pd, ld, cd, rfl⟩ := okWide_slice Tryd.underlying22 (hval 0 22 v1 rfl rfl)
  clear hA0
  obtain ⟨d, hD⟩ : ∃ d : List UInt8, Rep W Nob (ddBs d) [.slice pd ld cd] := by
    obtain ⟨fuel1, hf1⟩ := h1
    obtain ⟨d, el1, sp1, g1, _⟩ := open_sl ddB (fun _ _ => True) (by decide) (show sliceOf Tryd.prog 22 = some (5, 1) by kernel_rfl) (fun f ce y _ hc => open_byte (show Mk.intOf Tryd.prog 5 .u8 = true by kernel_rfl) hc) hf1 (fun _ => rfl)
    exact ⟨d, by simpa [Value.cells, ddBs] using g1⟩
  obtain rfl : ld = d.length := by
    obtain ⟨p', c', he⟩ := rep_sl_len hD
    rw [List.length_map] at he
    injection he
  simp only [List.append_nil, List.nil_append] at hW'
  have hlt1 : ∀ x ∈ p1, x.block < W.heap.size := fun x hx => hW'.lt x (by simp [hx])
  obtain ⟨et, ep, hgv⟩ := sentinel hL
  refine Calls.mono (law_ControlRecordKey (Y := Nob) hD (cel_one id hgv)) fun e W' he => ?_
  obtain ⟨v, rfl, hg, rfl⟩ := he
  have hbel := hg.below
  have hargs := trodAll_cons_mk (enc := enc) (Below.trod laidOut (by kernel_rfl) (of_decide_eq_true (by kernel_rfl)) h1 hbel hlt1) trodAll_mk0
  simp only [List.append_nil, List.nil_append] at hargs
  exact ⟨_, rfl, _, _, _, [], p1, [], hW', trodAll_cons_mk (shut_bool Tryd.underlying4 _) trodAll_mk0, hargs, rfl, hbel.frame _, fun h => by cases h⟩
end Go.Proofs.YthholdjpcdpceaaDoor
