/- Proved: FnUnsafeControlRecordKey answers true at every input, and its arguments read behind the call as before; the card. Conditions: those of the given statement, no other. -/
import Derived.Test.YthholdjpcdpceaaDoorL3
import Derived.WalkKit
import Derived.ProofKit
import Derived.OpenShut
import Derived.Deep.DeepHandedRow
import Derived.Lib.LaidTab
import Derived.Stop.LaidErr
import Derived.SevenTiedAt
import Derived.MakeChecks
import Derived.Test.YthholdjpcdpceaaDoorRows
import Derived.Test.YthholdjpcdpceaaDoorFa
import Derived.Test.YthholdjpcdpceaaDoorLnControlRecordKey
import Derived.Test.YthholdjpcdpceaaDoorLm
import Derived.Test.YthholdjpcdpceaaDoorLgControlRecordKey
import Derived.Test.YthholdjpcdpceaaDoorCards
import Derived.Test.YthholdjpcdpceaaDoorTie
namespace Go.Proofs.YthholdjpcdpceaaDoor
open Go Go.Mk
open Go.ChangeShapes Go.WideShapes Go.ChangeAt Go.RowKit
/-- no parameter wants a stand-in; the program's own looks are off -/
theorem plain (f : FuncId) (fn : Func) (hf : Tryd.pinned.checked.prog.funcNamed "pub-mailsack/laws.FnUnsafeControlRecordKey" = some f) (hfn : Tryd.pinned.checked.prog.funcs[f]? = some fn) :
    false = Tryd.pinned.checked.prog.looks [] ∧ ∀ (j : Nat) t, fn.params[j]? = some t → Tryd.pinned.checked.prog.wantsStandIn t = false := by
  obtain rfl : f = 3 := Option.some.inj ((show Tryd.prog.funcNamed "pub-mailsack/laws.FnUnsafeControlRecordKey" = some 3 by kernel_rfl).symm.trans hf) |>.symm
  obtain rfl : fn = Tryd.f3 := (Option.some.inj (Tryd.func3.symm.trans hfn)).symm
  refine ⟨by kernel_rfl, fun j t ht => ?_⟩
  rw [Tryd.params3] at ht
  have hm := Array.mem_of_getElem? ht
  simp only [List.mem_toArray, List.mem_cons, List.not_mem_nil, or_false] at hm
  subst hm
  exact (show Tryd.prog.wantsStandIn 22 = false by kernel_rfl)
theorem proved : Rows.FnUnsafeControlRecordKeyCardSaid :=
  Claim7.holds_tied_plain_at .later [] _ _ _ _ said (fun _ h => by cases h) (by kernel_rfl) (fun _ h => by cases h) fnUnsafeControlRecordKey_row_tie rfl ⟨rfl, rfl⟩ mains rfl plain goes
end Go.Proofs.YthholdjpcdpceaaDoor
