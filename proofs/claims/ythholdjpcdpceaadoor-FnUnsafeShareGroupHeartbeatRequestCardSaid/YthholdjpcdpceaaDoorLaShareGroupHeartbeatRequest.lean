/- Proved: FnUnsafeShareGroupHeartbeatRequest answers true at every input, and its arguments read behind the call as before; the card. Conditions: those of the given statement, no other. -/
import Derived.Test.YthholdjpcdpceaaDoorL3
import Derived.WalkKit
import Derived.ProofKit
import Derived.OpenShut
import Derived.Deep.DeepHandedRow
import Derived.Lib.LaidTab
import Derived.Stop.LaidErr
import Derived.SevenTiedAt
import Derived.MakeChecks
import Derived.Test.YthholdjpcdpceaaDoorRows
import Derived.Test.YthholdjpcdpceaaDoorFa
import Derived.Test.YthholdjpcdpceaaDoorLnShareGroupHeartbeatRequest
import Derived.Test.YthholdjpcdpceaaDoorLm
import Derived.Test.YthholdjpcdpceaaDoorLgShareGroupHeartbeatRequest
import Derived.Test.YthholdjpcdpceaaDoorCards
import Derived.Test.YthholdjpcdpceaaDoorTie
namespace Go.Proofs.YthholdjpcdpceaaDoor
open Go Go.Mk
open Go.ChangeShapes Go.WideShapes Go.ChangeAt Go.RowKit
/-- no parameter wants a stand-in; the program's own looks are off -/
theorem plain (f : FuncId) (fn : Func) (hf : Tryd.pinned.checked.prog.funcNamed "pub-mailsack/laws.FnUnsafeShareGroupHeartbeatRequest" = some f) (hfn : Tryd.pinned.checked.prog.funcs[f]? = some fn) :
    false = Tryd.pinned.checked.prog.looks [] ∧ ∀ (j : Nat) t, fn.params[j]? = some t → Tryd.pinned.checked.prog.wantsStandIn t = false := by
  obtain rfl : f = 9 := Option.some.inj ((show Tryd.prog.funcNamed "pub-mailsack/laws.FnUnsafeShareGroupHeartbeatRequest" = some 9 by kernel_rfl).symm.trans hf) |>.symm
  obtain rfl : fn = Tryd.f9 := (Option.some.inj (Tryd.func9.symm.trans hfn)).symm
  refine ⟨by kernel_rfl, fun j t ht => ?_⟩
  rw [Tryd.params9] at ht
  have hm := Array.mem_of_getElem? ht
  simp only [List.mem_toArray, List.mem_cons, List.not_mem_nil, or_false] at hm
  rcases hm with rfl | rfl
  · exact (show Tryd.prog.wantsStandIn 5 = false by kernel_rfl)
  · exact (show Tryd.prog.wantsStandIn 22 = false by kernel_rfl)
theorem proved : Rows.FnUnsafeShareGroupHeartbeatRequestCardSaid :=
  Claim7.holds_tied_plain_at .later [] _ _ _ _ said (fun _ h => by cases h) (by kernel_rfl) (fun _ h => by cases h) fnUnsafeShareGroupHeartbeatRequest_row_tie rfl ⟨rfl, rfl⟩ mains rfl plain goes
end Go.Proofs.YthholdjpcdpceaaDoor
