/- Proved: FnUnsafeConsumerGroupHeartbeatResponse answers true at every input, and its arguments read behind the call as before; the card. Conditions: those of the given statement, no other. -/
import Derived.Test.YthholdjpcdpceabDoorL3
import Derived.WalkKit
import Derived.ProofKit
import Derived.OpenShut
import Derived.Deep.DeepHandedRow
import Derived.Lib.LaidTab
import Derived.Stop.LaidErr
import Derived.SevenTiedAt
import Derived.MakeChecks
import Derived.Test.YthholdjpcdpceabDoorRows
import Derived.Test.YthholdjpcdpceabDoorFa
import Derived.Test.YthholdjpcdpceabDoorLnConsumerGroupHeartbeatResponse
import Derived.Test.YthholdjpcdpceabDoorLm
import Derived.Test.YthholdjpcdpceabDoorLgConsumerGroupHeartbeatResponse
import Derived.Test.YthholdjpcdpceabDoorCards
import Derived.Test.YthholdjpcdpceabDoorTie
namespace Go.Proofs.YthholdjpcdpceabDoor
open Go Go.Mk
open Go.ChangeShapes Go.WideShapes Go.ChangeAt Go.RowKit
/-- no parameter wants a stand-in; the program's own looks are off -/
theorem plain (f : FuncId) (fn : Func) (hf : Tryd.pinned.checked.prog.funcNamed "pub-mailsack/laws.FnUnsafeConsumerGroupHeartbeatResponse" = some f) (hfn : Tryd.pinned.checked.prog.funcs[f]? = some fn) :
    false = Tryd.pinned.checked.prog.looks [] ∧ ∀ (j : Nat) t, fn.params[j]? = some t → Tryd.pinned.checked.prog.wantsStandIn t = false := by
  obtain rfl : f = 5 := Option.some.inj ((show Tryd.prog.funcNamed "pub-mailsack/laws.FnUnsafeConsumerGroupHeartbeatResponse" = some 5 by kernel_rfl).symm.trans hf) |>.symm
  obtain rfl : fn = Tryd.f5 := (Option.some.inj (Tryd.func5.symm.trans hfn)).symm
  refine ⟨by kernel_rfl, fun j t ht => ?_⟩
  rw [Tryd.params5] at ht
  have hm := Array.mem_of_getElem? ht
  simp only [List.mem_toArray, List.mem_cons, List.not_mem_nil, or_false] at hm
  rcases hm with rfl | rfl
  · exact (show Tryd.prog.wantsStandIn 5 = false by kernel_rfl)
  · exact (show Tryd.prog.wantsStandIn 22 = false by kernel_rfl)
theorem proved : Rows.FnUnsafeConsumerGroupHeartbeatResponseCardSaid :=
  Claim7.holds_tied_plain_at .later [] _ _ _ _ said (fun _ h => by cases h) (by kernel_rfl) (fun _ h => by cases h) fnUnsafeConsumerGroupHeartbeatResponse_row_tie rfl ⟨rfl, rfl⟩ mains rfl plain goes
end Go.Proofs.YthholdjpcdpceabDoor
