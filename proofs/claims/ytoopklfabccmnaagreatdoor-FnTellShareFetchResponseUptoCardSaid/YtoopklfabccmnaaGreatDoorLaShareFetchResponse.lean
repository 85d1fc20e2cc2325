/- Proved: FnTellShareFetchResponse answers true at every input of the bulk that the statement names, and its arguments read behind the call as before; the card. Conditions: those of the given statement, no other. -/
import Derived.Test.YtoopklfabccmnaaGreatDoorL4
import Derived.WalkKit
import Derived.ProofKit
import Derived.OpenShut
import Derived.Deep.DeepHandedRow
import Derived.Lib.LaidTab
import Derived.Stop.LaidErr
import Derived.SevenTiedAt
import Derived.MakeChecks
import Derived.Test.YtoopklfabccmnaaGreatDoorRows
import Derived.Test.YtoopklfabccmnaaGreatDoorFa
import Derived.Test.YtoopklfabccmnaaGreatDoorLnShareFetchResponse
import Derived.Test.YtoopklfabccmnaaGreatDoorLm
import Derived.Test.YtoopklfabccmnaaGreatDoorLgShareFetchResponse
import Derived.Test.YtoopklfabccmnaaGreatDoorCards
import Derived.Test.YtoopklfabccmnaaGreatDoorTie
namespace Go.Proofs.YtoopklfabccmnaaGreatDoor
open Go Go.Mk
open Go.ChangeShapes Go.WideShapes Go.ChangeAt Go.RowKit
/-- no parameter wants a stand-in; the program's own looks are off -/
theorem plain (f : FuncId) (fn : Func) (hf : Tryz.pinned.checked.prog.funcNamed "pub-mailsack/laws.FnTellShareFetchResponse" = some f) (hfn : Tryz.pinned.checked.prog.funcs[f]? = some fn) :
    false = Tryz.pinned.checked.prog.looks [] ∧ ∀ (j:Nat) t,fn.params[j]? = some t → Tryz.pinned.checked.prog.wantsStandIn t = false:=by
  obtain rfl : f = 10 := Option.some.inj ((show Tryz.prog.funcNamed "pub-mailsack/laws.FnTellShareFetchResponse" = some 10 by kernel_rfl).symm.trans hf) |>.symm
  obtain rfl:fn = Tryz.f10:=(Option.some.inj (Tryz.func10.symm.trans hfn)).symm
  refine ⟨by kernel_rfl,fun j t ht=>?_⟩
  rw [Tryz.params10] at ht
  have hm:=Array.mem_of_getElem? ht
  simp only [List.mem_toArray,List.mem_cons,List.not_mem_nil,or_false] at hm
  rcases hm with rfl | rfl
  · exact (show Tryz.prog.wantsStandIn 5 = false by kernel_rfl)
  · exact (show Tryz.prog.wantsStandIn 26 = false by kernel_rfl)
theorem proved:Rows.FnTellShareFetchResponseUptoCardSaid :=
  Claim7.holds_tied_plain_at .later [] _ _ _ _ said (fun _ h=>by cases h) (by kernel_rfl) (fun _ h=>by cases h) fnTellShareFetchResponseUpto_row_tie rfl ⟨rfl,rfl⟩ mains rfl plain goes
end Go.Proofs.YtoopklfabccmnaaGreatDoor
