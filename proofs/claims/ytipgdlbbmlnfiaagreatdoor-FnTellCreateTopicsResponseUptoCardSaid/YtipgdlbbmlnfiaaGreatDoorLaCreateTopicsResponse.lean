/- Proved: FnTellCreateTopicsResponse answers true at every input of the bulk that the statement names, and its arguments read behind the call as before; the card. Conditions: those of the given statement, no other. -/
import Derived.Test.YtipgdlbbmlnfiaaGreatDoorL4
import Derived.WalkKit
import Derived.ProofKit
import Derived.OpenShut
import Derived.Deep.DeepHandedRow
import Derived.Lib.LaidTab
import Derived.Stop.LaidErr
import Derived.SevenTiedAt
import Derived.MakeChecks
import Derived.Test.YtipgdlbbmlnfiaaGreatDoorRows
import Derived.Test.YtipgdlbbmlnfiaaGreatDoorFa
import Derived.Test.YtipgdlbbmlnfiaaGreatDoorLnCreateTopicsResponse
import Derived.Test.YtipgdlbbmlnfiaaGreatDoorLm
import Derived.Test.YtipgdlbbmlnfiaaGreatDoorLgCreateTopicsResponse
import Derived.Test.YtipgdlbbmlnfiaaGreatDoorCards
import Derived.Test.YtipgdlbbmlnfiaaGreatDoorTie
namespace Go.Proofs.YtipgdlbbmlnfiaaGreatDoor
open Go Go.Mk
open Go.ChangeShapes Go.WideShapes Go.ChangeAt Go.RowKit
/-- no parameter wants a stand-in; the program's own looks are off -/
theorem plain (f : FuncId) (fn : Func) (hf : Tryz.pinned.checked.prog.funcNamed "pub-mailsack/laws.FnTellCreateTopicsResponse" = some f) (hfn : Tryz.pinned.checked.prog.funcs[f]? = some fn) :
    false=Tryz.pinned.checked.prog.looks []∧∀ (j:Nat) t,fn.params[j]?=some t→Tryz.pinned.checked.prog.wantsStandIn t=false:=by
  obtain rfl : f = 6 := Option.some.inj ((show Tryz.prog.funcNamed "pub-mailsack/laws.FnTellCreateTopicsResponse" = some 6 by kernel_rfl).symm.trans hf) |>.symm
  obtain rfl:fn=Tryz.f6:=(Option.some.inj (Tryz.func6.symm.trans hfn)).symm
  refine⟨by kernel_rfl,fun j t ht=>?_⟩
  rw[Tryz.params6] at ht
  have hm:=Array.mem_of_getElem? ht
  simp only[List.mem_toArray,List.mem_cons,List.not_mem_nil,or_false] at hm
  rcases hm with rfl|rfl
  · exact (show Tryz.prog.wantsStandIn 5=false by kernel_rfl)
  · exact (show Tryz.prog.wantsStandIn 26=false by kernel_rfl)
theorem proved:Rows.FnTellCreateTopicsResponseUptoCardSaid :=
  Claim7.holds_tied_plain_at .later [] _ _ _ _ said (fun _ h=>by cases h) (by kernel_rfl) (fun _ h=>by cases h) fnTellCreateTopicsResponseUpto_row_tie rfl ⟨rfl,rfl⟩ mains rfl plain goes
end Go.Proofs.YtipgdlbbmlnfiaaGreatDoor
