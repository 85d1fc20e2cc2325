/- Walks of functions that the seat's laws reach. -/
import Derived.Test.YtipgdlbbmlnfiaaGreatDoorL4
import Derived.WalkKit
import Derived.ProofKit
import Derived.OpenShut
import Derived.Deep.DeepHandedRow
import Derived.Lib.LaidTab
import Derived.Stop.LaidErr
import Derived.SevenTiedAt
import Derived.MakeChecks
import Derived.Test.YtipgdlbbmlnfiaaGreatDoorRows
import Derived.Test.YtipgdlbbmlnfiaaGreatDoorFa
import Derived.Test.YtipgdlbbmlnfiaaGreatDoorLjCreateTopicsResponse
namespace Go.Proofs.YtipgdlbbmlnfiaaGreatDoor
open Go Go.Mk
open Go.ChangeShapes Go.WideShapes Go.ChangeAt Go.RowKit
noncomputable def low:Nat:=(World.holding Tryz.prog default ⟨#[],#[],[]⟩).heap.size
/-- a world for the witness -/
noncomputable def aCB (os:Os):World :=
  let w0:=World.holding Tryz.prog os ⟨#[.cells #[.string ⟨#[114,101,115,112,111,110,115,101,32,100,105,100,32,110,111,116,32,99,111,110,116,97,105,110,32,101,110,111,117,103,104,32,100,97,116,97,32,116,111,32,98,101,32,118,97,108,105,100]⟩] 243],#[],[]⟩
  { w0 with heap:=w0.heap.modify 1 fun
      | .cells _ t frozen=>.cells #[.iface 225 (.pointer (some ⟨low,0,none⟩))] t frozen
      | o=>o }
theorem aIy (os:Os):laidMet Tryz.prog Rows.fnTellCreateTopicsResponseUptoRow.laid ((aCB os).forCall (fun _ _=>0) ⟨#[],#[.int .u8 0,.agg #[.int .i64 0,.slice none 0 0,.bool false,.slice none 0 0,.slice none 0 0]],[]⟩).memory :=
  laidMet_of_run' 8 (by kernel_rfl) (by kernel_rfl)
theorem reads (os:Os){H:Type}(enc:TypeId × Value→H):∃ places,DataW.whole enc Tryz.prog ((aCB os).forCall (fun _ _=>0) ⟨#[],#[.int .u8 0,.agg #[.int .i64 0,.slice none 0 0,.bool false,.slice none 0 0,.slice none 0 0]],[]⟩).memory Tryz.f6.params.toList Rows.fnTellCreateTopicsResponseSpec.vars false (#[.int .u8 0,.agg #[.int .i64 0,.slice none 0 0,.bool false,.slice none 0 0,.slice none 0 0]]:Array Value).toList 8=some ([.lit (.int .u8 0),.agg [.lit (.int .i64 0),.nil,.lit (.bool false),.nil,.nil]],[],places) :=
  ⟨[],by kernel_rfl⟩
end Go.Proofs.YtipgdlbbmlnfiaaGreatDoor
