/- Walks of functions that the laws of this seat reach. No statement of the seat stands here. -/
import Derived.Test.YthholdjpcdpceaaDoorL3
import Derived.WalkKit
import Derived.ProofKit
import Derived.OpenShut
import Derived.Deep.DeepHandedRow
import Derived.Lib.LaidTab
import Derived.Stop.LaidErr
import Derived.SevenTiedAt
import Derived.MakeChecks
import Derived.Test.YthholdjpcdpceaaDoorRows
import Derived.Test.YthholdjpcdpceaaDoorFa
namespace Go.Proofs.YthholdjpcdpceaaDoor
open Go Go.Mk
open Go.ChangeShapes Go.WideShapes Go.ChangeAt Go.RowKit
theorem own : ownKnob Tryd.prog.godebug = none := by kernel_rfl
theorem laidOut : laidOutB Tryd.prog = true := by kernel_rfl
theorem j1 : (Tryd.prog.mayEnter && (Rows.fnUnsafeControlRecordKeyRow.lifted == Tryd.prog.liftsFinal) && (Tryd.prog.make == some Rows.fnUnsafeControlRecordKeyRow.make)) = true := by kernel_rfl
theorem j2 : mapsRowed Tryd.prog = true := by kernel_rfl
theorem j3 : ((Rows.fnUnsafeControlRecordKeyRow.inPlace == Tryd.prog.inPlace 3) && (Rows.fnUnsafeControlRecordKeyRow.unfollowed == Tryd.prog.unfollowed 3)) = true := by kernel_rfl
theorem j4 : ((Rows.fnUnsafeControlRecordKeyRow.recurses == Tryd.prog.recurses 3) && (Rows.fnUnsafeControlRecordKeyRow.named == Tryd.prog.varsNamed 3)) = true := by kernel_rfl
theorem j5 : ((Rows.fnUnsafeControlRecordKeyRow.plainKeys == Tryd.prog.plainKeys) && Tryd.prog.stopsHeard) = true := by kernel_rfl
theorem closed : joinedFacts Tryd.prog 3 Tryd.f3 (OpenSpec.ofChange Rows.fnUnsafeControlRecordKeySpec).bare Rows.fnUnsafeControlRecordKeyRow = true := by
  have h1 := j1
  have h3 := j3
  have h4 := j4
  have h5 := j5
  simp only [Bool.and_eq_true] at h1 h3 h4 h5
  simp only [joinedFacts, Bool.and_eq_true]
  exact ⟨⟨⟨⟨⟨⟨⟨⟨⟨⟨⟨⟨⟨⟨⟨⟨⟨⟨⟨⟨⟨⟨⟨⟨⟨⟨⟨⟨⟨⟨⟨by kernel_rfl, laidOut⟩, j2⟩, by kernel_rfl⟩, by kernel_rfl⟩, by kernel_rfl⟩, by kernel_rfl⟩, by kernel_rfl⟩, by kernel_rfl⟩, h3.1⟩, h3.2⟩, h4.1⟩, h4.2⟩, by kernel_rfl⟩, by kernel_rfl⟩, by kernel_rfl⟩, by kernel_rfl⟩, by kernel_rfl⟩, by kernel_rfl⟩, by kernel_rfl⟩, by kernel_rfl⟩, by kernel_rfl⟩, h5.1⟩, by kernel_rfl⟩, h5.2⟩, h1.1.1⟩, h1.1.2⟩, h1.2⟩, by kernel_rfl⟩, by kernel_rfl⟩, by kernel_rfl⟩, by kernel_rfl⟩
end Go.Proofs.YthholdjpcdpceaaDoor
