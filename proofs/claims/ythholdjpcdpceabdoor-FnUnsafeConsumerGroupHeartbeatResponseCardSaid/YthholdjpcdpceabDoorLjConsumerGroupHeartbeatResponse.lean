/- Walks of functions that the laws of this seat reach. No statement of the seat stands here. -/
import Derived.Test.YthholdjpcdpceabDoorL3
import Derived.WalkKit
import Derived.ProofKit
import Derived.OpenShut
import Derived.Deep.DeepHandedRow
import Derived.Lib.LaidTab
import Derived.Stop.LaidErr
import Derived.SevenTiedAt
import Derived.MakeChecks
import Derived.Test.YthholdjpcdpceabDoorRows
import Derived.Test.YthholdjpcdpceabDoorFa
namespace Go.Proofs.YthholdjpcdpceabDoor
open Go Go.Mk
open Go.ChangeShapes Go.WideShapes Go.ChangeAt Go.RowKit
theorem own : ownKnob Tryd.prog.godebug = none := by kernel_rfl
theorem laidOut : laidOutB Tryd.prog = true := by kernel_rfl
theorem j1 : (Tryd.prog.mayEnter && (Rows.fnUnsafeConsumerGroupHeartbeatResponseRow.lifted == Tryd.prog.liftsFinal) && (Tryd.prog.make == some Rows.fnUnsafeConsumerGroupHeartbeatResponseRow.make)) = true := by kernel_rfl
theorem j2 : mapsRowed Tryd.prog = true := by kernel_rfl
theorem j3 : ((Rows.fnUnsafeConsumerGroupHeartbeatResponseRow.inPlace == Tryd.prog.inPlace 5) && (Rows.fnUnsafeConsumerGroupHeartbeatResponseRow.unfollowed == Tryd.prog.unfollowed 5)) = true := by kernel_rfl
theorem j4 : ((Rows.fnUnsafeConsumerGroupHeartbeatResponseRow.recurses == Tryd.prog.recurses 5) && (Rows.fnUnsafeConsumerGroupHeartbeatResponseRow.named == Tryd.prog.varsNamed 5)) = true := by kernel_rfl
theorem j5 : ((Rows.fnUnsafeConsumerGroupHeartbeatResponseRow.plainKeys == Tryd.prog.plainKeys) && Tryd.prog.stopsHeard) = true := by kernel_rfl
theorem closed : joinedFacts Tryd.prog 5 Tryd.f5 (OpenSpec.ofChange Rows.fnUnsafeConsumerGroupHeartbeatResponseSpec).bare Rows.fnUnsafeConsumerGroupHeartbeatResponseRow = true := by
  have h1 := j1
  have h3 := j3
  have h4 := j4
  have h5 := j5
  simp only [Bool.and_eq_true] at h1 h3 h4 h5
  simp only [joinedFacts, Bool.and_eq_true]
  exact ⟨⟨⟨⟨⟨⟨⟨⟨⟨⟨⟨⟨⟨⟨⟨⟨⟨⟨⟨⟨⟨⟨⟨⟨⟨⟨⟨⟨⟨⟨⟨by kernel_rfl, laidOut⟩, j2⟩, by kernel_rfl⟩, by kernel_rfl⟩, by kernel_rfl⟩, by kernel_rfl⟩, by kernel_rfl⟩, by kernel_rfl⟩, h3.1⟩, h3.2⟩, h4.1⟩, h4.2⟩, by kernel_rfl⟩, by kernel_rfl⟩, by kernel_rfl⟩, by kernel_rfl⟩, by kernel_rfl⟩, by kernel_rfl⟩, by kernel_rfl⟩, by kernel_rfl⟩, by kernel_rfl⟩, h5.1⟩, by kernel_rfl⟩, h5.2⟩, h1.1.1⟩, h1.1.2⟩, h1.2⟩, by kernel_rfl⟩, by kernel_rfl⟩, by kernel_rfl⟩, by kernel_rfl⟩
end Go.Proofs.YthholdjpcdpceabDoor
