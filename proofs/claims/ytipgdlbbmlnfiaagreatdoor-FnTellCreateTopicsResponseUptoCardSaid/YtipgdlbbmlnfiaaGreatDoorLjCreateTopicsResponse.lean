/- Walks of functions that the seat's laws reach. -/
import Derived.Test.YtipgdlbbmlnfiaaGreatDoorL4
import Derived.WalkKit
import Derived.ProofKit
import Derived.OpenShut
import Derived.Deep.DeepHandedRow
import Derived.Lib.LaidTab
import Derived.Stop.LaidErr
import Derived.SevenTiedAt
import Derived.MakeChecks
import Derived.Test.YtipgdlbbmlnfiaaGreatDoorRows
import Derived.Test.YtipgdlbbmlnfiaaGreatDoorFa
namespace Go.Proofs.YtipgdlbbmlnfiaaGreatDoor
open Go Go.Mk
open Go.ChangeShapes Go.WideShapes Go.ChangeAt Go.RowKit
theorem own:ownKnob Tryz.prog.godebug=none:=by kernel_rfl
theorem laidOut:laidOutB Tryz.prog=true:=by kernel_rfl
theorem j1:(Tryz.prog.mayEnter&&(Rows.fnTellCreateTopicsResponseUptoRow.lifted==Tryz.prog.liftsFinal)&&(Tryz.prog.make==some Rows.fnTellCreateTopicsResponseUptoRow.make))=true:=by kernel_rfl
theorem j2:mapsRowed Tryz.prog=true:=by kernel_rfl
theorem j3:((Rows.fnTellCreateTopicsResponseUptoRow.inPlace==Tryz.prog.inPlace 6)&&(Rows.fnTellCreateTopicsResponseUptoRow.unfollowed==Tryz.prog.unfollowed 6))=true:=by kernel_rfl
theorem j4:((Rows.fnTellCreateTopicsResponseUptoRow.recurses==Tryz.prog.recurses 6)&&(Rows.fnTellCreateTopicsResponseUptoRow.named==Tryz.prog.varsNamed 6))=true:=by kernel_rfl
theorem j5:((Rows.fnTellCreateTopicsResponseUptoRow.plainKeys==Tryz.prog.plainKeys)&&Tryz.prog.stopsHeard)=true:=by kernel_rfl
theorem closed:joinedFacts Tryz.prog 6 Tryz.f6 (Rows.OpenSpec.upto Rows.fnTellCreateTopicsResponseSpec).bare Rows.fnTellCreateTopicsResponseUptoRow=true:=by
  have h1:=j1
  have h3:=j3
  have h4:=j4
  have h5:=j5
  simp only[Bool.and_eq_true] at h1 h3 h4 h5
  simp only[joinedFacts,Bool.and_eq_true]
  exact⟨⟨⟨⟨⟨⟨⟨⟨⟨⟨⟨⟨⟨⟨⟨⟨⟨⟨⟨⟨⟨⟨⟨⟨⟨⟨⟨⟨⟨⟨⟨by kernel_rfl,laidOut⟩,j2⟩,by kernel_rfl⟩,by kernel_rfl⟩,by kernel_rfl⟩,by kernel_rfl⟩,by kernel_rfl⟩,by kernel_rfl⟩,h3.1⟩,h3.2⟩,h4.1⟩,h4.2⟩,by kernel_rfl⟩,by kernel_rfl⟩,by kernel_rfl⟩,by kernel_rfl⟩,by kernel_rfl⟩,by kernel_rfl⟩,by kernel_rfl⟩,by kernel_rfl⟩,by kernel_rfl⟩,h5.1⟩,by kernel_rfl⟩,h5.2⟩,h1.1.1⟩,h1.1.2⟩,h1.2⟩,by kernel_rfl⟩,by kernel_rfl⟩,by kernel_rfl⟩,by kernel_rfl⟩
end Go.Proofs.YtipgdlbbmlnfiaaGreatDoor
