/-
  NARROWER THAN 'FOR EVERY INPUT', by the rows' own cells (each row's printed sentence says how): FnMakeOffsetDeleteResponse: loops · FnMakeConnectMemberAssignment: loops.
  DERIVED. THE GIVEN ROWS OF THIS SEAT. 2 by the template 'for every input the law returns true; each argument reads behind the call as it read before'; 0 by the template 'total and deterministic' (their statements: YtbljeefficdemaaTotals.lean).
  GIVEN WITH THE SEED: the statements are not yours to turn. If you find one false, say at which input.
  Laid BY PROGRAM, IN A SANDBOX (cutbox-rows.mjs): the forced cells as the released guide's own fill.sh prints them over the translation 32dfb69a9689ce71… (all of the seat's roots in one cut). By AI agents, Wed Nov 11 2026. No macro, syntax, notation, axiom, sorry.
-/
import Derived.Test.YtbljeefficdemaaChecked
import GoSem.Claim
import GoSem.ClaimJoined
import GoSem.ClaimMapViews
import Derived.JoinedTies
import Derived.KernelRfl
namespace Go.Proofs.Ytbljeefficdemaa
/- THE CELL 'sum', in the pinned program and in every row, IS THE sha256 OF THE DUMP (.gsa) THAT YtbljeefficdemaaProg.lean LOADS. Nothing in Lean hashes anything: it is a label: what it is worth is what the hold of that sum in a sandbox is worth. -/
noncomputable def Try.pinned : Pinned := { name := "ytbljeefficdemaa", sum := "32dfb69a9689ce71385c67f872c2c0c2071b171c7da6d592b906760d41d33d21", checked := Try.checked }
namespace Rows
def none {H : Type} : Left H := { results := [], args := [] }

/-- 'laws.FnMakeOffsetDeleteResponse': WHATEVER THE INPUT: true; the input reads as it did. -/
def fnMakeOffsetDeleteResponseSpec : ChangeSpec := { name := "fnMakeOffsetDeleteResponse", fn := fun _ => fun
  | [d1, d2] => { results := [.lit (.bool true)], args := [d1, d2] }
  | _ => none }
def fnMakeOffsetDeleteResponseRow : OpenClaim := { program := "ytbljeefficdemaa", sum := "32dfb69a9689ce71385c67f872c2c0c2071b171c7da6d592b906760d41d33d21", func := "pub-mailsack/laws.FnMakeOffsetDeleteResponse", spec := "fnMakeOffsetDeleteResponse", recurses := true, loops := true, apart := false }
def FnMakeOffsetDeleteResponseSaid : Prop := fnMakeOffsetDeleteResponseRow.holds Try.pinned (OpenSpec.ofChange fnMakeOffsetDeleteResponseSpec)

/-- ITS FALSE NEIGHBOUR: 'it returns false'. Refute it at one input. -/
def fnMakeOffsetDeleteResponseWrong : ChangeSpec := { name := "fnMakeOffsetDeleteResponse", fn := fun _ => fun
  | [d1, d2] => { results := [.lit (.bool false)], args := [d1, d2] }
  | _ => none }
def FnMakeOffsetDeleteResponseWrongFalsely : Prop := fnMakeOffsetDeleteResponseRow.holds Try.pinned (OpenSpec.ofChange fnMakeOffsetDeleteResponseWrong)

/-- 'laws.FnMakeConnectMemberAssignment': WHATEVER THE INPUT: true; the input reads as it did. -/
def fnMakeConnectMemberAssignmentSpec : ChangeSpec := { name := "fnMakeConnectMemberAssignment", fn := fun _ => fun
  | [d1, d2] => { results := [.lit (.bool true)], args := [d1, d2] }
  | _ => none }
def fnMakeConnectMemberAssignmentRow : OpenClaim := { program := "ytbljeefficdemaa", sum := "32dfb69a9689ce71385c67f872c2c0c2071b171c7da6d592b906760d41d33d21", func := "pub-mailsack/laws.FnMakeConnectMemberAssignment", spec := "fnMakeConnectMemberAssignment", recurses := true, loops := true, apart := false }
def FnMakeConnectMemberAssignmentSaid : Prop := fnMakeConnectMemberAssignmentRow.holds Try.pinned (OpenSpec.ofChange fnMakeConnectMemberAssignmentSpec)

/-- ITS FALSE NEIGHBOUR: 'it returns false'. Refute it at one input. -/
def fnMakeConnectMemberAssignmentWrong : ChangeSpec := { name := "fnMakeConnectMemberAssignment", fn := fun _ => fun
  | [d1, d2] => { results := [.lit (.bool false)], args := [d1, d2] }
  | _ => none }
def FnMakeConnectMemberAssignmentWrongFalsely : Prop := fnMakeConnectMemberAssignmentRow.holds Try.pinned (OpenSpec.ofChange fnMakeConnectMemberAssignmentWrong)

/- THE SECOND FORM. 'bulk': how many values and letters a reading holds, each counted each time it is reached (what is shared counts as often as it is met; a slice's spare places count too). A statement '..UptoSaid' is the law's where the arguments, and the package variables that the reading takes, are together of bulk at most 1048576: NARROWER than '..Said'. Prove '..Said' where nothing that the law and all that it calls make is longer than what came in: it says more and counts as full. Else prove '..UptoSaid'. A law counts once. -/
mutual
def uptoBulk {H : Type} : DataW H → Nat
  | .lit (.string bytes) => bytes.length + 1
  | .lit _ => 1
  | .nil => 1
  | .ptr d => uptoBulk d + 1
  | .slice elems spare => uptoBulkAll elems + uptoBulkAll spare + 1
  | .agg parts => uptoBulkAll parts + 1
  | .iface _ d => uptoBulk d + 1
  | .map entries => uptoBulkEntries entries + 1
  | .held _ => 1
def uptoBulkAll {H : Type} : List (DataW H) → Nat
  | [] => 0
  | d :: r => uptoBulk d + uptoBulkAll r
def uptoBulkEntries {H : Type} : List (Lit × DataW H) → Nat
  | [] => 0
  | x :: r => uptoBulkEntry x + uptoBulkEntries r
def uptoBulkEntry {H : Type} : Lit × DataW H → Nat
  | (.string bytes, d) => bytes.length + uptoBulk d + 1
  | (_, d) => uptoBulk d + 1
 end
def uptoSmall : (H : Type) → List (DataW H) → Bool := fun _ ds => decide (uptoBulkAll ds ≤ 1048576)
def OpenSpec.upto (s : _root_.Go.ChangeSpec) : _root_.Go.OpenSpec := { _root_.Go.OpenSpec.ofChange s with cond := some uptoSmall }

/-- 'laws.FnMakeOffsetDeleteResponse', WHERE WHAT IT READS IS OF BULK AT MOST 1048576: true; the input reads as it did. -/
def fnMakeOffsetDeleteResponseUptoRow : OpenClaim := { program := "ytbljeefficdemaa", sum := "32dfb69a9689ce71385c67f872c2c0c2071b171c7da6d592b906760d41d33d21", func := "pub-mailsack/laws.FnMakeOffsetDeleteResponse", spec := "fnMakeOffsetDeleteResponse", recurses := true, loops := true, apart := false, narrowed := true }
def FnMakeOffsetDeleteResponseUptoSaid : Prop := fnMakeOffsetDeleteResponseUptoRow.holds Try.pinned (OpenSpec.upto fnMakeOffsetDeleteResponseSpec)

/-- 'laws.FnMakeConnectMemberAssignment', WHERE WHAT IT READS IS OF BULK AT MOST 1048576: true; the input reads as it did. -/
def fnMakeConnectMemberAssignmentUptoRow : OpenClaim := { program := "ytbljeefficdemaa", sum := "32dfb69a9689ce71385c67f872c2c0c2071b171c7da6d592b906760d41d33d21", func := "pub-mailsack/laws.FnMakeConnectMemberAssignment", spec := "fnMakeConnectMemberAssignment", recurses := true, loops := true, apart := false, narrowed := true }
def FnMakeConnectMemberAssignmentUptoSaid : Prop := fnMakeConnectMemberAssignmentUptoRow.holds Try.pinned (OpenSpec.upto fnMakeConnectMemberAssignmentSpec)

end Rows
end Go.Proofs.Ytbljeefficdemaa
