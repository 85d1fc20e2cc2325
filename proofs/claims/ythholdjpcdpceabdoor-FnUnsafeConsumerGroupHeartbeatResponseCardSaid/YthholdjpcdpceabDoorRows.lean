/-
  NARROWER THAN 'FOR EVERY INPUT', by the rows' own cells (each row's printed sentence says how): FnUnsafeLeaderAndISRResponse: laid · FnUnsafeAddRaftVoterRequest: laid · FnUnsafeConsumerGroupHeartbeatResponse: laid · FnUnsafeControllerRegistrationRequest: laid · FnUnsafeShareAcknowledgeRequest: laid.
  DERIVED. THE GIVEN ROWS OF THIS SEAT. 5 by the template 'for every input the law returns true; each argument reads behind the call as it read before'; 0 by the template 'total and deterministic' (their statements: YthholdjpcdpceabDoorTotals.lean).
  GIVEN WITH THE SEED: the statements are not yours to turn. If you find one false, say at which input.
  Laid BY PROGRAM, IN A SANDBOX (cutbox-rows.mjs): the forced cells as the released guide's own fill.sh prints them over the translation 98a92bb724760345… (all of the seat's roots in one cut). By AI agents, Wed Nov 11 2026. No macro, syntax, notation, axiom, sorry.
-/
import Derived.Test.YthholdjpcdpceabDoorChecked
import GoSem.Claim
import GoSem.ClaimJoined
import GoSem.ClaimMapViews
import Derived.JoinedTies
import Derived.KernelRfl
namespace Go.Proofs.YthholdjpcdpceabDoor
/- THE CELL 'sum', in the pinned program and in every row, IS THE sha256 OF THE DUMP (.gsa) THAT YthholdjpcdpceabDoorProg.lean LOADS. Nothing in Lean hashes anything: it is a label: what it is worth is what the hold of that sum in a sandbox is worth. -/
noncomputable def Tryd.pinned : Pinned := { name := "ythholdjpcdpceabdoor", sum := "98a92bb724760345bfc9c0f899e2ee584c969e42dd7ee2c0560a223ec194158d", checked := Tryd.checked }
namespace Rows
def none {H : Type} : Left H := { results := [], args := [] }

/- WHAT THE LISTED PACKAGE-LEVEL VARIABLES READ AS WHEN THE CALL BEGINS. Each datum BY PROGRAM (the guide's laid-datum.mjs) off the statement by which the dump's own 'gosem.cut.vars' lays the variable. In a bare row this is a premise. The card (YthholdjpcdpceabDoorCards.lean) ties it to the program's text. -/
def laid_pub_mailsack_pub_kmsg_inner_kbin_ErrNotEnoughData {H : Type} : DataW H := .iface "*errors.errorString" (.ptr (.agg [.lit (.string [114, 101, 115, 112, 111, 110, 115, 101, 32, 100, 105, 100, 32, 110, 111, 116, 32, 99, 111, 110, 116, 97, 105, 110, 32, 101, 110, 111, 117, 103, 104, 32, 100, 97, 116, 97, 32, 116, 111, 32, 98, 101, 32, 118, 97, 108, 105, 100])]))

/-- 'laws.FnUnsafeLeaderAndISRResponse': WHATEVER THE INPUT: true; the input reads as it did. -/
def fnUnsafeLeaderAndISRResponseSpec : ChangeSpec := { name := "fnUnsafeLeaderAndISRResponse", fn := fun _ => fun
  | [d1, d2] => { results := [.lit (.bool true)], args := [d1, d2] }
  | _ => none }
def fnUnsafeLeaderAndISRResponseRow : OpenClaim := { program := "ythholdjpcdpceabdoor", sum := "98a92bb724760345bfc9c0f899e2ee584c969e42dd7ee2c0560a223ec194158d", func := "pub-mailsack/laws.FnUnsafeLeaderAndISRResponse", spec := "fnUnsafeLeaderAndISRResponse", inPlace := ["internal/reflectlite.ValueOf", "internal/reflectlite.Swapper", "(internal/reflectlite.Value).Len"], unfollowed := true, recurses := true, named := ["encoding/binary.BigEndian", "pub-mailsack/pub/kmsg/inner/kbin.ErrNotEnoughData"], apart := false, laid := [("pub-mailsack/pub/kmsg/inner/kbin.ErrNotEnoughData", laid_pub_mailsack_pub_kmsg_inner_kbin_ErrNotEnoughData)] }
def FnUnsafeLeaderAndISRResponseSaid : Prop := fnUnsafeLeaderAndISRResponseRow.holds Tryd.pinned (OpenSpec.ofChange fnUnsafeLeaderAndISRResponseSpec)

/-- ITS FALSE NEIGHBOUR: 'it returns false'. Refute it at one input. -/
def fnUnsafeLeaderAndISRResponseWrong : ChangeSpec := { name := "fnUnsafeLeaderAndISRResponse", fn := fun _ => fun
  | [d1, d2] => { results := [.lit (.bool false)], args := [d1, d2] }
  | _ => none }
def FnUnsafeLeaderAndISRResponseWrongFalsely : Prop := fnUnsafeLeaderAndISRResponseRow.holds Tryd.pinned (OpenSpec.ofChange fnUnsafeLeaderAndISRResponseWrong)

/-- 'laws.FnUnsafeAddRaftVoterRequest': WHATEVER THE INPUT: true; the input reads as it did. -/
def fnUnsafeAddRaftVoterRequestSpec : ChangeSpec := { name := "fnUnsafeAddRaftVoterRequest", fn := fun _ => fun
  | [d1, d2] => { results := [.lit (.bool true)], args := [d1, d2] }
  | _ => none }
def fnUnsafeAddRaftVoterRequestRow : OpenClaim := { program := "ythholdjpcdpceabdoor", sum := "98a92bb724760345bfc9c0f899e2ee584c969e42dd7ee2c0560a223ec194158d", func := "pub-mailsack/laws.FnUnsafeAddRaftVoterRequest", spec := "fnUnsafeAddRaftVoterRequest", inPlace := ["internal/reflectlite.ValueOf", "internal/reflectlite.Swapper", "(internal/reflectlite.Value).Len"], unfollowed := true, recurses := true, named := ["encoding/binary.BigEndian", "pub-mailsack/pub/kmsg/inner/kbin.ErrNotEnoughData"], apart := false, laid := [("pub-mailsack/pub/kmsg/inner/kbin.ErrNotEnoughData", laid_pub_mailsack_pub_kmsg_inner_kbin_ErrNotEnoughData)] }
def FnUnsafeAddRaftVoterRequestSaid : Prop := fnUnsafeAddRaftVoterRequestRow.holds Tryd.pinned (OpenSpec.ofChange fnUnsafeAddRaftVoterRequestSpec)

/-- ITS FALSE NEIGHBOUR: 'it returns false'. Refute it at one input. -/
def fnUnsafeAddRaftVoterRequestWrong : ChangeSpec := { name := "fnUnsafeAddRaftVoterRequest", fn := fun _ => fun
  | [d1, d2] => { results := [.lit (.bool false)], args := [d1, d2] }
  | _ => none }
def FnUnsafeAddRaftVoterRequestWrongFalsely : Prop := fnUnsafeAddRaftVoterRequestRow.holds Tryd.pinned (OpenSpec.ofChange fnUnsafeAddRaftVoterRequestWrong)

/-- 'laws.FnUnsafeConsumerGroupHeartbeatResponse': WHATEVER THE INPUT: true; the input reads as it did. -/
def fnUnsafeConsumerGroupHeartbeatResponseSpec : ChangeSpec := { name := "fnUnsafeConsumerGroupHeartbeatResponse", fn := fun _ => fun
  | [d1, d2] => { results := [.lit (.bool true)], args := [d1, d2] }
  | _ => none }
def fnUnsafeConsumerGroupHeartbeatResponseRow : OpenClaim := { program := "ythholdjpcdpceabdoor", sum := "98a92bb724760345bfc9c0f899e2ee584c969e42dd7ee2c0560a223ec194158d", func := "pub-mailsack/laws.FnUnsafeConsumerGroupHeartbeatResponse", spec := "fnUnsafeConsumerGroupHeartbeatResponse", inPlace := ["internal/reflectlite.ValueOf", "internal/reflectlite.Swapper", "(internal/reflectlite.Value).Len"], unfollowed := true, recurses := true, named := ["encoding/binary.BigEndian", "pub-mailsack/pub/kmsg/inner/kbin.ErrNotEnoughData"], apart := false, laid := [("pub-mailsack/pub/kmsg/inner/kbin.ErrNotEnoughData", laid_pub_mailsack_pub_kmsg_inner_kbin_ErrNotEnoughData)] }
def FnUnsafeConsumerGroupHeartbeatResponseSaid : Prop := fnUnsafeConsumerGroupHeartbeatResponseRow.holds Tryd.pinned (OpenSpec.ofChange fnUnsafeConsumerGroupHeartbeatResponseSpec)

/-- ITS FALSE NEIGHBOUR: 'it returns false'. Refute it at one input. -/
def fnUnsafeConsumerGroupHeartbeatResponseWrong : ChangeSpec := { name := "fnUnsafeConsumerGroupHeartbeatResponse", fn := fun _ => fun
  | [d1, d2] => { results := [.lit (.bool false)], args := [d1, d2] }
  | _ => none }
def FnUnsafeConsumerGroupHeartbeatResponseWrongFalsely : Prop := fnUnsafeConsumerGroupHeartbeatResponseRow.holds Tryd.pinned (OpenSpec.ofChange fnUnsafeConsumerGroupHeartbeatResponseWrong)

/-- 'laws.FnUnsafeControllerRegistrationRequest': WHATEVER THE INPUT: true; the input reads as it did. -/
def fnUnsafeControllerRegistrationRequestSpec : ChangeSpec := { name := "fnUnsafeControllerRegistrationRequest", fn := fun _ => fun
  | [d1, d2] => { results := [.lit (.bool true)], args := [d1, d2] }
  | _ => none }
def fnUnsafeControllerRegistrationRequestRow : OpenClaim := { program := "ythholdjpcdpceabdoor", sum := "98a92bb724760345bfc9c0f899e2ee584c969e42dd7ee2c0560a223ec194158d", func := "pub-mailsack/laws.FnUnsafeControllerRegistrationRequest", spec := "fnUnsafeControllerRegistrationRequest", inPlace := ["internal/reflectlite.ValueOf", "internal/reflectlite.Swapper", "(internal/reflectlite.Value).Len"], unfollowed := true, recurses := true, named := ["encoding/binary.BigEndian", "pub-mailsack/pub/kmsg/inner/kbin.ErrNotEnoughData"], apart := false, laid := [("pub-mailsack/pub/kmsg/inner/kbin.ErrNotEnoughData", laid_pub_mailsack_pub_kmsg_inner_kbin_ErrNotEnoughData)] }
def FnUnsafeControllerRegistrationRequestSaid : Prop := fnUnsafeControllerRegistrationRequestRow.holds Tryd.pinned (OpenSpec.ofChange fnUnsafeControllerRegistrationRequestSpec)

/-- ITS FALSE NEIGHBOUR: 'it returns false'. Refute it at one input. -/
def fnUnsafeControllerRegistrationRequestWrong : ChangeSpec := { name := "fnUnsafeControllerRegistrationRequest", fn := fun _ => fun
  | [d1, d2] => { results := [.lit (.bool false)], args := [d1, d2] }
  | _ => none }
def FnUnsafeControllerRegistrationRequestWrongFalsely : Prop := fnUnsafeControllerRegistrationRequestRow.holds Tryd.pinned (OpenSpec.ofChange fnUnsafeControllerRegistrationRequestWrong)

/-- 'laws.FnUnsafeShareAcknowledgeRequest': WHATEVER THE INPUT: true; the input reads as it did. -/
def fnUnsafeShareAcknowledgeRequestSpec : ChangeSpec := { name := "fnUnsafeShareAcknowledgeRequest", fn := fun _ => fun
  | [d1, d2] => { results := [.lit (.bool true)], args := [d1, d2] }
  | _ => none }
def fnUnsafeShareAcknowledgeRequestRow : OpenClaim := { program := "ythholdjpcdpceabdoor", sum := "98a92bb724760345bfc9c0f899e2ee584c969e42dd7ee2c0560a223ec194158d", func := "pub-mailsack/laws.FnUnsafeShareAcknowledgeRequest", spec := "fnUnsafeShareAcknowledgeRequest", inPlace := ["internal/reflectlite.ValueOf", "internal/reflectlite.Swapper", "(internal/reflectlite.Value).Len"], unfollowed := true, recurses := true, named := ["encoding/binary.BigEndian", "pub-mailsack/pub/kmsg/inner/kbin.ErrNotEnoughData"], apart := false, laid := [("pub-mailsack/pub/kmsg/inner/kbin.ErrNotEnoughData", laid_pub_mailsack_pub_kmsg_inner_kbin_ErrNotEnoughData)] }
def FnUnsafeShareAcknowledgeRequestSaid : Prop := fnUnsafeShareAcknowledgeRequestRow.holds Tryd.pinned (OpenSpec.ofChange fnUnsafeShareAcknowledgeRequestSpec)

/-- ITS FALSE NEIGHBOUR: 'it returns false'. Refute it at one input. -/
def fnUnsafeShareAcknowledgeRequestWrong : ChangeSpec := { name := "fnUnsafeShareAcknowledgeRequest", fn := fun _ => fun
  | [d1, d2] => { results := [.lit (.bool false)], args := [d1, d2] }
  | _ => none }
def FnUnsafeShareAcknowledgeRequestWrongFalsely : Prop := fnUnsafeShareAcknowledgeRequestRow.holds Tryd.pinned (OpenSpec.ofChange fnUnsafeShareAcknowledgeRequestWrong)

/- THE SECOND FORM. 'bulk': how many values and letters a reading holds, each counted each time it is reached (what is shared counts as often as it is met; a slice's spare places count too). A statement '..UptoSaid' is the law's where the arguments, and the package variables that the reading takes, are together of bulk at most 1048576: NARROWER than '..Said'. Prove '..Said' where nothing that the law and all that it calls make is longer than what came in: it says more and counts as full. Else prove '..UptoSaid'. A law counts once. -/
mutual
def uptoBulk {H : Type} : DataW H → Nat
  | .lit (.string bytes) => bytes.length + 1
  | .lit _ => 1
  | .nil => 1
  | .ptr d => uptoBulk d + 1
  | .slice elems spare => uptoBulkAll elems + uptoBulkAll spare + 1
  | .agg parts => uptoBulkAll parts + 1
  | .iface _ d => uptoBulk d + 1
  | .map entries => uptoBulkEntries entries + 1
  | .held _ => 1
def uptoBulkAll {H : Type} : List (DataW H) → Nat
  | [] => 0
  | d :: r => uptoBulk d + uptoBulkAll r
def uptoBulkEntries {H : Type} : List (Lit × DataW H) → Nat
  | [] => 0
  | x :: r => uptoBulkEntry x + uptoBulkEntries r
def uptoBulkEntry {H : Type} : Lit × DataW H → Nat
  | (.string bytes, d) => bytes.length + uptoBulk d + 1
  | (_, d) => uptoBulk d + 1
 end
def uptoSmall : (H : Type) → List (DataW H) → Bool := fun _ ds => decide (uptoBulkAll ds ≤ 1048576)
def OpenSpec.upto (s : _root_.Go.ChangeSpec) : _root_.Go.OpenSpec := { _root_.Go.OpenSpec.ofChange s with cond := some uptoSmall }

/-- 'laws.FnUnsafeLeaderAndISRResponse', WHERE WHAT IT READS IS OF BULK AT MOST 1048576: true; the input reads as it did. -/
def fnUnsafeLeaderAndISRResponseUptoRow : OpenClaim := { program := "ythholdjpcdpceabdoor", sum := "98a92bb724760345bfc9c0f899e2ee584c969e42dd7ee2c0560a223ec194158d", func := "pub-mailsack/laws.FnUnsafeLeaderAndISRResponse", spec := "fnUnsafeLeaderAndISRResponse", inPlace := ["internal/reflectlite.ValueOf", "internal/reflectlite.Swapper", "(internal/reflectlite.Value).Len"], unfollowed := true, recurses := true, named := ["encoding/binary.BigEndian", "pub-mailsack/pub/kmsg/inner/kbin.ErrNotEnoughData"], apart := false, laid := [("pub-mailsack/pub/kmsg/inner/kbin.ErrNotEnoughData", laid_pub_mailsack_pub_kmsg_inner_kbin_ErrNotEnoughData)], narrowed := true }
def FnUnsafeLeaderAndISRResponseUptoSaid : Prop := fnUnsafeLeaderAndISRResponseUptoRow.holds Tryd.pinned (OpenSpec.upto fnUnsafeLeaderAndISRResponseSpec)

/-- 'laws.FnUnsafeAddRaftVoterRequest', WHERE WHAT IT READS IS OF BULK AT MOST 1048576: true; the input reads as it did. -/
def fnUnsafeAddRaftVoterRequestUptoRow : OpenClaim := { program := "ythholdjpcdpceabdoor", sum := "98a92bb724760345bfc9c0f899e2ee584c969e42dd7ee2c0560a223ec194158d", func := "pub-mailsack/laws.FnUnsafeAddRaftVoterRequest", spec := "fnUnsafeAddRaftVoterRequest", inPlace := ["internal/reflectlite.ValueOf", "internal/reflectlite.Swapper", "(internal/reflectlite.Value).Len"], unfollowed := true, recurses := true, named := ["encoding/binary.BigEndian", "pub-mailsack/pub/kmsg/inner/kbin.ErrNotEnoughData"], apart := false, laid := [("pub-mailsack/pub/kmsg/inner/kbin.ErrNotEnoughData", laid_pub_mailsack_pub_kmsg_inner_kbin_ErrNotEnoughData)], narrowed := true }
def FnUnsafeAddRaftVoterRequestUptoSaid : Prop := fnUnsafeAddRaftVoterRequestUptoRow.holds Tryd.pinned (OpenSpec.upto fnUnsafeAddRaftVoterRequestSpec)

/-- 'laws.FnUnsafeConsumerGroupHeartbeatResponse', WHERE WHAT IT READS IS OF BULK AT MOST 1048576: true; the input reads as it did. -/
def fnUnsafeConsumerGroupHeartbeatResponseUptoRow : OpenClaim := { program := "ythholdjpcdpceabdoor", sum := "98a92bb724760345bfc9c0f899e2ee584c969e42dd7ee2c0560a223ec194158d", func := "pub-mailsack/laws.FnUnsafeConsumerGroupHeartbeatResponse", spec := "fnUnsafeConsumerGroupHeartbeatResponse", inPlace := ["internal/reflectlite.ValueOf", "internal/reflectlite.Swapper", "(internal/reflectlite.Value).Len"], unfollowed := true, recurses := true, named := ["encoding/binary.BigEndian", "pub-mailsack/pub/kmsg/inner/kbin.ErrNotEnoughData"], apart := false, laid := [("pub-mailsack/pub/kmsg/inner/kbin.ErrNotEnoughData", laid_pub_mailsack_pub_kmsg_inner_kbin_ErrNotEnoughData)], narrowed := true }
def FnUnsafeConsumerGroupHeartbeatResponseUptoSaid : Prop := fnUnsafeConsumerGroupHeartbeatResponseUptoRow.holds Tryd.pinned (OpenSpec.upto fnUnsafeConsumerGroupHeartbeatResponseSpec)

/-- 'laws.FnUnsafeControllerRegistrationRequest', WHERE WHAT IT READS IS OF BULK AT MOST 1048576: true; the input reads as it did. -/
def fnUnsafeControllerRegistrationRequestUptoRow : OpenClaim := { program := "ythholdjpcdpceabdoor", sum := "98a92bb724760345bfc9c0f899e2ee584c969e42dd7ee2c0560a223ec194158d", func := "pub-mailsack/laws.FnUnsafeControllerRegistrationRequest", spec := "fnUnsafeControllerRegistrationRequest", inPlace := ["internal/reflectlite.ValueOf", "internal/reflectlite.Swapper", "(internal/reflectlite.Value).Len"], unfollowed := true, recurses := true, named := ["encoding/binary.BigEndian", "pub-mailsack/pub/kmsg/inner/kbin.ErrNotEnoughData"], apart := false, laid := [("pub-mailsack/pub/kmsg/inner/kbin.ErrNotEnoughData", laid_pub_mailsack_pub_kmsg_inner_kbin_ErrNotEnoughData)], narrowed := true }
def FnUnsafeControllerRegistrationRequestUptoSaid : Prop := fnUnsafeControllerRegistrationRequestUptoRow.holds Tryd.pinned (OpenSpec.upto fnUnsafeControllerRegistrationRequestSpec)

/-- 'laws.FnUnsafeShareAcknowledgeRequest', WHERE WHAT IT READS IS OF BULK AT MOST 1048576: true; the input reads as it did. -/
def fnUnsafeShareAcknowledgeRequestUptoRow : OpenClaim := { program := "ythholdjpcdpceabdoor", sum := "98a92bb724760345bfc9c0f899e2ee584c969e42dd7ee2c0560a223ec194158d", func := "pub-mailsack/laws.FnUnsafeShareAcknowledgeRequest", spec := "fnUnsafeShareAcknowledgeRequest", inPlace := ["internal/reflectlite.ValueOf", "internal/reflectlite.Swapper", "(internal/reflectlite.Value).Len"], unfollowed := true, recurses := true, named := ["encoding/binary.BigEndian", "pub-mailsack/pub/kmsg/inner/kbin.ErrNotEnoughData"], apart := false, laid := [("pub-mailsack/pub/kmsg/inner/kbin.ErrNotEnoughData", laid_pub_mailsack_pub_kmsg_inner_kbin_ErrNotEnoughData)], narrowed := true }
def FnUnsafeShareAcknowledgeRequestUptoSaid : Prop := fnUnsafeShareAcknowledgeRequestUptoRow.holds Tryd.pinned (OpenSpec.upto fnUnsafeShareAcknowledgeRequestSpec)

end Rows
end Go.Proofs.YthholdjpcdpceabDoor
