/-
  NARROWER THAN 'FOR EVERY INPUT', by the rows' own cells (each row's printed sentence says how): FnUnsafeControlRecordKey: laid · FnUnsafeDeleteGroupsRequest: laid · FnUnsafeCreateACLsResponse: laid · FnUnsafeElectLeadersRequest: laid · FnUnsafeDeleteShareGroupStateRequest: laid · FnUnsafeDescribeTopicPartitionsRequest: laid · FnUnsafeShareGroupHeartbeatRequest: laid.
  DERIVED. THE GIVEN ROWS OF THIS SEAT. 7 by the template 'for every input the law returns true; each argument reads behind the call as it read before'; 0 by the template 'total and deterministic' (their statements: YthholdjpcdpceaaDoorTotals.lean).
  GIVEN WITH THE SEED: the statements are not yours to turn. If you find one false, say at which input.
  Laid BY PROGRAM, IN A SANDBOX (cutbox-rows.mjs): the forced cells as the released guide's own fill.sh prints them over the translation b17c01112d274899… (all of the seat's roots in one cut). By AI agents, Wed Nov 11 2026. No macro, syntax, notation, axiom, sorry.
-/
import Derived.Test.YthholdjpcdpceaaDoorChecked
import GoSem.Claim
import GoSem.ClaimJoined
import GoSem.ClaimMapViews
import Derived.JoinedTies
import Derived.KernelRfl
namespace Go.Proofs.YthholdjpcdpceaaDoor
/- THE CELL 'sum', in the pinned program and in every row, IS THE sha256 OF THE DUMP (.gsa) THAT YthholdjpcdpceaaDoorProg.lean LOADS. Nothing in Lean hashes anything: it is a label: what it is worth is what the hold of that sum in a sandbox is worth. -/
noncomputable def Tryd.pinned : Pinned := { name := "ythholdjpcdpceaadoor", sum := "b17c01112d27489983cfb93e83fd0a182eca8d7bcb2d59985169ba47bacabe24", checked := Tryd.checked }
namespace Rows
def none {H : Type} : Left H := { results := [], args := [] }

/- WHAT THE LISTED PACKAGE-LEVEL VARIABLES READ AS WHEN THE CALL BEGINS. Each datum BY PROGRAM (the guide's laid-datum.mjs) off the statement by which the dump's own 'gosem.cut.vars' lays the variable. In a bare row this is a premise. The card (YthholdjpcdpceaaDoorCards.lean) ties it to the program's text. -/
def laid_pub_mailsack_pub_kmsg_inner_kbin_ErrNotEnoughData {H : Type} : DataW H := .iface "*errors.errorString" (.ptr (.agg [.lit (.string [114, 101, 115, 112, 111, 110, 115, 101, 32, 100, 105, 100, 32, 110, 111, 116, 32, 99, 111, 110, 116, 97, 105, 110, 32, 101, 110, 111, 117, 103, 104, 32, 100, 97, 116, 97, 32, 116, 111, 32, 98, 101, 32, 118, 97, 108, 105, 100])]))

/-- 'laws.FnUnsafeControlRecordKey': WHATEVER THE INPUT: true; the input reads as it did. -/
def fnUnsafeControlRecordKeySpec : ChangeSpec := { name := "fnUnsafeControlRecordKey", fn := fun _ => fun
  | [d] => { results := [.lit (.bool true)], args := [d] }
  | _ => none }
def fnUnsafeControlRecordKeyRow : OpenClaim := { program := "ythholdjpcdpceaadoor", sum := "b17c01112d27489983cfb93e83fd0a182eca8d7bcb2d59985169ba47bacabe24", func := "pub-mailsack/laws.FnUnsafeControlRecordKey", spec := "fnUnsafeControlRecordKey", recurses := true, named := ["encoding/binary.BigEndian", "pub-mailsack/pub/kmsg/inner/kbin.ErrNotEnoughData"], apart := false, laid := [("pub-mailsack/pub/kmsg/inner/kbin.ErrNotEnoughData", laid_pub_mailsack_pub_kmsg_inner_kbin_ErrNotEnoughData)] }
def FnUnsafeControlRecordKeySaid : Prop := fnUnsafeControlRecordKeyRow.holds Tryd.pinned (OpenSpec.ofChange fnUnsafeControlRecordKeySpec)

/-- ITS FALSE NEIGHBOUR: 'it returns false'. Refute it at one input. -/
def fnUnsafeControlRecordKeyWrong : ChangeSpec := { name := "fnUnsafeControlRecordKey", fn := fun _ => fun
  | [d] => { results := [.lit (.bool false)], args := [d] }
  | _ => none }
def FnUnsafeControlRecordKeyWrongFalsely : Prop := fnUnsafeControlRecordKeyRow.holds Tryd.pinned (OpenSpec.ofChange fnUnsafeControlRecordKeyWrong)

/-- 'laws.FnUnsafeDeleteGroupsRequest': WHATEVER THE INPUT: true; the input reads as it did. -/
def fnUnsafeDeleteGroupsRequestSpec : ChangeSpec := { name := "fnUnsafeDeleteGroupsRequest", fn := fun _ => fun
  | [d1, d2] => { results := [.lit (.bool true)], args := [d1, d2] }
  | _ => none }
def fnUnsafeDeleteGroupsRequestRow : OpenClaim := { program := "ythholdjpcdpceaadoor", sum := "b17c01112d27489983cfb93e83fd0a182eca8d7bcb2d59985169ba47bacabe24", func := "pub-mailsack/laws.FnUnsafeDeleteGroupsRequest", spec := "fnUnsafeDeleteGroupsRequest", inPlace := ["internal/reflectlite.ValueOf", "internal/reflectlite.Swapper", "(internal/reflectlite.Value).Len"], unfollowed := true, recurses := true, named := ["encoding/binary.BigEndian", "pub-mailsack/pub/kmsg/inner/kbin.ErrNotEnoughData"], apart := false, laid := [("pub-mailsack/pub/kmsg/inner/kbin.ErrNotEnoughData", laid_pub_mailsack_pub_kmsg_inner_kbin_ErrNotEnoughData)] }
def FnUnsafeDeleteGroupsRequestSaid : Prop := fnUnsafeDeleteGroupsRequestRow.holds Tryd.pinned (OpenSpec.ofChange fnUnsafeDeleteGroupsRequestSpec)

/-- ITS FALSE NEIGHBOUR: 'it returns false'. Refute it at one input. -/
def fnUnsafeDeleteGroupsRequestWrong : ChangeSpec := { name := "fnUnsafeDeleteGroupsRequest", fn := fun _ => fun
  | [d1, d2] => { results := [.lit (.bool false)], args := [d1, d2] }
  | _ => none }
def FnUnsafeDeleteGroupsRequestWrongFalsely : Prop := fnUnsafeDeleteGroupsRequestRow.holds Tryd.pinned (OpenSpec.ofChange fnUnsafeDeleteGroupsRequestWrong)

/-- 'laws.FnUnsafeCreateACLsResponse': WHATEVER THE INPUT: true; the input reads as it did. -/
def fnUnsafeCreateACLsResponseSpec : ChangeSpec := { name := "fnUnsafeCreateACLsResponse", fn := fun _ => fun
  | [d1, d2] => { results := [.lit (.bool true)], args := [d1, d2] }
  | _ => none }
def fnUnsafeCreateACLsResponseRow : OpenClaim := { program := "ythholdjpcdpceaadoor", sum := "b17c01112d27489983cfb93e83fd0a182eca8d7bcb2d59985169ba47bacabe24", func := "pub-mailsack/laws.FnUnsafeCreateACLsResponse", spec := "fnUnsafeCreateACLsResponse", inPlace := ["internal/reflectlite.ValueOf", "internal/reflectlite.Swapper", "(internal/reflectlite.Value).Len"], unfollowed := true, recurses := true, named := ["encoding/binary.BigEndian", "pub-mailsack/pub/kmsg/inner/kbin.ErrNotEnoughData"], apart := false, laid := [("pub-mailsack/pub/kmsg/inner/kbin.ErrNotEnoughData", laid_pub_mailsack_pub_kmsg_inner_kbin_ErrNotEnoughData)] }
def FnUnsafeCreateACLsResponseSaid : Prop := fnUnsafeCreateACLsResponseRow.holds Tryd.pinned (OpenSpec.ofChange fnUnsafeCreateACLsResponseSpec)

/-- ITS FALSE NEIGHBOUR: 'it returns false'. Refute it at one input. -/
def fnUnsafeCreateACLsResponseWrong : ChangeSpec := { name := "fnUnsafeCreateACLsResponse", fn := fun _ => fun
  | [d1, d2] => { results := [.lit (.bool false)], args := [d1, d2] }
  | _ => none }
def FnUnsafeCreateACLsResponseWrongFalsely : Prop := fnUnsafeCreateACLsResponseRow.holds Tryd.pinned (OpenSpec.ofChange fnUnsafeCreateACLsResponseWrong)

/-- 'laws.FnUnsafeElectLeadersRequest': WHATEVER THE INPUT: true; the input reads as it did. -/
def fnUnsafeElectLeadersRequestSpec : ChangeSpec := { name := "fnUnsafeElectLeadersRequest", fn := fun _ => fun
  | [d1, d2] => { results := [.lit (.bool true)], args := [d1, d2] }
  | _ => none }
def fnUnsafeElectLeadersRequestRow : OpenClaim := { program := "ythholdjpcdpceaadoor", sum := "b17c01112d27489983cfb93e83fd0a182eca8d7bcb2d59985169ba47bacabe24", func := "pub-mailsack/laws.FnUnsafeElectLeadersRequest", spec := "fnUnsafeElectLeadersRequest", inPlace := ["internal/reflectlite.ValueOf", "internal/reflectlite.Swapper", "(internal/reflectlite.Value).Len"], unfollowed := true, recurses := true, named := ["encoding/binary.BigEndian", "pub-mailsack/pub/kmsg/inner/kbin.ErrNotEnoughData"], apart := false, laid := [("pub-mailsack/pub/kmsg/inner/kbin.ErrNotEnoughData", laid_pub_mailsack_pub_kmsg_inner_kbin_ErrNotEnoughData)] }
def FnUnsafeElectLeadersRequestSaid : Prop := fnUnsafeElectLeadersRequestRow.holds Tryd.pinned (OpenSpec.ofChange fnUnsafeElectLeadersRequestSpec)

/-- ITS FALSE NEIGHBOUR: 'it returns false'. Refute it at one input. -/
def fnUnsafeElectLeadersRequestWrong : ChangeSpec := { name := "fnUnsafeElectLeadersRequest", fn := fun _ => fun
  | [d1, d2] => { results := [.lit (.bool false)], args := [d1, d2] }
  | _ => none }
def FnUnsafeElectLeadersRequestWrongFalsely : Prop := fnUnsafeElectLeadersRequestRow.holds Tryd.pinned (OpenSpec.ofChange fnUnsafeElectLeadersRequestWrong)

/-- 'laws.FnUnsafeDeleteShareGroupStateRequest': WHATEVER THE INPUT: true; the input reads as it did. -/
def fnUnsafeDeleteShareGroupStateRequestSpec : ChangeSpec := { name := "fnUnsafeDeleteShareGroupStateRequest", fn := fun _ => fun
  | [d1, d2] => { results := [.lit (.bool true)], args := [d1, d2] }
  | _ => none }
def fnUnsafeDeleteShareGroupStateRequestRow : OpenClaim := { program := "ythholdjpcdpceaadoor", sum := "b17c01112d27489983cfb93e83fd0a182eca8d7bcb2d59985169ba47bacabe24", func := "pub-mailsack/laws.FnUnsafeDeleteShareGroupStateRequest", spec := "fnUnsafeDeleteShareGroupStateRequest", inPlace := ["internal/reflectlite.ValueOf", "internal/reflectlite.Swapper", "(internal/reflectlite.Value).Len"], unfollowed := true, recurses := true, named := ["encoding/binary.BigEndian", "pub-mailsack/pub/kmsg/inner/kbin.ErrNotEnoughData"], apart := false, laid := [("pub-mailsack/pub/kmsg/inner/kbin.ErrNotEnoughData", laid_pub_mailsack_pub_kmsg_inner_kbin_ErrNotEnoughData)] }
def FnUnsafeDeleteShareGroupStateRequestSaid : Prop := fnUnsafeDeleteShareGroupStateRequestRow.holds Tryd.pinned (OpenSpec.ofChange fnUnsafeDeleteShareGroupStateRequestSpec)

/-- ITS FALSE NEIGHBOUR: 'it returns false'. Refute it at one input. -/
def fnUnsafeDeleteShareGroupStateRequestWrong : ChangeSpec := { name := "fnUnsafeDeleteShareGroupStateRequest", fn := fun _ => fun
  | [d1, d2] => { results := [.lit (.bool false)], args := [d1, d2] }
  | _ => none }
def FnUnsafeDeleteShareGroupStateRequestWrongFalsely : Prop := fnUnsafeDeleteShareGroupStateRequestRow.holds Tryd.pinned (OpenSpec.ofChange fnUnsafeDeleteShareGroupStateRequestWrong)

/-- 'laws.FnUnsafeDescribeTopicPartitionsRequest': WHATEVER THE INPUT: true; the input reads as it did. -/
def fnUnsafeDescribeTopicPartitionsRequestSpec : ChangeSpec := { name := "fnUnsafeDescribeTopicPartitionsRequest", fn := fun _ => fun
  | [d1, d2] => { results := [.lit (.bool true)], args := [d1, d2] }
  | _ => none }
def fnUnsafeDescribeTopicPartitionsRequestRow : OpenClaim := { program := "ythholdjpcdpceaadoor", sum := "b17c01112d27489983cfb93e83fd0a182eca8d7bcb2d59985169ba47bacabe24", func := "pub-mailsack/laws.FnUnsafeDescribeTopicPartitionsRequest", spec := "fnUnsafeDescribeTopicPartitionsRequest", inPlace := ["internal/reflectlite.ValueOf", "internal/reflectlite.Swapper", "(internal/reflectlite.Value).Len"], unfollowed := true, recurses := true, named := ["encoding/binary.BigEndian", "pub-mailsack/pub/kmsg/inner/kbin.ErrNotEnoughData"], apart := false, laid := [("pub-mailsack/pub/kmsg/inner/kbin.ErrNotEnoughData", laid_pub_mailsack_pub_kmsg_inner_kbin_ErrNotEnoughData)] }
def FnUnsafeDescribeTopicPartitionsRequestSaid : Prop := fnUnsafeDescribeTopicPartitionsRequestRow.holds Tryd.pinned (OpenSpec.ofChange fnUnsafeDescribeTopicPartitionsRequestSpec)

/-- ITS FALSE NEIGHBOUR: 'it returns false'. Refute it at one input. -/
def fnUnsafeDescribeTopicPartitionsRequestWrong : ChangeSpec := { name := "fnUnsafeDescribeTopicPartitionsRequest", fn := fun _ => fun
  | [d1, d2] => { results := [.lit (.bool false)], args := [d1, d2] }
  | _ => none }
def FnUnsafeDescribeTopicPartitionsRequestWrongFalsely : Prop := fnUnsafeDescribeTopicPartitionsRequestRow.holds Tryd.pinned (OpenSpec.ofChange fnUnsafeDescribeTopicPartitionsRequestWrong)

/-- 'laws.FnUnsafeShareGroupHeartbeatRequest': WHATEVER THE INPUT: true; the input reads as it did. -/
def fnUnsafeShareGroupHeartbeatRequestSpec : ChangeSpec := { name := "fnUnsafeShareGroupHeartbeatRequest", fn := fun _ => fun
  | [d1, d2] => { results := [.lit (.bool true)], args := [d1, d2] }
  | _ => none }
def fnUnsafeShareGroupHeartbeatRequestRow : OpenClaim := { program := "ythholdjpcdpceaadoor", sum := "b17c01112d27489983cfb93e83fd0a182eca8d7bcb2d59985169ba47bacabe24", func := "pub-mailsack/laws.FnUnsafeShareGroupHeartbeatRequest", spec := "fnUnsafeShareGroupHeartbeatRequest", inPlace := ["internal/reflectlite.ValueOf", "internal/reflectlite.Swapper", "(internal/reflectlite.Value).Len"], unfollowed := true, recurses := true, named := ["encoding/binary.BigEndian", "pub-mailsack/pub/kmsg/inner/kbin.ErrNotEnoughData"], apart := false, laid := [("pub-mailsack/pub/kmsg/inner/kbin.ErrNotEnoughData", laid_pub_mailsack_pub_kmsg_inner_kbin_ErrNotEnoughData)] }
def FnUnsafeShareGroupHeartbeatRequestSaid : Prop := fnUnsafeShareGroupHeartbeatRequestRow.holds Tryd.pinned (OpenSpec.ofChange fnUnsafeShareGroupHeartbeatRequestSpec)

/-- ITS FALSE NEIGHBOUR: 'it returns false'. Refute it at one input. -/
def fnUnsafeShareGroupHeartbeatRequestWrong : ChangeSpec := { name := "fnUnsafeShareGroupHeartbeatRequest", fn := fun _ => fun
  | [d1, d2] => { results := [.lit (.bool false)], args := [d1, d2] }
  | _ => none }
def FnUnsafeShareGroupHeartbeatRequestWrongFalsely : Prop := fnUnsafeShareGroupHeartbeatRequestRow.holds Tryd.pinned (OpenSpec.ofChange fnUnsafeShareGroupHeartbeatRequestWrong)

/- THE SECOND FORM. 'bulk': how many values and letters a reading holds, each counted each time it is reached (what is shared counts as often as it is met; a slice's spare places count too). A statement '..UptoSaid' is the law's where the arguments, and the package variables that the reading takes, are together of bulk at most 1048576: NARROWER than '..Said'. Prove '..Said' where nothing that the law and all that it calls make is longer than what came in: it says more and counts as full. Else prove '..UptoSaid'. A law counts once. -/
mutual
def uptoBulk {H : Type} : DataW H → Nat
  | .lit (.string bytes) => bytes.length + 1
  | .lit _ => 1
  | .nil => 1
  | .ptr d => uptoBulk d + 1
  | .slice elems spare => uptoBulkAll elems + uptoBulkAll spare + 1
  | .agg parts => uptoBulkAll parts + 1
  | .iface _ d => uptoBulk d + 1
  | .map entries => uptoBulkEntries entries + 1
  | .held _ => 1
def uptoBulkAll {H : Type} : List (DataW H) → Nat
  | [] => 0
  | d :: r => uptoBulk d + uptoBulkAll r
def uptoBulkEntries {H : Type} : List (Lit × DataW H) → Nat
  | [] => 0
  | x :: r => uptoBulkEntry x + uptoBulkEntries r
def uptoBulkEntry {H : Type} : Lit × DataW H → Nat
  | (.string bytes, d) => bytes.length + uptoBulk d + 1
  | (_, d) => uptoBulk d + 1
 end
def uptoSmall : (H : Type) → List (DataW H) → Bool := fun _ ds => decide (uptoBulkAll ds ≤ 1048576)
def OpenSpec.upto (s : _root_.Go.ChangeSpec) : _root_.Go.OpenSpec := { _root_.Go.OpenSpec.ofChange s with cond := some uptoSmall }

/-- 'laws.FnUnsafeControlRecordKey', WHERE WHAT IT READS IS OF BULK AT MOST 1048576: true; the input reads as it did. -/
def fnUnsafeControlRecordKeyUptoRow : OpenClaim := { program := "ythholdjpcdpceaadoor", sum := "b17c01112d27489983cfb93e83fd0a182eca8d7bcb2d59985169ba47bacabe24", func := "pub-mailsack/laws.FnUnsafeControlRecordKey", spec := "fnUnsafeControlRecordKey", recurses := true, named := ["encoding/binary.BigEndian", "pub-mailsack/pub/kmsg/inner/kbin.ErrNotEnoughData"], apart := false, laid := [("pub-mailsack/pub/kmsg/inner/kbin.ErrNotEnoughData", laid_pub_mailsack_pub_kmsg_inner_kbin_ErrNotEnoughData)], narrowed := true }
def FnUnsafeControlRecordKeyUptoSaid : Prop := fnUnsafeControlRecordKeyUptoRow.holds Tryd.pinned (OpenSpec.upto fnUnsafeControlRecordKeySpec)

/-- 'laws.FnUnsafeDeleteGroupsRequest', WHERE WHAT IT READS IS OF BULK AT MOST 1048576: true; the input reads as it did. -/
def fnUnsafeDeleteGroupsRequestUptoRow : OpenClaim := { program := "ythholdjpcdpceaadoor", sum := "b17c01112d27489983cfb93e83fd0a182eca8d7bcb2d59985169ba47bacabe24", func := "pub-mailsack/laws.FnUnsafeDeleteGroupsRequest", spec := "fnUnsafeDeleteGroupsRequest", inPlace := ["internal/reflectlite.ValueOf", "internal/reflectlite.Swapper", "(internal/reflectlite.Value).Len"], unfollowed := true, recurses := true, named := ["encoding/binary.BigEndian", "pub-mailsack/pub/kmsg/inner/kbin.ErrNotEnoughData"], apart := false, laid := [("pub-mailsack/pub/kmsg/inner/kbin.ErrNotEnoughData", laid_pub_mailsack_pub_kmsg_inner_kbin_ErrNotEnoughData)], narrowed := true }
def FnUnsafeDeleteGroupsRequestUptoSaid : Prop := fnUnsafeDeleteGroupsRequestUptoRow.holds Tryd.pinned (OpenSpec.upto fnUnsafeDeleteGroupsRequestSpec)

/-- 'laws.FnUnsafeCreateACLsResponse', WHERE WHAT IT READS IS OF BULK AT MOST 1048576: true; the input reads as it did. -/
def fnUnsafeCreateACLsResponseUptoRow : OpenClaim := { program := "ythholdjpcdpceaadoor", sum := "b17c01112d27489983cfb93e83fd0a182eca8d7bcb2d59985169ba47bacabe24", func := "pub-mailsack/laws.FnUnsafeCreateACLsResponse", spec := "fnUnsafeCreateACLsResponse", inPlace := ["internal/reflectlite.ValueOf", "internal/reflectlite.Swapper", "(internal/reflectlite.Value).Len"], unfollowed := true, recurses := true, named := ["encoding/binary.BigEndian", "pub-mailsack/pub/kmsg/inner/kbin.ErrNotEnoughData"], apart := false, laid := [("pub-mailsack/pub/kmsg/inner/kbin.ErrNotEnoughData", laid_pub_mailsack_pub_kmsg_inner_kbin_ErrNotEnoughData)], narrowed := true }
def FnUnsafeCreateACLsResponseUptoSaid : Prop := fnUnsafeCreateACLsResponseUptoRow.holds Tryd.pinned (OpenSpec.upto fnUnsafeCreateACLsResponseSpec)

/-- 'laws.FnUnsafeElectLeadersRequest', WHERE WHAT IT READS IS OF BULK AT MOST 1048576: true; the input reads as it did. -/
def fnUnsafeElectLeadersRequestUptoRow : OpenClaim := { program := "ythholdjpcdpceaadoor", sum := "b17c01112d27489983cfb93e83fd0a182eca8d7bcb2d59985169ba47bacabe24", func := "pub-mailsack/laws.FnUnsafeElectLeadersRequest", spec := "fnUnsafeElectLeadersRequest", inPlace := ["internal/reflectlite.ValueOf", "internal/reflectlite.Swapper", "(internal/reflectlite.Value).Len"], unfollowed := true, recurses := true, named := ["encoding/binary.BigEndian", "pub-mailsack/pub/kmsg/inner/kbin.ErrNotEnoughData"], apart := false, laid := [("pub-mailsack/pub/kmsg/inner/kbin.ErrNotEnoughData", laid_pub_mailsack_pub_kmsg_inner_kbin_ErrNotEnoughData)], narrowed := true }
def FnUnsafeElectLeadersRequestUptoSaid : Prop := fnUnsafeElectLeadersRequestUptoRow.holds Tryd.pinned (OpenSpec.upto fnUnsafeElectLeadersRequestSpec)

/-- 'laws.FnUnsafeDeleteShareGroupStateRequest', WHERE WHAT IT READS IS OF BULK AT MOST 1048576: true; the input reads as it did. -/
def fnUnsafeDeleteShareGroupStateRequestUptoRow : OpenClaim := { program := "ythholdjpcdpceaadoor", sum := "b17c01112d27489983cfb93e83fd0a182eca8d7bcb2d59985169ba47bacabe24", func := "pub-mailsack/laws.FnUnsafeDeleteShareGroupStateRequest", spec := "fnUnsafeDeleteShareGroupStateRequest", inPlace := ["internal/reflectlite.ValueOf", "internal/reflectlite.Swapper", "(internal/reflectlite.Value).Len"], unfollowed := true, recurses := true, named := ["encoding/binary.BigEndian", "pub-mailsack/pub/kmsg/inner/kbin.ErrNotEnoughData"], apart := false, laid := [("pub-mailsack/pub/kmsg/inner/kbin.ErrNotEnoughData", laid_pub_mailsack_pub_kmsg_inner_kbin_ErrNotEnoughData)], narrowed := true }
def FnUnsafeDeleteShareGroupStateRequestUptoSaid : Prop := fnUnsafeDeleteShareGroupStateRequestUptoRow.holds Tryd.pinned (OpenSpec.upto fnUnsafeDeleteShareGroupStateRequestSpec)

/-- 'laws.FnUnsafeDescribeTopicPartitionsRequest', WHERE WHAT IT READS IS OF BULK AT MOST 1048576: true; the input reads as it did. -/
def fnUnsafeDescribeTopicPartitionsRequestUptoRow : OpenClaim := { program := "ythholdjpcdpceaadoor", sum := "b17c01112d27489983cfb93e83fd0a182eca8d7bcb2d59985169ba47bacabe24", func := "pub-mailsack/laws.FnUnsafeDescribeTopicPartitionsRequest", spec := "fnUnsafeDescribeTopicPartitionsRequest", inPlace := ["internal/reflectlite.ValueOf", "internal/reflectlite.Swapper", "(internal/reflectlite.Value).Len"], unfollowed := true, recurses := true, named := ["encoding/binary.BigEndian", "pub-mailsack/pub/kmsg/inner/kbin.ErrNotEnoughData"], apart := false, laid := [("pub-mailsack/pub/kmsg/inner/kbin.ErrNotEnoughData", laid_pub_mailsack_pub_kmsg_inner_kbin_ErrNotEnoughData)], narrowed := true }
def FnUnsafeDescribeTopicPartitionsRequestUptoSaid : Prop := fnUnsafeDescribeTopicPartitionsRequestUptoRow.holds Tryd.pinned (OpenSpec.upto fnUnsafeDescribeTopicPartitionsRequestSpec)

/-- 'laws.FnUnsafeShareGroupHeartbeatRequest', WHERE WHAT IT READS IS OF BULK AT MOST 1048576: true; the input reads as it did. -/
def fnUnsafeShareGroupHeartbeatRequestUptoRow : OpenClaim := { program := "ythholdjpcdpceaadoor", sum := "b17c01112d27489983cfb93e83fd0a182eca8d7bcb2d59985169ba47bacabe24", func := "pub-mailsack/laws.FnUnsafeShareGroupHeartbeatRequest", spec := "fnUnsafeShareGroupHeartbeatRequest", inPlace := ["internal/reflectlite.ValueOf", "internal/reflectlite.Swapper", "(internal/reflectlite.Value).Len"], unfollowed := true, recurses := true, named := ["encoding/binary.BigEndian", "pub-mailsack/pub/kmsg/inner/kbin.ErrNotEnoughData"], apart := false, laid := [("pub-mailsack/pub/kmsg/inner/kbin.ErrNotEnoughData", laid_pub_mailsack_pub_kmsg_inner_kbin_ErrNotEnoughData)], narrowed := true }
def FnUnsafeShareGroupHeartbeatRequestUptoSaid : Prop := fnUnsafeShareGroupHeartbeatRequestUptoRow.holds Tryd.pinned (OpenSpec.upto fnUnsafeShareGroupHeartbeatRequestSpec)

end Rows
end Go.Proofs.YthholdjpcdpceaaDoor
