/-
  NARROWER THAN 'FOR EVERY INPUT', by the rows' own cells (each row's printed sentence says how): FnTellShareFetchResponse: loops, laid · FnTellDescribeQuorumResponse: loops, laid · FnBehindConsumerGroupDescribeRequest: loops, laid · FnBehindListPartitionReassignmentsRequest: loops, laid · FnBehindAssignReplicasToDirsRequest: loops, laid · FnBehindListGroupsResponse: loops, laid · FnBehindCreatePartitionsRequest: loops, laid · FnBehindAlterPartitionResponse: loops, laid.
  DERIVED. THE GIVEN ROWS OF THIS SEAT. 8 by the template 'for every input the law returns true; each argument reads behind the call as it read before'; 0 by the template 'total and deterministic' (their statements: YtpjichobdalpjaaGreatDoorTotals.lean).
  GIVEN WITH THE SEED: the statements are not yours to turn. If you find one false, say at which input.
  Laid BY PROGRAM, IN A SANDBOX (cutbox-rows.mjs): the forced cells as the released guide's own fill.sh prints them over the translation e334deae0f9c69f0… (all of the seat's roots in one cut). By AI agents, Wed Nov 11 2026. No macro, syntax, notation, axiom, sorry.
-/
import Derived.Test.YtpjichobdalpjaaGreatDoorChecked
import GoSem.Claim
import GoSem.ClaimJoined
import GoSem.ClaimMapViews
import Derived.JoinedTies
import Derived.KernelRfl
namespace Go.Proofs.YtpjichobdalpjaaGreatDoor
/- THE CELL 'sum', in the pinned program and in every row, IS THE sha256 OF THE DUMP (.gsa) THAT YtpjichobdalpjaaGreatDoorProg.lean LOADS. Nothing in Lean hashes anything: it is a label: what it is worth is what the hold of that sum in a sandbox is worth. -/
noncomputable def Tryz.pinned : Pinned := { name := "ytpjichobdalpjaagreatdoor", sum := "e334deae0f9c69f09ea79521a3fe59004e10664f92fd4718c5298573116bf3ea", checked := Tryz.checked }
namespace Rows
def none {H : Type} : Left H := { results := [], args := [] }

/- WHAT THE LISTED PACKAGE-LEVEL VARIABLES READ AS WHEN THE CALL BEGINS. Each datum BY PROGRAM (the guide's laid-datum.mjs) off the statement by which the dump's own 'gosem.cut.vars' lays the variable. In a bare row this is a premise. The card (YtpjichobdalpjaaGreatDoorCards.lean) ties it to the program's text. -/
def laid_pub_mailsack_pub_kmsg_inner_kbin_ErrNotEnoughData {H : Type} : DataW H := .iface "*errors.errorString" (.ptr (.agg [.lit (.string [114, 101, 115, 112, 111, 110, 115, 101, 32, 100, 105, 100, 32, 110, 111, 116, 32, 99, 111, 110, 116, 97, 105, 110, 32, 101, 110, 111, 117, 103, 104, 32, 100, 97, 116, 97, 32, 116, 111, 32, 98, 101, 32, 118, 97, 108, 105, 100])]))

/-- 'laws.FnTellShareFetchResponse': WHATEVER THE INPUT: true; the input reads as it did. -/
def fnTellShareFetchResponseSpec : ChangeSpec := { name := "fnTellShareFetchResponse", fn := fun _ => fun
  | [d1, d2] => { results := [.lit (.bool true)], args := [d1, d2] }
  | _ => none }
def fnTellShareFetchResponseRow : OpenClaim := { program := "ytpjichobdalpjaagreatdoor", sum := "e334deae0f9c69f09ea79521a3fe59004e10664f92fd4718c5298573116bf3ea", func := "pub-mailsack/laws.FnTellShareFetchResponse", spec := "fnTellShareFetchResponse", inPlace := ["internal/reflectlite.ValueOf", "internal/reflectlite.Swapper", "(internal/reflectlite.Value).Len"], unfollowed := true, recurses := true, named := ["encoding/binary.BigEndian", "pub-mailsack/pub/kmsg/inner/kbin.ErrNotEnoughData"], loops := true, apart := false, laid := [("pub-mailsack/pub/kmsg/inner/kbin.ErrNotEnoughData", laid_pub_mailsack_pub_kmsg_inner_kbin_ErrNotEnoughData)] }
def FnTellShareFetchResponseSaid : Prop := fnTellShareFetchResponseRow.holds Tryz.pinned (OpenSpec.ofChange fnTellShareFetchResponseSpec)

/-- ITS FALSE NEIGHBOUR: 'it returns false'. Refute it at one input. -/
def fnTellShareFetchResponseWrong : ChangeSpec := { name := "fnTellShareFetchResponse", fn := fun _ => fun
  | [d1, d2] => { results := [.lit (.bool false)], args := [d1, d2] }
  | _ => none }
def FnTellShareFetchResponseWrongFalsely : Prop := fnTellShareFetchResponseRow.holds Tryz.pinned (OpenSpec.ofChange fnTellShareFetchResponseWrong)

/-- 'laws.FnTellDescribeQuorumResponse': WHATEVER THE INPUT: true; the input reads as it did. -/
def fnTellDescribeQuorumResponseSpec : ChangeSpec := { name := "fnTellDescribeQuorumResponse", fn := fun _ => fun
  | [d1, d2] => { results := [.lit (.bool true)], args := [d1, d2] }
  | _ => none }
def fnTellDescribeQuorumResponseRow : OpenClaim := { program := "ytpjichobdalpjaagreatdoor", sum := "e334deae0f9c69f09ea79521a3fe59004e10664f92fd4718c5298573116bf3ea", func := "pub-mailsack/laws.FnTellDescribeQuorumResponse", spec := "fnTellDescribeQuorumResponse", inPlace := ["internal/reflectlite.ValueOf", "internal/reflectlite.Swapper", "(internal/reflectlite.Value).Len"], unfollowed := true, recurses := true, named := ["encoding/binary.BigEndian", "pub-mailsack/pub/kmsg/inner/kbin.ErrNotEnoughData"], loops := true, apart := false, laid := [("pub-mailsack/pub/kmsg/inner/kbin.ErrNotEnoughData", laid_pub_mailsack_pub_kmsg_inner_kbin_ErrNotEnoughData)] }
def FnTellDescribeQuorumResponseSaid : Prop := fnTellDescribeQuorumResponseRow.holds Tryz.pinned (OpenSpec.ofChange fnTellDescribeQuorumResponseSpec)

/-- ITS FALSE NEIGHBOUR: 'it returns false'. Refute it at one input. -/
def fnTellDescribeQuorumResponseWrong : ChangeSpec := { name := "fnTellDescribeQuorumResponse", fn := fun _ => fun
  | [d1, d2] => { results := [.lit (.bool false)], args := [d1, d2] }
  | _ => none }
def FnTellDescribeQuorumResponseWrongFalsely : Prop := fnTellDescribeQuorumResponseRow.holds Tryz.pinned (OpenSpec.ofChange fnTellDescribeQuorumResponseWrong)

/-- 'laws.FnBehindConsumerGroupDescribeRequest': WHATEVER THE INPUT: true; the input reads as it did. -/
def fnBehindConsumerGroupDescribeRequestSpec : ChangeSpec := { name := "fnBehindConsumerGroupDescribeRequest", fn := fun _ => fun
  | [d1, d2, d3] => { results := [.lit (.bool true)], args := [d1, d2, d3] }
  | _ => none }
def fnBehindConsumerGroupDescribeRequestRow : OpenClaim := { program := "ytpjichobdalpjaagreatdoor", sum := "e334deae0f9c69f09ea79521a3fe59004e10664f92fd4718c5298573116bf3ea", func := "pub-mailsack/laws.FnBehindConsumerGroupDescribeRequest", spec := "fnBehindConsumerGroupDescribeRequest", inPlace := ["internal/reflectlite.ValueOf", "internal/reflectlite.Swapper", "(internal/reflectlite.Value).Len"], unfollowed := true, recurses := true, named := ["encoding/binary.BigEndian", "pub-mailsack/pub/kmsg/inner/kbin.ErrNotEnoughData"], loops := true, apart := false, laid := [("pub-mailsack/pub/kmsg/inner/kbin.ErrNotEnoughData", laid_pub_mailsack_pub_kmsg_inner_kbin_ErrNotEnoughData)] }
def FnBehindConsumerGroupDescribeRequestSaid : Prop := fnBehindConsumerGroupDescribeRequestRow.holds Tryz.pinned (OpenSpec.ofChange fnBehindConsumerGroupDescribeRequestSpec)

/-- ITS FALSE NEIGHBOUR: 'it returns false'. Refute it at one input. -/
def fnBehindConsumerGroupDescribeRequestWrong : ChangeSpec := { name := "fnBehindConsumerGroupDescribeRequest", fn := fun _ => fun
  | [d1, d2, d3] => { results := [.lit (.bool false)], args := [d1, d2, d3] }
  | _ => none }
def FnBehindConsumerGroupDescribeRequestWrongFalsely : Prop := fnBehindConsumerGroupDescribeRequestRow.holds Tryz.pinned (OpenSpec.ofChange fnBehindConsumerGroupDescribeRequestWrong)

/-- 'laws.FnBehindListPartitionReassignmentsRequest': WHATEVER THE INPUT: true; the input reads as it did. -/
def fnBehindListPartitionReassignmentsRequestSpec : ChangeSpec := { name := "fnBehindListPartitionReassignmentsRequest", fn := fun _ => fun
  | [d1, d2, d3] => { results := [.lit (.bool true)], args := [d1, d2, d3] }
  | _ => none }
def fnBehindListPartitionReassignmentsRequestRow : OpenClaim := { program := "ytpjichobdalpjaagreatdoor", sum := "e334deae0f9c69f09ea79521a3fe59004e10664f92fd4718c5298573116bf3ea", func := "pub-mailsack/laws.FnBehindListPartitionReassignmentsRequest", spec := "fnBehindListPartitionReassignmentsRequest", inPlace := ["internal/reflectlite.ValueOf", "internal/reflectlite.Swapper", "(internal/reflectlite.Value).Len"], unfollowed := true, recurses := true, named := ["encoding/binary.BigEndian", "pub-mailsack/pub/kmsg/inner/kbin.ErrNotEnoughData"], loops := true, apart := false, laid := [("pub-mailsack/pub/kmsg/inner/kbin.ErrNotEnoughData", laid_pub_mailsack_pub_kmsg_inner_kbin_ErrNotEnoughData)] }
def FnBehindListPartitionReassignmentsRequestSaid : Prop := fnBehindListPartitionReassignmentsRequestRow.holds Tryz.pinned (OpenSpec.ofChange fnBehindListPartitionReassignmentsRequestSpec)

/-- ITS FALSE NEIGHBOUR: 'it returns false'. Refute it at one input. -/
def fnBehindListPartitionReassignmentsRequestWrong : ChangeSpec := { name := "fnBehindListPartitionReassignmentsRequest", fn := fun _ => fun
  | [d1, d2, d3] => { results := [.lit (.bool false)], args := [d1, d2, d3] }
  | _ => none }
def FnBehindListPartitionReassignmentsRequestWrongFalsely : Prop := fnBehindListPartitionReassignmentsRequestRow.holds Tryz.pinned (OpenSpec.ofChange fnBehindListPartitionReassignmentsRequestWrong)

/-- 'laws.FnBehindAssignReplicasToDirsRequest': WHATEVER THE INPUT: true; the input reads as it did. -/
def fnBehindAssignReplicasToDirsRequestSpec : ChangeSpec := { name := "fnBehindAssignReplicasToDirsRequest", fn := fun _ => fun
  | [d1, d2, d3] => { results := [.lit (.bool true)], args := [d1, d2, d3] }
  | _ => none }
def fnBehindAssignReplicasToDirsRequestRow : OpenClaim := { program := "ytpjichobdalpjaagreatdoor", sum := "e334deae0f9c69f09ea79521a3fe59004e10664f92fd4718c5298573116bf3ea", func := "pub-mailsack/laws.FnBehindAssignReplicasToDirsRequest", spec := "fnBehindAssignReplicasToDirsRequest", inPlace := ["internal/reflectlite.ValueOf", "internal/reflectlite.Swapper", "(internal/reflectlite.Value).Len"], unfollowed := true, recurses := true, named := ["encoding/binary.BigEndian", "pub-mailsack/pub/kmsg/inner/kbin.ErrNotEnoughData"], loops := true, apart := false, laid := [("pub-mailsack/pub/kmsg/inner/kbin.ErrNotEnoughData", laid_pub_mailsack_pub_kmsg_inner_kbin_ErrNotEnoughData)] }
def FnBehindAssignReplicasToDirsRequestSaid : Prop := fnBehindAssignReplicasToDirsRequestRow.holds Tryz.pinned (OpenSpec.ofChange fnBehindAssignReplicasToDirsRequestSpec)

/-- ITS FALSE NEIGHBOUR: 'it returns false'. Refute it at one input. -/
def fnBehindAssignReplicasToDirsRequestWrong : ChangeSpec := { name := "fnBehindAssignReplicasToDirsRequest", fn := fun _ => fun
  | [d1, d2, d3] => { results := [.lit (.bool false)], args := [d1, d2, d3] }
  | _ => none }
def FnBehindAssignReplicasToDirsRequestWrongFalsely : Prop := fnBehindAssignReplicasToDirsRequestRow.holds Tryz.pinned (OpenSpec.ofChange fnBehindAssignReplicasToDirsRequestWrong)

/-- 'laws.FnBehindListGroupsResponse': WHATEVER THE INPUT: true; the input reads as it did. -/
def fnBehindListGroupsResponseSpec : ChangeSpec := { name := "fnBehindListGroupsResponse", fn := fun _ => fun
  | [d1, d2, d3] => { results := [.lit (.bool true)], args := [d1, d2, d3] }
  | _ => none }
def fnBehindListGroupsResponseRow : OpenClaim := { program := "ytpjichobdalpjaagreatdoor", sum := "e334deae0f9c69f09ea79521a3fe59004e10664f92fd4718c5298573116bf3ea", func := "pub-mailsack/laws.FnBehindListGroupsResponse", spec := "fnBehindListGroupsResponse", inPlace := ["internal/reflectlite.ValueOf", "internal/reflectlite.Swapper", "(internal/reflectlite.Value).Len"], unfollowed := true, recurses := true, named := ["encoding/binary.BigEndian", "pub-mailsack/pub/kmsg/inner/kbin.ErrNotEnoughData"], loops := true, apart := false, laid := [("pub-mailsack/pub/kmsg/inner/kbin.ErrNotEnoughData", laid_pub_mailsack_pub_kmsg_inner_kbin_ErrNotEnoughData)] }
def FnBehindListGroupsResponseSaid : Prop := fnBehindListGroupsResponseRow.holds Tryz.pinned (OpenSpec.ofChange fnBehindListGroupsResponseSpec)

/-- ITS FALSE NEIGHBOUR: 'it returns false'. Refute it at one input. -/
def fnBehindListGroupsResponseWrong : ChangeSpec := { name := "fnBehindListGroupsResponse", fn := fun _ => fun
  | [d1, d2, d3] => { results := [.lit (.bool false)], args := [d1, d2, d3] }
  | _ => none }
def FnBehindListGroupsResponseWrongFalsely : Prop := fnBehindListGroupsResponseRow.holds Tryz.pinned (OpenSpec.ofChange fnBehindListGroupsResponseWrong)

/-- 'laws.FnBehindCreatePartitionsRequest': WHATEVER THE INPUT: true; the input reads as it did. -/
def fnBehindCreatePartitionsRequestSpec : ChangeSpec := { name := "fnBehindCreatePartitionsRequest", fn := fun _ => fun
  | [d1, d2, d3] => { results := [.lit (.bool true)], args := [d1, d2, d3] }
  | _ => none }
def fnBehindCreatePartitionsRequestRow : OpenClaim := { program := "ytpjichobdalpjaagreatdoor", sum := "e334deae0f9c69f09ea79521a3fe59004e10664f92fd4718c5298573116bf3ea", func := "pub-mailsack/laws.FnBehindCreatePartitionsRequest", spec := "fnBehindCreatePartitionsRequest", inPlace := ["internal/reflectlite.ValueOf", "internal/reflectlite.Swapper", "(internal/reflectlite.Value).Len"], unfollowed := true, recurses := true, named := ["encoding/binary.BigEndian", "pub-mailsack/pub/kmsg/inner/kbin.ErrNotEnoughData"], loops := true, apart := false, laid := [("pub-mailsack/pub/kmsg/inner/kbin.ErrNotEnoughData", laid_pub_mailsack_pub_kmsg_inner_kbin_ErrNotEnoughData)] }
def FnBehindCreatePartitionsRequestSaid : Prop := fnBehindCreatePartitionsRequestRow.holds Tryz.pinned (OpenSpec.ofChange fnBehindCreatePartitionsRequestSpec)

/-- ITS FALSE NEIGHBOUR: 'it returns false'. Refute it at one input. -/
def fnBehindCreatePartitionsRequestWrong : ChangeSpec := { name := "fnBehindCreatePartitionsRequest", fn := fun _ => fun
  | [d1, d2, d3] => { results := [.lit (.bool false)], args := [d1, d2, d3] }
  | _ => none }
def FnBehindCreatePartitionsRequestWrongFalsely : Prop := fnBehindCreatePartitionsRequestRow.holds Tryz.pinned (OpenSpec.ofChange fnBehindCreatePartitionsRequestWrong)

/-- 'laws.FnBehindAlterPartitionResponse': WHATEVER THE INPUT: true; the input reads as it did. -/
def fnBehindAlterPartitionResponseSpec : ChangeSpec := { name := "fnBehindAlterPartitionResponse", fn := fun _ => fun
  | [d1, d2, d3] => { results := [.lit (.bool true)], args := [d1, d2, d3] }
  | _ => none }
def fnBehindAlterPartitionResponseRow : OpenClaim := { program := "ytpjichobdalpjaagreatdoor", sum := "e334deae0f9c69f09ea79521a3fe59004e10664f92fd4718c5298573116bf3ea", func := "pub-mailsack/laws.FnBehindAlterPartitionResponse", spec := "fnBehindAlterPartitionResponse", inPlace := ["internal/reflectlite.ValueOf", "internal/reflectlite.Swapper", "(internal/reflectlite.Value).Len"], unfollowed := true, recurses := true, named := ["encoding/binary.BigEndian", "pub-mailsack/pub/kmsg/inner/kbin.ErrNotEnoughData"], loops := true, apart := false, laid := [("pub-mailsack/pub/kmsg/inner/kbin.ErrNotEnoughData", laid_pub_mailsack_pub_kmsg_inner_kbin_ErrNotEnoughData)] }
def FnBehindAlterPartitionResponseSaid : Prop := fnBehindAlterPartitionResponseRow.holds Tryz.pinned (OpenSpec.ofChange fnBehindAlterPartitionResponseSpec)

/-- ITS FALSE NEIGHBOUR: 'it returns false'. Refute it at one input. -/
def fnBehindAlterPartitionResponseWrong : ChangeSpec := { name := "fnBehindAlterPartitionResponse", fn := fun _ => fun
  | [d1, d2, d3] => { results := [.lit (.bool false)], args := [d1, d2, d3] }
  | _ => none }
def FnBehindAlterPartitionResponseWrongFalsely : Prop := fnBehindAlterPartitionResponseRow.holds Tryz.pinned (OpenSpec.ofChange fnBehindAlterPartitionResponseWrong)

/- THE SECOND FORM. 'bulk': how many values and letters a reading holds, each counted each time it is reached (what is shared counts as often as it is met; a slice's spare places count too). A statement '..UptoSaid' is the law's where the arguments, and the package variables that the reading takes, are together of bulk at most 1048576: NARROWER than '..Said'. Prove '..Said' where nothing that the law and all that it calls make is longer than what came in: it says more and counts as full. Else prove '..UptoSaid'. A law counts once. -/
mutual
def uptoBulk {H : Type} : DataW H → Nat
  | .lit (.string bytes) => bytes.length + 1
  | .lit _ => 1
  | .nil => 1
  | .ptr d => uptoBulk d + 1
  | .slice elems spare => uptoBulkAll elems + uptoBulkAll spare + 1
  | .agg parts => uptoBulkAll parts + 1
  | .iface _ d => uptoBulk d + 1
  | .map entries => uptoBulkEntries entries + 1
  | .held _ => 1
def uptoBulkAll {H : Type} : List (DataW H) → Nat
  | [] => 0
  | d :: r => uptoBulk d + uptoBulkAll r
def uptoBulkEntries {H : Type} : List (Lit × DataW H) → Nat
  | [] => 0
  | x :: r => uptoBulkEntry x + uptoBulkEntries r
def uptoBulkEntry {H : Type} : Lit × DataW H → Nat
  | (.string bytes, d) => bytes.length + uptoBulk d + 1
  | (_, d) => uptoBulk d + 1
 end
def uptoSmall : (H : Type) → List (DataW H) → Bool := fun _ ds => decide (uptoBulkAll ds ≤ 1048576)
def OpenSpec.upto (s : _root_.Go.ChangeSpec) : _root_.Go.OpenSpec := { _root_.Go.OpenSpec.ofChange s with cond := some uptoSmall }

/-- 'laws.FnTellShareFetchResponse', WHERE WHAT IT READS IS OF BULK AT MOST 1048576: true; the input reads as it did. -/
def fnTellShareFetchResponseUptoRow : OpenClaim := { program := "ytpjichobdalpjaagreatdoor", sum := "e334deae0f9c69f09ea79521a3fe59004e10664f92fd4718c5298573116bf3ea", func := "pub-mailsack/laws.FnTellShareFetchResponse", spec := "fnTellShareFetchResponse", inPlace := ["internal/reflectlite.ValueOf", "internal/reflectlite.Swapper", "(internal/reflectlite.Value).Len"], unfollowed := true, recurses := true, named := ["encoding/binary.BigEndian", "pub-mailsack/pub/kmsg/inner/kbin.ErrNotEnoughData"], loops := true, apart := false, laid := [("pub-mailsack/pub/kmsg/inner/kbin.ErrNotEnoughData", laid_pub_mailsack_pub_kmsg_inner_kbin_ErrNotEnoughData)], narrowed := true }
def FnTellShareFetchResponseUptoSaid : Prop := fnTellShareFetchResponseUptoRow.holds Tryz.pinned (OpenSpec.upto fnTellShareFetchResponseSpec)

/-- 'laws.FnTellDescribeQuorumResponse', WHERE WHAT IT READS IS OF BULK AT MOST 1048576: true; the input reads as it did. -/
def fnTellDescribeQuorumResponseUptoRow : OpenClaim := { program := "ytpjichobdalpjaagreatdoor", sum := "e334deae0f9c69f09ea79521a3fe59004e10664f92fd4718c5298573116bf3ea", func := "pub-mailsack/laws.FnTellDescribeQuorumResponse", spec := "fnTellDescribeQuorumResponse", inPlace := ["internal/reflectlite.ValueOf", "internal/reflectlite.Swapper", "(internal/reflectlite.Value).Len"], unfollowed := true, recurses := true, named := ["encoding/binary.BigEndian", "pub-mailsack/pub/kmsg/inner/kbin.ErrNotEnoughData"], loops := true, apart := false, laid := [("pub-mailsack/pub/kmsg/inner/kbin.ErrNotEnoughData", laid_pub_mailsack_pub_kmsg_inner_kbin_ErrNotEnoughData)], narrowed := true }
def FnTellDescribeQuorumResponseUptoSaid : Prop := fnTellDescribeQuorumResponseUptoRow.holds Tryz.pinned (OpenSpec.upto fnTellDescribeQuorumResponseSpec)

/-- 'laws.FnBehindConsumerGroupDescribeRequest', WHERE WHAT IT READS IS OF BULK AT MOST 1048576: true; the input reads as it did. -/
def fnBehindConsumerGroupDescribeRequestUptoRow : OpenClaim := { program := "ytpjichobdalpjaagreatdoor", sum := "e334deae0f9c69f09ea79521a3fe59004e10664f92fd4718c5298573116bf3ea", func := "pub-mailsack/laws.FnBehindConsumerGroupDescribeRequest", spec := "fnBehindConsumerGroupDescribeRequest", inPlace := ["internal/reflectlite.ValueOf", "internal/reflectlite.Swapper", "(internal/reflectlite.Value).Len"], unfollowed := true, recurses := true, named := ["encoding/binary.BigEndian", "pub-mailsack/pub/kmsg/inner/kbin.ErrNotEnoughData"], loops := true, apart := false, laid := [("pub-mailsack/pub/kmsg/inner/kbin.ErrNotEnoughData", laid_pub_mailsack_pub_kmsg_inner_kbin_ErrNotEnoughData)], narrowed := true }
def FnBehindConsumerGroupDescribeRequestUptoSaid : Prop := fnBehindConsumerGroupDescribeRequestUptoRow.holds Tryz.pinned (OpenSpec.upto fnBehindConsumerGroupDescribeRequestSpec)

/-- 'laws.FnBehindListPartitionReassignmentsRequest', WHERE WHAT IT READS IS OF BULK AT MOST 1048576: true; the input reads as it did. -/
def fnBehindListPartitionReassignmentsRequestUptoRow : OpenClaim := { program := "ytpjichobdalpjaagreatdoor", sum := "e334deae0f9c69f09ea79521a3fe59004e10664f92fd4718c5298573116bf3ea", func := "pub-mailsack/laws.FnBehindListPartitionReassignmentsRequest", spec := "fnBehindListPartitionReassignmentsRequest", inPlace := ["internal/reflectlite.ValueOf", "internal/reflectlite.Swapper", "(internal/reflectlite.Value).Len"], unfollowed := true, recurses := true, named := ["encoding/binary.BigEndian", "pub-mailsack/pub/kmsg/inner/kbin.ErrNotEnoughData"], loops := true, apart := false, laid := [("pub-mailsack/pub/kmsg/inner/kbin.ErrNotEnoughData", laid_pub_mailsack_pub_kmsg_inner_kbin_ErrNotEnoughData)], narrowed := true }
def FnBehindListPartitionReassignmentsRequestUptoSaid : Prop := fnBehindListPartitionReassignmentsRequestUptoRow.holds Tryz.pinned (OpenSpec.upto fnBehindListPartitionReassignmentsRequestSpec)

/-- 'laws.FnBehindAssignReplicasToDirsRequest', WHERE WHAT IT READS IS OF BULK AT MOST 1048576: true; the input reads as it did. -/
def fnBehindAssignReplicasToDirsRequestUptoRow : OpenClaim := { program := "ytpjichobdalpjaagreatdoor", sum := "e334deae0f9c69f09ea79521a3fe59004e10664f92fd4718c5298573116bf3ea", func := "pub-mailsack/laws.FnBehindAssignReplicasToDirsRequest", spec := "fnBehindAssignReplicasToDirsRequest", inPlace := ["internal/reflectlite.ValueOf", "internal/reflectlite.Swapper", "(internal/reflectlite.Value).Len"], unfollowed := true, recurses := true, named := ["encoding/binary.BigEndian", "pub-mailsack/pub/kmsg/inner/kbin.ErrNotEnoughData"], loops := true, apart := false, laid := [("pub-mailsack/pub/kmsg/inner/kbin.ErrNotEnoughData", laid_pub_mailsack_pub_kmsg_inner_kbin_ErrNotEnoughData)], narrowed := true }
def FnBehindAssignReplicasToDirsRequestUptoSaid : Prop := fnBehindAssignReplicasToDirsRequestUptoRow.holds Tryz.pinned (OpenSpec.upto fnBehindAssignReplicasToDirsRequestSpec)

/-- 'laws.FnBehindListGroupsResponse', WHERE WHAT IT READS IS OF BULK AT MOST 1048576: true; the input reads as it did. -/
def fnBehindListGroupsResponseUptoRow : OpenClaim := { program := "ytpjichobdalpjaagreatdoor", sum := "e334deae0f9c69f09ea79521a3fe59004e10664f92fd4718c5298573116bf3ea", func := "pub-mailsack/laws.FnBehindListGroupsResponse", spec := "fnBehindListGroupsResponse", inPlace := ["internal/reflectlite.ValueOf", "internal/reflectlite.Swapper", "(internal/reflectlite.Value).Len"], unfollowed := true, recurses := true, named := ["encoding/binary.BigEndian", "pub-mailsack/pub/kmsg/inner/kbin.ErrNotEnoughData"], loops := true, apart := false, laid := [("pub-mailsack/pub/kmsg/inner/kbin.ErrNotEnoughData", laid_pub_mailsack_pub_kmsg_inner_kbin_ErrNotEnoughData)], narrowed := true }
def FnBehindListGroupsResponseUptoSaid : Prop := fnBehindListGroupsResponseUptoRow.holds Tryz.pinned (OpenSpec.upto fnBehindListGroupsResponseSpec)

/-- 'laws.FnBehindCreatePartitionsRequest', WHERE WHAT IT READS IS OF BULK AT MOST 1048576: true; the input reads as it did. -/
def fnBehindCreatePartitionsRequestUptoRow : OpenClaim := { program := "ytpjichobdalpjaagreatdoor", sum := "e334deae0f9c69f09ea79521a3fe59004e10664f92fd4718c5298573116bf3ea", func := "pub-mailsack/laws.FnBehindCreatePartitionsRequest", spec := "fnBehindCreatePartitionsRequest", inPlace := ["internal/reflectlite.ValueOf", "internal/reflectlite.Swapper", "(internal/reflectlite.Value).Len"], unfollowed := true, recurses := true, named := ["encoding/binary.BigEndian", "pub-mailsack/pub/kmsg/inner/kbin.ErrNotEnoughData"], loops := true, apart := false, laid := [("pub-mailsack/pub/kmsg/inner/kbin.ErrNotEnoughData", laid_pub_mailsack_pub_kmsg_inner_kbin_ErrNotEnoughData)], narrowed := true }
def FnBehindCreatePartitionsRequestUptoSaid : Prop := fnBehindCreatePartitionsRequestUptoRow.holds Tryz.pinned (OpenSpec.upto fnBehindCreatePartitionsRequestSpec)

/-- 'laws.FnBehindAlterPartitionResponse', WHERE WHAT IT READS IS OF BULK AT MOST 1048576: true; the input reads as it did. -/
def fnBehindAlterPartitionResponseUptoRow : OpenClaim := { program := "ytpjichobdalpjaagreatdoor", sum := "e334deae0f9c69f09ea79521a3fe59004e10664f92fd4718c5298573116bf3ea", func := "pub-mailsack/laws.FnBehindAlterPartitionResponse", spec := "fnBehindAlterPartitionResponse", inPlace := ["internal/reflectlite.ValueOf", "internal/reflectlite.Swapper", "(internal/reflectlite.Value).Len"], unfollowed := true, recurses := true, named := ["encoding/binary.BigEndian", "pub-mailsack/pub/kmsg/inner/kbin.ErrNotEnoughData"], loops := true, apart := false, laid := [("pub-mailsack/pub/kmsg/inner/kbin.ErrNotEnoughData", laid_pub_mailsack_pub_kmsg_inner_kbin_ErrNotEnoughData)], narrowed := true }
def FnBehindAlterPartitionResponseUptoSaid : Prop := fnBehindAlterPartitionResponseUptoRow.holds Tryz.pinned (OpenSpec.upto fnBehindAlterPartitionResponseSpec)

end Rows
end Go.Proofs.YtpjichobdalpjaaGreatDoor
