/-
  NARROWER THAN 'FOR EVERY INPUT', by the rows' own cells (each row's printed sentence says how): FnMakeAllocateProducerIDsResponse: loops · FnMakeUnregisterBrokerResponse: loops · FnMakeStreamsGroupTopologyDescriptionUpdateResponse: loops · FnMakeApiVersionsRequest: loops · FnMakeDescribeDelegationTokenRequest: loops · FnMakeReadShareGroupStateRequest: loops · FnMakeInitializeShareGroupStateRequest: loops · FnMakeFindCoordinatorResponse: loops · FnMakeReadShareGroupStateSummaryResponse: loops · FnMakeAlterPartitionAssignmentsResponse: loops · FnMakeDescribeClusterResponse: loops · FnMakeVoteRequest: loops.
  DERIVED. THE GIVEN ROWS OF THIS SEAT. 12 by the template 'for every input the law returns true; each argument reads behind the call as it read before'; 0 by the template 'total and deterministic' (their statements: YtojbmnelohjhmaaTotals.lean).
  GIVEN WITH THE SEED: the statements are not yours to turn. If you find one false, say at which input.
  Laid BY PROGRAM, IN A SANDBOX (cutbox-rows.mjs): the forced cells as the released guide's own fill.sh prints them over the translation 33a742dbea73f22d… (all of the seat's roots in one cut). By AI agents, Wed Nov 11 2026. No macro, syntax, notation, axiom, sorry.
-/
import Derived.Test.YtojbmnelohjhmaaChecked
import GoSem.Claim
import GoSem.ClaimJoined
import GoSem.ClaimMapViews
import Derived.JoinedTies
import Derived.KernelRfl
namespace Go.Proofs.Ytojbmnelohjhmaa
/- THE CELL 'sum', in the pinned program and in every row, IS THE sha256 OF THE DUMP (.gsa) THAT YtojbmnelohjhmaaProg.lean LOADS. Nothing in Lean hashes anything: it is a label: what it is worth is what the hold of that sum in a sandbox is worth. -/
noncomputable def Try.pinned : Pinned := { name := "ytojbmnelohjhmaa", sum := "33a742dbea73f22d1dc5265fed3b161a4ba1876e43b1878368548f24d27da2fc", checked := Try.checked }
namespace Rows
def none {H : Type} : Left H := { results := [], args := [] }

/-- 'laws.FnMakeAllocateProducerIDsResponse': WHATEVER THE INPUT: true; the input reads as it did. -/
def fnMakeAllocateProducerIDsResponseSpec : ChangeSpec := { name := "fnMakeAllocateProducerIDsResponse", fn := fun _ => fun
  | [d1, d2] => { results := [.lit (.bool true)], args := [d1, d2] }
  | _ => none }
def fnMakeAllocateProducerIDsResponseRow : OpenClaim := { program := "ytojbmnelohjhmaa", sum := "33a742dbea73f22d1dc5265fed3b161a4ba1876e43b1878368548f24d27da2fc", func := "pub-mailsack/laws.FnMakeAllocateProducerIDsResponse", spec := "fnMakeAllocateProducerIDsResponse", inPlace := ["internal/reflectlite.ValueOf", "internal/reflectlite.Swapper", "(internal/reflectlite.Value).Len"], unfollowed := true, recurses := true, loops := true, apart := false }
def FnMakeAllocateProducerIDsResponseSaid : Prop := fnMakeAllocateProducerIDsResponseRow.holds Try.pinned (OpenSpec.ofChange fnMakeAllocateProducerIDsResponseSpec)

/-- ITS FALSE NEIGHBOUR: 'it returns false'. Refute it at one input. -/
def fnMakeAllocateProducerIDsResponseWrong : ChangeSpec := { name := "fnMakeAllocateProducerIDsResponse", fn := fun _ => fun
  | [d1, d2] => { results := [.lit (.bool false)], args := [d1, d2] }
  | _ => none }
def FnMakeAllocateProducerIDsResponseWrongFalsely : Prop := fnMakeAllocateProducerIDsResponseRow.holds Try.pinned (OpenSpec.ofChange fnMakeAllocateProducerIDsResponseWrong)

/-- 'laws.FnMakeUnregisterBrokerResponse': WHATEVER THE INPUT: true; the input reads as it did. -/
def fnMakeUnregisterBrokerResponseSpec : ChangeSpec := { name := "fnMakeUnregisterBrokerResponse", fn := fun _ => fun
  | [d1, d2] => { results := [.lit (.bool true)], args := [d1, d2] }
  | _ => none }
def fnMakeUnregisterBrokerResponseRow : OpenClaim := { program := "ytojbmnelohjhmaa", sum := "33a742dbea73f22d1dc5265fed3b161a4ba1876e43b1878368548f24d27da2fc", func := "pub-mailsack/laws.FnMakeUnregisterBrokerResponse", spec := "fnMakeUnregisterBrokerResponse", inPlace := ["internal/reflectlite.ValueOf", "internal/reflectlite.Swapper", "(internal/reflectlite.Value).Len"], unfollowed := true, recurses := true, loops := true, apart := false }
def FnMakeUnregisterBrokerResponseSaid : Prop := fnMakeUnregisterBrokerResponseRow.holds Try.pinned (OpenSpec.ofChange fnMakeUnregisterBrokerResponseSpec)

/-- ITS FALSE NEIGHBOUR: 'it returns false'. Refute it at one input. -/
def fnMakeUnregisterBrokerResponseWrong : ChangeSpec := { name := "fnMakeUnregisterBrokerResponse", fn := fun _ => fun
  | [d1, d2] => { results := [.lit (.bool false)], args := [d1, d2] }
  | _ => none }
def FnMakeUnregisterBrokerResponseWrongFalsely : Prop := fnMakeUnregisterBrokerResponseRow.holds Try.pinned (OpenSpec.ofChange fnMakeUnregisterBrokerResponseWrong)

/-- 'laws.FnMakeStreamsGroupTopologyDescriptionUpdateResponse': WHATEVER THE INPUT: true; the input reads as it did. -/
def fnMakeStreamsGroupTopologyDescriptionUpdateResponseSpec : ChangeSpec := { name := "fnMakeStreamsGroupTopologyDescriptionUpdateResponse", fn := fun _ => fun
  | [d1, d2] => { results := [.lit (.bool true)], args := [d1, d2] }
  | _ => none }
def fnMakeStreamsGroupTopologyDescriptionUpdateResponseRow : OpenClaim := { program := "ytojbmnelohjhmaa", sum := "33a742dbea73f22d1dc5265fed3b161a4ba1876e43b1878368548f24d27da2fc", func := "pub-mailsack/laws.FnMakeStreamsGroupTopologyDescriptionUpdateResponse", spec := "fnMakeStreamsGroupTopologyDescriptionUpdateResponse", inPlace := ["internal/reflectlite.ValueOf", "internal/reflectlite.Swapper", "(internal/reflectlite.Value).Len"], unfollowed := true, recurses := true, loops := true, apart := false }
def FnMakeStreamsGroupTopologyDescriptionUpdateResponseSaid : Prop := fnMakeStreamsGroupTopologyDescriptionUpdateResponseRow.holds Try.pinned (OpenSpec.ofChange fnMakeStreamsGroupTopologyDescriptionUpdateResponseSpec)

/-- ITS FALSE NEIGHBOUR: 'it returns false'. Refute it at one input. -/
def fnMakeStreamsGroupTopologyDescriptionUpdateResponseWrong : ChangeSpec := { name := "fnMakeStreamsGroupTopologyDescriptionUpdateResponse", fn := fun _ => fun
  | [d1, d2] => { results := [.lit (.bool false)], args := [d1, d2] }
  | _ => none }
def FnMakeStreamsGroupTopologyDescriptionUpdateResponseWrongFalsely : Prop := fnMakeStreamsGroupTopologyDescriptionUpdateResponseRow.holds Try.pinned (OpenSpec.ofChange fnMakeStreamsGroupTopologyDescriptionUpdateResponseWrong)

/-- 'laws.FnMakeApiVersionsRequest': WHATEVER THE INPUT: true; the input reads as it did. -/
def fnMakeApiVersionsRequestSpec : ChangeSpec := { name := "fnMakeApiVersionsRequest", fn := fun _ => fun
  | [d1, d2] => { results := [.lit (.bool true)], args := [d1, d2] }
  | _ => none }
def fnMakeApiVersionsRequestRow : OpenClaim := { program := "ytojbmnelohjhmaa", sum := "33a742dbea73f22d1dc5265fed3b161a4ba1876e43b1878368548f24d27da2fc", func := "pub-mailsack/laws.FnMakeApiVersionsRequest", spec := "fnMakeApiVersionsRequest", inPlace := ["internal/reflectlite.ValueOf", "internal/reflectlite.Swapper", "(internal/reflectlite.Value).Len"], unfollowed := true, recurses := true, loops := true, apart := false }
def FnMakeApiVersionsRequestSaid : Prop := fnMakeApiVersionsRequestRow.holds Try.pinned (OpenSpec.ofChange fnMakeApiVersionsRequestSpec)

/-- ITS FALSE NEIGHBOUR: 'it returns false'. Refute it at one input. -/
def fnMakeApiVersionsRequestWrong : ChangeSpec := { name := "fnMakeApiVersionsRequest", fn := fun _ => fun
  | [d1, d2] => { results := [.lit (.bool false)], args := [d1, d2] }
  | _ => none }
def FnMakeApiVersionsRequestWrongFalsely : Prop := fnMakeApiVersionsRequestRow.holds Try.pinned (OpenSpec.ofChange fnMakeApiVersionsRequestWrong)

/-- 'laws.FnMakeDescribeDelegationTokenRequest': WHATEVER THE INPUT: true; the input reads as it did. -/
def fnMakeDescribeDelegationTokenRequestSpec : ChangeSpec := { name := "fnMakeDescribeDelegationTokenRequest", fn := fun _ => fun
  | [d1, d2] => { results := [.lit (.bool true)], args := [d1, d2] }
  | _ => none }
def fnMakeDescribeDelegationTokenRequestRow : OpenClaim := { program := "ytojbmnelohjhmaa", sum := "33a742dbea73f22d1dc5265fed3b161a4ba1876e43b1878368548f24d27da2fc", func := "pub-mailsack/laws.FnMakeDescribeDelegationTokenRequest", spec := "fnMakeDescribeDelegationTokenRequest", inPlace := ["internal/reflectlite.ValueOf", "internal/reflectlite.Swapper", "(internal/reflectlite.Value).Len"], unfollowed := true, recurses := true, loops := true, apart := false }
def FnMakeDescribeDelegationTokenRequestSaid : Prop := fnMakeDescribeDelegationTokenRequestRow.holds Try.pinned (OpenSpec.ofChange fnMakeDescribeDelegationTokenRequestSpec)

/-- ITS FALSE NEIGHBOUR: 'it returns false'. Refute it at one input. -/
def fnMakeDescribeDelegationTokenRequestWrong : ChangeSpec := { name := "fnMakeDescribeDelegationTokenRequest", fn := fun _ => fun
  | [d1, d2] => { results := [.lit (.bool false)], args := [d1, d2] }
  | _ => none }
def FnMakeDescribeDelegationTokenRequestWrongFalsely : Prop := fnMakeDescribeDelegationTokenRequestRow.holds Try.pinned (OpenSpec.ofChange fnMakeDescribeDelegationTokenRequestWrong)

/-- 'laws.FnMakeReadShareGroupStateRequest': WHATEVER THE INPUT: true; the input reads as it did. -/
def fnMakeReadShareGroupStateRequestSpec : ChangeSpec := { name := "fnMakeReadShareGroupStateRequest", fn := fun _ => fun
  | [d1, d2] => { results := [.lit (.bool true)], args := [d1, d2] }
  | _ => none }
def fnMakeReadShareGroupStateRequestRow : OpenClaim := { program := "ytojbmnelohjhmaa", sum := "33a742dbea73f22d1dc5265fed3b161a4ba1876e43b1878368548f24d27da2fc", func := "pub-mailsack/laws.FnMakeReadShareGroupStateRequest", spec := "fnMakeReadShareGroupStateRequest", inPlace := ["internal/reflectlite.ValueOf", "internal/reflectlite.Swapper", "(internal/reflectlite.Value).Len"], unfollowed := true, recurses := true, loops := true, apart := false }
def FnMakeReadShareGroupStateRequestSaid : Prop := fnMakeReadShareGroupStateRequestRow.holds Try.pinned (OpenSpec.ofChange fnMakeReadShareGroupStateRequestSpec)

/-- ITS FALSE NEIGHBOUR: 'it returns false'. Refute it at one input. -/
def fnMakeReadShareGroupStateRequestWrong : ChangeSpec := { name := "fnMakeReadShareGroupStateRequest", fn := fun _ => fun
  | [d1, d2] => { results := [.lit (.bool false)], args := [d1, d2] }
  | _ => none }
def FnMakeReadShareGroupStateRequestWrongFalsely : Prop := fnMakeReadShareGroupStateRequestRow.holds Try.pinned (OpenSpec.ofChange fnMakeReadShareGroupStateRequestWrong)

/-- 'laws.FnMakeInitializeShareGroupStateRequest': WHATEVER THE INPUT: true; the input reads as it did. -/
def fnMakeInitializeShareGroupStateRequestSpec : ChangeSpec := { name := "fnMakeInitializeShareGroupStateRequest", fn := fun _ => fun
  | [d1, d2] => { results := [.lit (.bool true)], args := [d1, d2] }
  | _ => none }
def fnMakeInitializeShareGroupStateRequestRow : OpenClaim := { program := "ytojbmnelohjhmaa", sum := "33a742dbea73f22d1dc5265fed3b161a4ba1876e43b1878368548f24d27da2fc", func := "pub-mailsack/laws.FnMakeInitializeShareGroupStateRequest", spec := "fnMakeInitializeShareGroupStateRequest", inPlace := ["internal/reflectlite.ValueOf", "internal/reflectlite.Swapper", "(internal/reflectlite.Value).Len"], unfollowed := true, recurses := true, loops := true, apart := false }
def FnMakeInitializeShareGroupStateRequestSaid : Prop := fnMakeInitializeShareGroupStateRequestRow.holds Try.pinned (OpenSpec.ofChange fnMakeInitializeShareGroupStateRequestSpec)

/-- ITS FALSE NEIGHBOUR: 'it returns false'. Refute it at one input. -/
def fnMakeInitializeShareGroupStateRequestWrong : ChangeSpec := { name := "fnMakeInitializeShareGroupStateRequest", fn := fun _ => fun
  | [d1, d2] => { results := [.lit (.bool false)], args := [d1, d2] }
  | _ => none }
def FnMakeInitializeShareGroupStateRequestWrongFalsely : Prop := fnMakeInitializeShareGroupStateRequestRow.holds Try.pinned (OpenSpec.ofChange fnMakeInitializeShareGroupStateRequestWrong)

/-- 'laws.FnMakeFindCoordinatorResponse': WHATEVER THE INPUT: true; the input reads as it did. -/
def fnMakeFindCoordinatorResponseSpec : ChangeSpec := { name := "fnMakeFindCoordinatorResponse", fn := fun _ => fun
  | [d1, d2] => { results := [.lit (.bool true)], args := [d1, d2] }
  | _ => none }
def fnMakeFindCoordinatorResponseRow : OpenClaim := { program := "ytojbmnelohjhmaa", sum := "33a742dbea73f22d1dc5265fed3b161a4ba1876e43b1878368548f24d27da2fc", func := "pub-mailsack/laws.FnMakeFindCoordinatorResponse", spec := "fnMakeFindCoordinatorResponse", inPlace := ["internal/reflectlite.ValueOf", "internal/reflectlite.Swapper", "(internal/reflectlite.Value).Len"], unfollowed := true, recurses := true, loops := true, apart := false }
def FnMakeFindCoordinatorResponseSaid : Prop := fnMakeFindCoordinatorResponseRow.holds Try.pinned (OpenSpec.ofChange fnMakeFindCoordinatorResponseSpec)

/-- ITS FALSE NEIGHBOUR: 'it returns false'. Refute it at one input. -/
def fnMakeFindCoordinatorResponseWrong : ChangeSpec := { name := "fnMakeFindCoordinatorResponse", fn := fun _ => fun
  | [d1, d2] => { results := [.lit (.bool false)], args := [d1, d2] }
  | _ => none }
def FnMakeFindCoordinatorResponseWrongFalsely : Prop := fnMakeFindCoordinatorResponseRow.holds Try.pinned (OpenSpec.ofChange fnMakeFindCoordinatorResponseWrong)

/-- 'laws.FnMakeReadShareGroupStateSummaryResponse': WHATEVER THE INPUT: true; the input reads as it did. -/
def fnMakeReadShareGroupStateSummaryResponseSpec : ChangeSpec := { name := "fnMakeReadShareGroupStateSummaryResponse", fn := fun _ => fun
  | [d1, d2] => { results := [.lit (.bool true)], args := [d1, d2] }
  | _ => none }
def fnMakeReadShareGroupStateSummaryResponseRow : OpenClaim := { program := "ytojbmnelohjhmaa", sum := "33a742dbea73f22d1dc5265fed3b161a4ba1876e43b1878368548f24d27da2fc", func := "pub-mailsack/laws.FnMakeReadShareGroupStateSummaryResponse", spec := "fnMakeReadShareGroupStateSummaryResponse", inPlace := ["internal/reflectlite.ValueOf", "internal/reflectlite.Swapper", "(internal/reflectlite.Value).Len"], unfollowed := true, recurses := true, loops := true, apart := false }
def FnMakeReadShareGroupStateSummaryResponseSaid : Prop := fnMakeReadShareGroupStateSummaryResponseRow.holds Try.pinned (OpenSpec.ofChange fnMakeReadShareGroupStateSummaryResponseSpec)

/-- ITS FALSE NEIGHBOUR: 'it returns false'. Refute it at one input. -/
def fnMakeReadShareGroupStateSummaryResponseWrong : ChangeSpec := { name := "fnMakeReadShareGroupStateSummaryResponse", fn := fun _ => fun
  | [d1, d2] => { results := [.lit (.bool false)], args := [d1, d2] }
  | _ => none }
def FnMakeReadShareGroupStateSummaryResponseWrongFalsely : Prop := fnMakeReadShareGroupStateSummaryResponseRow.holds Try.pinned (OpenSpec.ofChange fnMakeReadShareGroupStateSummaryResponseWrong)

/-- 'laws.FnMakeAlterPartitionAssignmentsResponse': WHATEVER THE INPUT: true; the input reads as it did. -/
def fnMakeAlterPartitionAssignmentsResponseSpec : ChangeSpec := { name := "fnMakeAlterPartitionAssignmentsResponse", fn := fun _ => fun
  | [d1, d2] => { results := [.lit (.bool true)], args := [d1, d2] }
  | _ => none }
def fnMakeAlterPartitionAssignmentsResponseRow : OpenClaim := { program := "ytojbmnelohjhmaa", sum := "33a742dbea73f22d1dc5265fed3b161a4ba1876e43b1878368548f24d27da2fc", func := "pub-mailsack/laws.FnMakeAlterPartitionAssignmentsResponse", spec := "fnMakeAlterPartitionAssignmentsResponse", inPlace := ["internal/reflectlite.ValueOf", "internal/reflectlite.Swapper", "(internal/reflectlite.Value).Len"], unfollowed := true, recurses := true, loops := true, apart := false }
def FnMakeAlterPartitionAssignmentsResponseSaid : Prop := fnMakeAlterPartitionAssignmentsResponseRow.holds Try.pinned (OpenSpec.ofChange fnMakeAlterPartitionAssignmentsResponseSpec)

/-- ITS FALSE NEIGHBOUR: 'it returns false'. Refute it at one input. -/
def fnMakeAlterPartitionAssignmentsResponseWrong : ChangeSpec := { name := "fnMakeAlterPartitionAssignmentsResponse", fn := fun _ => fun
  | [d1, d2] => { results := [.lit (.bool false)], args := [d1, d2] }
  | _ => none }
def FnMakeAlterPartitionAssignmentsResponseWrongFalsely : Prop := fnMakeAlterPartitionAssignmentsResponseRow.holds Try.pinned (OpenSpec.ofChange fnMakeAlterPartitionAssignmentsResponseWrong)

/-- 'laws.FnMakeDescribeClusterResponse': WHATEVER THE INPUT: true; the input reads as it did. -/
def fnMakeDescribeClusterResponseSpec : ChangeSpec := { name := "fnMakeDescribeClusterResponse", fn := fun _ => fun
  | [d1, d2] => { results := [.lit (.bool true)], args := [d1, d2] }
  | _ => none }
def fnMakeDescribeClusterResponseRow : OpenClaim := { program := "ytojbmnelohjhmaa", sum := "33a742dbea73f22d1dc5265fed3b161a4ba1876e43b1878368548f24d27da2fc", func := "pub-mailsack/laws.FnMakeDescribeClusterResponse", spec := "fnMakeDescribeClusterResponse", inPlace := ["internal/reflectlite.ValueOf", "internal/reflectlite.Swapper", "(internal/reflectlite.Value).Len"], unfollowed := true, recurses := true, loops := true, apart := false }
def FnMakeDescribeClusterResponseSaid : Prop := fnMakeDescribeClusterResponseRow.holds Try.pinned (OpenSpec.ofChange fnMakeDescribeClusterResponseSpec)

/-- ITS FALSE NEIGHBOUR: 'it returns false'. Refute it at one input. -/
def fnMakeDescribeClusterResponseWrong : ChangeSpec := { name := "fnMakeDescribeClusterResponse", fn := fun _ => fun
  | [d1, d2] => { results := [.lit (.bool false)], args := [d1, d2] }
  | _ => none }
def FnMakeDescribeClusterResponseWrongFalsely : Prop := fnMakeDescribeClusterResponseRow.holds Try.pinned (OpenSpec.ofChange fnMakeDescribeClusterResponseWrong)

/-- 'laws.FnMakeVoteRequest': WHATEVER THE INPUT: true; the input reads as it did. -/
def fnMakeVoteRequestSpec : ChangeSpec := { name := "fnMakeVoteRequest", fn := fun _ => fun
  | [d1, d2] => { results := [.lit (.bool true)], args := [d1, d2] }
  | _ => none }
def fnMakeVoteRequestRow : OpenClaim := { program := "ytojbmnelohjhmaa", sum := "33a742dbea73f22d1dc5265fed3b161a4ba1876e43b1878368548f24d27da2fc", func := "pub-mailsack/laws.FnMakeVoteRequest", spec := "fnMakeVoteRequest", inPlace := ["internal/reflectlite.ValueOf", "internal/reflectlite.Swapper", "(internal/reflectlite.Value).Len"], unfollowed := true, recurses := true, loops := true, apart := false }
def FnMakeVoteRequestSaid : Prop := fnMakeVoteRequestRow.holds Try.pinned (OpenSpec.ofChange fnMakeVoteRequestSpec)

/-- ITS FALSE NEIGHBOUR: 'it returns false'. Refute it at one input. -/
def fnMakeVoteRequestWrong : ChangeSpec := { name := "fnMakeVoteRequest", fn := fun _ => fun
  | [d1, d2] => { results := [.lit (.bool false)], args := [d1, d2] }
  | _ => none }
def FnMakeVoteRequestWrongFalsely : Prop := fnMakeVoteRequestRow.holds Try.pinned (OpenSpec.ofChange fnMakeVoteRequestWrong)

/- THE SECOND FORM. 'bulk': how many values and letters a reading holds, each counted each time it is reached (what is shared counts as often as it is met; a slice's spare places count too). A statement '..UptoSaid' is the law's where the arguments, and the package variables that the reading takes, are together of bulk at most 1048576: NARROWER than '..Said'. Prove '..Said' where nothing that the law and all that it calls make is longer than what came in: it says more and counts as full. Else prove '..UptoSaid'. A law counts once. -/
mutual
def uptoBulk {H : Type} : DataW H → Nat
  | .lit (.string bytes) => bytes.length + 1
  | .lit _ => 1
  | .nil => 1
  | .ptr d => uptoBulk d + 1
  | .slice elems spare => uptoBulkAll elems + uptoBulkAll spare + 1
  | .agg parts => uptoBulkAll parts + 1
  | .iface _ d => uptoBulk d + 1
  | .map entries => uptoBulkEntries entries + 1
  | .held _ => 1
def uptoBulkAll {H : Type} : List (DataW H) → Nat
  | [] => 0
  | d :: r => uptoBulk d + uptoBulkAll r
def uptoBulkEntries {H : Type} : List (Lit × DataW H) → Nat
  | [] => 0
  | x :: r => uptoBulkEntry x + uptoBulkEntries r
def uptoBulkEntry {H : Type} : Lit × DataW H → Nat
  | (.string bytes, d) => bytes.length + uptoBulk d + 1
  | (_, d) => uptoBulk d + 1
 end
def uptoSmall : (H : Type) → List (DataW H) → Bool := fun _ ds => decide (uptoBulkAll ds ≤ 1048576)
def OpenSpec.upto (s : _root_.Go.ChangeSpec) : _root_.Go.OpenSpec := { _root_.Go.OpenSpec.ofChange s with cond := some uptoSmall }

/-- 'laws.FnMakeAllocateProducerIDsResponse', WHERE WHAT IT READS IS OF BULK AT MOST 1048576: true; the input reads as it did. -/
def fnMakeAllocateProducerIDsResponseUptoRow : OpenClaim := { program := "ytojbmnelohjhmaa", sum := "33a742dbea73f22d1dc5265fed3b161a4ba1876e43b1878368548f24d27da2fc", func := "pub-mailsack/laws.FnMakeAllocateProducerIDsResponse", spec := "fnMakeAllocateProducerIDsResponse", inPlace := ["internal/reflectlite.ValueOf", "internal/reflectlite.Swapper", "(internal/reflectlite.Value).Len"], unfollowed := true, recurses := true, loops := true, apart := false, narrowed := true }
def FnMakeAllocateProducerIDsResponseUptoSaid : Prop := fnMakeAllocateProducerIDsResponseUptoRow.holds Try.pinned (OpenSpec.upto fnMakeAllocateProducerIDsResponseSpec)

/-- 'laws.FnMakeUnregisterBrokerResponse', WHERE WHAT IT READS IS OF BULK AT MOST 1048576: true; the input reads as it did. -/
def fnMakeUnregisterBrokerResponseUptoRow : OpenClaim := { program := "ytojbmnelohjhmaa", sum := "33a742dbea73f22d1dc5265fed3b161a4ba1876e43b1878368548f24d27da2fc", func := "pub-mailsack/laws.FnMakeUnregisterBrokerResponse", spec := "fnMakeUnregisterBrokerResponse", inPlace := ["internal/reflectlite.ValueOf", "internal/reflectlite.Swapper", "(internal/reflectlite.Value).Len"], unfollowed := true, recurses := true, loops := true, apart := false, narrowed := true }
def FnMakeUnregisterBrokerResponseUptoSaid : Prop := fnMakeUnregisterBrokerResponseUptoRow.holds Try.pinned (OpenSpec.upto fnMakeUnregisterBrokerResponseSpec)

/-- 'laws.FnMakeStreamsGroupTopologyDescriptionUpdateResponse', WHERE WHAT IT READS IS OF BULK AT MOST 1048576: true; the input reads as it did. -/
def fnMakeStreamsGroupTopologyDescriptionUpdateResponseUptoRow : OpenClaim := { program := "ytojbmnelohjhmaa", sum := "33a742dbea73f22d1dc5265fed3b161a4ba1876e43b1878368548f24d27da2fc", func := "pub-mailsack/laws.FnMakeStreamsGroupTopologyDescriptionUpdateResponse", spec := "fnMakeStreamsGroupTopologyDescriptionUpdateResponse", inPlace := ["internal/reflectlite.ValueOf", "internal/reflectlite.Swapper", "(internal/reflectlite.Value).Len"], unfollowed := true, recurses := true, loops := true, apart := false, narrowed := true }
def FnMakeStreamsGroupTopologyDescriptionUpdateResponseUptoSaid : Prop := fnMakeStreamsGroupTopologyDescriptionUpdateResponseUptoRow.holds Try.pinned (OpenSpec.upto fnMakeStreamsGroupTopologyDescriptionUpdateResponseSpec)

/-- 'laws.FnMakeApiVersionsRequest', WHERE WHAT IT READS IS OF BULK AT MOST 1048576: true; the input reads as it did. -/
def fnMakeApiVersionsRequestUptoRow : OpenClaim := { program := "ytojbmnelohjhmaa", sum := "33a742dbea73f22d1dc5265fed3b161a4ba1876e43b1878368548f24d27da2fc", func := "pub-mailsack/laws.FnMakeApiVersionsRequest", spec := "fnMakeApiVersionsRequest", inPlace := ["internal/reflectlite.ValueOf", "internal/reflectlite.Swapper", "(internal/reflectlite.Value).Len"], unfollowed := true, recurses := true, loops := true, apart := false, narrowed := true }
def FnMakeApiVersionsRequestUptoSaid : Prop := fnMakeApiVersionsRequestUptoRow.holds Try.pinned (OpenSpec.upto fnMakeApiVersionsRequestSpec)

/-- 'laws.FnMakeDescribeDelegationTokenRequest', WHERE WHAT IT READS IS OF BULK AT MOST 1048576: true; the input reads as it did. -/
def fnMakeDescribeDelegationTokenRequestUptoRow : OpenClaim := { program := "ytojbmnelohjhmaa", sum := "33a742dbea73f22d1dc5265fed3b161a4ba1876e43b1878368548f24d27da2fc", func := "pub-mailsack/laws.FnMakeDescribeDelegationTokenRequest", spec := "fnMakeDescribeDelegationTokenRequest", inPlace := ["internal/reflectlite.ValueOf", "internal/reflectlite.Swapper", "(internal/reflectlite.Value).Len"], unfollowed := true, recurses := true, loops := true, apart := false, narrowed := true }
def FnMakeDescribeDelegationTokenRequestUptoSaid : Prop := fnMakeDescribeDelegationTokenRequestUptoRow.holds Try.pinned (OpenSpec.upto fnMakeDescribeDelegationTokenRequestSpec)

/-- 'laws.FnMakeReadShareGroupStateRequest', WHERE WHAT IT READS IS OF BULK AT MOST 1048576: true; the input reads as it did. -/
def fnMakeReadShareGroupStateRequestUptoRow : OpenClaim := { program := "ytojbmnelohjhmaa", sum := "33a742dbea73f22d1dc5265fed3b161a4ba1876e43b1878368548f24d27da2fc", func := "pub-mailsack/laws.FnMakeReadShareGroupStateRequest", spec := "fnMakeReadShareGroupStateRequest", inPlace := ["internal/reflectlite.ValueOf", "internal/reflectlite.Swapper", "(internal/reflectlite.Value).Len"], unfollowed := true, recurses := true, loops := true, apart := false, narrowed := true }
def FnMakeReadShareGroupStateRequestUptoSaid : Prop := fnMakeReadShareGroupStateRequestUptoRow.holds Try.pinned (OpenSpec.upto fnMakeReadShareGroupStateRequestSpec)

/-- 'laws.FnMakeInitializeShareGroupStateRequest', WHERE WHAT IT READS IS OF BULK AT MOST 1048576: true; the input reads as it did. -/
def fnMakeInitializeShareGroupStateRequestUptoRow : OpenClaim := { program := "ytojbmnelohjhmaa", sum := "33a742dbea73f22d1dc5265fed3b161a4ba1876e43b1878368548f24d27da2fc", func := "pub-mailsack/laws.FnMakeInitializeShareGroupStateRequest", spec := "fnMakeInitializeShareGroupStateRequest", inPlace := ["internal/reflectlite.ValueOf", "internal/reflectlite.Swapper", "(internal/reflectlite.Value).Len"], unfollowed := true, recurses := true, loops := true, apart := false, narrowed := true }
def FnMakeInitializeShareGroupStateRequestUptoSaid : Prop := fnMakeInitializeShareGroupStateRequestUptoRow.holds Try.pinned (OpenSpec.upto fnMakeInitializeShareGroupStateRequestSpec)

/-- 'laws.FnMakeFindCoordinatorResponse', WHERE WHAT IT READS IS OF BULK AT MOST 1048576: true; the input reads as it did. -/
def fnMakeFindCoordinatorResponseUptoRow : OpenClaim := { program := "ytojbmnelohjhmaa", sum := "33a742dbea73f22d1dc5265fed3b161a4ba1876e43b1878368548f24d27da2fc", func := "pub-mailsack/laws.FnMakeFindCoordinatorResponse", spec := "fnMakeFindCoordinatorResponse", inPlace := ["internal/reflectlite.ValueOf", "internal/reflectlite.Swapper", "(internal/reflectlite.Value).Len"], unfollowed := true, recurses := true, loops := true, apart := false, narrowed := true }
def FnMakeFindCoordinatorResponseUptoSaid : Prop := fnMakeFindCoordinatorResponseUptoRow.holds Try.pinned (OpenSpec.upto fnMakeFindCoordinatorResponseSpec)

/-- 'laws.FnMakeReadShareGroupStateSummaryResponse', WHERE WHAT IT READS IS OF BULK AT MOST 1048576: true; the input reads as it did. -/
def fnMakeReadShareGroupStateSummaryResponseUptoRow : OpenClaim := { program := "ytojbmnelohjhmaa", sum := "33a742dbea73f22d1dc5265fed3b161a4ba1876e43b1878368548f24d27da2fc", func := "pub-mailsack/laws.FnMakeReadShareGroupStateSummaryResponse", spec := "fnMakeReadShareGroupStateSummaryResponse", inPlace := ["internal/reflectlite.ValueOf", "internal/reflectlite.Swapper", "(internal/reflectlite.Value).Len"], unfollowed := true, recurses := true, loops := true, apart := false, narrowed := true }
def FnMakeReadShareGroupStateSummaryResponseUptoSaid : Prop := fnMakeReadShareGroupStateSummaryResponseUptoRow.holds Try.pinned (OpenSpec.upto fnMakeReadShareGroupStateSummaryResponseSpec)

/-- 'laws.FnMakeAlterPartitionAssignmentsResponse', WHERE WHAT IT READS IS OF BULK AT MOST 1048576: true; the input reads as it did. -/
def fnMakeAlterPartitionAssignmentsResponseUptoRow : OpenClaim := { program := "ytojbmnelohjhmaa", sum := "33a742dbea73f22d1dc5265fed3b161a4ba1876e43b1878368548f24d27da2fc", func := "pub-mailsack/laws.FnMakeAlterPartitionAssignmentsResponse", spec := "fnMakeAlterPartitionAssignmentsResponse", inPlace := ["internal/reflectlite.ValueOf", "internal/reflectlite.Swapper", "(internal/reflectlite.Value).Len"], unfollowed := true, recurses := true, loops := true, apart := false, narrowed := true }
def FnMakeAlterPartitionAssignmentsResponseUptoSaid : Prop := fnMakeAlterPartitionAssignmentsResponseUptoRow.holds Try.pinned (OpenSpec.upto fnMakeAlterPartitionAssignmentsResponseSpec)

/-- 'laws.FnMakeDescribeClusterResponse', WHERE WHAT IT READS IS OF BULK AT MOST 1048576: true; the input reads as it did. -/
def fnMakeDescribeClusterResponseUptoRow : OpenClaim := { program := "ytojbmnelohjhmaa", sum := "33a742dbea73f22d1dc5265fed3b161a4ba1876e43b1878368548f24d27da2fc", func := "pub-mailsack/laws.FnMakeDescribeClusterResponse", spec := "fnMakeDescribeClusterResponse", inPlace := ["internal/reflectlite.ValueOf", "internal/reflectlite.Swapper", "(internal/reflectlite.Value).Len"], unfollowed := true, recurses := true, loops := true, apart := false, narrowed := true }
def FnMakeDescribeClusterResponseUptoSaid : Prop := fnMakeDescribeClusterResponseUptoRow.holds Try.pinned (OpenSpec.upto fnMakeDescribeClusterResponseSpec)

/-- 'laws.FnMakeVoteRequest', WHERE WHAT IT READS IS OF BULK AT MOST 1048576: true; the input reads as it did. -/
def fnMakeVoteRequestUptoRow : OpenClaim := { program := "ytojbmnelohjhmaa", sum := "33a742dbea73f22d1dc5265fed3b161a4ba1876e43b1878368548f24d27da2fc", func := "pub-mailsack/laws.FnMakeVoteRequest", spec := "fnMakeVoteRequest", inPlace := ["internal/reflectlite.ValueOf", "internal/reflectlite.Swapper", "(internal/reflectlite.Value).Len"], unfollowed := true, recurses := true, loops := true, apart := false, narrowed := true }
def FnMakeVoteRequestUptoSaid : Prop := fnMakeVoteRequestUptoRow.holds Try.pinned (OpenSpec.upto fnMakeVoteRequestSpec)

end Rows
end Go.Proofs.Ytojbmnelohjhmaa
