/-
  NARROWER THAN 'FOR EVERY INPUT', by the rows' own cells (each row's printed sentence says how): FnTellHeartbeatRequest: loops, laid · FnTellStopReplicaResponse: loops, laid · FnTellSASLAuthenticateResponse: loops, laid · FnTellDescribeProducersRequest: loops, laid · FnTellUpdateFeaturesRequest: loops, laid · FnTellOffsetForLeaderEpochRequest: loops, laid · FnTellDeleteRecordsResponse: loops, laid.
  DERIVED. THE GIVEN ROWS OF THIS SEAT. 7 by the template 'for every input the law returns true; each argument reads behind the call as it read before'; 0 by the template 'total and deterministic' (their statements: YticigmdbfimfbaaGreatDoorTotals.lean).
  GIVEN WITH THE SEED: the statements are not yours to turn. If you find one false, say at which input.
  Laid BY PROGRAM, IN A SANDBOX (cutbox-rows.mjs): the forced cells as the released guide's own fill.sh prints them over the translation db6eef5293c693b0… (all of the seat's roots in one cut). By AI agents, Wed Nov 11 2026. No macro, syntax, notation, axiom, sorry.
-/
import Derived.Test.YticigmdbfimfbaaGreatDoorChecked
import GoSem.Claim
import GoSem.ClaimJoined
import GoSem.ClaimMapViews
import Derived.JoinedTies
import Derived.KernelRfl
namespace Go.Proofs.YticigmdbfimfbaaGreatDoor
/- THE CELL 'sum', in the pinned program and in every row, IS THE sha256 OF THE DUMP (.gsa) THAT YticigmdbfimfbaaGreatDoorProg.lean LOADS. Nothing in Lean hashes anything: it is a label: what it is worth is what the hold of that sum in a sandbox is worth. -/
noncomputable def Tryz.pinned : Pinned := { name := "yticigmdbfimfbaagreatdoor", sum := "db6eef5293c693b0c43317546c9875f34305f1a37c97e23a6530245852ec3aac", checked := Tryz.checked }
namespace Rows
def none {H : Type} : Left H := { results := [], args := [] }

/- WHAT THE LISTED PACKAGE-LEVEL VARIABLES READ AS WHEN THE CALL BEGINS. Each datum BY PROGRAM (the guide's laid-datum.mjs) off the statement by which the dump's own 'gosem.cut.vars' lays the variable. In a bare row this is a premise. The card (YticigmdbfimfbaaGreatDoorCards.lean) ties it to the program's text. -/
def laid_pub_mailsack_pub_kmsg_inner_kbin_ErrNotEnoughData {H : Type} : DataW H := .iface "*errors.errorString" (.ptr (.agg [.lit (.string [114, 101, 115, 112, 111, 110, 115, 101, 32, 100, 105, 100, 32, 110, 111, 116, 32, 99, 111, 110, 116, 97, 105, 110, 32, 101, 110, 111, 117, 103, 104, 32, 100, 97, 116, 97, 32, 116, 111, 32, 98, 101, 32, 118, 97, 108, 105, 100])]))

/-- 'laws.FnTellHeartbeatRequest': WHATEVER THE INPUT: true; the input reads as it did. -/
def fnTellHeartbeatRequestSpec : ChangeSpec := { name := "fnTellHeartbeatRequest", fn := fun _ => fun
  | [d1, d2] => { results := [.lit (.bool true)], args := [d1, d2] }
  | _ => none }
def fnTellHeartbeatRequestRow : OpenClaim := { program := "yticigmdbfimfbaagreatdoor", sum := "db6eef5293c693b0c43317546c9875f34305f1a37c97e23a6530245852ec3aac", func := "pub-mailsack/laws.FnTellHeartbeatRequest", spec := "fnTellHeartbeatRequest", inPlace := ["internal/reflectlite.ValueOf", "internal/reflectlite.Swapper", "(internal/reflectlite.Value).Len"], unfollowed := true, recurses := true, named := ["encoding/binary.BigEndian", "pub-mailsack/pub/kmsg/inner/kbin.ErrNotEnoughData"], loops := true, apart := false, laid := [("pub-mailsack/pub/kmsg/inner/kbin.ErrNotEnoughData", laid_pub_mailsack_pub_kmsg_inner_kbin_ErrNotEnoughData)] }
def FnTellHeartbeatRequestSaid : Prop := fnTellHeartbeatRequestRow.holds Tryz.pinned (OpenSpec.ofChange fnTellHeartbeatRequestSpec)

/-- ITS FALSE NEIGHBOUR: 'it returns false'. Refute it at one input. -/
def fnTellHeartbeatRequestWrong : ChangeSpec := { name := "fnTellHeartbeatRequest", fn := fun _ => fun
  | [d1, d2] => { results := [.lit (.bool false)], args := [d1, d2] }
  | _ => none }
def FnTellHeartbeatRequestWrongFalsely : Prop := fnTellHeartbeatRequestRow.holds Tryz.pinned (OpenSpec.ofChange fnTellHeartbeatRequestWrong)

/-- 'laws.FnTellStopReplicaResponse': WHATEVER THE INPUT: true; the input reads as it did. -/
def fnTellStopReplicaResponseSpec : ChangeSpec := { name := "fnTellStopReplicaResponse", fn := fun _ => fun
  | [d1, d2] => { results := [.lit (.bool true)], args := [d1, d2] }
  | _ => none }
def fnTellStopReplicaResponseRow : OpenClaim := { program := "yticigmdbfimfbaagreatdoor", sum := "db6eef5293c693b0c43317546c9875f34305f1a37c97e23a6530245852ec3aac", func := "pub-mailsack/laws.FnTellStopReplicaResponse", spec := "fnTellStopReplicaResponse", inPlace := ["internal/reflectlite.ValueOf", "internal/reflectlite.Swapper", "(internal/reflectlite.Value).Len"], unfollowed := true, recurses := true, named := ["encoding/binary.BigEndian", "pub-mailsack/pub/kmsg/inner/kbin.ErrNotEnoughData"], loops := true, apart := false, laid := [("pub-mailsack/pub/kmsg/inner/kbin.ErrNotEnoughData", laid_pub_mailsack_pub_kmsg_inner_kbin_ErrNotEnoughData)] }
def FnTellStopReplicaResponseSaid : Prop := fnTellStopReplicaResponseRow.holds Tryz.pinned (OpenSpec.ofChange fnTellStopReplicaResponseSpec)

/-- ITS FALSE NEIGHBOUR: 'it returns false'. Refute it at one input. -/
def fnTellStopReplicaResponseWrong : ChangeSpec := { name := "fnTellStopReplicaResponse", fn := fun _ => fun
  | [d1, d2] => { results := [.lit (.bool false)], args := [d1, d2] }
  | _ => none }
def FnTellStopReplicaResponseWrongFalsely : Prop := fnTellStopReplicaResponseRow.holds Tryz.pinned (OpenSpec.ofChange fnTellStopReplicaResponseWrong)

/-- 'laws.FnTellSASLAuthenticateResponse': WHATEVER THE INPUT: true; the input reads as it did. -/
def fnTellSASLAuthenticateResponseSpec : ChangeSpec := { name := "fnTellSASLAuthenticateResponse", fn := fun _ => fun
  | [d1, d2] => { results := [.lit (.bool true)], args := [d1, d2] }
  | _ => none }
def fnTellSASLAuthenticateResponseRow : OpenClaim := { program := "yticigmdbfimfbaagreatdoor", sum := "db6eef5293c693b0c43317546c9875f34305f1a37c97e23a6530245852ec3aac", func := "pub-mailsack/laws.FnTellSASLAuthenticateResponse", spec := "fnTellSASLAuthenticateResponse", inPlace := ["internal/reflectlite.ValueOf", "internal/reflectlite.Swapper", "(internal/reflectlite.Value).Len"], unfollowed := true, recurses := true, named := ["encoding/binary.BigEndian", "pub-mailsack/pub/kmsg/inner/kbin.ErrNotEnoughData"], loops := true, apart := false, laid := [("pub-mailsack/pub/kmsg/inner/kbin.ErrNotEnoughData", laid_pub_mailsack_pub_kmsg_inner_kbin_ErrNotEnoughData)] }
def FnTellSASLAuthenticateResponseSaid : Prop := fnTellSASLAuthenticateResponseRow.holds Tryz.pinned (OpenSpec.ofChange fnTellSASLAuthenticateResponseSpec)

/-- ITS FALSE NEIGHBOUR: 'it returns false'. Refute it at one input. -/
def fnTellSASLAuthenticateResponseWrong : ChangeSpec := { name := "fnTellSASLAuthenticateResponse", fn := fun _ => fun
  | [d1, d2] => { results := [.lit (.bool false)], args := [d1, d2] }
  | _ => none }
def FnTellSASLAuthenticateResponseWrongFalsely : Prop := fnTellSASLAuthenticateResponseRow.holds Tryz.pinned (OpenSpec.ofChange fnTellSASLAuthenticateResponseWrong)

/-- 'laws.FnTellDescribeProducersRequest': WHATEVER THE INPUT: true; the input reads as it did. -/
def fnTellDescribeProducersRequestSpec : ChangeSpec := { name := "fnTellDescribeProducersRequest", fn := fun _ => fun
  | [d1, d2] => { results := [.lit (.bool true)], args := [d1, d2] }
  | _ => none }
def fnTellDescribeProducersRequestRow : OpenClaim := { program := "yticigmdbfimfbaagreatdoor", sum := "db6eef5293c693b0c43317546c9875f34305f1a37c97e23a6530245852ec3aac", func := "pub-mailsack/laws.FnTellDescribeProducersRequest", spec := "fnTellDescribeProducersRequest", inPlace := ["internal/reflectlite.ValueOf", "internal/reflectlite.Swapper", "(internal/reflectlite.Value).Len"], unfollowed := true, recurses := true, named := ["encoding/binary.BigEndian", "pub-mailsack/pub/kmsg/inner/kbin.ErrNotEnoughData"], loops := true, apart := false, laid := [("pub-mailsack/pub/kmsg/inner/kbin.ErrNotEnoughData", laid_pub_mailsack_pub_kmsg_inner_kbin_ErrNotEnoughData)] }
def FnTellDescribeProducersRequestSaid : Prop := fnTellDescribeProducersRequestRow.holds Tryz.pinned (OpenSpec.ofChange fnTellDescribeProducersRequestSpec)

/-- ITS FALSE NEIGHBOUR: 'it returns false'. Refute it at one input. -/
def fnTellDescribeProducersRequestWrong : ChangeSpec := { name := "fnTellDescribeProducersRequest", fn := fun _ => fun
  | [d1, d2] => { results := [.lit (.bool false)], args := [d1, d2] }
  | _ => none }
def FnTellDescribeProducersRequestWrongFalsely : Prop := fnTellDescribeProducersRequestRow.holds Tryz.pinned (OpenSpec.ofChange fnTellDescribeProducersRequestWrong)

/-- 'laws.FnTellUpdateFeaturesRequest': WHATEVER THE INPUT: true; the input reads as it did. -/
def fnTellUpdateFeaturesRequestSpec : ChangeSpec := { name := "fnTellUpdateFeaturesRequest", fn := fun _ => fun
  | [d1, d2] => { results := [.lit (.bool true)], args := [d1, d2] }
  | _ => none }
def fnTellUpdateFeaturesRequestRow : OpenClaim := { program := "yticigmdbfimfbaagreatdoor", sum := "db6eef5293c693b0c43317546c9875f34305f1a37c97e23a6530245852ec3aac", func := "pub-mailsack/laws.FnTellUpdateFeaturesRequest", spec := "fnTellUpdateFeaturesRequest", inPlace := ["internal/reflectlite.ValueOf", "internal/reflectlite.Swapper", "(internal/reflectlite.Value).Len"], unfollowed := true, recurses := true, named := ["encoding/binary.BigEndian", "pub-mailsack/pub/kmsg/inner/kbin.ErrNotEnoughData"], loops := true, apart := false, laid := [("pub-mailsack/pub/kmsg/inner/kbin.ErrNotEnoughData", laid_pub_mailsack_pub_kmsg_inner_kbin_ErrNotEnoughData)] }
def FnTellUpdateFeaturesRequestSaid : Prop := fnTellUpdateFeaturesRequestRow.holds Tryz.pinned (OpenSpec.ofChange fnTellUpdateFeaturesRequestSpec)

/-- ITS FALSE NEIGHBOUR: 'it returns false'. Refute it at one input. -/
def fnTellUpdateFeaturesRequestWrong : ChangeSpec := { name := "fnTellUpdateFeaturesRequest", fn := fun _ => fun
  | [d1, d2] => { results := [.lit (.bool false)], args := [d1, d2] }
  | _ => none }
def FnTellUpdateFeaturesRequestWrongFalsely : Prop := fnTellUpdateFeaturesRequestRow.holds Tryz.pinned (OpenSpec.ofChange fnTellUpdateFeaturesRequestWrong)

/-- 'laws.FnTellOffsetForLeaderEpochRequest': WHATEVER THE INPUT: true; the input reads as it did. -/
def fnTellOffsetForLeaderEpochRequestSpec : ChangeSpec := { name := "fnTellOffsetForLeaderEpochRequest", fn := fun _ => fun
  | [d1, d2] => { results := [.lit (.bool true)], args := [d1, d2] }
  | _ => none }
def fnTellOffsetForLeaderEpochRequestRow : OpenClaim := { program := "yticigmdbfimfbaagreatdoor", sum := "db6eef5293c693b0c43317546c9875f34305f1a37c97e23a6530245852ec3aac", func := "pub-mailsack/laws.FnTellOffsetForLeaderEpochRequest", spec := "fnTellOffsetForLeaderEpochRequest", inPlace := ["internal/reflectlite.ValueOf", "internal/reflectlite.Swapper", "(internal/reflectlite.Value).Len"], unfollowed := true, recurses := true, named := ["encoding/binary.BigEndian", "pub-mailsack/pub/kmsg/inner/kbin.ErrNotEnoughData"], loops := true, apart := false, laid := [("pub-mailsack/pub/kmsg/inner/kbin.ErrNotEnoughData", laid_pub_mailsack_pub_kmsg_inner_kbin_ErrNotEnoughData)] }
def FnTellOffsetForLeaderEpochRequestSaid : Prop := fnTellOffsetForLeaderEpochRequestRow.holds Tryz.pinned (OpenSpec.ofChange fnTellOffsetForLeaderEpochRequestSpec)

/-- ITS FALSE NEIGHBOUR: 'it returns false'. Refute it at one input. -/
def fnTellOffsetForLeaderEpochRequestWrong : ChangeSpec := { name := "fnTellOffsetForLeaderEpochRequest", fn := fun _ => fun
  | [d1, d2] => { results := [.lit (.bool false)], args := [d1, d2] }
  | _ => none }
def FnTellOffsetForLeaderEpochRequestWrongFalsely : Prop := fnTellOffsetForLeaderEpochRequestRow.holds Tryz.pinned (OpenSpec.ofChange fnTellOffsetForLeaderEpochRequestWrong)

/-- 'laws.FnTellDeleteRecordsResponse': WHATEVER THE INPUT: true; the input reads as it did. -/
def fnTellDeleteRecordsResponseSpec : ChangeSpec := { name := "fnTellDeleteRecordsResponse", fn := fun _ => fun
  | [d1, d2] => { results := [.lit (.bool true)], args := [d1, d2] }
  | _ => none }
def fnTellDeleteRecordsResponseRow : OpenClaim := { program := "yticigmdbfimfbaagreatdoor", sum := "db6eef5293c693b0c43317546c9875f34305f1a37c97e23a6530245852ec3aac", func := "pub-mailsack/laws.FnTellDeleteRecordsResponse", spec := "fnTellDeleteRecordsResponse", inPlace := ["internal/reflectlite.ValueOf", "internal/reflectlite.Swapper", "(internal/reflectlite.Value).Len"], unfollowed := true, recurses := true, named := ["encoding/binary.BigEndian", "pub-mailsack/pub/kmsg/inner/kbin.ErrNotEnoughData"], loops := true, apart := false, laid := [("pub-mailsack/pub/kmsg/inner/kbin.ErrNotEnoughData", laid_pub_mailsack_pub_kmsg_inner_kbin_ErrNotEnoughData)] }
def FnTellDeleteRecordsResponseSaid : Prop := fnTellDeleteRecordsResponseRow.holds Tryz.pinned (OpenSpec.ofChange fnTellDeleteRecordsResponseSpec)

/-- ITS FALSE NEIGHBOUR: 'it returns false'. Refute it at one input. -/
def fnTellDeleteRecordsResponseWrong : ChangeSpec := { name := "fnTellDeleteRecordsResponse", fn := fun _ => fun
  | [d1, d2] => { results := [.lit (.bool false)], args := [d1, d2] }
  | _ => none }
def FnTellDeleteRecordsResponseWrongFalsely : Prop := fnTellDeleteRecordsResponseRow.holds Tryz.pinned (OpenSpec.ofChange fnTellDeleteRecordsResponseWrong)

/- THE SECOND FORM. 'bulk': how many values and letters a reading holds, each counted each time it is reached (what is shared counts as often as it is met; a slice's spare places count too). A statement '..UptoSaid' is the law's where the arguments, and the package variables that the reading takes, are together of bulk at most 1048576: NARROWER than '..Said'. Prove '..Said' where nothing that the law and all that it calls make is longer than what came in: it says more and counts as full. Else prove '..UptoSaid'. A law counts once. -/
mutual
def uptoBulk {H : Type} : DataW H → Nat
  | .lit (.string bytes) => bytes.length + 1
  | .lit _ => 1
  | .nil => 1
  | .ptr d => uptoBulk d + 1
  | .slice elems spare => uptoBulkAll elems + uptoBulkAll spare + 1
  | .agg parts => uptoBulkAll parts + 1
  | .iface _ d => uptoBulk d + 1
  | .map entries => uptoBulkEntries entries + 1
  | .held _ => 1
def uptoBulkAll {H : Type} : List (DataW H) → Nat
  | [] => 0
  | d :: r => uptoBulk d + uptoBulkAll r
def uptoBulkEntries {H : Type} : List (Lit × DataW H) → Nat
  | [] => 0
  | x :: r => uptoBulkEntry x + uptoBulkEntries r
def uptoBulkEntry {H : Type} : Lit × DataW H → Nat
  | (.string bytes, d) => bytes.length + uptoBulk d + 1
  | (_, d) => uptoBulk d + 1
 end
def uptoSmall : (H : Type) → List (DataW H) → Bool := fun _ ds => decide (uptoBulkAll ds ≤ 1048576)
def OpenSpec.upto (s : _root_.Go.ChangeSpec) : _root_.Go.OpenSpec := { _root_.Go.OpenSpec.ofChange s with cond := some uptoSmall }

/-- 'laws.FnTellHeartbeatRequest', WHERE WHAT IT READS IS OF BULK AT MOST 1048576: true; the input reads as it did. -/
def fnTellHeartbeatRequestUptoRow : OpenClaim := { program := "yticigmdbfimfbaagreatdoor", sum := "db6eef5293c693b0c43317546c9875f34305f1a37c97e23a6530245852ec3aac", func := "pub-mailsack/laws.FnTellHeartbeatRequest", spec := "fnTellHeartbeatRequest", inPlace := ["internal/reflectlite.ValueOf", "internal/reflectlite.Swapper", "(internal/reflectlite.Value).Len"], unfollowed := true, recurses := true, named := ["encoding/binary.BigEndian", "pub-mailsack/pub/kmsg/inner/kbin.ErrNotEnoughData"], loops := true, apart := false, laid := [("pub-mailsack/pub/kmsg/inner/kbin.ErrNotEnoughData", laid_pub_mailsack_pub_kmsg_inner_kbin_ErrNotEnoughData)], narrowed := true }
def FnTellHeartbeatRequestUptoSaid : Prop := fnTellHeartbeatRequestUptoRow.holds Tryz.pinned (OpenSpec.upto fnTellHeartbeatRequestSpec)

/-- 'laws.FnTellStopReplicaResponse', WHERE WHAT IT READS IS OF BULK AT MOST 1048576: true; the input reads as it did. -/
def fnTellStopReplicaResponseUptoRow : OpenClaim := { program := "yticigmdbfimfbaagreatdoor", sum := "db6eef5293c693b0c43317546c9875f34305f1a37c97e23a6530245852ec3aac", func := "pub-mailsack/laws.FnTellStopReplicaResponse", spec := "fnTellStopReplicaResponse", inPlace := ["internal/reflectlite.ValueOf", "internal/reflectlite.Swapper", "(internal/reflectlite.Value).Len"], unfollowed := true, recurses := true, named := ["encoding/binary.BigEndian", "pub-mailsack/pub/kmsg/inner/kbin.ErrNotEnoughData"], loops := true, apart := false, laid := [("pub-mailsack/pub/kmsg/inner/kbin.ErrNotEnoughData", laid_pub_mailsack_pub_kmsg_inner_kbin_ErrNotEnoughData)], narrowed := true }
def FnTellStopReplicaResponseUptoSaid : Prop := fnTellStopReplicaResponseUptoRow.holds Tryz.pinned (OpenSpec.upto fnTellStopReplicaResponseSpec)

/-- 'laws.FnTellSASLAuthenticateResponse', WHERE WHAT IT READS IS OF BULK AT MOST 1048576: true; the input reads as it did. -/
def fnTellSASLAuthenticateResponseUptoRow : OpenClaim := { program := "yticigmdbfimfbaagreatdoor", sum := "db6eef5293c693b0c43317546c9875f34305f1a37c97e23a6530245852ec3aac", func := "pub-mailsack/laws.FnTellSASLAuthenticateResponse", spec := "fnTellSASLAuthenticateResponse", inPlace := ["internal/reflectlite.ValueOf", "internal/reflectlite.Swapper", "(internal/reflectlite.Value).Len"], unfollowed := true, recurses := true, named := ["encoding/binary.BigEndian", "pub-mailsack/pub/kmsg/inner/kbin.ErrNotEnoughData"], loops := true, apart := false, laid := [("pub-mailsack/pub/kmsg/inner/kbin.ErrNotEnoughData", laid_pub_mailsack_pub_kmsg_inner_kbin_ErrNotEnoughData)], narrowed := true }
def FnTellSASLAuthenticateResponseUptoSaid : Prop := fnTellSASLAuthenticateResponseUptoRow.holds Tryz.pinned (OpenSpec.upto fnTellSASLAuthenticateResponseSpec)

/-- 'laws.FnTellDescribeProducersRequest', WHERE WHAT IT READS IS OF BULK AT MOST 1048576: true; the input reads as it did. -/
def fnTellDescribeProducersRequestUptoRow : OpenClaim := { program := "yticigmdbfimfbaagreatdoor", sum := "db6eef5293c693b0c43317546c9875f34305f1a37c97e23a6530245852ec3aac", func := "pub-mailsack/laws.FnTellDescribeProducersRequest", spec := "fnTellDescribeProducersRequest", inPlace := ["internal/reflectlite.ValueOf", "internal/reflectlite.Swapper", "(internal/reflectlite.Value).Len"], unfollowed := true, recurses := true, named := ["encoding/binary.BigEndian", "pub-mailsack/pub/kmsg/inner/kbin.ErrNotEnoughData"], loops := true, apart := false, laid := [("pub-mailsack/pub/kmsg/inner/kbin.ErrNotEnoughData", laid_pub_mailsack_pub_kmsg_inner_kbin_ErrNotEnoughData)], narrowed := true }
def FnTellDescribeProducersRequestUptoSaid : Prop := fnTellDescribeProducersRequestUptoRow.holds Tryz.pinned (OpenSpec.upto fnTellDescribeProducersRequestSpec)

/-- 'laws.FnTellUpdateFeaturesRequest', WHERE WHAT IT READS IS OF BULK AT MOST 1048576: true; the input reads as it did. -/
def fnTellUpdateFeaturesRequestUptoRow : OpenClaim := { program := "yticigmdbfimfbaagreatdoor", sum := "db6eef5293c693b0c43317546c9875f34305f1a37c97e23a6530245852ec3aac", func := "pub-mailsack/laws.FnTellUpdateFeaturesRequest", spec := "fnTellUpdateFeaturesRequest", inPlace := ["internal/reflectlite.ValueOf", "internal/reflectlite.Swapper", "(internal/reflectlite.Value).Len"], unfollowed := true, recurses := true, named := ["encoding/binary.BigEndian", "pub-mailsack/pub/kmsg/inner/kbin.ErrNotEnoughData"], loops := true, apart := false, laid := [("pub-mailsack/pub/kmsg/inner/kbin.ErrNotEnoughData", laid_pub_mailsack_pub_kmsg_inner_kbin_ErrNotEnoughData)], narrowed := true }
def FnTellUpdateFeaturesRequestUptoSaid : Prop := fnTellUpdateFeaturesRequestUptoRow.holds Tryz.pinned (OpenSpec.upto fnTellUpdateFeaturesRequestSpec)

/-- 'laws.FnTellOffsetForLeaderEpochRequest', WHERE WHAT IT READS IS OF BULK AT MOST 1048576: true; the input reads as it did. -/
def fnTellOffsetForLeaderEpochRequestUptoRow : OpenClaim := { program := "yticigmdbfimfbaagreatdoor", sum := "db6eef5293c693b0c43317546c9875f34305f1a37c97e23a6530245852ec3aac", func := "pub-mailsack/laws.FnTellOffsetForLeaderEpochRequest", spec := "fnTellOffsetForLeaderEpochRequest", inPlace := ["internal/reflectlite.ValueOf", "internal/reflectlite.Swapper", "(internal/reflectlite.Value).Len"], unfollowed := true, recurses := true, named := ["encoding/binary.BigEndian", "pub-mailsack/pub/kmsg/inner/kbin.ErrNotEnoughData"], loops := true, apart := false, laid := [("pub-mailsack/pub/kmsg/inner/kbin.ErrNotEnoughData", laid_pub_mailsack_pub_kmsg_inner_kbin_ErrNotEnoughData)], narrowed := true }
def FnTellOffsetForLeaderEpochRequestUptoSaid : Prop := fnTellOffsetForLeaderEpochRequestUptoRow.holds Tryz.pinned (OpenSpec.upto fnTellOffsetForLeaderEpochRequestSpec)

/-- 'laws.FnTellDeleteRecordsResponse', WHERE WHAT IT READS IS OF BULK AT MOST 1048576: true; the input reads as it did. -/
def fnTellDeleteRecordsResponseUptoRow : OpenClaim := { program := "yticigmdbfimfbaagreatdoor", sum := "db6eef5293c693b0c43317546c9875f34305f1a37c97e23a6530245852ec3aac", func := "pub-mailsack/laws.FnTellDeleteRecordsResponse", spec := "fnTellDeleteRecordsResponse", inPlace := ["internal/reflectlite.ValueOf", "internal/reflectlite.Swapper", "(internal/reflectlite.Value).Len"], unfollowed := true, recurses := true, named := ["encoding/binary.BigEndian", "pub-mailsack/pub/kmsg/inner/kbin.ErrNotEnoughData"], loops := true, apart := false, laid := [("pub-mailsack/pub/kmsg/inner/kbin.ErrNotEnoughData", laid_pub_mailsack_pub_kmsg_inner_kbin_ErrNotEnoughData)], narrowed := true }
def FnTellDeleteRecordsResponseUptoSaid : Prop := fnTellDeleteRecordsResponseUptoRow.holds Tryz.pinned (OpenSpec.upto fnTellDeleteRecordsResponseSpec)

end Rows
end Go.Proofs.YticigmdbfimfbaaGreatDoor
