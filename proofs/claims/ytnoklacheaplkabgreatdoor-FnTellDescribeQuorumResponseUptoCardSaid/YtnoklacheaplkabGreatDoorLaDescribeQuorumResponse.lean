/- Proved: FnTellDescribeQuorumResponse answers true at every input of the bulk that the statement names, and its arguments read behind the call as before; the card. Conditions: those of the given statement, no other. -/
import Derived.Test.YtnoklacheaplkabGreatDoorL3
import Derived.WalkKit
import Derived.ProofKit
import Derived.OpenShut
import Derived.Deep.DeepHandedRow
import Derived.Lib.LaidTab
import Derived.Stop.LaidErr
import Derived.SevenTiedAt
import Derived.MakeChecks
import Derived.Test.YtnoklacheaplkabGreatDoorRows
import Derived.Test.YtnoklacheaplkabGreatDoorFa
import Derived.Test.YtnoklacheaplkabGreatDoorLcDescribeQuorumResponse
import Derived.Test.YtnoklacheaplkabGreatDoorLrDescribeQuorumResponse
import Derived.Test.YtnoklacheaplkabGreatDoorCards
import Derived.Test.YtnoklacheaplkabGreatDoorTie
namespace Go.Proofs.YtnoklacheaplkabGreatDoor
open Go Go.Mk
open Go.ChangeShapes Go.WideShapes Go.ChangeAt Go.RowKit
mutual
theorem ub_d {H : Type} : ∀ d : DataW H, Rows.uptoBulk d = bulkD d
  | .lit (.string bytes) => by simp only [Rows.uptoBulk, bulkD]
  | .lit (.int _ _) => by simp only [Rows.uptoBulk, bulkD]
  | .lit (.bool _) => by simp only [Rows.uptoBulk, bulkD]
  | .lit (.float _ _) => by simp only [Rows.uptoBulk, bulkD]
  | .lit .nil => by simp only [Rows.uptoBulk, bulkD]
  | .nil => by simp only [Rows.uptoBulk, bulkD]
  | .ptr d => by simp only [Rows.uptoBulk, bulkD, ub_d d]
  | .slice elems spare => by simp only [Rows.uptoBulk, bulkD, ub_ds elems, ub_ds spare]
  | .agg parts => by simp only [Rows.uptoBulk, bulkD, ub_ds parts]
  | .iface _ d => by simp only [Rows.uptoBulk, bulkD, ub_d d]
  | .map entries => by simp only [Rows.uptoBulk, bulkD, ub_es entries]
  | .held _ => by simp only [Rows.uptoBulk, bulkD]
theorem ub_ds {H : Type} : ∀ l : List (DataW H), Rows.uptoBulkAll l = bulkDs l
  | [] => by simp only [Rows.uptoBulkAll, bulkDs]
  | d :: r => by simp only [Rows.uptoBulkAll, bulkDs, ub_d d, ub_ds r]
theorem ub_es {H : Type} : ∀ l : List (Lit × DataW H), Rows.uptoBulkEntries l = bulkEs l
  | [] => by simp only [Rows.uptoBulkEntries, bulkEs]
  | (x, d) :: r => by simp only [Rows.uptoBulkEntries, bulkEs, ub_e x d, ub_es r]
theorem ub_e {H : Type} : ∀ (x : Lit) (d : DataW H), Rows.uptoBulkEntry (x, d) = bulkE (x, d)
  | .string bytes, d => by simp only [Rows.uptoBulkEntry, bulkE, ub_d d]
  | .int _ _, d => by simp only [Rows.uptoBulkEntry, bulkE, ub_d d]
  | .bool _, d => by simp only [Rows.uptoBulkEntry, bulkE, ub_d d]
  | .float _ _, d => by simp only [Rows.uptoBulkEntry, bulkE, ub_d d]
  | .nil, d => by simp only [Rows.uptoBulkEntry, bulkE, ub_d d]
end
theorem bulkOf {H : Type} {ds gs : List (DataW H)} {d0 d1 : DataW H} (he : ds ++ gs = [d0, d1]) (hk : Rows.uptoSmall H (ds ++ gs) = true) : bulkD d1 ≤ 1048576 := by
  have hk2 : Rows.uptoBulkAll [d0, d1] ≤ 1048576 := of_decide_eq_true (he ▸ hk)
  rw [ub_ds] at hk2
  simp only [bulkDs] at hk2
  omega
set_option maxRecDepth 100000 in
theorem lifted (os : Os) (started : os.Started) (H : Type) (enc : TypeId × Value → H) (F : Stop.Interp) :
    ReturnsInHanded {} Tryz.checked os 4 .any ((Rows.OpenSpec.upto Rows.fnTellDescribeQuorumResponseSpec).preRow enc Tryz.prog Tryz.f4 Rows.fnTellDescribeQuorumResponseUptoRow.domain false Rows.fnTellDescribeQuorumResponseUptoRow.laid) (((Rows.OpenSpec.upto Rows.fnTellDescribeQuorumResponseSpec).at F).post enc Tryz.prog Tryz.f4 false true false false) := by
  obtain ⟨places, hx⟩ := reads os enc
  refine returnsInHanded_of_row (C := Tryz.checked) (s := Rows.OpenSpec.upto Rows.fnTellDescribeQuorumResponseSpec) own started (by kernel_rfl) Tryz.func4
    (witness_row_at (enc := enc) (C := Tryz.checked) false (laidWorld os) #[.int .u8 0, .agg #[.int .i64 0, .slice none 0 0, .bool false, .slice none 0 0, .slice none 0 0]] rfl (by kernel_rfl) (by kernel_rfl) (by kernel_rfl)
      (OpenSpec.preRow_of_cond 8 hx (by kernel_rfl) (fun k hk => by cases hk; kernel_rfl) (by kernel_rfl) (laid_met os))) ?_
  intro W base args ds gs before hval hW _ hk hwt hL _ _
  exact contract H enc W base args ds gs before hval hW (fun d0 d1 he => ⟨lightOf he hwt, bulkOf he (hk _ rfl)⟩) hL
theorem said : Rows.FnTellDescribeQuorumResponseUptoSaid :=
  OpenClaim.holds_of_cond 4 Tryz.f4 rfl rfl rfl rfl rfl rfl rfl ⟨rfl, rfl, rfl, rfl, rfl⟩ rfl rfl rfl rfl rfl (by kernel_rfl) Tryz.func4 closed
    (of_decide_eq_true (by kernel_rfl)) (by unfold Func.isWrapper; first | (rw [if_pos (by decide +kernel)]; kernel_rfl) | (rw [if_neg (by decide +kernel)]; exact ⟨rfl, rfl⟩))
    (fun os started H enc _ F => by rw [OpenClaim.pre_eq_preRow]; exact lifted os started H enc F)
/-- no parameter wants a stand-in; the program's own looks are off -/
theorem plain (f : FuncId) (fn : Func) (hf : Tryz.pinned.checked.prog.funcNamed "pub-mailsack/laws.FnTellDescribeQuorumResponse" = some f) (hfn : Tryz.pinned.checked.prog.funcs[f]? = some fn) :
    false = Tryz.pinned.checked.prog.looks [] ∧ ∀ (j : Nat) t, fn.params[j]? = some t → Tryz.pinned.checked.prog.wantsStandIn t = false := by
  obtain rfl : f = 4 := Option.some.inj ((show Tryz.prog.funcNamed "pub-mailsack/laws.FnTellDescribeQuorumResponse" = some 4 by kernel_rfl).symm.trans hf) |>.symm
  obtain rfl : fn = Tryz.f4 := (Option.some.inj (Tryz.func4.symm.trans hfn)).symm
  refine ⟨by kernel_rfl, fun j t ht => ?_⟩
  rw [Tryz.params4] at ht
  have hm := Array.mem_of_getElem? ht
  simp only [List.mem_toArray, List.mem_cons, List.not_mem_nil, or_false] at hm
  rcases hm with rfl | rfl
  · exact (show Tryz.prog.wantsStandIn 5 = false by kernel_rfl)
  · exact (show Tryz.prog.wantsStandIn 26 = false by kernel_rfl)
theorem proved : Rows.FnTellDescribeQuorumResponseUptoCardSaid :=
  Claim7.holds_tied_plain_at .later [] _ _ _ _ said (fun _ h => by cases h) (by kernel_rfl) (fun _ h => by cases h) fnTellDescribeQuorumResponseUpto_row_tie rfl ⟨rfl, rfl⟩ (by kernel_rfl) rfl plain (by kernel_rfl)
end Go.Proofs.YtnoklacheaplkabGreatDoor
