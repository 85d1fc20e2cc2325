/- Parts: their pieces by number. No statement of a seat stands here. -/
import Derived.Test.YtbljeefficdemaaMkCopy
namespace Go.Mk
open Go

def pie (fs : List Fld) (V : Int) (flex : Bool) (t : T) (j : Nat) : List UInt8 := pieceP (fs.getD j FNIL) V flex (t.at_ j)
theorem range_flat_succ {β : Type} (F : Nat → List β) (k : Nat) : (List.range (k + 1)).flatMap F = (List.range k).flatMap F ++ F k := by
  rw [List.range_succ, List.flatMap_append]; simp
theorem range_flat_le {β : Type} (F : Nat → List β) {k n : Nat} (h : k < n) : ((List.range k).flatMap F).length + (F k).length ≤ ((List.range n).flatMap F).length := by
  rw [← List.length_append, ← range_flat_succ]
  induction n with
  | zero => omega
  | succ n ih =>
    by_cases hk : k = n
    · subst hk; exact Nat.le_refl _
    · have := ih (by omega)
      rw [range_flat_succ F n, List.length_append]; omega
theorem flatMap_same {α β : Type} {l : List α} {f g : α → List β} (h : ∀ x ∈ l, f x = g x) : l.flatMap f = l.flatMap g := by
  induction l with
  | nil => rfl
  | cons x r ih =>
    rw [List.flatMap_cons, List.flatMap_cons, h x List.mem_cons_self, ih fun y hy => h y (List.mem_cons_of_mem _ hy)]
theorem plain_range (fs : List Fld) (V : Int) (flex : Bool) (l : List T) (i : Nat) : plainOut fs V (fieldsP fs V flex l i) = (List.range fs.length).flatMap (fun j => pieceP (fs.getD j FNIL) V flex (l.getD (i + j) T.nil)) := by
  induction fs generalizing i with
  | nil => simp [plainOut]
  | cons f r ih =>
    rw [plainOut_cons, ih (i + 1), List.length_cons, List.range_succ_eq_map, List.flatMap_cons, List.flatMap_map]
    congr 1
    apply flatMap_same
    intro j _
    simp only [List.getD_cons_succ]
    congr 2
    omega
theorem partP_false (fs : List Fld) (V : Int) (t : T) : partP fs V false t = (List.range fs.length).flatMap (pie fs V false t) := by
  unfold partP partQ
  simp only [Bool.false_eq_true, if_false]
  rw [plain_range]
  apply flatMap_same
  intro j _
  simp [pie, T.at_]
theorem pie_not {fs : List Fld} {V : Int} {flex : Bool} {t : T} {j : Nat} (h : ((fs.getD j FNIL).tag < 0 ∧ (fs.getD j FNIL).has V = true) → False) : pie fs V flex t j = [] := by
  unfold pie pieceP
  rw [if_neg]
  simp only [Bool.and_eq_true, decide_eq_true_eq]
  exact h
theorem pie_has {fs : List Fld} {V : Int} {flex : Bool} {t : T} {j : Nat} (h : (fs.getD j FNIL).tag < 0) (h2 : (fs.getD j FNIL).has V = true) : pie fs V flex t j = fieldP (fs.getD j FNIL) V flex (t.at_ j) := by
  unfold pie pieceP
  rw [if_pos]
  simp only [Bool.and_eq_true, decide_eq_true_eq]
  exact ⟨h, h2⟩
end Go.Mk
