/- More of trees in memory. No statement of a seat stands here. -/
import Derived.Test.YtbljeefficdemaaMkFlow
namespace Go.Mk
open Go

theorem rep_T_parts {w : World} {Y : Nat → Prop} {t : T} {x1 x2 x3 x4 x5 : Value} (h : Rep w Y (ddT t) [x1, x2, x3, x4, x5]) :
    x1 = .int .i64 t.n ∧ Rep w Y (ddBs t.s) [x2] ∧ x3 = .bool t.z ∧ Rep w Y (.sl false 5 (t.l.map ddT)) [x4] ∧ Rep w Y (ddTags t.u) [x5] := by
  obtain ⟨cs, cl, cu, he, h1, h2, h3⟩ := rep_T h
  simp only [List.cons.injEq, and_true] at he
  obtain ⟨rfl, rfl, rfl, rfl, rfl⟩ := he
  exact ⟨rfl, h1, rfl, h2, h3⟩

/-- The element of a number. -/
theorem rep_sl_get {w : World} {Y : Nat → Prop} {st : Bool} {esz : Nat} {l : List DD} {p : Option Addr} {k c : Nat} (h : Rep w Y (.sl st esz l) [.slice p k c]) {j : Nat} {d : DD} (hj : l[j]? = some d) :
    j < k ∧ ∃ b off cs, p = some ⟨b, off, none⟩ ∧ cs.length = esz ∧ Rep w Y d cs ∧ Cel w Y b (off + j * esz) cs := by
  rcases rep_sl h with ⟨rfl, _⟩ | ⟨b, off, cap, cs, h1, h2, h3, h4⟩
  · simp at hj
  · simp only [Value.slice.injEq] at h1
    obtain ⟨rfl, rfl, rfl⟩ := h1
    obtain ⟨h5, h6⟩ := h4.get hj
    refine ⟨(List.getElem?_eq_some_iff.1 hj).1, b, off, _, rfl, h5, h6, ?_⟩
    intro i u hi
    rw [List.getElem?_take] at hi
    split at hi
    · rw [List.getElem?_drop] at hi
      rw [Nat.add_assoc]
      exact h3 _ u hi
    · cases hi

theorem getD_map {α β : Type} (f : α → β) (l : List α) (i : Nat) (d : α) (h : i < l.length) : (l.map f)[i]? = some (f (l.getD i d)) := by
  simp [h]

theorem Cel.at_ {w : World} {Y : Nat → Prop} {b off : Nat} {cs : List Value} (h : Cel w Y b off cs) : ∀ j u, cs[j]? = some u → w.cell? ⟨b, off + j, none⟩ = some u := fun j u hj => (h j u hj).2

/-- What the callee sees: the caller's blocks that are still written are old ones. -/
theorem Mem.yof {w0 : World} {Z : Nat → Prop} {m : List Ent} {w' : World} {d : DD} {c : List Value} (hr : Rep w' (Yof w0 Z m) d c) : Rep w' (fun b => b < w0.heap.size ∧ Z b) d c :=
  Rep.move (fun _ _ hy => ⟨rfl, fun hz => hy (.inl hz)⟩) d c hr

theorem oneCells_append : ∀ {a b : List Value}, oneCells (a ++ b) = (oneCells a && oneCells b)
  | [], b => by simp [oneCells]
  | x :: r, b => by simp [oneCells, oneCells_append (a := r), Bool.and_assoc]
theorem rep_sl_one {w : World} {Y : Nat → Prop} {st : Bool} {e : Nat} {l : List DD} {c : List Value} (h : Rep w Y (.sl st e l) c) : oneCells c = true := by
  simp only [Rep] at h
  rcases h with ⟨_, p, h, _⟩ | ⟨b, off, cap, cs, h, _⟩ <;> subst h <;> rfl
theorem rep_T_one {w : World} {Y : Nat → Prop} {t : T} {c : List Value} (h : Rep w Y (ddT t) c) : oneCells c = true := by
  obtain ⟨cs, cl, cu, rfl, h1, h2, h3⟩ := rep_T h
  have e1 := rep_sl_one h1
  have e2 := rep_sl_one h2
  have e3 := rep_sl_one h3
  simp only [oneCells, Bool.and_true] at e1 e2 e3 ⊢
  rw [e1, e2, e3]
  rfl
end Go.Mk
