/- The laws' small functions, as functions on trees. No statement of a seat stands here. -/
import Derived.Test.YtbljeefficdemaaMkFlds
namespace Go.Mk
open Go

def fitU3 (u : Nat × List UInt8) : Bool := !decide (((u.2.length : Nat) : Int) > 2147483647)
def fitU2 (us : List (Nat × List UInt8)) : Bool := !decide (((us.length : Nat) : Int) > 2147483647) && us.all fitU3
def fitT (t : T) : Bool := !decide (((t.s.length : Nat) : Int) > 2147483647) && !decide (((t.l.length : Nat) : Int) > 2147483647) && fitU2 t.u

theorem all_succ {α : Type} {f : α → Bool} {l : List α} {k : Nat} {d : α} (h : (l.take k).all f = true) (hlt : k < l.length) (hc : (!f (l.getD k d)) = false) : (l.take (k + 1)).all f = true := by
  rw [List.take_succ_eq_append_getElem hlt, List.all_append, h]
  have : l.getD k d = l[k] := by simp [hlt]
  rw [this] at hc
  simpa using hc
theorem all_false {α : Type} {f : α → Bool} {l : List α} {k : Nat} {d : α} (hlt : k < l.length) (hc : (!f (l.getD k d)) = true) : l.all f = false := by
  have : l.getD k d = l[k] := by simp [hlt]
  rw [this] at hc
  rw [← Bool.not_eq_true, List.all_eq_true]
  intro h
  have := h l[k] (List.getElem_mem hlt)
  simp [this] at hc
theorem take_all {α : Type} {f : α → Bool} {l : List α} (h : (l.take l.length).all f = true) : l.all f = true := by rwa [List.take_length] at h

theorem take_eq_succ {a b : List UInt8} {k : Nat} (h : a.take k = b.take k) (hl : a.length = b.length) (hlt : k < a.length) (he : a.getD k 0 = b.getD k 0) : a.take (k + 1) = b.take (k + 1) := by
  rw [List.take_succ_eq_append_getElem hlt, List.take_succ_eq_append_getElem (by omega : k < b.length), h]
  have h1 : a.getD k 0 = a[k] := by simp [hlt]
  have h2 : b.getD k 0 = b[k] := by simp [hl ▸ hlt]
  rw [h1, h2] at he
  rw [he]
theorem u8_eq_of {x y : UInt8} (h : ((x.toNat : Nat) : Int) = y.toNat) : x = y := UInt8.toNat_inj.1 (by omega)

theorem known_take_succ (fs : List Fld) (k : Nat) (d : Fld) (hlt : k < fs.length) : known (fs.take (k + 1)) = max (known (fs.take k)) (if (fs.getD k d).tag ≥ 0 then (fs.getD k d).tag.toNat + 1 else 0) := by
  have h : ∀ (l : List Fld) (f : Fld), known (l ++ [f]) = max (known l) (if f.tag ≥ 0 then f.tag.toNat + 1 else 0) := by
    intro l f
    induction l with
    | nil => simp [known]
    | cons x r ih => simp only [List.cons_append, known, ih]; omega
  rw [List.take_succ_eq_append_getElem hlt, h]
  simp [hlt]
/-- the tags are small -/
def tagsOk (fs : List Fld) : Bool := fs.all fun f => decide (f.tag < 1000000)
theorem tagsOk_getD {fs : List Fld} (h : tagsOk fs = true) {k : Nat} (hlt : k < fs.length) (d : Fld) : (fs.getD k d).tag < 1000000 := by
  have := List.all_eq_true.1 h fs[k] (List.getElem_mem hlt)
  simpa [hlt] using this
theorem known_lt {fs : List Fld} (h : tagsOk fs = true) : known fs ≤ 1000000 := by
  induction fs with
  | nil => simp [known]
  | cons f r ih =>
    simp only [tagsOk, List.all_cons, Bool.and_eq_true, decide_eq_true_eq] at h
    have := ih h.2
    simp only [known]
    split <;> omega
def FNIL : Fld := .mk 0 0 0 0 0 0 0 []
theorem known_take_le {fs : List Fld} (h : tagsOk fs = true) (k : Nat) : known (fs.take k) ≤ 1000000 := known_lt (by
  simp only [tagsOk, List.all_eq_true] at h ⊢
  exact fun x hx => h x (List.mem_of_mem_take hx))
end Go.Mk
namespace Go.Mk
open Go
theorem width_eq (k : Nat) : width k = if k = 1 then 1 else if k = 2 ∨ k = 5 then 2 else if k = 3 then 4 else 8 := by
  match k with
  | 0 => rfl
  | 1 => rfl
  | 2 => rfl
  | 3 => rfl
  | 4 => rfl
  | 5 => rfl
  | k + 6 => 
    have h1 : ¬ k + 6 = 1 := by omega
    have h2 : ¬ (k + 6 = 2 ∨ k + 6 = 5) := by omega
    have h3 : ¬ k + 6 = 3 := by omega
    rw [if_neg h1, if_neg h2, if_neg h3]
    rfl
theorem rep_whole {w : World} {Y : Nat → Prop} {s : List UInt8} {p : Option Addr} {cap : Nat} (h : Rep w Y (.sl false 1 ((s.map ddB).take (whole s).length)) [.slice p (whole s).length cap]) : Rep w Y (ddBs (whole s)) [.slice p (whole s).length cap] := by
  have e : (s.map ddB).take (whole s).length = (whole s).map ddB := by
    rw [← List.map_take]
    congr 1
    simp only [whole, List.length_take]
    rcases Nat.le_total 32767 s.length with h | h
    · rw [Nat.min_eq_left h]
    · rw [Nat.min_eq_right h, List.take_length, List.take_of_length_le h]
  rw [e] at h
  exact h
theorem rep_things {w : World} {Y : Nat → Prop} {s : List T} {p : Option Addr} {cap : Nat} (h : Rep w Y (.sl false 5 ((s.map ddT).take (things s).length)) [.slice p (things s).length cap]) : Rep w Y (.sl false 5 ((things s).map ddT)) [.slice p (things s).length cap] := by
  have e : (s.map ddT).take (things s).length = (things s).map ddT := by
    rw [← List.map_take]
    congr 1
    simp only [things, List.length_take]
    rcases Nat.le_total 32767 s.length with h | h
    · rw [Nat.min_eq_left h]
    · rw [Nat.min_eq_right h, List.take_length, List.take_of_length_le h]
  rw [e] at h
  exact h
section
variable {P : Program} {ops : Array Oper} {Q : Exit → Act → World → Prop} {rest : List Oper} {a : Act} {w : World} {n : Nat} {l : List (Nat × Value)}
variable {d : Nat} {ty : Nat} {ps : String} {af : Array Edge}
theorem o_max {x y : Operand} {tys : Array Nat} {k k' : IntKind} {i j c : Int} (hk : Kn n l a) (hx : ev l x = some (.int k i)) (hy : ev l y = some (.int k' j)) (hc : max i j = c) (hd : Nat.blt d n = true) (K : ∀ a', Kn n ((d, .int k c) :: l) a' → wpList P ops Q rest a' w) :
    wpList P ops Q (⟨some d, .call ⟨.builtin .max, #[x, y], tys⟩, ty, ps, af, none⟩ :: rest) a w := by
  refine step_runs hk rfl rfl hd ?_ K
  subst hc
  unfold Runs execOp
  simp [hk.eval hx, hk.eval hy, resolve, invoke, builtin, Builtin.max_, Builtin.max2]
  by_cases h : j > i
  · rw [if_pos h, Int.max_eq_right (by omega)]
  · rw [if_neg h, Int.max_eq_left (by omega)]
end
end Go.Mk
