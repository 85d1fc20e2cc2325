/- The walk's core: known slots, the step of each operation, cuts and loops. No statement of a seat stands here. -/
import Derived.WalkKit
import Derived.Deep.LoopGhost
namespace Go.Mk
open Go

/-! ### Known slots -/
def look : List (Nat × Value) → Nat → Option Value
  | [], _ => none
  | (k, v) :: r, s => match Nat.beq s k with
    | true => some v
    | false => look r s

structure Kn (n : Nat) (l : List (Nat × Value)) (a : Act) : Prop where
  defers : a.defers = []
  size : a.tmps.size = n
  at_ : ∀ s v, look l s = some v → a.tmps.getD s undef = v

theorem Kn.put {n : Nat} {l : List (Nat × Value)} {a : Act} (h : Kn n l a) (d : Nat) (v : Value) (hd : Nat.blt d n = true) : Kn n ((d, v) :: l) (a.put (some d) v) := by
  have hd' : d < n := by simpa [Nat.blt_eq] using hd
  refine ⟨h.defers, by simp [Act.put, h.size], ?_⟩
  intro s u hs
  simp only [look] at hs
  simp only [Act.put]
  by_cases e : s = d
  · subst e
    rw [show Nat.beq s s = true from Nat.beq_refl s] at hs
    simp only [Option.some.injEq] at hs
    subst hs
    have := h.size
    simp [Array.getD_eq_getD_getElem?, this, hd']
  · have hb : Nat.beq s d = false := by
      cases hq : Nat.beq s d with
      | false => rfl
      | true => exact absurd (Nat.eq_of_beq_eq_true hq) e
    rw [hb] at hs
    simp only at hs
    rw [← h.at_ s u hs]
    simp [Array.getD_eq_getD_getElem?, Ne.symm e]

/-- Forget, or put in another order. -/
theorem Kn.weaken {n : Nat} {l l' : List (Nat × Value)} {a : Act} (h : Kn n l a) (hs : ∀ p ∈ l', look l p.1 = some p.2) : Kn n l' a := by
  refine ⟨h.defers, h.size, fun s v hv => h.at_ s v ?_⟩
  induction l' with
  | nil => simp [look] at hv
  | cons p r ih =>
    obtain ⟨k, u⟩ := p
    simp only [look] at hv
    cases hq : Nat.beq s k with
    | true =>
      rw [hq] at hv
      simp only [Option.some.injEq] at hv
      subst hv
      rw [Nat.eq_of_beq_eq_true hq]
      exact hs (k, u) (List.mem_cons_self)
    | false =>
      rw [hq] at hv
      exact ih (fun p hp => hs p (List.mem_cons_of_mem _ hp)) hv

/-- A weakening by computation: all the wanted slots are looked up. -/
def looks (l : List (Nat × Value)) : List (Nat × Value) → Prop
  | [] => True
  | (k, v) :: r => look l k = some v ∧ looks l r

theorem Kn.sub {n : Nat} {l l' : List (Nat × Value)} {a : Act} (h : Kn n l a) (hs : looks l l') : Kn n l' a := by
  refine h.weaken ?_
  induction l' with
  | nil => intro p hp; cases hp
  | cons q r ih =>
    obtain ⟨k, u⟩ := q
    intro p hp
    rcases List.mem_cons.1 hp with rfl | hp
    · exact hs.1
    · exact ih hs.2 p hp

def ev (l : List (Nat × Value)) : Operand → Option Value
  | .tmp t => look l t
  | .const v => some v
  | .global g => some (.pointer (some ⟨g, 0, none⟩))
  | .func f => some (.func (.func f) #[] #[])

theorem Kn.eval {n : Nat} {l : List (Nat × Value)} {a : Act} (h : Kn n l a) {x : Operand} {v : Value} (hx : ev l x = some v) : a.eval x = v := by
  cases x with
  | tmp t => exact h.at_ t v hx
  | const u => simpa [ev, Act.eval] using hx
  | global g => simpa [ev, Act.eval] using hx
  | func f => simpa [ev, Act.eval] using hx

def evs (l : List (Nat × Value)) : List Operand → List Value → Prop
  | [], [] => True
  | x :: xs, v :: vs => ev l x = some v ∧ evs l xs vs
  | _, _ => False

theorem Kn.evals {n : Nat} {l : List (Nat × Value)} {a : Act} (h : Kn n l a) : ∀ {xs : List Operand} {vs : List Value}, evs l xs vs → xs.map a.eval = vs
  | [], [], _ => rfl
  | x :: xs, v :: vs, ⟨h1, h2⟩ => by rw [List.map_cons, h.eval h1, h.evals h2]
  | [], _ :: _, h2 => h2.elim
  | _ :: _, [], h2 => h2.elim

/-- The first state of a call. -/
theorem Kn.enter (n : Nat) (args : List Value) (h : Nat.ble args.length n = true) :
    Kn n (args.zipIdx.map fun p => (p.2, p.1)) { tmps := args.toArray ++ Array.replicate (n - args.toArray.size) undef, defers := [] } := by
  have h' : args.length ≤ n := Nat.le_of_ble_eq_true h
  refine ⟨rfl, by simp; omega, ?_⟩
  intro s v hs
  have key : ∀ (as : List Value) (k s : Nat) (v : Value), look ((as.zipIdx k).map fun p => (p.2, p.1)) s = some v → ∃ j, s = k + j ∧ as[j]? = some v := by
    intro as
    induction as with
    | nil => intro k s v h; simp [look] at h
    | cons x r ih =>
      intro k s v h
      simp only [List.zipIdx_cons, List.map_cons, look] at h
      cases hq : Nat.beq s k with
      | true =>
        rw [hq] at h
        exact ⟨0, by have := Nat.eq_of_beq_eq_true hq; omega, by simpa using h⟩
      | false =>
        rw [hq] at h
        obtain ⟨j, h1, h2⟩ := ih (k + 1) s v h
        exact ⟨j + 1, by omega, by simpa using h2⟩
  obtain ⟨j, h1, h2⟩ := key args 0 s v hs
  rw [Nat.zero_add] at h1
  subst h1
  have hj : s < args.length := (List.getElem?_eq_some_iff.1 h2).1
  rw [Array.getD_eq_getD_getElem?, Array.getElem?_append_left (by simpa using hj)]
  simp [h2]

/-! ### The step of an operation -/
/-- Operation 'o' runs to the value v and the world w'. -/
def Runs (P : Program) (o : Oper) (a : Act) (w : World) (v : Value) (w' : World) : Prop := (execOp a.eval o).run P w = .ok (.value v) w'
def RunsU (P : Program) (o : Oper) (a : Act) (w : World) (w' : World) : Prop := (execOp a.eval o).run P w = .ok .skip w'

section
variable {P : Program} {ops : Array Oper} {Q : Exit → Act → World → Prop} {rest : List Oper} {a : Act} {w : World} {n : Nat} {l : List (Nat × Value)}

theorem step_runs {o : Oper} {d : Nat} {v : Value} {w' : World} (hk : Kn n l a) (hg : o.guard = none) (hd : o.dst = some d) (hdn : Nat.blt d n = true)
    (hr : Runs P o a w v w') (K : ∀ a', Kn n ((d, v) :: l) a' → wpList P ops Q rest a' w') : wpList P ops Q (o :: rest) a w :=
  wpList_plain hg fun _ hK => by
    unfold Oper.wp
    rw [hr, Oper.upon_value]
    exact hK _ _ (by rw [hd]; exact K _ (hk.put d v hdn))

theorem step_runsU {o : Oper} {w' : World} (hk : Kn n l a) (hg : o.guard = none) (hd : o.dst = none)
    (hr : RunsU P o a w w') (K : ∀ a', Kn n l a' → wpList P ops Q rest a' w') : wpList P ops Q (o :: rest) a w :=
  wpList_plain hg fun _ hK => by
    unfold Oper.wp
    rw [hr, Oper.upon_skip]
    exact hK _ _ (by rw [hd]; exact K _ hk)

/-- A call: by its contract. -/
theorem step_calls {o : Oper} {d : Nat} {f : FuncId} {args : Array Value} {R : Value → World → Prop} (hk : Kn n l a) (hg : o.guard = none) (hd : o.dst = some d) (hdn : Nat.blt d n = true)
    (hr : (execOp a.eval o).run P w = .ok (.enter f args) w) (hc : Calls P f args w fun e w' => ∃ v, e = .returned v ∧ R v w')
    (K : ∀ v w' a', R v w' → Kn n ((d, v) :: l) a' → wpList P ops Q rest a' w') : wpList P ops Q (o :: rest) a w :=
  wpList_plain hg fun _ hK => by
    unfold Oper.wp
    rw [hr, Oper.upon_enter]
    refine hc.mono ?_
    rintro e w' ⟨v, rfl, hR⟩
    exact hK _ _ (by rw [hd]; exact K v w' _ hR (hk.put d v hdn))

theorem step_callsU {o : Oper} {f : FuncId} {args : Array Value} {R : Value → World → Prop} (hk : Kn n l a) (hg : o.guard = none) (hd : o.dst = none)
    (hr : (execOp a.eval o).run P w = .ok (.enter f args) w) (hc : Calls P f args w fun e w' => ∃ v, e = .returned v ∧ R v w')
    (K : ∀ v w' a', R v w' → Kn n l a' → wpList P ops Q rest a' w') : wpList P ops Q (o :: rest) a w :=
  wpList_plain hg fun _ hK => by
    unfold Oper.wp
    rw [hr, Oper.upon_enter]
    refine hc.mono ?_
    rintro e w' ⟨v, rfl, hR⟩
    exact hK _ _ (by rw [hd]; exact K v w' _ hR hk)
end

end Go.Mk
