/- A region whose order is drawn: what only reads is taken first, as long as operation K has not come up; M is what holds of memory till then. No statement of a seat stands here. -/
import Derived.Test.YtbljeefficdemaaMkOps3
import Derived.OrdersHeld
namespace Go.Mk
open Go

section
variable {P : Program} {ops : Array Oper} {Q : Exit → Act → World → Prop} {M : World → Prop} {K : Nat}

/-- Does number k wait for number i, by way of others too? -/
def waits (ops : Array Oper) : Nat → Nat → Nat → Bool
  | 0, k, i => k == i
  | f + 1, k, i => k == i || match ops[k]? with
    | some o => o.after.any fun e => Region.binds .any e && waits ops f e.on i
    | none => false

/-- What has come up has come up behind all that it waits for. -/
def Closed (ops : Array Oper) (listed : Array Bool) : Prop :=
  ∀ (j : Nat) (oj : Oper), ops[j]? = some oj → listed.getD j false = true → ∀ e ∈ oj.after, Region.binds .any e = true → listed.getD e.on false = true

theorem Closed.waits {listed : Array Bool} (hc : Closed ops listed) : ∀ {f k i : Nat}, waits ops f k i = true → listed.getD k false = true → listed.getD i false = true
  | 0, k, i, h, hk => by simp only [Mk.waits, beq_iff_eq] at h; subst h; exact hk
  | f + 1, k, i, h, hk => by
    simp only [Mk.waits, Bool.or_eq_true, beq_iff_eq] at h
    rcases h with h | h
    · subst h; exact hk
    · split at h
      · rename_i o ho
        obtain ⟨e, he, hb⟩ := Array.any_eq_true'.1 h
        simp only [Bool.and_eq_true] at hb
        exact hc.waits hb.2 (hc k o ho hk e he hb.1)
      · cases h

theorem Closed.set {listed : Array Bool} (hc : Closed ops listed) {i : Nat} (hi : i ∈ Region.ready .any ops listed) : Closed ops (listed.setIfInBounds i true) := by
  obtain ⟨_, oi, hoi, hall⟩ := mem_ready.1 hi
  intro j oj hj hl e he hb
  by_cases hij : i = j
  · subst hij
    have : oj = oi := Option.some.inj (hj.symm.trans hoi)
    subst this
    exact getD_set_true (hall e he hb)
  · rw [getD_set_ne false hij] at hl
    exact getD_set_true (hc j oj hj hl e he hb)

def wpAnyS (P : Program) (ops : Array Oper) (Q : Exit → Act → World → Prop) (M : World → Prop) (K : Nat) : Nat → Array Bool → Act → World → Prop
  | 0, listed, a, w => Region.ready .any ops listed = [] ∧ Q .normal a w
  | f + 1, listed, a, w =>
    (Region.ready .any ops listed = [] → Q .normal a w) ∧
    ∀ i ∈ Region.ready .any ops listed, wpOp P ops Q i (fun a' w' => ((listed.setIfInBounds i true).getD K false = false → M w') ∧ wpAnyS P ops Q M K f (listed.setIfInBounds i true) a' w') a w

theorem wpAny_of_S : ∀ (f : Nat) (listed : Array Bool) (a : Act) (w : World), wpAnyS P ops Q M K f listed a w → wpAny P .any ops Q f listed a w
  | 0, _, _, _, h => h
  | f + 1, _, _, _, h => ⟨h.1, fun i hi => wpOp_mono (fun a' w' h' => wpAny_of_S f _ a' w' h'.2) (h.2 i hi)⟩

theorem wpAnyS_first {i g : Nat} {oi : Oper} {v : Value} (hi : ops[i]? = some oi) (hsel : ∀ (j : Nat) (o : Oper) cs b, ops[j]? = some o → o.op ≠ .select cs b)
    (hQ : ∀ c a w, Q (.panic c) (a.put oi.dst v) w → Q (.panic c) a w) (hw : waits ops g K i = true) (hKi : K ≠ i) :
    ∀ (f : Nat) (listed : Array Bool) (a : Act) (w : World), Closed ops listed →
      (∀ j oj, ops[j]? = some oj → j ≠ i → listed.getD j true = false → (∀ e ∈ oj.after, Region.binds .any e = true → e.on ≠ i) → oi.apart ops oj = true) →
      i ∈ Region.ready .any ops listed → YieldsIf P ops M oi v a → M w →
      wpAnyS P ops Q M K f (listed.setIfInBounds i true) (a.put oi.dst v) w → wpAnyS P ops Q M K (f + 1) listed a w := by
  intro f
  induction f with
  | zero =>
    intro listed a w _ _ hr hy hS H
    refine ⟨fun h => (by rw [h] at hr; cases hr), fun j hj => ?_⟩
    by_cases hji : j = i
    · subst hji; exact hy.wpOp hi hS ⟨fun _ => hS, H⟩
    · have := ready_mono hj hji
      rw [H.1] at this
      cases this
  | succ f ih =>
    intro listed a w hc hfree hr hy hS H
    refine ⟨fun h => (by rw [h] at hr; cases hr), fun j hj => ?_⟩
    by_cases hji : j = i
    · subst hji; exact hy.wpOp hi hS ⟨fun _ => hS, H⟩
    · have h1 := H.2 j (ready_mono hj hji)
      obtain ⟨hjun, oj, hoj, hall⟩ := mem_ready.1 hj
      have hun := (mem_ready.1 hr).1
      have hunF : ∀ k, listed.getD k true = false → listed.getD k false = false := fun k h => by
        rcases Nat.lt_or_ge k listed.size with h' | h'
        · simp [h'] at h ⊢; exact h
        · simp [Array.getElem?_eq_none h'] at h
      have hnot : ∀ e ∈ oj.after, Region.binds .any e = true → e.on ≠ i := fun e he hb heq => by
        have h2 := hall e he hb
        rw [heq, hunF i hun] at h2
        cases h2
      have h2 := wpOp_putIf hoj (hfree j oj hoj hji hjun hnot) (fun cs b => hsel i oi cs b hi) (fun cs b => hsel j oj cs b hoj) hQ hy h1
      have hcj := hc.set hj
      have hKun : (listed.setIfInBounds j true).getD K false = false := by
        cases hK : (listed.setIfInBounds j true).getD K false with
        | false => rfl
        | true =>
          have h3 := hcj.waits hw hK
          rw [getD_set_ne false hji, hunF i hun] at h3
          cases h3
      have hfree' : ∀ k ok, ops[k]? = some ok → k ≠ i → (listed.setIfInBounds j true).getD k true = false →
          (∀ e ∈ ok.after, Region.binds .any e = true → e.on ≠ i) → oi.apart ops ok = true := fun k ok hk hki hun hno => by
        refine hfree k ok hk hki ?_ hno
        by_cases hjk : j = k
        · subst hjk; exact hjun
        · rw [getD_set_ne true hjk] at hun; exact hun
      refine wpOp_mono (fun a' w' h3 => ?_) h2
      obtain ⟨hy', hMK, hrest⟩ := h3
      have hM' : M w' := hMK (by
        rw [Array.setIfInBounds_comm _ _ (Ne.symm hji), getD_set_ne false (Ne.symm hKi)]
        exact hKun)
      refine ⟨fun _ => hM', ih (listed.setIfInBounds j true) a' w' hcj hfree' (ready_mono hr (Ne.symm hji)) hy' hM' ?_⟩
      rw [Array.setIfInBounds_comm _ _ hji]
      exact hrest

/-- The beginning. -/
theorem d_start {id : Nat} {ops : List Oper} {a : Act} {w : World} (M : World → Prop) (K : Nat) (hm : P.follows .mixedOrders = true)
    (h : wpAnyS P ops.toArray Q M K ops.length (Array.replicate ops.length false) a w.drew) : (Code.region id ops.toArray true).wp P Q a w :=
  wp_region_any hm (wpAny_of_S _ _ _ _ (by rw [List.size_toArray]; exact h))

theorem closed_of {listed : Array Bool} (h : (List.range ops.size).all (fun j => !listed.getD j false || ((ops[j]?).map fun o => o.after.all fun e => !Region.binds .any e || listed.getD e.on false).getD true) = true) : Closed ops listed := by
  intro j oj hj hl e he hb
  have hlt : j < ops.size := (Array.getElem?_eq_some_iff.1 hj).1
  have h1 := List.all_eq_true.1 h j (List.mem_range.2 hlt)
  simp only [hl, Bool.not_true, Bool.false_or, hj, Option.map_some, Option.getD_some, Array.all_eq_true_iff_forall_mem] at h1
  have h2 := h1 e he
  simpa [hb] using h2

/-- What must hold, by computation, for number i to be taken first. -/
def takeOk (ops : List Oper) (listed : Array Bool) (K i : Nat) : Bool :=
  Region.noSelect ops.toArray && Region.free .any ops.toArray listed i && (Region.ready .any ops.toArray listed).contains i && waits ops.toArray ops.length K i && K != i &&
  listed.size == ops.length && (List.range ops.length).all (fun j => !listed.getD j false || ((ops.toArray[j]?).map fun o => o.after.all fun e => !Region.binds .any e || listed.getD e.on false).getD true)

/-- Number i is taken first: it yields v in every world of which M holds. -/
theorem d_take {ops : List Oper} {i f : Nat} {listed : Array Bool} {o : Oper} {d : Nat} {v : Value} {a : Act} {w : World} {n : Nat} {l : List (Nat × Value)} (hi : ops[i]? = some o) (hg : o.guard = none) (hd : o.dst = some d)
    (hok : takeOk ops listed K i = true) (hQ : ∀ c a w, Q (.panic c) (a.put (some d) v) w → Q (.panic c) a w) (hk : Kn n l a) (hdn : Nat.blt d n = true) (hy : ∀ w, M w → Runs P o a w v w) (hM : M w)
    (h : ∀ a', Kn n ((d, v) :: l) a' → wpAnyS P ops.toArray Q M K f (listed.setIfInBounds i true) a' w) : wpAnyS P ops.toArray Q M K (f + 1) listed a w := by
  simp only [takeOk, Bool.and_eq_true, bne_iff_ne, ne_eq, beq_iff_eq] at hok
  obtain ⟨⟨⟨⟨⟨⟨h1, h2⟩, h3⟩, h4⟩, h5⟩, _⟩, h7⟩ := hok
  have hi' : ops.toArray[i]? = some o := by simpa using hi
  refine wpAnyS_first (v := v) hi' (Region.noSelect_spec h1) (by rw [hd]; exact hQ) h4 h5 f listed a w (closed_of (by simpa using h7)) (Region.free_spec hi' h2) (by simpa using h3)
    (.inl ⟨by simp [Region.wanted, hg], hy⟩) hM ?_
  rw [hd]
  exact h _ (hk.put d v hdn)

/-- One alone may come up: it is carried out. -/
theorem d_one {ops : List Oper} {k f : Nat} {listed : Array Bool} {o : Oper} {a : Act} {w : World} (hr : Region.ready .any ops.toArray listed = [k]) (hi : ops[k]? = some o) (hg : o.guard = none)
    (h : wpList P ops.toArray (Exit.then (fun a' w' => ((listed.setIfInBounds k true).getD K false = false → M w') ∧ wpAnyS P ops.toArray Q M K f (listed.setIfInBounds k true) a' w') Q) [o] a w) :
    wpAnyS P ops.toArray Q M K (f + 1) listed a w := by
  refine ⟨fun h0 => (by rw [hr] at h0; cases h0), fun i hi' => ?_⟩
  rw [hr] at hi'
  have : i = k := by simpa using hi'
  subst this
  unfold wpOp
  have hi'' : ops.toArray[i]? = some o := by simpa using hi
  simp only [hi'']
  unfold wpList at h
  split at h
  · rename_i hw
    rw [if_pos hw]
    rcases h with h | h
    · left
      unfold Oper.wp at *
      generalize (execOp a.eval o).run P w = r at *
      cases r with
      | ok n w' =>
        cases n <;> simp only [Oper.upon] at h ⊢ <;> exact h
      | halt x w' => cases x <;> simp only [Oper.upon] at h ⊢ <;> exact h
    · right
      obtain ⟨h1, a0, w0, h0⟩ := h
      exact ⟨h1, a0, w0, h0⟩
  · rename_i hw
    exact absurd (by simp [Region.wanted, hg]) hw

theorem d_done {ops : List Oper} {listed : Array Bool} {a : Act} {w : World} (hr : Region.ready .any ops.toArray listed = []) (h : Q .normal a w) : ∀ f, wpAnyS P ops.toArray Q M K f listed a w
  | 0 => ⟨hr, h⟩
  | _ + 1 => ⟨fun _ => h, by rw [hr]; simp⟩
end
end Go.Mk
