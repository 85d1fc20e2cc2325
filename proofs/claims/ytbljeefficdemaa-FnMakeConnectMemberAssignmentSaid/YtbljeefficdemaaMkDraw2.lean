/- Drawn regions with guards; rows out of callees; loops in general. No statement of a seat stands here. -/
import Derived.Test.YtbljeefficdemaaMkFit
namespace Go.Mk
open Go

theorem nb_ft : Value.bool false ≠ .bool true := nofun
theorem nb_tf : Value.bool true ≠ .bool false := nofun
theorem nb_u (b : Bool) : undef ≠ .bool b := nofun
theorem yielded_known {ops : Array Oper} {a : Act} {n j dj : Nat} {l : List (Nat × Value)} {b : Bool} (hk : Kn n l a) (h2 : (ops[j]?).bind (·.dst) = some dj) (h3 : look l dj = some (.bool b)) : yielded ops a.tmps j = some b := by
  unfold yielded
  have := hk.at_ _ _ h3
  rw [Array.getD_eq_getD_getElem?] at this
  cases hq : a.tmps[dj]? with
  | none => rw [hq] at this; simp [undef] at this
  | some x => rw [hq] at this; simp at this; simp [h2, hq, this]
theorem yielded_not {ops : Array Oper} {a : Act} {n j dj : Nat} {l : List (Nat × Value)} {v : Value} {b : Bool} (hk : Kn n l a) (h2 : (ops[j]?).bind (·.dst) = some dj) (h3 : look l dj = some v) (hv : v ≠ .bool b) : yielded ops a.tmps j ≠ some b := by
  unfold yielded
  have := hk.at_ _ _ h3
  rw [Array.getD_eq_getD_getElem?] at this
  cases hq : a.tmps[dj]? with
  | none => simp [h2, hq]
  | some x =>
    rw [hq] at this
    have this : x = v := by simpa using this
    subst this
    intro h
    simp only [h2, Option.bind_some, hq] at h
    cases x <;> simp at h
    subst h
    exact hv rfl
theorem wanted_not {ops : Array Oper} {a : Act} {n j dj : Nat} {l : List (Nat × Value)} {v : Value} {b : Bool} {o : Oper} (hk : Kn n l a) (hg : o.guard = some (j, b)) (h2 : (ops[j]?).bind (·.dst) = some dj) (h3 : look l dj = some v) (hv : v ≠ .bool b) :
    Region.wanted o (yielded ops a.tmps) = false := by
  have := yielded_not hk h2 h3 hv
  simp [Region.wanted, hg, this]
/-- A guard that says no. -/
theorem o_skipV {P : Program} {ops : Array Oper} {Q : Exit → Act → World → Prop} {rest : List Oper} {a : Act} {w : World} {n d : Nat} {l : List (Nat × Value)} {o : Oper} (hk : Kn n l a)
    (hg : ∃ j b dj v, o.guard = some (j, b) ∧ (ops[j]?).bind (·.dst) = some dj ∧ look l dj = some v ∧ v ≠ .bool b) (hd : o.dst = some d) (hdn : Nat.blt d n = true)
    (K : ∀ a', Kn n ((d, undef) :: l) a' → wpList P ops Q rest a' w) : wpList P ops Q (o :: rest) a w := by
  obtain ⟨j, b, dj, u, h1, h2, h3, h4⟩ := hg
  have hw := wanted_not hk h1 h2 h3 h4
  unfold wpList
  rw [if_neg (by simp [hw])]
  rw [hd]
  exact K _ (hk.put d undef hdn)
section
variable {P : Program} {ops : List Oper} {Q : Exit → Act → World → Prop} {M : World → Prop} {K : Nat}

/-- Taken first: its guard wants it. -/
theorem d_takeW {i f : Nat} {listed : Array Bool} {o : Oper} {d : Nat} {v : Value} {a : Act} {w : World} {n : Nat} {l : List (Nat × Value)} (hi : ops[i]? = some o)
    (hg : ∃ j b dj, o.guard = some (j, b) ∧ (ops.toArray[j]?).bind (·.dst) = some dj ∧ look l dj = some (.bool b)) (hd : o.dst = some d)
    (hok : takeOk ops listed K i = true) (hQ : ∀ c a w, Q (.panic c) (a.put (some d) v) w → Q (.panic c) a w) (hk : Kn n l a) (hdn : Nat.blt d n = true) (hy : ∀ w, M w → Runs P o a w v w) (hM : M w)
    (h : ∀ a', Kn n ((d, v) :: l) a' → wpAnyS P ops.toArray Q M K f (listed.setIfInBounds i true) a' w) : wpAnyS P ops.toArray Q M K (f + 1) listed a w := by
  simp only [takeOk, Bool.and_eq_true, bne_iff_ne, ne_eq, beq_iff_eq] at hok
  obtain ⟨⟨⟨⟨⟨⟨h1, h2⟩, h3⟩, h4⟩, h5⟩, _⟩, h7⟩ := hok
  have hi' : ops.toArray[i]? = some o := by simpa using hi
  obtain ⟨j, b, dj, g1, g2, g3⟩ := hg
  have hyd : yielded ops.toArray a.tmps j = some b := yielded_known hk g2 g3
  refine wpAnyS_first (v := v) hi' (Region.noSelect_spec h1) (by rw [hd]; exact hQ) h4 h5 f listed a w (closed_of (by simpa using h7)) (Region.free_spec hi' h2) (by simpa using h3)
    (.inl ⟨by simp [Region.wanted, g1, hyd], hy⟩) hM ?_
  rw [hd]
  exact h _ (hk.put d v hdn)
/-- Taken first: its guard does not want it. -/
theorem d_takeN {i f : Nat} {listed : Array Bool} {o : Oper} {d : Nat} {a : Act} {w : World} {n : Nat} {l : List (Nat × Value)} (hi : ops[i]? = some o)
    (hg : ∃ j b dj u, o.guard = some (j, b) ∧ (ops.toArray[j]?).bind (·.dst) = some dj ∧ look l dj = some u ∧ u ≠ .bool b) (hd : o.dst = some d)
    (hok : takeOk ops listed K i = true) (hQ : ∀ c a w, Q (.panic c) (a.put (some d) undef) w → Q (.panic c) a w) (hk : Kn n l a) (hdn : Nat.blt d n = true) (hM : M w)
    (h : ∀ a', Kn n ((d, undef) :: l) a' → wpAnyS P ops.toArray Q M K f (listed.setIfInBounds i true) a' w) : wpAnyS P ops.toArray Q M K (f + 1) listed a w := by
  simp only [takeOk, Bool.and_eq_true, bne_iff_ne, ne_eq, beq_iff_eq] at hok
  obtain ⟨⟨⟨⟨⟨⟨h1, h2⟩, h3⟩, h4⟩, h5⟩, _⟩, h7⟩ := hok
  have hi' : ops.toArray[i]? = some o := by simpa using hi
  obtain ⟨j, b, dj, u, g1, g2, g3, g4⟩ := hg
  have hw0 := wanted_not hk g1 g2 g3 g4
  refine wpAnyS_first (v := undef) hi' (Region.noSelect_spec h1) (by rw [hd]; exact hQ) h4 h5 f listed a w (closed_of (by simpa using h7)) (Region.free_spec hi' h2) (by simpa using h3)
    (.inr ⟨hw0, rfl⟩) hM ?_
  rw [hd]
  exact h _ (hk.put d undef hdn)

/-- One alone may come up, with a guard that wants it. -/
theorem d_oneW {k f : Nat} {listed : Array Bool} {o o' : Oper} {a : Act} {w : World} {n : Nat} {l : List (Nat × Value)} (hr : Region.ready .any ops.toArray listed = [k]) (hi : ops[k]? = some o) (hk : Kn n l a)
    (hg : ∃ j b dj, o.guard = some (j, b) ∧ (ops.toArray[j]?).bind (·.dst) = some dj ∧ look l dj = some (.bool b)) (ho : o' = { o with guard := none })
    (h : wpList P ops.toArray (Exit.then (fun a' w' => ((listed.setIfInBounds k true).getD K false = false → M w') ∧ wpAnyS P ops.toArray Q M K f (listed.setIfInBounds k true) a' w') Q) [o'] a w) :
    wpAnyS P ops.toArray Q M K (f + 1) listed a w := by
  refine ⟨fun h0 => (by rw [hr] at h0; cases h0), fun i hi' => ?_⟩
  rw [hr] at hi'
  have : i = k := by simpa using hi'
  subst this
  have h' := o_want (ops := ops.toArray) (rest := []) hk hg ho h
  unfold wpOp
  have hi'' : ops.toArray[i]? = some o := by simpa using hi
  simp only [hi'']
  unfold wpList at h'
  split at h'
  · rename_i hw
    rw [if_pos hw]
    rcases h' with h | h
    · left
      unfold Oper.wp at *
      generalize (execOp a.eval o).run P w = r at *
      cases r with
      | ok n w' =>
        cases n <;> simp only [Oper.upon] at h ⊢ <;> exact h
      | halt x w' => cases x <;> simp only [Oper.upon] at h ⊢ <;> exact h
    · right
      obtain ⟨h1, a0, w0, h0⟩ := h
      exact ⟨h1, a0, w0, h0⟩
  · rename_i hw
    obtain ⟨j, b, dj, g1, g2, g3⟩ := hg
    have hyd : yielded ops.toArray a.tmps j = some b := yielded_known hk g2 g3
    exact absurd (by simp [Region.wanted, g1, hyd]) hw
/-- One alone may come up, with a guard that does not want it. -/
theorem d_oneN {k f : Nat} {listed : Array Bool} {o : Oper} {a : Act} {w : World} {n d : Nat} {l : List (Nat × Value)} (hr : Region.ready .any ops.toArray listed = [k]) (hi : ops[k]? = some o) (hk : Kn n l a)
    (hg : ∃ j b dj u, o.guard = some (j, b) ∧ (ops.toArray[j]?).bind (·.dst) = some dj ∧ look l dj = some u ∧ u ≠ .bool b) (hd : o.dst = some d) (hdn : Nat.blt d n = true) (hM : M w)
    (h : ∀ a', Kn n ((d, undef) :: l) a' → wpAnyS P ops.toArray Q M K f (listed.setIfInBounds k true) a' w) :
    wpAnyS P ops.toArray Q M K (f + 1) listed a w := by
  refine ⟨fun h0 => (by rw [hr] at h0; cases h0), fun i hi' => ?_⟩
  rw [hr] at hi'
  have : i = k := by simpa using hi'
  subst this
  unfold wpOp
  have hi'' : ops.toArray[i]? = some o := by simpa using hi
  obtain ⟨j, b, dj, u, g1, g2, g3, g4⟩ := hg
  have hw0 := wanted_not hk g1 g2 g3 g4
  simp only [hi'', hw0, Bool.false_eq_true, if_false]
  rw [hd]
  exact ⟨fun _ => hM, h _ (hk.put d undef hdn)⟩
end

theorem wpAnyS_free {P : Program} {ops : Array Oper} {Q : Exit → Act → World → Prop} {M : World → Prop} {K i : Nat} {oi : Oper} {v : Value} (hi : ops[i]? = some oi) (hsel : ∀ (j : Nat) (o : Oper) cs b, ops[j]? = some o → o.op ≠ .select cs b)
    (hQ : ∀ c a w, Q (.panic c) (a.put oi.dst v) w → Q (.panic c) a w) (hKi : K ≠ i) :
    ∀ (f : Nat) (listed : Array Bool) (a : Act) (w : World),
      (∀ j oj, ops[j]? = some oj → j ≠ i → listed.getD j true = false → (∀ e ∈ oj.after, Region.binds .any e = true → e.on ≠ i) → oi.apart ops oj = true) →
      i ∈ Region.ready .any ops listed → YieldsIf P ops (fun _ => True) oi v a → (listed.getD K false = false → M w) →
      wpAnyS P ops Q M K f (listed.setIfInBounds i true) (a.put oi.dst v) w → wpAnyS P ops Q M K (f + 1) listed a w := by
  intro f
  induction f with
  | zero =>
    intro listed a w _ hr hy hS H
    refine ⟨fun h => (by rw [h] at hr; cases hr), fun j hj => ?_⟩
    by_cases hji : j = i
    · subst hji; exact hy.wpOp hi trivial ⟨fun h => hS (by rwa [getD_set_ne false (Ne.symm hKi)] at h), H⟩
    · have := ready_mono hj hji
      rw [H.1] at this
      cases this
  | succ f ih =>
    intro listed a w hfree hr hy hS H
    refine ⟨fun h => (by rw [h] at hr; cases hr), fun j hj => ?_⟩
    by_cases hji : j = i
    · subst hji; exact hy.wpOp hi trivial ⟨fun h => hS (by rwa [getD_set_ne false (Ne.symm hKi)] at h), H⟩
    · have h1 := H.2 j (ready_mono hj hji)
      obtain ⟨hjun, oj, hoj, hall⟩ := mem_ready.1 hj
      have hun := (mem_ready.1 hr).1
      have hunF : ∀ k, listed.getD k true = false → listed.getD k false = false := fun k h => by
        rcases Nat.lt_or_ge k listed.size with h' | h'
        · simp [h'] at h ⊢; exact h
        · simp [Array.getElem?_eq_none h'] at h
      have hnot : ∀ e ∈ oj.after, Region.binds .any e = true → e.on ≠ i := fun e he hb heq => by
        have h2 := hall e he hb
        rw [heq, hunF i hun] at h2
        cases h2
      have h2 := wpOp_putIf hoj (hfree j oj hoj hji hjun hnot) (fun cs b => hsel i oi cs b hi) (fun cs b => hsel j oj cs b hoj) hQ hy h1
      have hfree' : ∀ k ok, ops[k]? = some ok → k ≠ i → (listed.setIfInBounds j true).getD k true = false →
          (∀ e ∈ ok.after, Region.binds .any e = true → e.on ≠ i) → oi.apart ops ok = true := fun k ok hk hki hun hno => by
        refine hfree k ok hk hki ?_ hno
        by_cases hjk : j = k
        · subst hjk; exact hjun
        · rw [getD_set_ne true hjk] at hun; exact hun
      refine wpOp_mono (fun a' w' h3 => ?_) h2
      obtain ⟨hy', hMK, hrest⟩ := h3
      have hMK' : (listed.setIfInBounds j true).getD K false = false → M w' := fun h => hMK (by
        rw [Array.setIfInBounds_comm _ _ (Ne.symm hji), getD_set_ne false (Ne.symm hKi)]
        exact h)
      refine ⟨hMK', ih (listed.setIfInBounds j true) a' w' hfree' (ready_mono hr (Ne.symm hji)) hy' hMK' ?_⟩
      rw [Array.setIfInBounds_comm _ _ hji]
      exact hrest
def takeOkF (ops : List Oper) (listed : Array Bool) (K i : Nat) : Bool :=
  Region.noSelect ops.toArray && Region.free .any ops.toArray listed i && (Region.ready .any ops.toArray listed).contains i && K != i
/-- Number i is taken first: it yields v in every world. -/
theorem d_takeF {P : Program} {ops : List Oper} {Q : Exit → Act → World → Prop} {M : World → Prop} {K i f : Nat} {listed : Array Bool} {o : Oper} {d : Nat} {v : Value} {a : Act} {w : World} {n : Nat} {l : List (Nat × Value)} (hi : ops[i]? = some o) (hg : o.guard = none) (hd : o.dst = some d)
    (hok : takeOkF ops listed K i = true) (hQ : ∀ c a w, Q (.panic c) (a.put (some d) v) w → Q (.panic c) a w) (hk : Kn n l a) (hdn : Nat.blt d n = true) (hy : ∀ w, Runs P o a w v w) (hM : listed.getD K false = false → M w)
    (h : ∀ a', Kn n ((d, v) :: l) a' → wpAnyS P ops.toArray Q M K f (listed.setIfInBounds i true) a' w) : wpAnyS P ops.toArray Q M K (f + 1) listed a w := by
  simp only [takeOkF, Bool.and_eq_true, bne_iff_ne, ne_eq] at hok
  obtain ⟨⟨⟨h1, h2⟩, h3⟩, h5⟩ := hok
  have hi' : ops.toArray[i]? = some o := by simpa using hi
  refine wpAnyS_free (v := v) hi' (Region.noSelect_spec h1) (by rw [hd]; exact hQ) h5 f listed a w (Region.free_spec hi' h2) (by simpa using h3)
    (.inl ⟨by simp [Region.wanted, hg], fun w _ => hy w⟩) hM ?_
  rw [hd]
  exact h _ (hk.put d v hdn)
/-- A loop: g falls, R holds at the head. -/
theorem c_loop {P : Program} {Q : Exit → Act → World → Prop} {a : Act} {w : World} {id : Nat} {body : Code} (R : Nat → Act → World → Prop) (g0 : Nat) (h0 : R g0 a w)
    (hb : ∀ g a w, R g a w → body.wp P (Exit.then (fun a' w' => ∃ g', g' < g ∧ R g' a' w') (Exit.inBlock id Q)) a w) : (Code.block id (.loop body)).wp P Q a w :=
  wp_block (wp_loop_ghost (fun g a w => R g a w) g0 h0 fun g a w h => hb g a w h)

section
variable {w0 w w' : World} {X Z : Nat → Prop} {m : List Ent} {i e sz n n' : Nat} {v v' : Value} {xs xs' : List Value}

/-- a row that a callee has made -/
theorem Mem.rowNew (h : Mem w0 X Z m w) (hr : RowTo w e sz (.slice none 0 0) n xs v w') : Mem w0 X Z (.row e sz v n xs :: m) w' :=
  (h.addNil e sz).rowCall (i := 0) rfl hr
/-- a row that was made here -/
theorem Mem.rowOut (h : Mem w0 Nob Z m w) (hi : entAt m i = some (.row e sz v n xs)) : RowTo w0 e sz (.slice none 0 0) n xs v w := by
  refine ⟨h.agr.mono fun _ _ x => x.elim, h.all _ (entAt_mem hi), fun k hk => ?_⟩
  have hb := h.own k (muts_mem (entAt_mem hi) (by simp [Ent.mut, hk]))
  by_cases hlt : k < w0.heap.size
  · exact (hb.2 hlt).elim
  · exact .inr (by omega)
theorem src_row {P : Program} {t : Nat} (ht : tyElem P t = some e) (h : w.ownsRow 0 e sz v n xs) (h1 : oneCells xs = true) : Src P sz t v n xs w := by
  rcases h.2 with ⟨rfl, rfl⟩ | ⟨g, cap, cur, rfl, _⟩
  · have hx : xs = [] := List.eq_nil_of_length_eq_zero (by simpa using h.1)
    subst hx
    exact src_nil ht
  · exact Src.ofSlice w (tyElem_run ht) ⟨g, 0, none⟩ n cap xs h.1 (h.cells (g := g) rfl) (oneCells_spec h1)
end
end Go.Mk
