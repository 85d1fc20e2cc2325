/- Walks of programs, step by step: what holds of memory behind each; the reference in plain words. No statement of a seat stands here. -/
import Derived.Test.YtpjichobdalpjaaGreatDoorL1
import Derived.Laws.CopyOwn
import Derived.SizedLaws
import Derived.Carry
import Derived.ProofKit
import Derived.WalkKit
import Derived.OpenShut
import Derived.Deep.CondSized
import Derived.JoinedCond
/- Drawn regions with guards; rows out of callees; loops in general. No statement of a seat stands here. -/
namespace Go.Mk
open Go

theorem nb_ft : Value.bool false ≠ .bool true := nofun
theorem nb_tf : Value.bool true ≠ .bool false := nofun
theorem nb_u (b : Bool) : undef ≠ .bool b := nofun
theorem yielded_known {ops : Array Oper} {a : Act} {n j dj : Nat} {l : List (Nat × Value)} {b : Bool} (hk : Kn n l a) (h2 : (ops[j]?).bind (·.dst) = some dj) (h3 : look l dj = some (.bool b)) : yielded ops a.tmps j = some b := by
  unfold yielded
  have := hk.at_ _ _ h3
  rw [Array.getD_eq_getD_getElem?] at this
  cases hq : a.tmps[dj]? with
  | none => rw [hq] at this; simp [undef] at this
  | some x => rw [hq] at this; simp at this; simp [h2, hq, this]
theorem yielded_not {ops : Array Oper} {a : Act} {n j dj : Nat} {l : List (Nat × Value)} {v : Value} {b : Bool} (hk : Kn n l a) (h2 : (ops[j]?).bind (·.dst) = some dj) (h3 : look l dj = some v) (hv : v ≠ .bool b) : yielded ops a.tmps j ≠ some b := by
  unfold yielded
  have := hk.at_ _ _ h3
  rw [Array.getD_eq_getD_getElem?] at this
  cases hq : a.tmps[dj]? with
  | none => simp [h2, hq]
  | some x =>
    rw [hq] at this
    have this : x = v := by simpa using this
    subst this
    intro h
    simp only [h2, Option.bind_some, hq] at h
    cases x <;> simp at h
    subst h
    exact hv rfl
theorem wanted_not {ops : Array Oper} {a : Act} {n j dj : Nat} {l : List (Nat × Value)} {v : Value} {b : Bool} {o : Oper} (hk : Kn n l a) (hg : o.guard = some (j, b)) (h2 : (ops[j]?).bind (·.dst) = some dj) (h3 : look l dj = some v) (hv : v ≠ .bool b) :
    Region.wanted o (yielded ops a.tmps) = false := by
  have := yielded_not hk h2 h3 hv
  simp [Region.wanted, hg, this]
/-- A guard that says no. -/
theorem o_skipV {P : Program} {ops : Array Oper} {Q : Exit → Act → World → Prop} {rest : List Oper} {a : Act} {w : World} {n d : Nat} {l : List (Nat × Value)} {o : Oper} (hk : Kn n l a)
    (hg : ∃ j b dj v, o.guard = some (j, b) ∧ (ops[j]?).bind (·.dst) = some dj ∧ look l dj = some v ∧ v ≠ .bool b) (hd : o.dst = some d) (hdn : Nat.blt d n = true)
    (K : ∀ a', Kn n ((d, undef) :: l) a' → wpList P ops Q rest a' w) : wpList P ops Q (o :: rest) a w := by
  obtain ⟨j, b, dj, u, h1, h2, h3, h4⟩ := hg
  have hw := wanted_not hk h1 h2 h3 h4
  unfold wpList
  rw [if_neg (by simp [hw])]
  rw [hd]
  exact K _ (hk.put d undef hdn)
section
variable {P : Program} {ops : List Oper} {Q : Exit → Act → World → Prop} {M : World → Prop} {K : Nat}

/-- Taken first: its guard wants it. -/
theorem d_takeW {i f : Nat} {listed : Array Bool} {o : Oper} {d : Nat} {v : Value} {a : Act} {w : World} {n : Nat} {l : List (Nat × Value)} (hi : ops[i]? = some o)
    (hg : ∃ j b dj, o.guard = some (j, b) ∧ (ops.toArray[j]?).bind (·.dst) = some dj ∧ look l dj = some (.bool b)) (hd : o.dst = some d)
    (hok : takeOk ops listed K i = true) (hQ : ∀ c a w, Q (.panic c) (a.put (some d) v) w → Q (.panic c) a w) (hk : Kn n l a) (hdn : Nat.blt d n = true) (hy : ∀ w, M w → Runs P o a w v w) (hM : M w)
    (h : ∀ a', Kn n ((d, v) :: l) a' → wpAnyS P ops.toArray Q M K f (listed.setIfInBounds i true) a' w) : wpAnyS P ops.toArray Q M K (f + 1) listed a w := by
  simp only [takeOk, Bool.and_eq_true, bne_iff_ne, ne_eq, beq_iff_eq] at hok
  obtain ⟨⟨⟨⟨⟨⟨h1, h2⟩, h3⟩, h4⟩, h5⟩, _⟩, h7⟩ := hok
  have hi' : ops.toArray[i]? = some o := by simpa using hi
  obtain ⟨j, b, dj, g1, g2, g3⟩ := hg
  have hyd : yielded ops.toArray a.tmps j = some b := yielded_known hk g2 g3
  refine wpAnyS_first (v := v) hi' (Region.noSelect_spec h1) (by rw [hd]; exact hQ) h4 h5 f listed a w (closed_of (by simpa using h7)) (Region.free_spec hi' h2) (by simpa using h3)
    (.inl ⟨by simp [Region.wanted, g1, hyd], hy⟩) hM ?_
  rw [hd]
  exact h _ (hk.put d v hdn)
/-- Taken first: its guard does not want it. -/
theorem d_takeN {i f : Nat} {listed : Array Bool} {o : Oper} {d : Nat} {a : Act} {w : World} {n : Nat} {l : List (Nat × Value)} (hi : ops[i]? = some o)
    (hg : ∃ j b dj u, o.guard = some (j, b) ∧ (ops.toArray[j]?).bind (·.dst) = some dj ∧ look l dj = some u ∧ u ≠ .bool b) (hd : o.dst = some d)
    (hok : takeOk ops listed K i = true) (hQ : ∀ c a w, Q (.panic c) (a.put (some d) undef) w → Q (.panic c) a w) (hk : Kn n l a) (hdn : Nat.blt d n = true) (hM : M w)
    (h : ∀ a', Kn n ((d, undef) :: l) a' → wpAnyS P ops.toArray Q M K f (listed.setIfInBounds i true) a' w) : wpAnyS P ops.toArray Q M K (f + 1) listed a w := by
  simp only [takeOk, Bool.and_eq_true, bne_iff_ne, ne_eq, beq_iff_eq] at hok
  obtain ⟨⟨⟨⟨⟨⟨h1, h2⟩, h3⟩, h4⟩, h5⟩, _⟩, h7⟩ := hok
  have hi' : ops.toArray[i]? = some o := by simpa using hi
  obtain ⟨j, b, dj, u, g1, g2, g3, g4⟩ := hg
  have hw0 := wanted_not hk g1 g2 g3 g4
  refine wpAnyS_first (v := undef) hi' (Region.noSelect_spec h1) (by rw [hd]; exact hQ) h4 h5 f listed a w (closed_of (by simpa using h7)) (Region.free_spec hi' h2) (by simpa using h3)
    (.inr ⟨hw0, rfl⟩) hM ?_
  rw [hd]
  exact h _ (hk.put d undef hdn)

/-- One alone may come up, with a guard that wants it. -/
theorem d_oneW {k f : Nat} {listed : Array Bool} {o o' : Oper} {a : Act} {w : World} {n : Nat} {l : List (Nat × Value)} (hr : Region.ready .any ops.toArray listed = [k]) (hi : ops[k]? = some o) (hk : Kn n l a)
    (hg : ∃ j b dj, o.guard = some (j, b) ∧ (ops.toArray[j]?).bind (·.dst) = some dj ∧ look l dj = some (.bool b)) (ho : o' = { o with guard := none })
    (h : wpList P ops.toArray (Exit.then (fun a' w' => ((listed.setIfInBounds k true).getD K false = false → M w') ∧ wpAnyS P ops.toArray Q M K f (listed.setIfInBounds k true) a' w') Q) [o'] a w) :
    wpAnyS P ops.toArray Q M K (f + 1) listed a w := by
  refine ⟨fun h0 => (by rw [hr] at h0; cases h0), fun i hi' => ?_⟩
  rw [hr] at hi'
  have : i = k := by simpa using hi'
  subst this
  have h' := o_want (ops := ops.toArray) (rest := []) hk hg ho h
  unfold wpOp
  have hi'' : ops.toArray[i]? = some o := by simpa using hi
  simp only [hi'']
  unfold wpList at h'
  split at h'
  · rename_i hw
    rw [if_pos hw]
    rcases h' with h | h
    · left
      unfold Oper.wp at *
      generalize (execOp a.eval o).run P w = r at *
      cases r with
      | ok n w' =>
        cases n <;> simp only [Oper.upon] at h ⊢ <;> exact h
      | halt x w' => cases x <;> simp only [Oper.upon] at h ⊢ <;> exact h
    · right
      obtain ⟨h1, a0, w0, h0⟩ := h
      exact ⟨h1, a0, w0, h0⟩
  · rename_i hw
    obtain ⟨j, b, dj, g1, g2, g3⟩ := hg
    have hyd : yielded ops.toArray a.tmps j = some b := yielded_known hk g2 g3
    exact absurd (by simp [Region.wanted, g1, hyd]) hw
/-- One alone may come up, with a guard that does not want it. -/
theorem d_oneN {k f : Nat} {listed : Array Bool} {o : Oper} {a : Act} {w : World} {n d : Nat} {l : List (Nat × Value)} (hr : Region.ready .any ops.toArray listed = [k]) (hi : ops[k]? = some o) (hk : Kn n l a)
    (hg : ∃ j b dj u, o.guard = some (j, b) ∧ (ops.toArray[j]?).bind (·.dst) = some dj ∧ look l dj = some u ∧ u ≠ .bool b) (hd : o.dst = some d) (hdn : Nat.blt d n = true) (hM : M w)
    (h : ∀ a', Kn n ((d, undef) :: l) a' → wpAnyS P ops.toArray Q M K f (listed.setIfInBounds k true) a' w) :
    wpAnyS P ops.toArray Q M K (f + 1) listed a w := by
  refine ⟨fun h0 => (by rw [hr] at h0; cases h0), fun i hi' => ?_⟩
  rw [hr] at hi'
  have : i = k := by simpa using hi'
  subst this
  unfold wpOp
  have hi'' : ops.toArray[i]? = some o := by simpa using hi
  obtain ⟨j, b, dj, u, g1, g2, g3, g4⟩ := hg
  have hw0 := wanted_not hk g1 g2 g3 g4
  simp only [hi'', hw0, Bool.false_eq_true, if_false]
  rw [hd]
  exact ⟨fun _ => hM, h _ (hk.put d undef hdn)⟩
end

theorem wpAnyS_free {P : Program} {ops : Array Oper} {Q : Exit → Act → World → Prop} {M : World → Prop} {K i : Nat} {oi : Oper} {v : Value} (hi : ops[i]? = some oi) (hsel : ∀ (j : Nat) (o : Oper) cs b, ops[j]? = some o → o.op ≠ .select cs b)
    (hQ : ∀ c a w, Q (.panic c) (a.put oi.dst v) w → Q (.panic c) a w) (hKi : K ≠ i) :
    ∀ (f : Nat) (listed : Array Bool) (a : Act) (w : World),
      (∀ j oj, ops[j]? = some oj → j ≠ i → listed.getD j true = false → (∀ e ∈ oj.after, Region.binds .any e = true → e.on ≠ i) → oi.apart ops oj = true) →
      i ∈ Region.ready .any ops listed → YieldsIf P ops (fun _ => True) oi v a → (listed.getD K false = false → M w) →
      wpAnyS P ops Q M K f (listed.setIfInBounds i true) (a.put oi.dst v) w → wpAnyS P ops Q M K (f + 1) listed a w := by
  intro f
  induction f with
  | zero =>
    intro listed a w _ hr hy hS H
    refine ⟨fun h => (by rw [h] at hr; cases hr), fun j hj => ?_⟩
    by_cases hji : j = i
    · subst hji; exact hy.wpOp hi trivial ⟨fun h => hS (by rwa [getD_set_ne false (Ne.symm hKi)] at h), H⟩
    · have := ready_mono hj hji
      rw [H.1] at this
      cases this
  | succ f ih =>
    intro listed a w hfree hr hy hS H
    refine ⟨fun h => (by rw [h] at hr; cases hr), fun j hj => ?_⟩
    by_cases hji : j = i
    · subst hji; exact hy.wpOp hi trivial ⟨fun h => hS (by rwa [getD_set_ne false (Ne.symm hKi)] at h), H⟩
    · have h1 := H.2 j (ready_mono hj hji)
      obtain ⟨hjun, oj, hoj, hall⟩ := mem_ready.1 hj
      have hun := (mem_ready.1 hr).1
      have hunF : ∀ k, listed.getD k true = false → listed.getD k false = false := fun k h => by
        rcases Nat.lt_or_ge k listed.size with h' | h'
        · simp [h'] at h ⊢; exact h
        · simp [Array.getElem?_eq_none h'] at h
      have hnot : ∀ e ∈ oj.after, Region.binds .any e = true → e.on ≠ i := fun e he hb heq => by
        have h2 := hall e he hb
        rw [heq, hunF i hun] at h2
        cases h2
      have h2 := wpOp_putIf hoj (hfree j oj hoj hji hjun hnot) (fun cs b => hsel i oi cs b hi) (fun cs b => hsel j oj cs b hoj) hQ hy h1
      have hfree' : ∀ k ok, ops[k]? = some ok → k ≠ i → (listed.setIfInBounds j true).getD k true = false →
          (∀ e ∈ ok.after, Region.binds .any e = true → e.on ≠ i) → oi.apart ops ok = true := fun k ok hk hki hun hno => by
        refine hfree k ok hk hki ?_ hno
        by_cases hjk : j = k
        · subst hjk; exact hjun
        · rw [getD_set_ne true hjk] at hun; exact hun
      refine wpOp_mono (fun a' w' h3 => ?_) h2
      obtain ⟨hy', hMK, hrest⟩ := h3
      have hMK' : (listed.setIfInBounds j true).getD K false = false → M w' := fun h => hMK (by
        rw [Array.setIfInBounds_comm _ _ (Ne.symm hji), getD_set_ne false (Ne.symm hKi)]
        exact h)
      refine ⟨hMK', ih (listed.setIfInBounds j true) a' w' hfree' (ready_mono hr (Ne.symm hji)) hy' hMK' ?_⟩
      rw [Array.setIfInBounds_comm _ _ hji]
      exact hrest
def takeOkF (ops : List Oper) (listed : Array Bool) (K i : Nat) : Bool :=
  Region.noSelect ops.toArray && Region.free .any ops.toArray listed i && (Region.ready .any ops.toArray listed).contains i && K != i
/-- Number i is taken first: it yields v in every world. -/
theorem d_takeF {P : Program} {ops : List Oper} {Q : Exit → Act → World → Prop} {M : World → Prop} {K i f : Nat} {listed : Array Bool} {o : Oper} {d : Nat} {v : Value} {a : Act} {w : World} {n : Nat} {l : List (Nat × Value)} (hi : ops[i]? = some o) (hg : o.guard = none) (hd : o.dst = some d)
    (hok : takeOkF ops listed K i = true) (hQ : ∀ c a w, Q (.panic c) (a.put (some d) v) w → Q (.panic c) a w) (hk : Kn n l a) (hdn : Nat.blt d n = true) (hy : ∀ w, Runs P o a w v w) (hM : listed.getD K false = false → M w)
    (h : ∀ a', Kn n ((d, v) :: l) a' → wpAnyS P ops.toArray Q M K f (listed.setIfInBounds i true) a' w) : wpAnyS P ops.toArray Q M K (f + 1) listed a w := by
  simp only [takeOkF, Bool.and_eq_true, bne_iff_ne, ne_eq] at hok
  obtain ⟨⟨⟨h1, h2⟩, h3⟩, h5⟩ := hok
  have hi' : ops.toArray[i]? = some o := by simpa using hi
  refine wpAnyS_free (v := v) hi' (Region.noSelect_spec h1) (by rw [hd]; exact hQ) h5 f listed a w (Region.free_spec hi' h2) (by simpa using h3)
    (.inl ⟨by simp [Region.wanted, hg], fun w _ => hy w⟩) hM ?_
  rw [hd]
  exact h _ (hk.put d v hdn)
/-- A loop: g falls, R holds at the head. -/
theorem c_loop {P : Program} {Q : Exit → Act → World → Prop} {a : Act} {w : World} {id : Nat} {body : Code} (R : Nat → Act → World → Prop) (g0 : Nat) (h0 : R g0 a w)
    (hb : ∀ g a w, R g a w → body.wp P (Exit.then (fun a' w' => ∃ g', g' < g ∧ R g' a' w') (Exit.inBlock id Q)) a w) : (Code.block id (.loop body)).wp P Q a w :=
  wp_block (wp_loop_ghost (fun g a w => R g a w) g0 h0 fun g a w h => hb g a w h)

section
variable {w0 w w' : World} {X Z : Nat → Prop} {m : List Ent} {i e sz n n' : Nat} {v v' : Value} {xs xs' : List Value}

/-- a row that a callee has made -/
theorem Mem.rowNew (h : Mem w0 X Z m w) (hr : RowTo w e sz (.slice none 0 0) n xs v w') : Mem w0 X Z (.row e sz v n xs :: m) w' :=
  (h.addNil e sz).rowCall (i := 0) rfl hr
/-- a row that was made here -/
theorem Mem.rowOut (h : Mem w0 Nob Z m w) (hi : entAt m i = some (.row e sz v n xs)) : RowTo w0 e sz (.slice none 0 0) n xs v w := by
  refine ⟨h.agr.mono fun _ _ x => x.elim, h.all _ (entAt_mem hi), fun k hk => ?_⟩
  have hb := h.own k (muts_mem (entAt_mem hi) (by simp [Ent.mut, hk]))
  by_cases hlt : k < w0.heap.size
  · exact (hb.2 hlt).elim
  · exact .inr (by omega)
theorem src_row {P : Program} {t : Nat} (ht : tyElem P t = some e) (h : w.ownsRow 0 e sz v n xs) (h1 : oneCells xs = true) : Src P sz t v n xs w := by
  rcases h.2 with ⟨rfl, rfl⟩ | ⟨g, cap, cur, rfl, _⟩
  · have hx : xs = [] := List.eq_nil_of_length_eq_zero (by simpa using h.1)
    subst hx
    exact src_nil ht
  · exact Src.ofSlice w (tyElem_run ht) ⟨g, 0, none⟩ n cap xs h.1 (h.cells (g := g) rfl) (oneCells_spec h1)
end
end Go.Mk
/- Fields, trees, tags in memory: their cells. No statement of a seat stands here. -/
namespace Go.Mk
open Go

mutual
/-- a field of the reference -/
def ddFd : Fld → DD
  | .mk kind fr to nu tag df of sub => .agg [.v (.int .i64 (kind : Int)), .v (.int .i64 fr), .v (.int .i64 to), .v (.int .i64 nu), .v (.int .i64 tag), .v (.int .i64 df), .v (.int .i64 (of : Int)), .sl false 8 (ddFds sub)]
def ddFds : List Fld → List DD
  | [] => []
  | f :: r => ddFd f :: ddFds r
end
theorem ddFds_map : ∀ l : List Fld, ddFds l = l.map ddFd
  | [] => rfl
  | f :: r => by simp [ddFds, ddFds_map r]

theorem rep_Fd {w : World} {Y : Nat → Prop} {f : Fld} {c : List Value} (h : Rep w Y (ddFd f) c) :
    ∃ p cap, c = [.int .i64 (f.kind : Int), .int .i64 f.fr, .int .i64 f.to, .int .i64 f.nu, .int .i64 f.tag, .int .i64 f.df, .int .i64 (f.of : Int), .slice p f.sub.length cap] ∧ Rep w Y (.sl false 8 (f.sub.map ddFd)) [.slice p f.sub.length cap] := by
  cases f with
  | mk kind fr to nu tag df of sub =>
    simp only [ddFd, ddFds_map] at h
    have g0 := rep_agg_inv h
    obtain ⟨c0, rfl, g1⟩ := g0.unV
    obtain ⟨c1, rfl, g2⟩ := g1.unV
    obtain ⟨c2, rfl, g3⟩ := g2.unV
    obtain ⟨c3, rfl, g4⟩ := g3.unV
    obtain ⟨c4, rfl, g5⟩ := g4.unV
    obtain ⟨c5, rfl, g6⟩ := g5.unV
    obtain ⟨c6, rfl, g7⟩ := g6.unV
    obtain ⟨x, c9, rfl, h1, g8⟩ := g7.un1 (one1_sl _ _ _)
    obtain rfl := g8.unNil
    obtain ⟨p, cap, rfl⟩ := rep_sl_len h1
    rw [List.length_map] at h1 ⊢
    exact ⟨p, cap, rfl, h1⟩

/-- a tree's five cells, its slices open -/
theorem rep_T7 {w : World} {Y : Nat → Prop} {t : T} {c : List Value} (h : Rep w Y (ddT t) c) : ∃ ps caps p cap pu capu, c = [.int .i64 t.n, .slice ps t.s.length caps, .bool t.z, .slice p t.l.length cap, .slice pu t.u.length capu] := by
  obtain ⟨cs, cl, cu, rfl, h1, h2, h3⟩ := rep_T h
  obtain ⟨ps, caps, rfl⟩ := rep_sl_len h1
  obtain ⟨p, cap, rfl⟩ := rep_sl_len h2
  obtain ⟨pu, capu, rfl⟩ := rep_sl_len h3
  exact ⟨ps, caps, p, cap, pu, capu, by simp⟩
theorem rep_Tag {w : World} {Y : Nat → Prop} {u : Nat × List UInt8} {c : List Value} (h : Rep w Y (ddTag u) c) : ∃ p cap, c = [.int .u32 (u.1 : Int), .slice p u.2.length cap] ∧ Rep w Y (ddBs u.2) [.slice p u.2.length cap] := by
  have g0 := rep_agg_inv h
  obtain ⟨c2, rfl, g1⟩ := g0.unV
  obtain ⟨x, c3, rfl, h1, g2⟩ := g1.un1 (one1_sl _ _ _)
  obtain rfl := g2.unNil
  obtain ⟨p, cap, rfl⟩ := rep_sl_len h1
  exact ⟨p, cap, by simp, by rw [List.length_map] at h1; exact h1⟩
theorem rep_Tag2 {w : World} {Y : Nat → Prop} {u : Nat × List UInt8} {x y : Value} (h : Rep w Y (ddTag u) [x, y]) : Rep w Y (ddBs u.2) [y] := by
  obtain ⟨p, cap, he, h⟩ := rep_Tag h
  simp only [List.cons.injEq, and_true] at he
  rw [he.2]; exact h
theorem rep_Fd8 {w : World} {Y : Nat → Prop} {f : Fld} {a b c d e g i x : Value} (h : Rep w Y (ddFd f) [a, b, c, d, e, g, i, x]) : Rep w Y (.sl false 8 (f.sub.map ddFd)) [x] := by
  obtain ⟨p, cap, he, h⟩ := rep_Fd h
  simp only [List.cons.injEq, and_true] at he
  rw [he.2.2.2.2.2.2.2]; exact h
theorem rep_B {w : World} {Y : Nat → Prop} {b : UInt8} {c : List Value} (h : Rep w Y (ddB b) c) : c = [.int .u8 (b.toNat : Int)] := by simpa only [ddB, Rep] using h
theorem rep_Tag_mk {w : World} {Y : Nat → Prop} {u : Nat × List UInt8} {y : Value} (h : Rep w Y (ddBs u.2) [y]) : Rep w Y (ddTag u) [.int .u32 (u.1 : Int), y] :=
  rep_agg (RepL.cons1 (rep_v _) (RepL.cons1 h RepL.nil))
/-- fewer things of a slice -/
theorem rep_sl_take {w : World} {Y : Nat → Prop} {esz : Nat} {l : List DD} {p : Option Addr} {n cap : Nat} (h : Rep w Y (.sl false esz l) [.slice p n cap]) (k : Nat) (hk : k ≤ n) : k ≤ cap ∧ Rep w Y (.sl false esz (l.take k)) [.slice p k cap] := by
  rcases rep_sl h with ⟨rfl, q, he, _⟩ | ⟨b, off, cap', cs, he, h2, h3, h4⟩
  · simp only [Value.slice.injEq] at he
    obtain ⟨rfl, rfl, rfl⟩ := he
    have : k = 0 := by omega
    subst this
    exact ⟨by omega, by simpa using h⟩
  · simp only [Value.slice.injEq] at he
    obtain ⟨rfl, rfl, rfl⟩ := he
    refine ⟨by omega, ?_⟩
    simp only [Rep]
    refine .inr ⟨b, off, cap, cs.take (k * esz), by rw [List.length_take]; congr 3; omega, by rw [List.length_take]; omega, ?_, ?_⟩
    · intro j u hj
      rw [List.getElem?_take] at hj
      split at hj
      · exact h3 j u hj
      · cases hj
    · clear h3 h
      have : ∀ (l : List DD) (cs : List Value) (k : Nat), k ≤ l.length → RepE w Y esz l cs → RepE w Y esz (l.take k) (cs.take (k * esz)) := by
        intro l
        induction l with
        | nil => intro cs k hk h; have : k = 0 := by simpa using hk
                 subst this; simp [RepE]
        | cons d r ih =>
          intro cs k hk h
          cases k with
          | zero => simp [RepE]
          | succ k =>
            simp only [RepE] at h
            obtain ⟨c1, c2, rfl, h1, h2, h3⟩ := h
            simp only [List.take_succ_cons, RepE]
            refine ⟨c1, c2.take (k * esz), ?_, h1, h2, ih c2 k (by simpa using hk) h3⟩
            rw [Nat.add_mul, Nat.one_mul, List.take_append, h1, List.take_of_length_le (by omega)]
            congr 2
            omega
      exact this l cs k hk h4
end Go.Mk
/- The laws' small functions, as functions on trees. No statement of a seat stands here. -/
namespace Go.Mk
open Go

def fitU3 (u : Nat × List UInt8) : Bool := !decide (((u.2.length : Nat) : Int) > 2147483647)
def fitU2 (us : List (Nat × List UInt8)) : Bool := !decide (((us.length : Nat) : Int) > 2147483647) && us.all fitU3
def fitT (t : T) : Bool := !decide (((t.s.length : Nat) : Int) > 2147483647) && !decide (((t.l.length : Nat) : Int) > 2147483647) && fitU2 t.u

theorem all_succ {α : Type} {f : α → Bool} {l : List α} {k : Nat} {d : α} (h : (l.take k).all f = true) (hlt : k < l.length) (hc : (!f (l.getD k d)) = false) : (l.take (k + 1)).all f = true := by
  rw [List.take_succ_eq_append_getElem hlt, List.all_append, h]
  have : l.getD k d = l[k] := by simp [hlt]
  rw [this] at hc
  simpa using hc
theorem all_false {α : Type} {f : α → Bool} {l : List α} {k : Nat} {d : α} (hlt : k < l.length) (hc : (!f (l.getD k d)) = true) : l.all f = false := by
  have : l.getD k d = l[k] := by simp [hlt]
  rw [this] at hc
  rw [← Bool.not_eq_true, List.all_eq_true]
  intro h
  have := h l[k] (List.getElem_mem hlt)
  simp [this] at hc
theorem take_all {α : Type} {f : α → Bool} {l : List α} (h : (l.take l.length).all f = true) : l.all f = true := by rwa [List.take_length] at h

theorem take_eq_succ {a b : List UInt8} {k : Nat} (h : a.take k = b.take k) (hl : a.length = b.length) (hlt : k < a.length) (he : a.getD k 0 = b.getD k 0) : a.take (k + 1) = b.take (k + 1) := by
  rw [List.take_succ_eq_append_getElem hlt, List.take_succ_eq_append_getElem (by omega : k < b.length), h]
  have h1 : a.getD k 0 = a[k] := by simp [hlt]
  have h2 : b.getD k 0 = b[k] := by simp [hl ▸ hlt]
  rw [h1, h2] at he
  rw [he]
theorem u8_eq_of {x y : UInt8} (h : ((x.toNat : Nat) : Int) = y.toNat) : x = y := UInt8.toNat_inj.1 (by omega)

theorem known_take_succ (fs : List Fld) (k : Nat) (d : Fld) (hlt : k < fs.length) : known (fs.take (k + 1)) = max (known (fs.take k)) (if (fs.getD k d).tag ≥ 0 then (fs.getD k d).tag.toNat + 1 else 0) := by
  have h : ∀ (l : List Fld) (f : Fld), known (l ++ [f]) = max (known l) (if f.tag ≥ 0 then f.tag.toNat + 1 else 0) := by
    intro l f
    induction l with
    | nil => simp [known]
    | cons x r ih => simp only [List.cons_append, known, ih]; omega
  rw [List.take_succ_eq_append_getElem hlt, h]
  simp [hlt]
/-- the tags are small -/
def tagsOk (fs : List Fld) : Bool := fs.all fun f => decide (f.tag < 1000000)
theorem tagsOk_getD {fs : List Fld} (h : tagsOk fs = true) {k : Nat} (hlt : k < fs.length) (d : Fld) : (fs.getD k d).tag < 1000000 := by
  have := List.all_eq_true.1 h fs[k] (List.getElem_mem hlt)
  simpa [hlt] using this
theorem known_lt {fs : List Fld} (h : tagsOk fs = true) : known fs ≤ 1000000 := by
  induction fs with
  | nil => simp [known]
  | cons f r ih =>
    simp only [tagsOk, List.all_cons, Bool.and_eq_true, decide_eq_true_eq] at h
    have := ih h.2
    simp only [known]
    split <;> omega
def FNIL : Fld := .mk 0 0 0 0 0 0 0 []
theorem known_take_le {fs : List Fld} (h : tagsOk fs = true) (k : Nat) : known (fs.take k) ≤ 1000000 := known_lt (by
  simp only [tagsOk, List.all_eq_true] at h ⊢
  exact fun x hx => h x (List.mem_of_mem_take hx))
end Go.Mk
namespace Go.Mk
open Go
theorem width_eq (k : Nat) : width k = if k = 1 then 1 else if k = 2 ∨ k = 5 then 2 else if k = 3 then 4 else 8 := by
  match k with
  | 0 => rfl
  | 1 => rfl
  | 2 => rfl
  | 3 => rfl
  | 4 => rfl
  | 5 => rfl
  | k + 6 => 
    have h1 : ¬ k + 6 = 1 := by omega
    have h2 : ¬ (k + 6 = 2 ∨ k + 6 = 5) := by omega
    have h3 : ¬ k + 6 = 3 := by omega
    rw [if_neg h1, if_neg h2, if_neg h3]
    rfl
theorem rep_whole {w : World} {Y : Nat → Prop} {s : List UInt8} {p : Option Addr} {cap : Nat} (h : Rep w Y (.sl false 1 ((s.map ddB).take (whole s).length)) [.slice p (whole s).length cap]) : Rep w Y (ddBs (whole s)) [.slice p (whole s).length cap] := by
  have e : (s.map ddB).take (whole s).length = (whole s).map ddB := by
    rw [← List.map_take]
    congr 1
    simp only [whole, List.length_take]
    rcases Nat.le_total 32767 s.length with h | h
    · rw [Nat.min_eq_left h]
    · rw [Nat.min_eq_right h, List.take_length, List.take_of_length_le h]
  rw [e] at h
  exact h
theorem rep_things {w : World} {Y : Nat → Prop} {s : List T} {p : Option Addr} {cap : Nat} (h : Rep w Y (.sl false 5 ((s.map ddT).take (things s).length)) [.slice p (things s).length cap]) : Rep w Y (.sl false 5 ((things s).map ddT)) [.slice p (things s).length cap] := by
  have e : (s.map ddT).take (things s).length = (things s).map ddT := by
    rw [← List.map_take]
    congr 1
    simp only [things, List.length_take]
    rcases Nat.le_total 32767 s.length with h | h
    · rw [Nat.min_eq_left h]
    · rw [Nat.min_eq_right h, List.take_length, List.take_of_length_le h]
  rw [e] at h
  exact h
section
variable {P : Program} {ops : Array Oper} {Q : Exit → Act → World → Prop} {rest : List Oper} {a : Act} {w : World} {n : Nat} {l : List (Nat × Value)}
variable {d : Nat} {ty : Nat} {ps : String} {af : Array Edge}
theorem o_max {x y : Operand} {tys : Array Nat} {k k' : IntKind} {i j c : Int} (hk : Kn n l a) (hx : ev l x = some (.int k i)) (hy : ev l y = some (.int k' j)) (hc : max i j = c) (hd : Nat.blt d n = true) (K : ∀ a', Kn n ((d, .int k c) :: l) a' → wpList P ops Q rest a' w) :
    wpList P ops Q (⟨some d, .call ⟨.builtin .max, #[x, y], tys⟩, ty, ps, af, none⟩ :: rest) a w := by
  refine step_runs hk rfl rfl hd ?_ K
  subst hc
  unfold Runs execOp
  simp [hk.eval hx, hk.eval hy, resolve, invoke, builtin, Builtin.max_, Builtin.max2]
  by_cases h : j > i
  · rw [if_pos h, Int.max_eq_right (by omega)]
  · rw [if_neg h, Int.max_eq_left (by omega)]
end
end Go.Mk
/- Rows of octets out of pieces; bits. No statement of a seat stands here. -/
namespace Go.Mk
open Go

section
variable {w0 w w' : World} {X Z : Nat → Prop} {m : List Ent} {i e sz n n' : Nat} {v v' : Value} {xs xs' : List Value}

/-- a block, as a row that is full -/
theorem Mem.blkRow (h : Mem w0 X Z m w) {b : Nat} {cs : List Value} (hi : entAt m i = some (.blk b cs e)) (hl : cs.length = n * sz) (hn : n ≤ maxLen) : Mem w0 X Z (putAt m i (.row e sz (.slice (some ⟨b, 0, none⟩) n n) n cs)) w := by
  have hmu : muts (putAt m i (.row e sz (.slice (some ⟨b, 0, none⟩) n n) n cs)) = muts m := muts_putAt hi (by simp [Ent.mut, Value.ownBlock])
  have hy : Yof w0 Z (putAt m i (.row e sz (.slice (some ⟨b, 0, none⟩) n n) n cs)) = Yof w0 Z m := by funext x; simp [Yof, hmu]
  refine ⟨h.agr, h.sub, by rw [hmu]; exact h.nodup, by rw [hmu]; exact h.own, ?_⟩
  rw [hy]
  intro x hx
  rcases mem_putAt hx with rfl | ⟨j, _, hj⟩
  · have hb := h.all _ (entAt_mem hi)
    simp only [Ent.holds] at hb ⊢
    refine ⟨hl, .inr ⟨b, n, cs.toArray, rfl, Nat.zero_le _, hb, Nat.le_refl _, hn, by simpa using hl, ?_⟩⟩
    rw [← hl]
    exact List.take_length
  · exact h.all x (entAt_mem hj)

theorem src_bs {P : Program} {Y : Nat → Prop} {t : Nat} {s : List UInt8} (ht : tyElem P t = some e) (h : Rep w Y (ddBs s) [v]) : Src P 1 t v s.length (bv s) w := by
  rcases rep_sl h with ⟨h1, p, rfl, _⟩ | ⟨b, off, cap, cs, rfl, h2, h3, h4⟩
  · have : s = [] := by simpa using h1
    subst this
    cases p with
    | none => exact src_nil ht
    | some a => exact Src.ofSlice w (tyElem_run ht) a 0 0 [] rfl (fun j u hj => by simp at hj) (fun v hv => by cases hv)
  · have hcs := repE_bs h4
    subst hcs
    rw [List.length_map]
    exact src_cells ht (by simp [bv_length]) h3.at_ (bv_one s)
end

theorem and127_u64 (n : Nat) (h : n < 18446744073709551616) : ibits .and .u64 (n : Int) 127 = some ((n % 128 : Nat) : Int) := by
  have h2 : (BitVec.ofInt 64 (n : Int) &&& BitVec.ofInt 64 127).toNat = n % 128 := by
    have h1 : (BitVec.ofInt 64 127) = 127#64 := by decide
    rw [h1, BitVec.toNat_and]
    have h2 : (127#64).toNat = 2 ^ 7 - 1 := by decide
    rw [h2, Nat.and_two_pow_sub_one_eq_mod]
    have h3 : (BitVec.ofInt 64 (n : Int)).toNat = n := by rw [BitVec.toNat_ofInt]; omega
    rw [h3]
  show some (IntKind.u64.wrap (((BitVec.ofInt 64 (n : Int) &&& BitVec.ofInt 64 127).toNat : Nat) : Int)) = _
  rw [h2]
  congr 1
  simp only [IntKind.wrap, IntKind.bits, IntKind.signed]
  simp
  omega
theorem or128_u8 (n : Nat) (h : n < 128) : ibits .or .u8 (n : Int) 128 = some ((n + 128 : Nat) : Int) := by
  have h2 : ∀ k : Fin 128, (BitVec.ofInt 8 (k.val : Int) ||| BitVec.ofInt 8 128).toNat = k.val + 128 := by decide
  have h3 := h2 ⟨n, h⟩
  show some (IntKind.u8.wrap (((BitVec.ofInt 8 (n : Int) ||| BitVec.ofInt 8 128).toNat : Nat) : Int)) = _
  simp only at h3
  rw [h3, IntKind.wrap_u8]
  congr 1
  omega
theorem uvarint_length (n : Nat) : ∀ k, n < 128 ^ k → 0 < k → (uvarint n).length ≤ k := by
  intro k
  induction k generalizing n with
  | zero => intro _ h; omega
  | succ k ih =>
    intro h _
    unfold uvarint
    split
    · rename_i hn
      have hk : 0 < k := by
        rcases Nat.eq_zero_or_pos k with rfl | hk
        · simp at h; omega
        · exact hk
      have := ih (n / 128) (by rw [Nat.pow_succ] at h; omega) hk
      simp only [List.length_cons]
      omega
    · simp
theorem uvarint_len10 (n : Nat) (h : n < 18446744073709551616) : (uvarint n).length ≤ 10 := uvarint_length n 10 (by omega) (by omega)
theorem counted_len {flex null : Bool} {n size : Nat} (hs : size ≤ 8) (hn : n ≤ room) : (counted flex null n size).length ≤ 10 := by
  unfold room at hn
  unfold counted
  split
  · simp
  · split
    · exact uvarint_len10 _ (by omega)
    · split <;> rw [fixed_length] <;> omega
theorem bv_snoc (xs : List UInt8) (n : Int) : bv xs ++ [.int .u8 (IntKind.u8.wrap n)] = bv (xs ++ [u8 n]) := by rw [bv_append, bv_u8]; rfl
theorem fixed_succ (n : Int) (k : Nat) : fixed n (k + 1) = u8 (n / 2 ^ (8 * k)) :: fixed n k := rfl
theorem uvarint_big {n : Nat} (h : n > 127) : uvarint n = UInt8.ofNat (n % 128 + 128) :: uvarint (n / 128) := by rw [uvarint]; rw [dif_pos h]
theorem uvarint_small {n : Nat} (h : ¬ n > 127) : uvarint n = [UInt8.ofNat n] := by rw [uvarint]; rw [dif_neg h]
theorem bv_snocN (xs : List UInt8) (n : Nat) (h : n < 256) : bv xs ++ [.int .u8 (n : Int)] = bv (xs ++ [UInt8.ofNat n]) := by
  rw [bv_append]
  have : (UInt8.ofNat n).toNat = n := by simp [UInt8.toNat_ofNat']; omega
  simp only [bv, List.map_cons, List.map_nil, this]

section
variable {P : Program} {ops : Array Oper} {Q : Exit → Act → World → Prop} {rest : List Oper} {a : Act} {w : World} {n : Nat} {l : List (Nat × Value)}
variable {d : Nat} {ty : Nat} {ps : String} {af : Array Edge}
theorem o_shrV {x y : Operand} {t t' s : Nat} {k yk : IntKind} {i c : Int} (hk : Kn n l a) (hx : ev l x = some (.int k i)) (hy : ev l y = some (.int yk (s : Int))) (hs : s ≤ k.bits) (hc : i / 2 ^ s = c) (hd : Nat.blt d n = true)
    (K : ∀ a', Kn n ((d, .int k c) :: l) a' → wpList P ops Q rest a' w) :
    wpList P ops Q (⟨some d, .binOp .shr t x y t', ty, ps, af, none⟩ :: rest) a w := by
  refine step_runs hk rfl rfl hd ?_ K
  subst hc
  unfold Runs execOp
  have h1 : ¬ ((s : Int) < 0) := by omega
  have h2 : min (s : Int).toNat k.bits = s := by simp; omega
  simp only [Sem.run_bind, hk.eval hx, hk.eval hy, eqGuard_at_int, Sem.run_pure, Result.andThen_ok, binOp, Op.shift, if_neg h1, h2]
  rw [Int.fdiv_eq_ediv_of_nonneg _ (Int.pow_nonneg (by decide))]
end
end Go.Mk
namespace Go.Mk
open Go
theorem T_ind {p : T → Prop} (h : ∀ t, (∀ x ∈ t.l, p x) → p t) : ∀ t, p t := by
  have key : ∀ (n : Nat) (t : T), SizeOf.sizeOf t < n → p t := by
    intro n
    induction n with
    | zero => intro t ht; omega
    | succ n ih =>
      intro t ht
      refine h t fun x hx => ih x ?_
      cases t with
      | mk a s z l u =>
        have h1 : SizeOf.sizeOf x < SizeOf.sizeOf l := List.sizeOf_lt_of_mem hx
        simp only [T.mk.sizeOf_spec] at ht
        omega
  exact fun t => key _ t (Nat.lt_succ_self _)
theorem getD_mem {α : Type} {l : List α} {k : Nat} {d : α} (h : k < l.length) : l.getD k d ∈ l := by
  have : l.getD k d = l[k] := by simp [h]
  rw [this]; exact List.getElem_mem h
end Go.Mk
/- Rows that are written in place; tags laid among tags. No statement of a seat stands here. -/
namespace Go.Mk
open Go

theorem row_form {w : World} {e sz n : Nat} {v : Value} {xs : List Value} (h : w.ownsRow 0 e sz v n xs) : ∃ p cap, v = .slice p n cap := by
  rcases h.2 with ⟨rfl, rfl⟩ | ⟨g, cap, cur, rfl, _⟩
  · exact ⟨_, _, rfl⟩
  · exact ⟨_, _, rfl⟩
theorem row_ptr {w : World} {e sz n cap : Nat} {p : Option Addr} {xs : List Value} (h : w.ownsRow 0 e sz (.slice p n cap) n xs) (hn : 0 < n) : ∃ g, p = some ⟨g, 0, none⟩ := by
  rcases h.2 with ⟨h1, h2⟩ | ⟨g, cap', cur, h1, _⟩
  · omega
  · simp only [Value.slice.injEq] at h1
    exact ⟨g, h1.1⟩

section
variable {P : Program} {ops : Array Oper} {Q : Exit → Act → World → Prop} {rest : List Oper} {a : Act} {w w0 : World} {n : Nat} {l : List (Nat × Value)} {X Z : Nat → Prop} {m : List Ent}
variable {d : Nat} {ty : Nat} {ps : String} {af : Array Edge}

theorem Mem.rowCells (h : Mem w0 X Z m w) {i e sz k cap g off : Nat} {xs vs : List Value} (hi : entAt m i = some (.row e sz (.slice (some ⟨g, 0, none⟩) k cap) k xs)) (hv : (xs.drop off).take vs.length = vs) :
    ∀ j u, vs[j]? = some u → w.cell? ⟨g, 0 + off + j, none⟩ = some u := fun j u hj => by
  have hr := h.row hi
  have hlt : j < vs.length := (List.getElem?_eq_some_iff.1 hj).1
  rw [← hv, List.getElem?_take, if_pos hlt, List.getElem?_drop] at hj
  have := hr.cells (g := g) rfl (off + j) u hj
  rw [Addr.add_lit] at this
  rw [Nat.add_assoc]
  exact this
theorem Mem.rowCell (h : Mem w0 X Z m w) {i e sz k cap g off o : Nat} {xs : List Value} {u : Value} (hi : entAt m i = some (.row e sz (.slice (some ⟨g, 0, none⟩) k cap) k xs)) (hv : xs[off + o]? = some u) :
    w.cell? ⟨g, 0 + off + o, none⟩ = some u := by
  have hr := h.row hi
  have := hr.cells (g := g) rfl (off + o) u hv
  rw [Addr.add_lit] at this
  rw [Nat.add_assoc]
  exact this

theorem o_storeRow {x y : Operand} {t s i e sz k cap g off : Nat} {bl : Bool} {v : Value} {xs vs : List Value} (hk : Kn n l a) (hm : Mem w0 X Z m w) (ht : tySz P t = some (bl, s))
    (hx : ev l x = some (.pointer (some ⟨g, off, none⟩))) (hy : ev l y = some v) (hvs : cellsOf v = vs) (hs : vs.length = s) (h1 : oneCells vs = true)
    (hi : entAt m i = some (.row e sz (.slice (some ⟨g, 0, none⟩) k cap) k xs)) (ho : off + vs.length ≤ k * sz)
    (K : ∀ a' w', Kn n l a' → Mem w0 X Z (putAt m i (.row e sz (.slice (some ⟨g, 0, none⟩) k cap) k (spl xs off vs))) w' → wpList P ops Q rest a' w') :
    wpList P ops Q (⟨none, .store t x y, ty, ps, af, none⟩ :: rest) a w := by
  subst hvs
  have hrow := hm.row hi
  obtain ⟨hl, hcase⟩ := hrow
  rcases hcase with ⟨h0, _⟩ | ⟨g', cap', cur, h0, _, hg, hnc, hcm, hcs, htake⟩
  · simp at h0
  · simp only [Value.slice.injEq, Option.some.injEq, Addr.mk.injEq, and_true, true_and] at h0
    obtain ⟨rfl, rfl⟩ := h0
    have hkc : k * sz ≤ cap * sz := Nat.mul_le_mul_right _ hnc
    have hst := run_storeCells_at P g off e (cellsOf v) 0 cur w hg (by simp; omega) (oneCells_spec h1)
    rw [Nat.add_zero] at hst
    have hcl : off + (cellsOf v).length ≤ cur.toList.length := by simp; omega
    refine step_runsU (w' := w.setRow g (spl cur.toList off (cellsOf v)).toArray) hk rfl rfl ?_ fun a' hk' => K a' _ hk' ?_
    · unfold RunsU execOp
      have hsz : v.cells.size = s := by rw [cellsOf_eq]; simpa using hs
      simp [hk.eval hx, hk.eval hy, Instr.storeAt, Instr.sureAddr, storeVar, sizeOf_run ht, hsz]
      rw [show v.cells.toList = cellsOf v by rw [cellsOf_eq], hst]
      rw [spl_eq hcl]
      rfl
    · refine hm.rowStep hi ((setRow_agr w g _).mono fun x _ hx => by simp [Value.ownBlock, hx]) ?_ (fun k hk => .inl hk)
      refine ⟨by rw [spl_length (by omega)]; exact hl, .inr ⟨g, cap, _, rfl, Nat.zero_le _, setRow_heap w g cur _ e _ hg, hnc, hcm, ?_, ?_⟩⟩
      · rw [List.size_toArray, spl_length hcl]; simpa using hcs
      · rw [spl_eq hcl, spl_eq (by omega), ← htake]
        rw [← htake] at hl
        simp only [List.length_take, Array.length_toList] at hl
        apply List.ext_getElem?
        intro j
        simp only [List.getElem?_take, List.getElem?_append, List.length_append, List.length_take, List.getElem?_drop, Array.length_toList]
        have e1 : min off (min (k * sz) cur.size) = min off cur.size := by omega
        rw [e1]
        by_cases hj : j < k * sz
        · rw [if_pos hj]
          by_cases h2 : j < min off cur.size + (cellsOf v).length
          · rw [if_pos h2, if_pos h2]
            by_cases h3 : j < min off cur.size
            · rw [if_pos h3, if_pos h3]
              have : j < off := by omega
              rw [if_pos this, if_pos this, if_pos hj]
            · rw [if_neg h3, if_neg h3]
          · rw [if_neg h2, if_neg h2]
            have e2 : off + (cellsOf v).length + (j - (min off cur.size + (cellsOf v).length)) = j := by omega
            rw [e2, if_pos hj]
        · rw [if_neg hj]
          have h2 : ¬ j < min off cur.size + (cellsOf v).length := by omega
          rw [if_neg h2]
          have e2 : off + (cellsOf v).length + (j - (min off cur.size + (cellsOf v).length)) = j := by omega
          rw [e2, if_neg hj]
end

theorem RepE.set {w : World} {Y : Nat → Prop} {esz : Nat} : ∀ {l : List DD} {c : List Value}, RepE w Y esz l c → ∀ {j : Nat} {d : DD} {cs : List Value}, j < l.length → Rep w Y d cs → cs.length = esz → RepE w Y esz (l.set j d) (spl c (j * esz) cs)
  | [], c, _, j, d, cs, hj, _, _ => by simp at hj
  | d0 :: r, c, h, j, d, cs, hj, hd, hl => by
    have hlen := h.length
    simp only [RepE] at h
    obtain ⟨c1, c2, rfl, h1, h2, h3⟩ := h
    have h3l := h3.length
    cases j with
    | zero =>
      rw [Nat.zero_mul, List.set_cons_zero, spl_eq (by simp only [List.length_append]; omega)]
      simp only [List.take_zero, List.nil_append, Nat.zero_add, RepE]
      exact ⟨cs, c2, by rw [hl, ← h1, List.drop_left], hl, hd, h3⟩
    | succ j =>
      rw [List.set_cons_succ]
      simp only [RepE]
      have hj' : j < r.length := by simpa using hj
      have hjl : j * esz + esz ≤ r.length * esz := by rw [← Nat.succ_mul]; exact Nat.mul_le_mul_right _ hj'
      refine ⟨c1, spl c2 (j * esz) cs, ?_, h1, h2, h3.set hj' hd hl⟩
      rw [spl_eq (by simp only [List.length_append, Nat.succ_mul]; omega), spl_eq (by omega), Nat.succ_mul]
      have e1 : (c1 ++ c2).take (j * esz + esz) = c1 ++ c2.take (j * esz) := by
        rw [List.take_append, List.take_of_length_le (by omega)]; congr 2; omega
      have e2 : (c1 ++ c2).drop (j * esz + esz + cs.length) = c2.drop (j * esz + cs.length) := by
        rw [List.drop_append, List.drop_eq_nil_of_le (by omega), List.nil_append]; congr 1; omega
      rw [e1, e2]
      simp

theorem Mem.elsSet {w0 w : World} {X Z : Nat → Prop} {m : List Ent} (hm : Mem w0 X Z m w) {i sz j : Nat} {ds : List DD} {xs c : List Value} {d : DD} (hi : entAt m i = some (.els sz ds xs)) (hj : j < ds.length) (hR : Rep w (Yof w0 Z m) d c) (hl : c.length = sz) :
    Mem w0 X Z (putAt m i (.els sz (ds.set j d) (spl xs (j * sz) c))) w :=
  hm.putFrozen hi rfl rfl ((hm.els hi).set hj hR hl)

/-- the tag of a number, in its cells -/
theorem els_tag {w : World} {Y : Nat → Prop} {us : List (Nat × List UInt8)} {xs : List Value} (h : RepE w Y 2 (us.map ddTag) xs) {i : Nat} (hi : i < us.length) :
    ∃ p cap, (xs.drop (i * 2)).take 2 = [.int .u32 ((us.getD i (0, [])).1 : Int), .slice p (us.getD i (0, [])).2.length cap] ∧ Rep w Y (ddTag (us.getD i (0, []))) [.int .u32 ((us.getD i (0, [])).1 : Int), .slice p (us.getD i (0, [])).2.length cap] := by
  obtain ⟨h1, h2⟩ := h.get (getD_map ddTag us i (0, []) hi)
  obtain ⟨p, cap, he, _⟩ := rep_Tag h2
  refine ⟨p, cap, he, ?_⟩
  rw [← he]; exact h2
theorem cell_of_take2 {xs : List Value} {k : Nat} {a b : Value} (h : (xs.drop k).take 2 = [a, b]) : xs[k + 0]? = some a ∧ xs[k + 1]? = some b := by
  have h0 : ((xs.drop k).take 2)[0]? = some a := by rw [h]; rfl
  have h1 : ((xs.drop k).take 2)[1]? = some b := by rw [h]; rfl
  simp only [List.getElem?_take, List.getElem?_drop] at h0 h1
  exact ⟨by simpa using h0, by simpa using h1⟩

/-! ### laying a tag among others -/
def tagd : Nat × List UInt8 := (0, [])
theorem ins_same {t : Nat × List UInt8} : ∀ {out : List (Nat × List UInt8)} {i : Nat}, (∀ j < i, (out.getD j (0, [])).1 < t.1) → i < out.length → (out.getD i (0, [])).1 = t.1 → insTag t out = out
  | [], i, _, h, _ => by simp at h
  | x :: r, 0, _, _, he => by
    have he' : x.1 = t.1 := by simpa using he
    simp [insTag, he']
  | x :: r, i + 1, hs, hl, he => by
    have hx : x.1 < t.1 := by simpa using hs 0 (by omega)
    have := ins_same (t := t) (out := r) (i := i) (fun j hj => by simpa using hs (j + 1) (by omega)) (by simpa using hl) (by simpa using he)
    simp [insTag, hx, this]
theorem ins_at {t : Nat × List UInt8} : ∀ {out : List (Nat × List UInt8)} {i : Nat}, (∀ j < i, (out.getD j (0, [])).1 < t.1) → i ≤ out.length → (i < out.length → t.1 < (out.getD i (0, [])).1) → insTag t out = out.take i ++ t :: out.drop i
  | [], i, _, h, _ => by
    have : i = 0 := by simpa using h
    subst this; rfl
  | x :: r, 0, _, _, he => by
    have he' : t.1 < x.1 := by simpa using he
    have h1 : ¬ x.1 < t.1 := by omega
    have h2 : ¬ x.1 = t.1 := by omega
    simp [insTag, h1, h2]
  | x :: r, i + 1, hs, hl, he => by
    have hx : x.1 < t.1 := by simpa using hs 0 (by omega)
    have := ins_at (t := t) (out := r) (i := i) (fun j hj => by simpa using hs (j + 1) (by omega)) (by simpa using hl) (fun h => by simpa using he (by simpa using h))
    simp [insTag, hx, this]

/-- what stands behind k tags -/
def unkF (kn : Nat) (us : List (Nat × List UInt8)) : List (Nat × List UInt8) := us.foldl (fun out t => if t.1 < kn then out else insTag t out) []
theorem unkF_succ (kn : Nat) (us : List (Nat × List UInt8)) (k : Nat) (h : k < us.length) : unkF kn (us.take (k + 1)) = if (us.getD k (0, [])).1 < kn then unkF kn (us.take k) else insTag (us.getD k (0, [])) (unkF kn (us.take k)) := by
  unfold unkF
  rw [List.take_succ_eq_append_getElem h, List.foldl_append]
  simp [h]
theorem ins_length (t : Nat × List UInt8) : ∀ out : List (Nat × List UInt8), (insTag t out).length ≤ out.length + 1
  | [] => by simp [insTag]
  | x :: r => by
    have := ins_length t r
    simp only [insTag]
    split
    · simp; exact this
    · split <;> simp
theorem unkF_length (kn : Nat) (us : List (Nat × List UInt8)) : ∀ k, (unkF kn (us.take k)).length ≤ k
  | 0 => by simp [unkF]
  | k + 1 => by
    by_cases h : k < us.length
    · rw [unkF_succ kn us k h]
      have := unkF_length kn us k
      split
      · omega
      · have := ins_length (us.getD k (0, [])) (unkF kn (us.take k)); omega
    · have h1 : us.take (k + 1) = us.take k := by rw [List.take_of_length_le (by omega), List.take_of_length_le (by omega)]
      rw [h1]; have := unkF_length kn us k; omega
theorem unkF_eq (fs : List Fld) (us : List (Nat × List UInt8)) : unknownP fs us = unkF (known fs) (us.take 32767) := rfl

/-- one shift to the right -/
theorem shift_step {cur out : List (Nat × List UInt8)} {k : Nat} (hl : cur.length = out.length + 1) (hk : k + 1 ≤ out.length) (h1 : cur.take (k + 1) = out.take (k + 1)) (h2 : cur.drop (k + 2) = out.drop (k + 1)) :
    (cur.set (k + 1) (cur.getD k (0, []))).take k = out.take k ∧ (cur.set (k + 1) (cur.getD k (0, []))).drop (k + 1) = out.drop k := by
  have e0 : cur.getD k (0, []) = out[k] := by
    have : (cur.take (k + 1))[k]? = (out.take (k + 1))[k]? := by rw [h1]
    simp only [List.getElem?_take, Nat.lt_succ_self, if_true] at this
    rw [List.getD_eq_getElem?_getD, this]
    simp [show k < out.length by omega]
  constructor
  · rw [List.take_set, List.set_eq_of_length_le (by simp; omega)]
    have := congrArg (List.take k) h1
    simpa [List.take_take] using this
  · have hc : k + 1 < (cur.set (k + 1) (cur.getD k (0, []))).length := by simp; omega
    rw [List.drop_eq_getElem_cons hc, List.drop_set, if_pos (by omega), h2, List.drop_eq_getElem_cons (show k < out.length by omega), ← e0]
    simp
theorem shift_end {cur out : List (Nat × List UInt8)} {i : Nat} {t : Nat × List UInt8} (hl : cur.length = out.length + 1) (hi : i ≤ out.length) (h1 : cur.take i = out.take i) (h2 : cur.drop (i + 1) = out.drop i) : cur.set i t = out.take i ++ t :: out.drop i := by
  rw [List.set_eq_take_append_cons_drop, if_pos (by omega), h1, h2]
end Go.Mk
namespace Go.Mk
open Go
theorem rep_tags_take {w : World} {Y : Nat → Prop} {us : List (Nat × List UInt8)} {p : Option Addr} {n cap : Nat} (h : Rep w Y (.sl false 2 ((us.map ddTag).take (us.take 32767).length)) [.slice p n cap]) : Rep w Y (ddTags (us.take 32767)) [.slice p n cap] := by
  have e : (us.map ddTag).take (us.take 32767).length = (us.take 32767).map ddTag := by
    rw [← List.map_take]
    congr 1
    rw [List.length_take]
    rcases Nat.le_total 32767 us.length with h | h
    · rw [Nat.min_eq_left h]
    · rw [Nat.min_eq_right h, List.take_length, List.take_of_length_le h]
  rw [e] at h
  exact h
end Go.Mk
namespace Go.Mk
open Go
theorem c_cut2 {P : Program} {Q : Exit → Act → World → Prop} {a : Act} {w : World} {x y : Code} (J : Act → World → Prop) (hx : x.wp P (Exit.then J Q) a w) (hy : ∀ a w, J a w → y.wp P Q a w) : x.wp P (Exit.then (y.wp P Q) Q) a w :=
  Code.wp_mono (fun e a w h => by cases e <;> first | exact hy _ _ h | exact h) hx
end Go.Mk
/- make of octets, copy into them; schemas by induction. No statement of a seat stands here. -/
namespace Go.Mk
open Go

theorem putAt_self : ∀ {m : List Ent} {i : Nat} {e : Ent}, entAt m i = some e → putAt m i e = m
  | [], _, _, h => by simp [entAt] at h
  | x :: r, 0, e, h => by simp only [entAt, Option.some.injEq] at h; subst h; rfl
  | x :: r, i + 1, e, h => by simp only [putAt, putAt_self (m := r) h]

section
variable {P : Program} {ops : Array Oper} {Q : Exit → Act → World → Prop} {rest : List Oper} {a : Act} {w w0 : World} {n : Nat} {l : List (Nat × Value)} {X Z : Nat → Prop} {m : List Ent}
variable {d : Nat} {ty : Nat} {ps : String} {af : Array Edge}

theorem o_makeN {t e by_ N : Nat} {z z0 : Value} (hk : Kn n l a) (hm : Mem w0 X Z m w) (ht : rowTy P t = some (e, 1, by_)) (hz : tyZero P e = some z) (hz0 : cellsOf z = [z0]) (hN : Nat.ble N 1000 = true) (hby : Nat.ble by_ 16 = true) (hd : Nat.blt d n = true)
    (K : ∀ a' b w', Kn n ((d, .slice (some ⟨b, 0, none⟩) N N) :: l) a' → Mem w0 X Z (.blk b (List.replicate N z0) e :: m) w' → wpList P ops Q rest a' w') :
    wpList P ops Q (⟨some d, .makeSlice t (.const (.int .i64 (N : Int))) (.const (.int .i64 (N : Int))), ty, ps, af, none⟩ :: rest) a w := by
  obtain ⟨i, z', h1, h2, h3, h4, h5, rfl⟩ := rowTy_spec ht
  have hz' : z' = z := by unfold tyZero at hz; rw [h2] at hz; simp [h3] at hz; exact hz
  subst hz'
  have hN' := Nat.le_of_ble_eq_true hN
  have hby' := Nat.le_of_ble_eq_true hby
  have hzc : z'.cells = #[z0] := by rw [cellsOf_eq, hz0]
  have hb : (i.bytes : Int) * (N : Int) ≤ 281474976710656 := by
    have : i.bytes * N ≤ 16 * 1000 := Nat.mul_le_mul hby' hN'
    omega
  have hr := run_make (P := P) w t e i z' h1 h2 h3 .i64 .i64 (N : Int) (N : Int) (by omega) (by omega) hb (by omega)
  simp only [Int.toNat_natCast, h5, Nat.mul_one, hzc] at hr
  have e1 : madeCells #[z0] N = (List.replicate N z0).toArray := by
    apply Array.ext'
    simp only [madeCells, Array.toList_map, Array.toList_range]
    apply List.ext_getElem (by simp)
    intro j h1 h2
    simp [Nat.mod_one]
  rw [e1] at hr
  refine step_runs (v := .slice (some ⟨w.heap.size, 0, none⟩) N N) (w' := w.alloc (.cells (List.replicate N z0).toArray e)) hk rfl rfl hd ?_ fun a' hk' => K a' _ _ hk' (hm.alloc _ e)
  unfold Runs execOp
  have hy : a.eval (.const (.int .i64 (N : Int))) = .int .i64 (N : Int) := rfl
  simp only [Sem.run_bind, hy, hr, Result.andThen_ok, Sem.run_pure]

/-- copy of octets into a block of so many -/
theorem o_copyB {x y : Operand} {t tx e eb b i N : Nat} {v : Value} {s : List UInt8} {Y : Nat → Prop} {zs : List Value} (hk : Kn n l a) (hm : Mem w0 X Z m w) (ht : tyElem P t = some e) (hsz : (P.info? e).map (·.size) = some 1) (hx : ev l x = some (.slice (some ⟨b, 0, none⟩) N N)) (hi : entAt m i = some (.blk b zs eb))
    (hl : zs.length = N) (hy : ev l y = some v) (hR : Rep w Y (ddBs s) [v]) (hd : Nat.blt d n = true)
    (K : ∀ a' w', Kn n ((d, .int .i64 ((min s.length N : Nat) : Int)) :: l) a' → Mem w0 X Z (putAt m i (.blk b ((bv s).take N ++ zs.drop s.length) eb)) w' → wpList P ops Q rest a' w') :
    wpList P ops Q (⟨some d, .call ⟨.builtin .copy, #[x, y], #[t, tx]⟩, ty, ps, af, none⟩ :: rest) a w := by
  have hb := hm.all _ (entAt_mem hi)
  simp only [Ent.holds] at hb
  obtain ⟨p, cap, rfl⟩ := rep_sl_len hR
  rw [List.length_map] at hy hR
  by_cases h0 : min s.length N = 0
  · have hrun := run_copy_none (P := P) w t tx ty e (some ⟨b, 0, none⟩) p N N s.length cap (tyElem_run ht) hsz h0
    refine step_runs (v := .int .i64 ((min s.length N : Nat) : Int)) (w' := w) hk rfl rfl hd ?_ fun a' hk' => K a' _ hk' ?_
    · unfold Runs execOp
      simp [resolve, invoke, builtin, hk.eval hx, hk.eval hy, hrun, h0, goInt]
    · have e1 : (bv s).take N ++ zs.drop s.length = zs := by
        rcases Nat.eq_zero_or_pos s.length with h | h
        · have : s = [] := List.eq_nil_of_length_eq_zero h
          subst this; simp [bv]
        · have hN : N = 0 := by omega
          have : zs = [] := List.eq_nil_of_length_eq_zero (by omega)
          subst hN this; simp
      rw [e1, putAt_self hi]; exact hm
  · rcases rep_sl hR with ⟨h1, _⟩ | ⟨g, off, cap', cs, he, h2, h3, h4⟩
    · have : s = [] := by simpa using h1
      subst this; simp at h0
    · simp only [Value.slice.injEq, List.length_map, true_and] at he
      obtain ⟨rfl, rfl⟩ := he
      have hcs := repE_bs h4
      subst hcs
      have hrun := run_copy_row (P := P) w t tx ty e b 0 N N ⟨g, off, none⟩ s.length cap zs.toArray eb ((bv s).take N) (tyElem_run ht) hsz hb (by simp [bv_length, Nat.min_comm])
        (fun j u hj => by
          rw [Addr.add_lit]
          rw [List.getElem?_take] at hj
          split at hj
          · exact (h3 j u hj).2
          · cases hj) (by simp [bv_length]; omega) (fun u hu => oneCells_spec (bv_one s) u (List.mem_of_mem_take hu))
      have hlen : ((bv s).take N).length = min s.length N := by simp [bv_length, Nat.min_comm]
      rw [hlen] at hrun
      refine step_runs (v := .int .i64 ((min s.length N : Nat) : Int)) (w' := w.setRow b (zs.toArray.toList.take 0 ++ (bv s).take N ++ zs.toArray.toList.drop (0 + min s.length N)).toArray) hk rfl rfl hd ?_ fun a' hk' => K a' _ hk' ?_
      · unfold Runs execOp
        simp [resolve, invoke, builtin, hk.eval hx, hk.eval hy, hrun, goInt]
      · have e2 : zs.drop s.length = zs.toArray.toList.drop (0 + min s.length N) := by
          simp only [Nat.zero_add]
          rcases Nat.le_total s.length N with h | h
          · rw [Nat.min_eq_left h]
          · rw [Nat.min_eq_right h, List.drop_eq_nil_of_le (by omega), List.drop_eq_nil_of_le (by first | omega | (simp; omega))]
        have := hm.write hi (setRow_agr w b _) (setRow_heap w b zs.toArray (zs.toArray.toList.take 0 ++ (bv s).take N ++ zs.toArray.toList.drop (0 + min s.length N)).toArray eb (0, 0) hb)
        rw [e2]
        simpa using this
end

theorem sixteen_cells (s : List UInt8) : (bv s).take 16 ++ (List.replicate 16 (Value.int .u8 0)).drop s.length = bv (sixteen s) := by
  have h0 : List.replicate 16 (Value.int .u8 0) = bv (List.replicate 16 (0 : UInt8)) := by simp [bv]
  rw [h0]
  unfold bv sixteen
  rw [← List.map_take, ← List.map_drop, ← List.map_append]
  congr 1
  rw [List.take_append]
  congr 1
  rw [List.drop_replicate, List.take_replicate]
  congr 1
  omega

/-! ### schemas -/
mutual
/-- what the reference's fields are like -/
def tidyF : Fld → Bool
  | .mk kind _ _ _ tag _ of sub => decide (kind ≤ 11) && decide (of ≤ 10) && decide (tag < 1000000) && decide (sub.length ≤ 1000) && tidyFs sub
def tidyFs : List Fld → Bool
  | [] => true
  | f :: r => tidyF f && tidyFs r
end
theorem tidy_mem : ∀ {fs : List Fld}, tidyFs fs = true → ∀ f ∈ fs, tidyF f = true
  | [], _, f, h => by cases h
  | x :: r, h, f, hf => by
    simp only [tidyFs, Bool.and_eq_true] at h
    rcases List.mem_cons.1 hf with rfl | hf
    · exact h.1
    · exact tidy_mem h.2 f hf
theorem tidy_spec {f : Fld} (h : tidyF f = true) : f.kind ≤ 11 ∧ f.of ≤ 10 ∧ f.tag < 1000000 ∧ f.sub.length ≤ 1000 ∧ tidyFs f.sub = true := by
  cases f with
  | mk kind fr to nu tag df of sub =>
    simp only [tidyF, Bool.and_eq_true, decide_eq_true_eq] at h
    exact ⟨h.1.1.1.1, h.1.1.1.2, h.1.1.2, h.1.2, h.2⟩
theorem tidy_tags : ∀ {fs : List Fld}, tidyFs fs = true → tagsOk fs = true
  | [], _ => rfl
  | f :: r, h => by
    simp only [tidyFs, Bool.and_eq_true] at h
    simp only [tagsOk, List.all_cons, Bool.and_eq_true, decide_eq_true_eq]
    exact ⟨(tidy_spec h.1).2.2.1, tidy_tags h.2⟩
theorem Fld_ind {p : Fld → Prop} (h : ∀ f, (∀ g ∈ f.sub, p g) → p f) : ∀ f, p f := by
  have key : ∀ (n : Nat) (f : Fld), SizeOf.sizeOf f < n → p f := by
    intro n
    induction n with
    | zero => intro t ht; omega
    | succ n ih =>
      intro f hf
      refine h f fun x hx => ih x ?_
      cases f with
      | mk kind fr to nu tag df of sub =>
        have h1 : SizeOf.sizeOf x < SizeOf.sizeOf sub := List.sizeOf_lt_of_mem hx
        simp only [Fld.mk.sizeOf_spec] at hf
        omega
  exact fun f => key _ f (Nat.lt_succ_self _)
theorem fieldP_sub (f : Fld) (v : Int) (flex : Bool) (t : T) : fieldP f v flex t = fieldQ f v flex (partP f.sub v flex) t := fieldP_eq f
theorem width_le (k : Nat) : width k ≤ 8 := by rw [width_eq]; repeat' split
                                               all_goals omega
theorem valueP_num {kind : Nat} {pt : T → List UInt8} {null flex : Bool} {t : T} (h0 : kind ≠ 0) (h7 : kind ≠ 7) (h8 : kind ≠ 8) (h9 : kind ≠ 9) (h10 : kind ≠ 10) : valueP kind pt null flex t = fixed t.n (width kind) := by
  unfold valueP
  split <;> simp_all
end Go.Mk
/- Parts: their pieces by number. No statement of a seat stands here. -/
namespace Go.Mk
open Go

def pie (fs : List Fld) (V : Int) (flex : Bool) (t : T) (j : Nat) : List UInt8 := pieceP (fs.getD j FNIL) V flex (t.at_ j)
theorem range_flat_succ {β : Type} (F : Nat → List β) (k : Nat) : (List.range (k + 1)).flatMap F = (List.range k).flatMap F ++ F k := by
  rw [List.range_succ, List.flatMap_append]; simp
theorem range_flat_le {β : Type} (F : Nat → List β) {k n : Nat} (h : k < n) : ((List.range k).flatMap F).length + (F k).length ≤ ((List.range n).flatMap F).length := by
  rw [← List.length_append, ← range_flat_succ]
  induction n with
  | zero => omega
  | succ n ih =>
    by_cases hk : k = n
    · subst hk; exact Nat.le_refl _
    · have := ih (by omega)
      rw [range_flat_succ F n, List.length_append]; omega
theorem flatMap_same {α β : Type} {l : List α} {f g : α → List β} (h : ∀ x ∈ l, f x = g x) : l.flatMap f = l.flatMap g := by
  induction l with
  | nil => rfl
  | cons x r ih =>
    rw [List.flatMap_cons, List.flatMap_cons, h x List.mem_cons_self, ih fun y hy => h y (List.mem_cons_of_mem _ hy)]
theorem plain_range (fs : List Fld) (V : Int) (flex : Bool) (l : List T) (i : Nat) : plainOut fs V (fieldsP fs V flex l i) = (List.range fs.length).flatMap (fun j => pieceP (fs.getD j FNIL) V flex (l.getD (i + j) T.nil)) := by
  induction fs generalizing i with
  | nil => simp [plainOut]
  | cons f r ih =>
    rw [plainOut_cons, ih (i + 1), List.length_cons, List.range_succ_eq_map, List.flatMap_cons, List.flatMap_map]
    congr 1
    apply flatMap_same
    intro j _
    simp only [List.getD_cons_succ]
    congr 2
    omega
theorem partP_false (fs : List Fld) (V : Int) (t : T) : partP fs V false t = (List.range fs.length).flatMap (pie fs V false t) := by
  unfold partP partQ
  simp only [Bool.false_eq_true, if_false]
  rw [plain_range]
  apply flatMap_same
  intro j _
  simp [pie, T.at_]
theorem pie_not {fs : List Fld} {V : Int} {flex : Bool} {t : T} {j : Nat} (h : ((fs.getD j FNIL).tag < 0 ∧ (fs.getD j FNIL).has V = true) → False) : pie fs V flex t j = [] := by
  unfold pie pieceP
  rw [if_neg]
  simp only [Bool.and_eq_true, decide_eq_true_eq]
  exact h
theorem pie_has {fs : List Fld} {V : Int} {flex : Bool} {t : T} {j : Nat} (h : (fs.getD j FNIL).tag < 0) (h2 : (fs.getD j FNIL).has V = true) : pie fs V flex t j = fieldP (fs.getD j FNIL) V flex (t.at_ j) := by
  unfold pie pieceP
  rw [if_pos]
  simp only [Bool.and_eq_true, decide_eq_true_eq]
  exact ⟨h, h2⟩
end Go.Mk
/- Tags by rising numbers. No statement of a seat stands here. -/
namespace Go.Mk
open Go
theorem ins_rising {u : Nat × List UInt8} : ∀ {l : List (Nat × List UInt8)}, rising l → rising (insTag u l) ∧ ∀ q ∈ insTag u l, q = u ∨ q ∈ l
  | [], _ => by simp [insTag, rising]
  | x :: r, h => by
    simp only [rising] at h
    obtain ⟨h1, h2⟩ := h
    obtain ⟨g1, g2⟩ := ins_rising (u := u) h2
    unfold insTag
    split
    · rename_i hx
      refine ⟨⟨fun q hq => ?_, g1⟩, fun q hq => ?_⟩
      · rcases g2 q hq with rfl | hq
        · exact hx
        · exact h1 q hq
      · rcases List.mem_cons.1 hq with rfl | hq
        · exact .inr List.mem_cons_self
        · rcases g2 q hq with rfl | hq
          · exact .inl rfl
          · exact .inr (List.mem_cons_of_mem _ hq)
    · rename_i hx
      split
      · exact ⟨⟨h1, h2⟩, fun q hq => .inr hq⟩
      · rename_i hne
        refine ⟨⟨fun q hq => ?_, h1, h2⟩, fun q hq => ?_⟩
        · rcases List.mem_cons.1 hq with rfl | hq
          · omega
          · have := h1 q hq; omega
        · rcases List.mem_cons.1 hq with rfl | hq
          · exact .inl rfl
          · exact .inr hq
theorem unk_rising (fs : List Fld) (u : List (Nat × List UInt8)) : rising (unknownP fs u) ∧ ∀ q ∈ unknownP fs u, q ∈ u := by
  have key : ∀ (l out : List (Nat × List UInt8)), rising out → rising (l.foldl (fun out t => if t.1 < known fs then out else insTag t out) out) ∧
      ∀ q ∈ l.foldl (fun out t => if t.1 < known fs then out else insTag t out) out, q ∈ out ∨ q ∈ l := by
    intro l
    induction l with
    | nil => intro out h; exact ⟨h, fun q hq => .inl hq⟩
    | cons x r ih =>
      intro out h
      simp only [List.foldl_cons]
      by_cases hx : x.1 < known fs
      · rw [if_pos hx]
        obtain ⟨g1, g2⟩ := ih out h
        exact ⟨g1, fun q hq => (g2 q hq).imp id (List.mem_cons_of_mem _)⟩
      · rw [if_neg hx]
        obtain ⟨i1, i2⟩ := ins_rising (u := x) h
        obtain ⟨g1, g2⟩ := ih _ i1
        refine ⟨g1, fun q hq => ?_⟩
        rcases g2 q hq with h3 | h3
        · rcases i2 q h3 with rfl | h3
          · exact .inr List.mem_cons_self
          · exact .inl h3
        · exact .inr (List.mem_cons_of_mem _ h3)
  obtain ⟨h1, h2⟩ := key (u.take 32767) [] trivial
  refine ⟨h1, fun q hq => ?_⟩
  rcases h2 q hq with h3 | h3
  · cases h3
  · exact List.mem_of_mem_take h3
theorem rising_map {g : Nat × List UInt8 → Nat × List UInt8} (hg : ∀ p, (g p).1 = p.1) : ∀ {l : List (Nat × List UInt8)}, rising l → rising (l.map g)
  | [], _ => trivial
  | x :: r, h => by
    refine ⟨fun q hq => ?_, rising_map hg h.2⟩
    obtain ⟨p, hp, rfl⟩ := List.mem_map.1 hq
    rw [hg, hg]
    exact h.1 p hp
end Go.Mk
/- What is fitted, by number; fitted trees are small. No statement of a seat stands here. -/
namespace Go.Mk
open Go

theorem fitFs_range (fs : List Fld) (v : Int) (l : List T) (i : Nat) : fitFs fs v l i = (List.range fs.length).map (fun j => fitF (fs.getD j FNIL) v (l.getD (i + j) T.nil)) := by
  induction fs generalizing i with
  | nil => simp [fitFs]
  | cons f r ih =>
    rw [fitFs, ih (i + 1), List.length_cons, List.range_succ_eq_map, List.map_cons, List.map_map]
    congr 1
    apply List.map_congr_left
    intro j _
    simp only [Function.comp, List.getD_cons_succ]
    congr 2
    omega
def fitAt (fs : List Fld) (v : Int) (t : T) (j : Nat) : T := fitF (fs.getD j FNIL) v (t.at_ j)
theorem fitP_range (fs : List Fld) (v : Int) (t : T) : fitP fs v t = .mk 0 [] false ((List.range fs.length).map (fitAt fs v t)) (fitU fs t.u) := by
  unfold fitP
  rw [fitFs_range]
  congr 1
  apply List.map_congr_left
  intro j _
  simp [fitAt, T.at_]
theorem range_map_succ {α β : Type} (f : α → β) (G : Nat → α) (k : Nat) : ((List.range (k + 1)).map G).map f = ((List.range k).map G).map f ++ [f (G k)] := by
  rw [List.range_succ]; simp
def fitTag (p : Nat × List UInt8) : Nat × List UInt8 := (p.1, whole p.2)
theorem fitU_eq (fs : List Fld) (u : List (Nat × List UInt8)) : fitU fs u = (unknownP fs u).map fitTag := rfl
theorem take_map_succ {α β γ : Type} (f : β → γ) (g : α → β) (l : List α) (k : Nat) (d : α) (h : k < l.length) : ((l.take (k + 1)).map g).map f = ((l.take k).map g).map f ++ [f (g (l.getD k d))] := by
  rw [List.take_succ_eq_append_getElem h, List.map_append, List.map_append]
  congr 1
  simp [h]

/-- of a list the field of its things -/
def oneOf (f : Fld) : Fld := .mk f.of f.fr f.to (-1) (-1) f.df f.of f.sub
theorem fitF_other {f : Fld} {v : Int} {t : T} (h11 : f.kind ≠ 11) : fitF f v t = fitVal f.kind (f.null v t) (fun x => fitP f.sub v x) t := by
  cases f with
  | mk kind fr to nu tag df of sub =>
    have h : kind ≠ 11 := h11
    unfold fitF
    rw [if_neg h]
    rfl
theorem oneOf_null (f : Fld) (v : Int) (t : T) : (oneOf f).null v t = false := by simp [oneOf, Fld.null, Fld.nu]
theorem fitF_list {f : Fld} {v : Int} {t : T} (h11 : f.kind = 11) (hof : f.of ≤ 10) : fitF f v t = .mk 0 [] (f.null v t || (decide (f.tag ≥ 0) && decide (t.l.length = 0))) ((things t.l).map fun x => fitF (oneOf f) v x) [] := by
  have h2 : ∀ x, fitF (oneOf f) v x = fitVal f.of false (fun x => fitP f.sub v x) x := fun x => by
    rw [fitF_other (by simp [oneOf, Fld.kind]; omega), oneOf_null]
    simp [oneOf, Fld.kind, Fld.sub]
  have h3 : ((things t.l).map fun x => fitF (oneOf f) v x) = (things t.l).map fun x => fitVal f.of false (fun x => fitP f.sub v x) x := List.map_congr_left fun x _ => h2 x
  rw [h3]
  cases f with
  | mk kind fr to nu tag df of sub =>
    have h : kind = 11 := h11
    unfold fitF
    rw [if_pos h]
    rfl
theorem fitVal_text {k : Nat} {null : Bool} {st : T → T} {t : T} (h : k = 8 ∨ k = 9) : fitVal k null st t = .mk 0 (whole t.s) null [] [] := by
  rcases h with rfl | rfl <;> rfl
theorem fitVal_part {k : Nat} {null : Bool} {st : T → T} {t : T} (h : k = 10) : fitVal k null st t = .mk (st t).n (st t).s null (st t).l (st t).u := by subst h; rfl
theorem fitVal_num {k : Nat} {null : Bool} {st : T → T} {t : T} (h8 : k ≠ 8) (h9 : k ≠ 9) (h10 : k ≠ 10) : fitVal k null st t = .mk t.n t.s false [] [] := by
  unfold fitVal; split <;> simp_all
theorem rep_Fd_mk {w : World} {Y : Nat → Prop} {kind of : Nat} {fr to nu tag df : Int} {sub : List Fld} {x : Value} (h : Rep w Y (.sl false 8 (sub.map ddFd)) [x]) :
    Rep w Y (ddFd (.mk kind fr to nu tag df of sub)) [.int .i64 (kind : Int), .int .i64 fr, .int .i64 to, .int .i64 nu, .int .i64 tag, .int .i64 df, .int .i64 (of : Int), x] := by
  simp only [ddFd, ddFds_map]
  exact rep_agg (RepL.cons1 (rep_v _) (RepL.cons1 (rep_v _) (RepL.cons1 (rep_v _) (RepL.cons1 (rep_v _) (RepL.cons1 (rep_v _) (RepL.cons1 (rep_v _) (RepL.cons1 (rep_v _) (RepL.cons1 h RepL.nil))))))))

/-! ### fitted trees are small -/
theorem small_mk {n : Int} {s : List UInt8} {z : Bool} {l : List T} {u : List (Nat × List UInt8)} (h1 : l.length ≤ 32767) (h2 : u.length ≤ 32767) (h3 : ∀ p ∈ u, p.2.length ≤ 32767) (h4 : ∀ x ∈ l, x.small = true) (h6 : rising u) : (T.mk n s z l u).small = true := by
  have h5 : ∀ l : List T, (∀ x ∈ l, x.small = true) → T.smalls l = true := by
    intro l
    induction l with
    | nil => intro _; rfl
    | cons x r ih => intro h; simp only [T.smalls, Bool.and_eq_true]; exact ⟨h x List.mem_cons_self, ih fun y hy => h y (List.mem_cons_of_mem _ hy)⟩
  simp only [T.small, Bool.and_eq_true, decide_eq_true_eq, List.all_eq_true]
  exact ⟨⟨⟨⟨⟨Nat.le_refl _, h1⟩, h2⟩, fun p hp => h3 p hp⟩, risingB_iff.2 h6⟩, h5 l h4⟩
theorem unk_length (fs : List Fld) (u : List (Nat × List UInt8)) : (unknownP fs u).length ≤ 32767 := by
  rw [unkF_eq]
  have h := unkF_length (known fs) (u.take 32767) 32767
  rwa [List.take_take, Nat.min_self] at h
theorem small_fitVal {k : Nat} {null : Bool} {st : T → T} (hs : ∀ x, (st x).small = true) (t : T) : (fitVal k null st t).small = true := by
  have h0 : ∀ (n : Int) (s : List UInt8) (z : Bool), (T.mk n s z [] []).small = true := fun n s z => small_mk (by simp) (by simp) (by simp) (by simp) trivial
  by_cases h : k = 8 ∨ k = 9
  · rw [fitVal_text h]; exact h0 _ _ _
  · by_cases h10 : k = 10
    · rw [fitVal_part h10]
      have := small_spec (hs t)
      exact small_mk this.2.1 this.2.2.1 this.2.2.2.1 this.2.2.2.2 (small_rising (hs t))
    · rw [fitVal_num (fun e => h (.inl e)) (fun e => h (.inr e)) h10]; exact h0 _ _ _
theorem small_fitP_of {fs : List Fld} (hl : fs.length ≤ 1000) (v : Int) (hf : ∀ f ∈ fs, ∀ x, (fitF f v x).small = true) (t : T) : (fitP fs v t).small = true := by
  rw [fitP_range]
  refine small_mk (by simp; omega) (by rw [fitU_eq, List.length_map]; exact unk_length fs t.u) ?_ ?_ (rising_map (g := fun p => (p.1, whole p.2)) (fun _ => rfl) (unk_rising fs t.u).1)
  · intro p hp
    rw [fitU_eq] at hp
    obtain ⟨q, _, rfl⟩ := List.mem_map.1 hp
    exact whole_len q.2
  · intro x hx
    obtain ⟨j, hj, rfl⟩ := List.mem_map.1 hx
    exact hf _ (getD_mem (List.mem_range.1 hj)) _
theorem small_fitF (v : Int) : ∀ f : Fld, tidyF f = true → ∀ x, (fitF f v x).small = true := Fld_ind fun f ih h => by
  have ht := tidy_spec h
  have hp : ∀ x, (fitP f.sub v x).small = true := fun x => small_fitP_of ht.2.2.2.1 v (fun g hg => ih g hg (tidy_mem ht.2.2.2.2 g hg)) x
  intro x
  by_cases h11 : f.kind = 11
  · rw [fitF_list h11 ht.2.1]
    refine small_mk (by rw [List.length_map]; exact things_len x.l) (by simp) (by simp) ?_ trivial
    intro y hy
    obtain ⟨z, _, rfl⟩ := List.mem_map.1 hy
    rw [fitF_other (by simp [oneOf, Fld.kind]; omega)]
    exact small_fitVal hp z
  · rw [fitF_other h11]; exact small_fitVal hp x
theorem small_fitP {fs : List Fld} (h : tidyFs fs = true) (hl : fs.length ≤ 1000) (v : Int) (t : T) : (fitP fs v t).small = true := small_fitP_of hl v (fun f hf => small_fitF v f (tidy_mem h f hf)) t
end Go.Mk
/- Trees whose lists are no longer than memory bears; what is usual. No statement of a seat stands here. -/
namespace Go.Mk
open Go

mutual
/-- no list of it is longer than memory bears -/
def T.sane : T → Bool
  | .mk _ s _ l u => decide (s.length ≤ 1152921504606846976) && decide (l.length ≤ 1152921504606846976) && decide (u.length ≤ 1152921504606846976) && u.all (fun p => decide (p.1 < 4294967296)) && T.sanes l
def T.sanes : List T → Bool
  | [] => true
  | t :: r => t.sane && T.sanes r
end
theorem sanes_iff : ∀ {l : List T}, T.sanes l = true ↔ ∀ t ∈ l, t.sane = true
  | [] => by simp [T.sanes]
  | x :: r => by
    simp only [T.sanes, Bool.and_eq_true, List.mem_cons, forall_eq_or_imp]
    rw [sanes_iff (l := r)]
theorem sane_spec {t : T} (h : t.sane = true) : t.s.length ≤ 1152921504606846976 ∧ t.l.length ≤ 1152921504606846976 ∧ t.u.length ≤ 1152921504606846976 ∧ ∀ x ∈ t.l, x.sane = true := by
  cases t with
  | mk n s z l u =>
    simp only [T.sane, Bool.and_eq_true, decide_eq_true_eq] at h
    exact ⟨h.1.1.1.1, h.1.1.1.2, h.1.1.2, sanes_iff.1 h.2⟩
theorem sane_keys {t : T} (h : t.sane = true) : ∀ p ∈ t.u, p.1 < 4294967296 := by
  cases t with
  | mk n s z l u =>
    simp only [T.sane, Bool.and_eq_true, decide_eq_true_eq, List.all_eq_true] at h
    exact h.1.2
theorem sane_mk {n : Int} {s : List UInt8} {z : Bool} {l : List T} {u : List (Nat × List UInt8)} (h1 : s.length ≤ 1152921504606846976) (h2 : l.length ≤ 1152921504606846976) (h3 : u.length ≤ 1152921504606846976) (h5 : ∀ p ∈ u, p.1 < 4294967296) (h4 : ∀ x ∈ l, x.sane = true) : (T.mk n s z l u).sane = true := by
  simp only [T.sane, Bool.and_eq_true, decide_eq_true_eq, List.all_eq_true]
  exact ⟨⟨⟨⟨h1, h2⟩, h3⟩, h5⟩, sanes_iff.2 h4⟩
theorem sane_nil : T.nil.sane = true := rfl
theorem sane_getD {l : List T} (h : ∀ x ∈ l, x.sane = true) (k : Nat) : (l.getD k T.nil).sane = true := by
  rw [List.getD_eq_getElem?_getD]
  cases hk : l[k]? with
  | none => exact sane_nil
  | some x => exact h x (List.mem_of_getElem? hk)
theorem sane_at {t : T} (h : t.sane = true) (k : Nat) : (t.at_ k).sane = true := sane_getD (sane_spec h).2.2.2 k
theorem sane_things {t : T} (h : t.sane = true) (k : Nat) : ((things t.l).getD k T.nil).sane = true := sane_getD (fun x hx => (sane_spec h).2.2.2 x (List.mem_of_mem_take hx)) k

/-! ### what is usual, a kind at a time -/
theorem usualF_eq (f : Fld) (t : T) : usualF f t = if f.kind = 0 then t.n % 2 == f.df else if f.kind = 7 then (t.s.take 16).all (· == 0) else if f.kind = 8 ∨ f.kind = 9 then (if f.nu ≥ 0 then t.z else t.s.isEmpty)
    else if f.kind = 11 then t.l.isEmpty else if f.kind = 10 then usualFs f.sub t.l 0 && (unknownP f.sub t.u).isEmpty else fixed t.n (width f.kind) == fixed f.df (width f.kind) := by
  cases f; unfold usualF; rfl
def usualAt (fs : List Fld) (t : T) (j : Nat) : Bool := usualF (fs.getD j FNIL) (t.at_ j)
theorem usualFs_range (fs : List Fld) (l : List T) (i : Nat) : usualFs fs l i = (List.range fs.length).all (fun j => usualF (fs.getD j FNIL) (l.getD (i + j) T.nil)) := by
  induction fs generalizing i with
  | nil => simp [usualFs]
  | cons f r ih =>
    rw [usualFs, ih (i + 1), List.length_cons, List.range_succ_eq_map, List.all_cons, List.all_map]
    congr 1
    apply List.all_congr rfl
    intro j
    simp only [Function.comp, List.getD_cons_succ]
    congr 2
    omega
theorem usualFs_all (fs : List Fld) (t : T) : usualFs fs t.l 0 = (List.range fs.length).all (usualAt fs t) := by
  rw [usualFs_range]
  apply List.all_congr rfl
  intro j
  simp [usualAt, T.at_]
theorem range_all_succ {f : Nat → Bool} {k : Nat} (h : (List.range k).all f = true) (hk : f k = true) : (List.range (k + 1)).all f = true := by
  rw [List.range_succ, List.all_append, h]; simp [hk]
theorem range_all_false {f : Nat → Bool} {k n : Nat} (hlt : k < n) (hk : f k = false) : (List.range n).all f = false := by
  rw [← Bool.not_eq_true, List.all_eq_true]
  intro h
  have := h k (List.mem_range.2 hlt)
  rw [hk] at this
  cases this
theorem zeros_succ {s : List UInt8} {k : Nat} (h : ((s.take 16).take k).all (· == 0) = true) (hlt : k < s.length) (hz : k < 16 → s.getD k 0 = 0) : ((s.take 16).take (k + 1)).all (· == 0) = true := by
  by_cases h16 : k < 16
  · have hl : k < (s.take 16).length := by simp; omega
    rw [List.take_succ_eq_append_getElem hl, List.all_append, h]
    have := hz h16
    have e : s.getD k 0 = s[k] := by simp [hlt]
    rw [e] at this
    simp [this]
  · rw [List.take_of_length_le (by simp; omega)]
    rw [List.take_of_length_le (by simp; omega)] at h
    exact h
theorem zeros_false {s : List UInt8} {k : Nat} (hlt : k < s.length) (h16 : k < 16) (hz : s.getD k 0 ≠ 0) : (s.take 16).all (· == 0) = false := by
  rw [← Bool.not_eq_true, List.all_eq_true]
  intro h
  have hl : k < (s.take 16).length := by simp; omega
  have h2 := h (s.take 16)[k] (List.getElem_mem hl)
  have e : s.getD k 0 = s[k] := by simp [hlt]
  rw [e] at hz
  simp at h2
  exact hz h2
theorem zeros_all {s : List UInt8} {n : Nat} (h : ((s.take 16).take n).all (· == 0) = true) (hn : n = s.length) : (s.take 16).all (· == 0) = true := by
  rwa [List.take_of_length_le (by simp; omega)] at h
end Go.Mk
/- Code that appends the fields of a message, checked by computation: what it walks over, what it may call, and what it must give. No statement of a seat stands here. -/
namespace Go.Mk.Ea
open Go Go.Mk

/-! ### What is called -/
inductive CK
  | fx (k : Nat) | bool | uuid
  | str (cp : Bool) | nstr (cp : Bool) | byt (cp : Bool) | nbyt (cp : Bool)
  | cnt (cp : Bool) | ncnt (cp : Bool) | uv | tagLen | tagEach

def ikOf : Nat → Option IntKind
  | 1 => some .i8
  | 2 => some .i16
  | 3 => some .i32
  | 4 => some .i64
  | 5 => some .u16
  | _ => none

/-- tags that can be written -/
def TagsOk (u : List (Nat × List UInt8)) : Prop := rising u ∧ u.length ≤ 32767 ∧ ∀ p ∈ u, p.1 < 4294967296 ∧ p.2.length ≤ 32767

def Cov (Y : Nat → Prop) (v : Value) : Prop := ∀ k, v.ownBlock = some k → Y k

/-- What is asked of a callee. -/
def Ok (P : Program) (u8 f : Nat) : CK → Prop
  | .fx k => ∀ {ik : IntKind} {w0 : World} {v : Value} {n : Nat} {xs : List Value}, ikOf k = some ik → w0.ownsRow 0 u8 1 v n xs → ∀ i : Int, n + width k ≤ room → Puts P u8 f [v, .int ik i] v n xs (fixed i (width k)) w0
  | .bool => ∀ {w0 : World} {v : Value} {n : Nat} {xs : List Value}, w0.ownsRow 0 u8 1 v n xs → ∀ b : Bool, n + 1 ≤ room → Puts P u8 f [v, .bool b] v n xs [if b then 1 else 0] w0
  | .uuid => ∀ {w0 : World} {v : Value} {n : Nat} {xs : List Value}, w0.ownsRow 0 u8 1 v n xs → ∀ s : List UInt8, s.length = 16 → n + 16 ≤ room → Puts P u8 f [v, .agg (bv s).toArray] v n xs s w0
  | .str cp => ∀ {w0 : World} {v : Value} {n : Nat} {xs : List Value}, w0.ownsRow 0 u8 1 v n xs → ∀ s : List UInt8, s.length ≤ 32767 → n + (counted cp false s.length 2 ++ s).length ≤ room →
      Puts P u8 f [v, .string (bs s)] v n xs (counted cp false s.length 2 ++ s) w0
  | .nstr cp => ∀ {w0 : World} {Y : Nat → Prop} {v x : Value} {n : Nat} {xs : List Value}, w0.ownsRow 0 u8 1 v n xs → Cov Y v → ∀ (z : Bool) (s : List UInt8), s.length ≤ 32767 → (z = true → s = []) →
      Rep w0 Y (if z then .v (.pointer none) else .ptr (.v (.string (bs s)))) [x] → n + (counted cp z s.length 2 ++ s).length ≤ room →
      Puts P u8 f [v, x] v n xs (counted cp z s.length 2 ++ s) w0
  | .byt cp => ∀ {w0 : World} {Y : Nat → Prop} {v x : Value} {n : Nat} {xs : List Value}, w0.ownsRow 0 u8 1 v n xs → Cov Y v → ∀ (s : List UInt8), s.length ≤ 32767 →
      Rep w0 Y (.sl false 1 (s.map ddB)) [x] → n + (counted cp false s.length 4 ++ s).length ≤ room → Puts P u8 f [v, x] v n xs (counted cp false s.length 4 ++ s) w0
  | .nbyt cp => ∀ {w0 : World} {Y : Nat → Prop} {v x : Value} {n : Nat} {xs : List Value}, w0.ownsRow 0 u8 1 v n xs → Cov Y v → ∀ (z : Bool) (s : List UInt8), s.length ≤ 32767 → (z = true → s = []) →
      Rep w0 Y (if z then .v (.slice none 0 0) else .sl true 1 (s.map ddB)) [x] → n + (counted cp z s.length 4 ++ s).length ≤ room → Puts P u8 f [v, x] v n xs (counted cp z s.length 4 ++ s) w0
  | .cnt cp => ∀ {w0 : World} {v : Value} {n : Nat} {xs : List Value}, w0.ownsRow 0 u8 1 v n xs → ∀ k : Nat, k ≤ 32767 → n + (counted cp false k 4).length ≤ room → Puts P u8 f [v, .int .i64 (k : Int)] v n xs (counted cp false k 4) w0
  | .ncnt cp => ∀ {w0 : World} {v : Value} {n : Nat} {xs : List Value}, w0.ownsRow 0 u8 1 v n xs → ∀ (k : Nat) (z : Bool), k ≤ 32767 → n + (counted cp z k 4).length ≤ room → Puts P u8 f [v, .int .i64 (k : Int), .bool z] v n xs (counted cp z k 4) w0
  | .uv => ∀ {w0 : World} {v : Value} {n : Nat} {xs : List Value}, w0.ownsRow 0 u8 1 v n xs → ∀ k : Nat, k < 4294967296 → n + (uvarint k).length ≤ room → Puts P u8 f [v, .int .u32 (k : Int)] v n xs (uvarint k) w0
  | .tagLen => ∀ {w0 : World} {Y : Nat → Prop} {b off : Nat} {c : Value} (u : List (Nat × List UInt8)), Cel w0 Y b off [c] → Rep w0 Y (ddTagMap u) [c] →
      Ret P f [.pointer (some ⟨b, off, none⟩)] w0 fun v w' => v = .int .i64 (u.length : Int) ∧ w' = w0
  | .tagEach => ∀ {w0 : World} {Y : Nat → Prop} {b off : Nat} {v c : Value} {n : Nat} {xs : List Value} (u : List (Nat × List UInt8)), w0.ownsRow 0 u8 1 v n xs → Cov Y v → TagsOk u → Cel w0 Y b off [c] → Rep w0 Y (ddTagMap u) [c] →
      n + (u.flatMap fun p => tagP p.1 p.2).length ≤ room →
      Ret P f [.pointer (some ⟨b, off, none⟩), v] w0 fun v' w' => RowTo w0 u8 1 v (n + (u.flatMap fun p => tagP p.1 p.2).length) (xs ++ bv (u.flatMap fun p => tagP p.1 p.2)) v' w'

structure Cx where
  P : Program
  u8 : Nat
  n : Nat
  m : Nat
  cfg : List (Nat × CK)
  V : Nat
  flex : Bool

def CfgOk (P : Program) (u8 : Nat) (cfg : List (Nat × CK)) : Prop := ∀ f ck, (f, ck) ∈ cfg → Ok P u8 f ck ∧ callable P f = true

/-! ### Levels: the message, a thing of a list of it, and so on -/
inductive CD
  | ver | fld (i : Nat) | uu (i : Nat) | tags | pad
def pads : Nat → List CD → List CD
  | 0, l => l
  | k + 1, l => .pad :: pads k l
/-- the cells of fields, up to what is not taken -/
def cdF : List Fld → Nat → List CD → List CD
  | [], _, l => l
  | f :: r, i, l => match f.kind with
    | 7 => .uu i :: pads 15 (cdF r (i + 1) l)
    | 10 => if 0 ≤ f.nu then .fld i :: cdF r (i + 1) l else []
    | k => if Nat.ble k 11 then .fld i :: cdF r (i + 1) l else []
structure LS where
  fs : List Fld
  tg : Bool
  top : Bool
  par : Nat
def LS.cds (s : LS) : List CD := (if s.top then [.ver] else []) ++ cdF s.fs 0 (if s.tg then [.tags] else [])

structure Lv where
  fs : List Fld
  t : T
  b : Nat
  off : Nat
  xs : List Value
  ix : Nat
def Lv.ok (w0 : World) (Y : Nat → Prop) (V : Int) (flex : Bool) (s : LS) (e : Lv) : Prop :=
  e.fs = s.fs ∧ Cel w0 Y e.b e.off e.xs ∧ ∃ c, e.xs = (if s.top then [.int .i16 V] else []) ++ c ∧ RepL w0 Y (wrFs s.fs s.tg V flex e.t.l 0 ++ (if s.tg then [ddTagMap (fitU s.fs e.t.u)] else [])) c

/-! ### What is known of a slot -/
inductive AV
  | junk
  | k (v : Value)
  | row
  | ptr (l o : Nat)
  | cell (l o : Nat)
  | agg (l o : Nat)
  | len (l o : Nat)
  | idx (l : Nat)
  | tl (l : Nat)
  | tl32 (l : Nat)
  | isnil (l o : Nat)
  | loc

inductive E
  | val (i : Nat) | cnt (i : Nat) | each (i : Nat) | tagn | tags
def E.is : E → E → Bool
  | .val i, .val j => Nat.beq i j
  | .cnt i, .cnt j => Nat.beq i j
  | .each i, .each j => Nat.beq i j
  | .tagn, .tagn => true
  | .tags, .tags => true
  | _, _ => false
theorem E.is_eq {a b : E} (h : E.is a b = true) : a = b := by
  cases a <;> cases b <;> simp only [E.is, Bool.false_eq_true] at h <;> first | rfl | (rw [Nat.eq_of_beq_eq_true h])

/-- What a field's list says that is written. -/
def lst (f : Fld) (V : Int) (t : T) : List T := if f.null V t then [] else things t.l
def eo (fs : List Fld) (V : Int) (flex : Bool) (t : T) : E → List UInt8
  | .val i => fieldP (fs.getD i FNIL) V flex (t.at_ i)
  | .cnt i => counted flex ((fs.getD i FNIL).null V (t.at_ i)) (lst (fs.getD i FNIL) V (t.at_ i)).length 4
  | .each i => (lst (fs.getD i FNIL) V (t.at_ i)).flatMap (valueP (fs.getD i FNIL).of (partP (fs.getD i FNIL).sub V flex) false flex)
  | .tagn => uvarint (fitU fs t.u).length
  | .tags => (fitU fs t.u).flatMap fun p => tagP p.1 p.2
def exF (V : Int) : List Fld → Nat → List E → List E
  | [], _, l => l
  | f :: r, i, l => if f.has V then (if Nat.beq f.kind 11 then .cnt i :: .each i :: exF V r (i + 1) l else .val i :: exF V r (i + 1) l) else exF V r (i + 1) l
def exL (fs : List Fld) (V : Int) (ft : Bool) : List E := exF V fs 0 (if ft then [.tagn, .tags] else [])

structure St where
  sl : List (Nat × AV)
  todo : List E
  loc : Option (Option (Nat × Nat))

def alook : List (Nat × AV) → Nat → Option AV
  | [], _ => none
  | (k, v) :: r, s => match Nat.beq s k with
    | true => some v
    | false => alook r s
def aev (l : List (Nat × AV)) : Operand → Option AV
  | .tmp t => alook l t
  | .const v => some (.k v)
  | _ => none
def put (cx : Cx) (σ : St) (d : Nat) (v : AV) : Option St := match Nat.blt d cx.n with
  | true => some ⟨(d, v) :: σ.sl, σ.todo, σ.loc⟩
  | false => none
def unrow : List (Nat × AV) → List (Nat × AV)
  | [] => []
  | (k, .row) :: r => (k, .junk) :: unrow r
  | (k, v) :: r => (k, v) :: unrow r
/-- the row goes on by the next piece -/
def emit (cx : Cx) (σ : St) (d : Nat) (e : E) : Option St := match σ.todo with
  | e' :: r => match E.is e e' with
    | true => put cx ⟨unrow σ.sl, r, none⟩ d .row
    | false => none
  | [] => none

def lsAt (ls : List LS) (l : Nat) : Option LS := ls[l]?
def cdAt (ls : List LS) (l o : Nat) : Option CD := (ls[l]?).bind fun s => s.cds[o]?
/-- a field of the level at hand, that the version has -/
def fldAtL (cx : Cx) (ls : List LS) (cur l o : Nat) : Option (Nat × Fld) :=
  match Nat.beq l cur, ls[l]?, cdAt ls l o with
  | true, some s, some (.fld i) => match decide ((s.fs.getD i FNIL).tag < 0) && (s.fs.getD i FNIL).has cx.V with
    | true => some (i, s.fs.getD i FNIL)
    | false => none
  | true, some s, some (.uu i) => match decide ((s.fs.getD i FNIL).tag < 0) && (s.fs.getD i FNIL).has cx.V with
    | true => some (i, s.fs.getD i FNIL)
    | false => none
  | _, _, _ => none
def isTags (ls : List LS) (cur l o : Nat) : Bool := match Nat.beq l cur, cdAt ls l o with
  | true, some .tags => true
  | _, _ => false

def ckOf : List (Nat × CK) → Nat → Option CK
  | [], _ => none
  | (k, c) :: r, f => match Nat.beq f k with
    | true => some c
    | false => ckOf r f

/-- a call: what it gives (none: the row, gone on by this piece) -/
inductive CR
  | val (v : AV) | out (e : E) | no
def xcall (cx : Cx) (ls : List LS) (cur : Nat) : Option CK → List AV → CR
  | some (.fx k), [.row, .cell l o] => match fldAtL cx ls cur l o with
    | some (i, f) => if Nat.beq f.kind k && (ikOf k).isSome then .out (.val i) else .no
    | none => .no
  | some .bool, [.row, .cell l o] => match fldAtL cx ls cur l o with
    | some (i, f) => if Nat.beq f.kind 0 then .out (.val i) else .no
    | none => .no
  | some .uuid, [.row, .agg l o] => match fldAtL cx ls cur l o with
    | some (i, f) => if Nat.beq f.kind 7 then .out (.val i) else .no
    | none => .no
  | some (.str cp), [.row, .cell l o] => match fldAtL cx ls cur l o with
    | some (i, f) => if Nat.beq f.kind 8 && decide (f.nu < 0) && cp == cx.flex then .out (.val i) else .no
    | none => .no
  | some (.nstr cp), [.row, .cell l o] => match fldAtL cx ls cur l o with
    | some (i, f) => if Nat.beq f.kind 8 && decide (0 ≤ f.nu) && cp == cx.flex then .out (.val i) else .no
    | none => .no
  | some (.byt cp), [.row, .cell l o] => match fldAtL cx ls cur l o with
    | some (i, f) => if Nat.beq f.kind 9 && decide (f.nu < 0) && cp == cx.flex then .out (.val i) else .no
    | none => .no
  | some (.nbyt cp), [.row, .cell l o] => match fldAtL cx ls cur l o with
    | some (i, f) => if Nat.beq f.kind 9 && decide (0 ≤ f.nu) && cp == cx.flex then .out (.val i) else .no
    | none => .no
  | some (.cnt cp), [.row, .len l o] => match fldAtL cx ls cur l o with
    | some (i, f) => if Nat.beq f.kind 11 && decide (f.nu < 0) && cp == cx.flex then .out (.cnt i) else .no
    | none => .no
  | some (.ncnt cp), [.row, .len l o, .isnil l' o'] => match fldAtL cx ls cur l o with
    | some (i, f) => if Nat.beq f.kind 11 && decide (0 ≤ f.nu) && cp == cx.flex && Nat.beq l l' && Nat.beq o o' then .out (.cnt i) else .no
    | none => .no
  | some .uv, [.row, .tl32 l] => if Nat.beq l cur then .out .tagn else .no
  | some .tagLen, [.ptr l o] => if isTags ls cur l o then .val (.tl l) else .no
  | some .tagEach, [.ptr l o, .row] => if isTags ls cur l o then .out .tags else .no
  | _, _ => .no

def aevs (l : List (Nat × AV)) : List Operand → Option (List AV)
  | [] => some []
  | x :: r => match aev l x, aevs l r with
    | some v, some vs => some (v :: vs)
    | _, _ => none

def listF (cx : Cx) (ls : List LS) (cur l o : Nat) : Option (Nat × Fld) := match fldAtL cx ls cur l o with
  | some (i, f) => match Nat.beq f.kind 11 with
    | true => some (i, f)
    | false => none
  | none => none

def xop (cx : Cx) (ls : List LS) (cur : Nat) (σ : St) : Oper → Option St
  | ⟨some d, .move x, _, _, _, none⟩ => match aev σ.sl x with
    | some v => put cx σ d v
    | none => none
  | ⟨some d, .assign x, _, _, _, none⟩ => match aev σ.sl x with
    | some v => put cx σ d v
    | none => none
  | ⟨some d, .pick c x y, _, _, _, none⟩ => match aev σ.sl c, aev σ.sl x, aev σ.sl y with
    | some (.k (.bool true)), some v, some _ => put cx σ d v
    | some (.k (.bool false)), some _, some v => put cx σ d v
    | _, _, _ => none
  | ⟨some d, .nilCheck x, _, _, _, none⟩ => match aev σ.sl x with
    | some (.ptr l o) => put cx σ d (.ptr l o)
    | _ => none
  | ⟨some d, .fieldAddr t x k, _, _, _, none⟩ => match aev σ.sl x, fldOff cx.P t k with
    | some (.ptr l o), some o' => put cx σ d (.ptr l (o + o'))
    | _, _ => none
  | ⟨some d, .load t x, _, _, _, none⟩ => match aev σ.sl x, tySz cx.P t with
    | some (.ptr l o), some (false, _) => match cdAt ls l o with
      | some .ver => put cx σ d (.k (.int .i16 cx.V))
      | some (.fld _) => put cx σ d (.cell l o)
      | _ => none
    | some (.ptr l o), some (true, 16) => match fldAtL cx ls cur l o with
      | some (_, f) => if Nat.beq f.kind 7 then put cx σ d (.agg l o) else none
      | none => none
    | some .loc, some (true, 16) => match σ.loc with
      | some (some (l, o)) => put cx σ d (.agg l o)
      | _ => none
    | _, _ => none
  | ⟨some d, .alloc e, _, _, _, none⟩ => match tyZero cx.P e with
    | some z => match Nat.beq (cellsOf z).length 16 with
      | true => put cx ⟨unloc σ.sl, σ.todo, some none⟩ d .loc
      | false => none
    | none => none
  | ⟨none, .store t x y, _, _, _, none⟩ => match aev σ.sl x, aev σ.sl y, σ.loc, tySz cx.P t with
    | some .loc, some (.agg l o), some _, some (true, 16) => match fldAtL cx ls cur l o with
      | some (_, f) => if Nat.beq f.kind 7 then some ⟨σ.sl, σ.todo, some (some (l, o))⟩ else none
      | none => none
    | _, _, _, _ => none
  | ⟨some d, .binOp .eql t x (.const (.slice none 0 0)) _, _, _, _, none⟩ => match aev σ.sl x, tyElem cx.P t with
    | some (.cell l o), some _ => match listF cx ls cur l o with
      | some _ => put cx σ d (.isnil l o)
      | none => none
    | _, _ => none
  | ⟨some d, .binOp op _ x y _, _, _, _, none⟩ => match aev σ.sl x, aev σ.sl y with
    | some (.k (.int q i)), some (.k (.int q' j)) => match decide (q = q'), icmp op i j with
      | true, some b => put cx σ d (.k (.bool b))
      | _, _ => none
    | some (.k (.int .u32 0)), some (.tl32 l) => match op with
      | .add => put cx σ d (.tl32 l)
      | _ => none
    | _, _ => none
  | ⟨some d, .convert s t x, _, _, _, none⟩ => match aev σ.sl x, (cx.P.underlying s).isSome, tyInt cx.P t with
    | some (.tl l), true, some .u32 => put cx σ d (.tl32 l)
    | _, _, _ => none
  | ⟨some d, .call ⟨.builtin .len, xs, ts⟩, _, _, _, none⟩ => match xs.toList, ts.toList with
    | [x], [t] => match aev σ.sl x, tyElem cx.P t with
      | some (.cell l o), some _ => match listF cx ls cur l o with
        | some _ => put cx σ d (.len l o)
        | none => none
      | _, _ => none
    | _, _ => none
  | ⟨some d, .indexAddr t x i, _, _, _, none⟩ => match aev σ.sl x, aev σ.sl i, ls[cur]? with
    | some (.cell l o), some (.idx l'), some s => match Nat.beq l' cur && Nat.beq (l + 1) cur && Nat.beq s.par o, tyElem cx.P t with
      | true, some e => match tySz cx.P e with
        | some (_, z) => match Nat.beq z (widS s.fs s.tg) with
          | true => put cx σ d (.ptr cur 0)
          | false => none
        | none => none
      | _, _ => none
    | _, _, _ => none
  | ⟨some d, .call ⟨.value (.func f), xs, _⟩, _, _, _, none⟩ => match aevs σ.sl xs.toList with
    | some ars => match xcall cx ls cur (ckOf cx.cfg f) ars with
      | .val v => put cx σ d v
      | .out e => emit cx σ d e
      | .no => none
    | none => none
  | _ => none
where
  unloc : List (Nat × AV) → List (Nat × AV)
  | [] => []
  | (k, .loc) :: r => (k, .junk) :: unloc r
  | (k, v) :: r => (k, v) :: unloc r

/-- an operation, or one that stands under a guard -/
def xopg (cx : Cx) (ls : List LS) (cur : Nat) (all : List Oper) (σ : St) (o : Oper) : Option St := match o.guard with
  | none => xop cx ls cur σ o
  | some (j, b) => match (all[j]?).bind (·.dst), o.dst with
    | some dj, some d => match alook σ.sl dj with
      | some (.k (.bool u)) => match u == b with
        | true => xop cx ls cur σ { o with guard := none }
        | false => put cx σ d (.k undef)
      | _ => none
    | _, _ => none
def xops (cx : Cx) (ls : List LS) (cur : Nat) (all : List Oper) : List Oper → St → Option St
  | [], σ => some σ
  | o :: r, σ => match xopg cx ls cur all σ o with
    | some σ' => xops cx ls cur all r σ'
    | none => none

def kept (m : Nat) (keep : List Nat) (s : Nat) : Bool := Nat.blt s m || keep.any (Nat.beq s)
def prune (f : Nat → Bool) : List (Nat × AV) → List (Nat × AV)
  | [] => []
  | p :: r => match f p.1 with
    | true => p :: prune f r
    | false => prune f r

def AV.low (cur : Nat) : AV → Bool
  | .ptr l _ | .cell l _ | .agg l _ | .len l _ | .idx l | .tl l | .tl32 l | .isnil l _ => Nat.ble l cur
  | .loc => false
  | _ => true
def AV.is : AV → AV → Bool
  | .k (.bool a), .k (.bool b) => a == b
  | .k (.int q i), .k (.int q' j) => decide (q = q') && decide (i = j)
  | .k (.slice none 0 0), .k (.slice none 0 0) => true
  | .row, .row => true
  | .ptr l o, .ptr l' o' => Nat.beq l l' && Nat.beq o o'
  | .cell l o, .cell l' o' => Nat.beq l l' && Nat.beq o o'
  | .agg l o, .agg l' o' => Nat.beq l l' && Nat.beq o o'
  | .len l o, .len l' o' => Nat.beq l l' && Nat.beq o o'
  | .idx l, .idx l' => Nat.beq l l'
  | .isnil l o, .isnil l' o' => Nat.beq l l' && Nat.beq o o'
  | _, _ => false
/-- a round has left them -/
def left (l : List (Nat × AV)) : List (Nat × AV) → Bool
  | [] => true
  | p :: r => (match alook l p.1, p.2 with
    | some _, .junk => true
    | some v, u => AV.is u v
    | none, _ => false) && left l r
def lows (cur : Nat) : List (Nat × AV) → Bool
  | [] => true
  | p :: r => p.2.low cur && lows cur r

structure RP where
  id : Nat
  idb : Nat
  c : Nat
  i : Nat
  ln : Nat
  t : Nat
  body : Code
def asRange : Code → Option RP
  | .block id (.loop (.seq (.region _ o1 false) (.seq (.cond (.tmp c) .skip (.exit id')) (.seq (.block idb body) (.region _ o2 false))))) =>
    match o1.toList, o2.toList with
    | [⟨some c1, .binOp .lss t2 (.tmp i) (.tmp ln) t3, _, _, _, none⟩], [⟨some t, .binOp .add t2' (.tmp i') (.const (.int .i64 1)) t3', t6, _, _, none⟩, ⟨some i2, .move (.tmp t'), t6', _, _, none⟩] =>
      match Nat.beq id id' && Nat.beq c c1 && Nat.beq t2 t2' && Nat.beq t3 t3' && Nat.beq t6 t6' && Nat.beq i i' && Nat.beq i i2 && Nat.beq t t' with
      | true => some ⟨id, idb, c, i, ln, t, body⟩
      | false => none
    | _, _ => none
  | _ => none

/-- the level of a list's things -/
def inner (s : LS) (f : Fld) (o : Nat) : LS := match Nat.beq f.of 10 with
  | true => ⟨f.sub, s.tg, false, o⟩
  | false => ⟨[.mk f.of 0 (-1) (-1) (-1) 0 0 []], false, false, o⟩
def goodSub (cx : Cx) (s : LS) (f : Fld) : Bool := match Nat.beq f.of 10 with
  | true => f.sub.all (fun g => decide (g.tag < 0)) && (!cx.flex || s.tg)
  | false => Nat.blt f.of 10

def writes : Code → List Nat
  | .region _ ops _ => ops.toList.filterMap (·.dst)
  | .seq a b => writes a ++ writes b
  | .cond _ a b => writes a ++ writes b
  | .block _ b => writes b
  | .loop b => writes b
  | _ => []

def isRow : Option AV → Bool
  | some .row => true
  | _ => false
/-- the slots that a loop leaves as they are (the row's: as the row's) -/
def stays (cx : Cx) (keep : List Nat) (r : RP) (sl : List (Nat × AV)) (s : Nat) : Bool :=
  kept cx.m keep s && !Nat.beq s r.c && !Nat.beq s r.i && !Nat.beq s r.t && !Nat.beq s r.ln && (isRow (alook sl s) || !(writes r.body).any (Nat.beq s))

def xc (cx : Cx) : Nat → List LS → Nat → List Nat → Code → St → Option St
  | 0, _, _, _, _, _ => none
  | g + 1, ls, cur, keep, c, σ => match c with
    | .skip => some σ
    | .region _ ops false => xops cx ls cur ops.toList ops.toList ⟨prune (kept cx.m keep) σ.sl, σ.todo, σ.loc⟩
    | .seq a b => match xc cx g ls cur keep a σ with
      | some σ' => xc cx g ls cur keep b σ'
      | none => none
    | .cond x a b => match aev σ.sl x with
      | some (.k (.bool true)) => xc cx g ls cur keep a σ
      | some (.k (.bool false)) => xc cx g ls cur keep b σ
      | _ => none
    | .block _ _ => match asRange c with
      | some r => match alook σ.sl r.i, alook σ.sl r.ln, ls[cur]?, σ.todo with
        | some (.k (.int .i64 0)), some (.len l o), some s, .each i' :: todo' => match listF cx ls cur l o with
          | some (i, f) =>
            let hd := prune (stays cx keep r σ.sl) (xop.unloc σ.sl)
            let s' := inner s f o
            match Nat.beq i i' && goodSub cx s f && Nat.blt r.c cx.n && Nat.blt r.i cx.n && Nat.blt r.t cx.n && !Nat.beq r.i r.c && !Nat.beq r.ln r.c && !Nat.beq r.ln r.i && !Nat.beq r.ln r.t && Nat.beq (cur + 1) ls.length && lows cur hd with
            | true => match xc cx g (ls ++ [s']) (cur + 1) (r.i :: r.ln :: keep) r.body ⟨(r.c, .k (.bool true)) :: (r.i, .idx (cur + 1)) :: (r.ln, .len l o) :: hd, exL s'.fs cx.V (cx.flex && s'.tg), none⟩ with
              | some τ => match τ.todo, left τ.sl ((r.i, .idx (cur + 1)) :: (r.ln, .len l o) :: hd) with
                | [], true => some ⟨(r.i, .junk) :: (r.ln, .len l o) :: hd, todo', none⟩
                | _, _ => none
              | none => none
            | false => none
          | none => none
        | _, _, _, _ => none
      | none => none
    | _ => none

end Go.Mk.Ea
/- Why the check of such code suffices. No statement of a seat stands here. -/
namespace Go.Mk.Ea
open Go Go.Mk

/-! ### The pieces -/
theorem exF_flat {fs0 : List Fld} {V : Int} {flex : Bool} {t : T} : ∀ (fs : List Fld) (i : Nat) (l : List E), (∀ j, fs[j]? = fs0[i + j]?) → (fs.all fun f => decide (f.tag < 0)) = true →
    (exF V fs i l).flatMap (eo fs0 V flex t) = plainOut fs V (fieldsP fs V flex t.l i) ++ l.flatMap (eo fs0 V flex t)
  | [], i, l, _, _ => by simp [exF, plainOut]
  | f :: r, i, l, hj, ht => by
    simp only [List.all_cons, Bool.and_eq_true, decide_eq_true_eq] at ht
    have h0 := hj 0
    simp only [List.getElem?_cons_zero, Nat.add_zero] at h0
    have hg : fs0.getD i FNIL = f := by rw [List.getD_eq_getElem?_getD, ← h0]; rfl
    have ih := exF_flat (V := V) (flex := flex) (t := t) r (i + 1) l (fun j => by have := hj (j + 1); simp only [List.getElem?_cons_succ] at this; rw [this]; congr 1; omega) ht.2
    rw [plainOut_cons]
    unfold exF
    by_cases hh : f.has V = true
    · rw [if_pos hh]
      have hp : pieceP f V flex (t.l.getD i T.nil) = fieldP f V flex (t.l.getD i T.nil) := pieceP_has ht.1 hh
      rw [hp]
      split
      · rename_i hk
        have hk' := Nat.eq_of_beq_eq_true hk
        rw [List.flatMap_cons, List.flatMap_cons, ih]
        simp only [eo, hg, T.at_]
        rw [fieldP_eq]
        unfold fieldQ
        rw [if_pos hk']
        simp only [lst, List.append_assoc]
      · rw [List.flatMap_cons, ih]
        simp only [eo, hg, T.at_, List.append_assoc]
    · rw [if_neg hh, ih]
      have : pieceP f V flex (t.l.getD i T.nil) = [] := pieceP_not (by simpa using hh)
      rw [this, List.nil_append]

theorem known_none {fs : List Fld} (h : (fs.all fun f => decide (f.tag < 0)) = true) : known fs = 0 := by
  induction fs with
  | nil => rfl
  | cons f r ih =>
    simp only [List.all_cons, Bool.and_eq_true, decide_eq_true_eq] at h
    simp only [known, ih h.2]
    rw [if_neg (by omega)]
    rfl
theorem exL_part {fs : List Fld} {V : Int} {flex : Bool} {t : T} (ht : (fs.all fun f => decide (f.tag < 0)) = true) : (exL fs V flex).flatMap (eo fs V flex t) = partP fs V flex t := by
  unfold exL
  rw [exF_flat (fs0 := fs) fs 0 _ (fun j => by simp) ht]
  unfold partP partQ
  cases flex with
  | false => simp
  | true =>
    rw [known_none ht]
    simp [eo, fitU, List.flatMap_map]

/-! ### Slots -/
def VR (e : Nat → Lv) (ro : Value) (lb : Nat) : AV → Value → Prop
  | .junk, _ => True
  | .k v, x => x = v
  | .row, x => x = ro
  | .ptr l o, x => x = .pointer (some ⟨(e l).b, (e l).off + o, none⟩)
  | .cell l o, x => (e l).xs[o]? = some x
  | .agg l o, x => x = .agg (((e l).xs.drop o).take 16).toArray
  | .len l o, x => ∃ p k c, (e l).xs[o]? = some (.slice p k c) ∧ x = .int .i64 (k : Int)
  | .idx l, x => x = .int .i64 ((e l).ix : Int)
  | .tl l, x => x = .int .i64 ((fitU (e l).fs (e l).t.u).length : Int)
  | .tl32 l, x => x = .int .u32 ((fitU (e l).fs (e l).t.u).length : Int)
  | .isnil l o, x => ∃ p k c, (e l).xs[o]? = some (.slice p k c) ∧ x = .bool p.isNone
  | .loc, x => x = .pointer (some ⟨lb, 0, none⟩)

def SR (e : Nat → Lv) (ro : Value) (lb : Nat) : List (Nat × AV) → List (Nat × Value) → Prop
  | [], [] => True
  | p :: r, q :: s => p.1 = q.1 ∧ VR e ro lb p.2 q.2 ∧ SR e ro lb r s
  | _, _ => False

theorem SR.look {e : Nat → Lv} {ro : Value} {lb : Nat} : ∀ {sl : List (Nat × AV)} {l : List (Nat × Value)} {s : Nat} {v : AV}, SR e ro lb sl l → alook sl s = some v → ∃ x, look l s = some x ∧ VR e ro lb v x
  | [], _, s, v, _, h => by simp [alook] at h
  | (k, a) :: r, [], s, v, h, _ => by simp [SR] at h
  | (k, a) :: r, (k', x) :: l, s, v, h, hl => by
    simp only [SR] at h
    obtain ⟨rfl, h1, h2⟩ := h
    simp only [alook] at hl
    simp only [Mk.look]
    split at hl
    · rename_i hb
      simp only [Option.some.injEq] at hl
      subst hl
      rw [hb]
      exact ⟨x, rfl, h1⟩
    · rename_i hb
      rw [hb]
      exact h2.look hl
theorem SR.ev {e : Nat → Lv} {ro : Value} {lb : Nat} {sl : List (Nat × AV)} {l : List (Nat × Value)} {x : Operand} {v : AV} (h : SR e ro lb sl l) (hx : aev sl x = some v) : ∃ u, Mk.ev l x = some u ∧ VR e ro lb v u := by
  cases x with
  | tmp t => exact h.look hx
  | const u => simp only [aev, Option.some.injEq] at hx; subst hx; exact ⟨u, rfl, rfl⟩
  | global g => simp [aev] at hx
  | func f => simp [aev] at hx
/-- slots that say less -/
theorem SR.map {e e' : Nat → Lv} {ro ro' : Value} {lb lb' : Nat} (F : List (Nat × AV) → List (Nat × AV)) (hn : F [] = []) (hc : ∀ p r, ∃ q, F (p :: r) = q :: F r ∧ q.1 = p.1 ∧ ∀ x, VR e ro lb p.2 x → VR e' ro' lb' q.2 x) :
    ∀ {sl : List (Nat × AV)} {l : List (Nat × Value)}, SR e ro lb sl l → SR e' ro' lb' (F sl) l
  | [], [], _ => by rw [hn]; trivial
  | [], _ :: _, h => by simp [SR] at h
  | _ :: _, [], h => by simp [SR] at h
  | p :: r, q :: s, h => by
    obtain ⟨q', h1, h2, h3⟩ := hc p r
    rw [h1]
    simp only [SR] at h ⊢
    exact ⟨by rw [h2]; exact h.1, h3 _ h.2.1, SR.map F hn hc h.2.2⟩
theorem SR.unrow {e : Nat → Lv} {ro ro' : Value} {lb : Nat} {sl : List (Nat × AV)} {l : List (Nat × Value)} (h : SR e ro lb sl l) : SR e ro' lb (unrow sl) l :=
  SR.map Ea.unrow rfl (fun p r => by
    obtain ⟨k, a⟩ := p
    cases a <;> exact ⟨_, rfl, rfl, fun x hx => by first | trivial | exact hx⟩) h
theorem SR.unloc {e : Nat → Lv} {ro : Value} {lb lb' : Nat} {sl : List (Nat × AV)} {l : List (Nat × Value)} (h : SR e ro lb sl l) : SR e ro lb' (xop.unloc sl) l :=
  SR.map xop.unloc rfl (fun p r => by
    obtain ⟨k, a⟩ := p
    cases a <;> exact ⟨_, rfl, rfl, fun x hx => by first | trivial | exact hx⟩) h

theorem prune_sr {e : Nat → Lv} {ro : Value} {lb : Nat} {f : Nat → Bool} : ∀ {sl : List (Nat × AV)} {l : List (Nat × Value)}, SR e ro lb sl l → ∃ l', SR e ro lb (prune f sl) l' ∧ (∀ s v, Mk.look l' s = some v → Mk.look l s = some v ∧ f s = true) ∧ ∀ p ∈ l', f p.1 = true
  | [], [], _ => ⟨[], trivial, (fun s v h => by simp [Mk.look] at h), fun p hp => by cases hp⟩
  | [], _ :: _, h => by simp [SR] at h
  | _ :: _, [], h => by simp [SR] at h
  | p :: r, q :: s, h => by
    simp only [SR] at h
    obtain ⟨h1, h2, h3⟩ := h
    obtain ⟨l', g1, g2, g3⟩ := prune_sr (f := f) h3
    obtain ⟨k, u⟩ := q
    simp only at h1
    unfold prune
    split
    · rename_i hk
      refine ⟨(k, u) :: l', ⟨h1, h2, g1⟩, fun s v hv => ?_, fun p' hp => ?_⟩
      · subst h1
        simp only [Mk.look] at hv ⊢
        split at hv
        · rename_i hb
          exact ⟨hv, by rw [Nat.eq_of_beq_eq_true hb]; exact hk⟩
        · exact g2 _ v hv
      · rcases List.mem_cons.1 hp with rfl | hp
        · rw [← h1]; exact hk
        · exact g3 p' hp
    · rename_i hk
      refine ⟨l', g1, fun s v hv => ?_, g3⟩
      obtain ⟨g4, g5⟩ := g2 s v hv
      refine ⟨?_, g5⟩
      subst h1
      rw [look_cons_ne (by rintro rfl; rw [g5] at hk; cases hk)]
      exact g4

/-! ### Cells -/
def CDok (w : World) (Y : Nat → Prop) (fs0 : List Fld) (tg : Bool) (V : Int) (flex : Bool) (t : T) (c : List Value) (o : Nat) : CD → Prop
  | .fld j => ∃ x, c[o]? = some x ∧ Rep w Y (wrF (fs0.getD j FNIL) tg V flex (t.at_ j)) [x]
  | .uu j => (fs0.getD j FNIL).kind = 7 ∧ ((c.drop o).take 16).length = 16 ∧ Rep w Y (wrF (fs0.getD j FNIL) tg V flex (t.at_ j)) ((c.drop o).take 16)
  | .tags => ∃ x, c[o]? = some x ∧ Rep w Y (ddTagMap (fitU fs0 t.u)) [x]
  | .ver => c[o]? = some (.int .i16 V)
  | .pad => True
section
variable {w : World} {Y : Nat → Prop} {fs0 : List Fld} {tg : Bool} {V : Int} {flex : Bool} {t : T}
theorem CDok.shift {c1 c2 : List Value} {k o : Nat} (hl : c1.length = k) : ∀ {cd : CD}, CDok w Y fs0 tg V flex t c2 o cd → CDok w Y fs0 tg V flex t (c1 ++ c2) (k + o) cd := by
  subst hl
  intro cd h
  have e1 : (c1 ++ c2)[c1.length + o]? = c2[o]? := by rw [List.getElem?_append_right (by omega)]; congr 1; omega
  have e2 : (c1 ++ c2).drop (c1.length + o) = c2.drop o := by rw [← List.drop_drop, List.drop_left]
  cases cd <;> simp only [CDok] at h ⊢
  · rw [e1]; exact h
  · rw [e1]; exact h
  · rw [e2]; exact h
  · rw [e1]; exact h
theorem pads_get {k o : Nat} {l : List CD} {cd : CD} (h : (pads k l)[o]? = some cd) : cd = .pad ∨ ∃ o', o = k + o' ∧ l[o']? = some cd := by
  induction k generalizing o with
  | zero => exact .inr ⟨o, by omega, h⟩
  | succ k ih =>
    cases o with
    | zero => simp only [pads, List.getElem?_cons_zero, Option.some.injEq] at h; exact .inl h.symm
    | succ o =>
      simp only [pads, List.getElem?_cons_succ] at h
      rcases ih h with h | ⟨o', h1, h2⟩
      · exact .inl h
      · exact .inr ⟨o', by omega, h2⟩
theorem wrF_len7 {f : Fld} (h : f.kind = 7) {c : List Value} (hr : Rep w Y (wrF f tg V flex t) c) : c.length = 16 := by
  cases f with
  | mk kind fr to nu tag df of sub =>
    simp only [Fld.kind] at h
    subst h
    unfold wrF at hr
    generalize (if tag < 0 then (Fld.mk 7 fr to nu tag df of []).has V else flex) = bb at hr
    cases bb
    rotate_left
    · rw [if_pos rfl, if_neg (by decide)] at hr
      simp only [wrVal] at hr
      have h := rep_agg_inv hr
      have key : ∀ (s : List UInt8) (c : List Value), RepL w Y (s.map ddB) c → c.length = s.length := by
        intro s
        induction s with
        | nil => intro c h; simp [h.unNil]
        | cons b r ih =>
          intro c h
          simp only [List.map_cons, ddB] at h
          obtain ⟨c2, rfl, h2⟩ := h.unV
          simp [ih c2 h2]
      rw [key _ _ h]
      simp [sixteen]
    · rw [if_neg (by decide), if_neg (by decide)] at hr
      simpa [Rep, widVal] using hr
theorem cdF_ok {rest : List DD} {tl : List CD} : ∀ (fs : List Fld) (i : Nat) {c : List Value} {o : Nat} {cd : CD}, (∀ j, fs[j]? = fs0[i + j]?) → RepL w Y (wrFs fs tg V flex t.l i ++ rest) c → (cdF fs i tl)[o]? = some cd →
    (∀ {c o cd}, RepL w Y rest c → tl[o]? = some cd → CDok w Y fs0 tg V flex t c o cd) → CDok w Y fs0 tg V flex t c o cd
  | [], i, c, o, cd, _, h, hc, ht => ht (by simpa [wrFs] using h) hc
  | f :: r, i, c, o, cd, hj, h, hc, ht => by
    have h0 := hj 0
    simp only [List.getElem?_cons_zero, Nat.add_zero] at h0
    have hg : fs0.getD i FNIL = f := by rw [List.getD_eq_getElem?_getD, ← h0]; rfl
    have hj' : ∀ j, r[j]? = fs0[i + 1 + j]? := fun j => by have := hj (j + 1); simp only [List.getElem?_cons_succ] at this; rw [this]; congr 1; omega
    simp only [wrFs, List.cons_append, RepL] at h
    obtain ⟨c1, c2, rfl, h1, h2⟩ := h
    have ht' : Rep w Y (wrF f tg V flex (t.at_ i)) c1 := h1
    unfold cdF at hc
    split at hc
    · rename_i hk
      have hl := wrF_len7 hk ht'
      cases o with
      | zero =>
        simp only [List.getElem?_cons_zero, Option.some.injEq] at hc
        subst hc
        have e : ((c1 ++ c2).drop 0).take 16 = c1 := by rw [List.drop_zero, ← hl, List.take_left]
        refine ⟨by rw [hg]; exact hk, ?_, ?_⟩
        · rw [e]; exact hl
        · rw [e, hg]; exact ht'
      | succ o =>
        simp only [List.getElem?_cons_succ] at hc
        rcases pads_get hc with rfl | ⟨o', rfl, hc'⟩
        · trivial
        · replace hc := hc'
          have := CDok.shift (c1 := c1) hl (cdF_ok r (i + 1) hj' h2 hc ht)
          rw [show 16 + o' = 15 + o' + 1 by omega] at this
          exact this
    all_goals
      have one : oneKind f.kind f.nu = true → f.kind ≤ 11 → (CD.fld i :: cdF r (i + 1) tl)[o]? = some cd → CDok w Y fs0 tg V flex t (c1 ++ c2) o cd := by
        intro a1 a2 hc
        have hl := one1_wrF (f := f) (tg := tg) (v := V) (flex := flex) (t := t.at_ i) a1 a2 w Y c1 ht'
        match c1, hl with
        | [x], _ =>
          cases o with
          | zero =>
            simp only [List.getElem?_cons_zero, Option.some.injEq] at hc
            subst hc
            exact ⟨x, rfl, by rw [hg]; exact ht'⟩
          | succ o =>
            simp only [List.getElem?_cons_succ] at hc
            have := CDok.shift (c1 := [x]) (k := 1) rfl (cdF_ok r (i + 1) hj' h2 hc ht)
            rw [Nat.add_comm 1 o] at this
            exact this
    · rename_i hk
      split at hc
      · rename_i hn
        exact one (by rw [hk]; simpa [oneKind] using hn) (by omega) hc
      · simp at hc
    · rename_i k7 k10
      split at hc
      · rename_i hle
        exact one (by
          cases hq : f.kind <;> try rfl
          rename_i q
          match q, hq with
          | 0, _ => rfl
          | 1, _ => rfl
          | 2, _ => rfl
          | 3, _ => rfl
          | 4, _ => rfl
          | 5, _ => rfl
          | 6, hq => exact absurd hq k7
          | 7, _ => rfl
          | 8, _ => rfl
          | 9, hq => exact absurd hq k10
          | q + 10, _ => rfl) (Nat.le_of_ble_eq_true hle) hc
      · simp at hc
end
theorem Lv.cell {w0 : World} {Y : Nat → Prop} {V : Int} {flex : Bool} {s : LS} {e : Lv} (h : e.ok w0 Y V flex s) {o : Nat} {cd : CD} (hc : s.cds[o]? = some cd) : CDok w0 Y s.fs s.tg V flex e.t e.xs o cd := by
  obtain ⟨_, _, c, hx, hr⟩ := h
  have key : ∀ {o : Nat} {cd : CD}, (cdF s.fs 0 (if s.tg then [.tags] else []))[o]? = some cd → CDok w0 Y s.fs s.tg V flex e.t c o cd := fun hc =>
    cdF_ok s.fs 0 (fun j => by simp) hr hc (fun {c o cd} h1 h2 => by
      cases ht : s.tg with
      | false => rw [ht] at h2; simp at h2
      | true =>
        rw [ht] at h1 h2
        simp only [if_true] at h1 h2
        obtain ⟨x, c2, rfl, h3, h4⟩ := h1.un1 (one1_mp _ _)
        cases o with
        | zero =>
          simp only [List.getElem?_cons_zero, Option.some.injEq] at h2
          subst h2
          exact ⟨x, rfl, h3⟩
        | succ o => simp at h2)
  unfold LS.cds at hc
  rw [hx]
  cases htop : s.top with
  | false => rw [htop] at hc; simp only [Bool.false_eq_true, if_false, List.nil_append] at hc ⊢; exact key hc
  | true =>
    rw [htop] at hc
    simp only [if_true] at hc ⊢
    cases o with
    | zero =>
      simp only [List.cons_append, List.getElem?_cons_zero, Option.some.injEq] at hc
      subst hc
      rfl
    | succ o =>
      simp only [List.cons_append, List.nil_append, List.getElem?_cons_succ] at hc
      have := CDok.shift (c1 := [Value.int .i16 V]) (k := 1) rfl (key hc)
      rw [Nat.add_comm 1 o] at this
      exact this
end Go.Mk.Ea
/- Why the check of such code suffices: the callees. No statement of a seat stands here. -/
namespace Go.Mk.Ea
open Go Go.Mk

/-! ### The row goes on -/
section
variable {w0 w w' : World} {Y : Nat → Prop} {e sz : Nat} {v0 ro ro' : Value} {n m : Nat} {xs ys : List Value}
theorem _root_.Go.Mk.RowTo.trans (h : RowTo w0 e sz v0 n xs ro w) (k : RowTo w e sz ro m ys ro' w') : RowTo w0 e sz v0 m ys ro' w' := by
  refine ⟨h.1.trans k.1 (fun _ _ x => x) (fun i hi hx => ?_), k.2.1, fun i hi => ?_⟩
  · rcases h.2.2 i hx with h1 | h1
    · exact h1
    · omega
  · rcases k.2.2 i hi with h1 | h1
    · exact h.2.2 i h1
    · exact .inr (Nat.le_trans h.1.size h1)
theorem _root_.Go.Mk.RowTo.pure (h : RowTo w0 e sz v0 n xs ro w) (hp : Agr Nob w w') : RowTo w0 e sz v0 n xs ro w' := by
  refine ⟨h.1.trans hp (fun _ _ x => x) (fun _ _ x => x.elim), ?_, h.2.2⟩
  refine Ent.holds_move (e := .row e sz ro n xs) (Y := fun _ => True) (Y' := fun _ => True) (fun i _ hy => absurd trivial hy) h.2.1 (fun b hb => ?_)
  have hb' : ro.ownBlock = some b := by simpa [Ent.mut] using hb
  exact hp.block b (h.2.1.lt b hb').2 id

/-- who must not be leant on, from the row's beginning on -/
def Yw (Y : Nat → Prop) (w0 : World) : Nat → Prop := fun k => Y k ∨ w0.heap.size ≤ k
theorem data_at (h : RowTo w0 e sz v0 n xs ro w) (hY : Cov Y v0) : ∀ i, i < w0.heap.size → ¬ Y i → w.heap[i]? = w0.heap[i]? ∧ ¬ Yw Y w0 i := fun i hi hy =>
  ⟨h.1.block i hi (fun hx => hy (hY i hx)), fun hz => hz.elim hy (fun h2 => by omega)⟩
theorem cov_at (h : RowTo w0 e sz v0 n xs ro w) (hY : Cov Y v0) : Cov (Yw Y w0) ro := fun k hk => (h.2.2 k hk).elim (fun h1 => .inl (hY k h1)) .inr
end

/-! ### Arguments -/
def AR (e : Nat → Lv) (ro : Value) (lb : Nat) : List AV → List Value → Prop
  | [], [] => True
  | p :: r, q :: s => VR e ro lb p q ∧ AR e ro lb r s
  | _, _ => False
theorem SR.evs {e : Nat → Lv} {ro : Value} {lb : Nat} {sl : List (Nat × AV)} {l : List (Nat × Value)} (h : SR e ro lb sl l) : ∀ {xs : List Operand} {ars : List AV}, aevs sl xs = some ars → ∃ vs, Mk.evs l xs vs ∧ AR e ro lb ars vs
  | [], ars, hx => by simp only [aevs, Option.some.injEq] at hx; subst hx; exact ⟨[], trivial, trivial⟩
  | x :: r, ars, hx => by
    simp only [aevs] at hx
    split at hx
    · rename_i v vs hv hvs
      simp only [Option.some.injEq] at hx
      subst hx
      obtain ⟨u, h1, h2⟩ := h.ev hv
      obtain ⟨us, h3, h4⟩ := h.evs hvs
      exact ⟨u :: us, ⟨h1, h3⟩, h2, h4⟩
    · cases hx
theorem AR.one {e : Nat → Lv} {ro : Value} {lb : Nat} {a : AV} {vs : List Value} (h : AR e ro lb [a] vs) : ∃ x, vs = [x] ∧ VR e ro lb a x := by
  match vs, h with
  | [x], h => exact ⟨x, rfl, h.1⟩
theorem AR.two {e : Nat → Lv} {ro : Value} {lb : Nat} {a b : AV} {vs : List Value} (h : AR e ro lb [a, b] vs) : ∃ x y, vs = [x, y] ∧ VR e ro lb a x ∧ VR e ro lb b y := by
  match vs, h with
  | [x, y], h => exact ⟨x, y, rfl, h.1, h.2.1⟩
theorem AR.three {e : Nat → Lv} {ro : Value} {lb : Nat} {a b c : AV} {vs : List Value} (h : AR e ro lb [a, b, c] vs) : ∃ x y z, vs = [x, y, z] ∧ VR e ro lb a x ∧ VR e ro lb b y ∧ VR e ro lb c z := by
  match vs, h with
  | [x, y, z], h => exact ⟨x, y, z, rfl, h.1, h.2.1, h.2.2.1⟩

/-! ### What is had of the data while the row goes on -/
structure Data (cx : Cx) (ls : List LS) (e : Nat → Lv) (Y : Nat → Prop) (w : World) : Prop where
  fs : ∀ l s, ls[l]? = some s → (e l).fs = s.fs
  cel : ∀ l s, ls[l]? = some s → Cel w Y (e l).b (e l).off (e l).xs
  cell : ∀ l o cd s, ls[l]? = some s → cdAt ls l o = some cd → CDok w Y s.fs s.tg cx.V cx.flex (e l).t (e l).xs o cd
  sane : ∀ l s, ls[l]? = some s → (e l).t.sane = true

theorem CDok.move {w w' : World} {Y Y' : Nat → Prop} {fs0 : List Fld} {tg : Bool} {V : Int} {flex : Bool} {t : T} {c : List Value} {o : Nat} (hm : ∀ i, i < w.heap.size → ¬ Y i → w'.heap[i]? = w.heap[i]? ∧ ¬ Y' i) :
    ∀ {cd : CD}, CDok w Y fs0 tg V flex t c o cd → CDok w' Y' fs0 tg V flex t c o cd
  | .fld _j, ⟨x, h1, h2⟩ => ⟨x, h1, Rep.move hm _ _ h2⟩
  | .uu _j, ⟨h0, h1, h2⟩ => ⟨h0, h1, Rep.move hm _ _ h2⟩
  | .tags, ⟨x, h1, h2⟩ => ⟨x, h1, Rep.move hm _ _ h2⟩
  | .ver, h => h
  | .pad, h => h
theorem Data.move {cx : Cx} {ls : List LS} {e : Nat → Lv} {w w' : World} {Y Y' : Nat → Prop} (h : Data cx ls e Y w) (hm : ∀ i, i < w.heap.size → ¬ Y i → w'.heap[i]? = w.heap[i]? ∧ ¬ Y' i) : Data cx ls e Y' w' :=
  ⟨h.fs, fun l s hl => (h.cel l s hl).move hm, fun l o cd s hl hc => (h.cell l o cd s hl hc).move hm, h.sane⟩

theorem fldAtL_spec {cx : Cx} {ls : List LS} {cur l o i : Nat} {f : Fld} (h : fldAtL cx ls cur l o = some (i, f)) :
    l = cur ∧ ∃ s, ls[cur]? = some s ∧ (cdAt ls cur o = some (.fld i) ∨ cdAt ls cur o = some (.uu i)) ∧ s.fs.getD i FNIL = f ∧ f.tag < 0 ∧ f.has cx.V = true := by
  unfold fldAtL at h
  split at h
  · rename_i s j h1 h2 h3
    split at h
    · rename_i h4
      simp only [Option.some.injEq, Prod.mk.injEq] at h
      obtain ⟨rfl, rfl⟩ := h
      obtain rfl := Nat.eq_of_beq_eq_true h1
      simp only [Bool.and_eq_true, decide_eq_true_eq] at h4
      exact ⟨rfl, s, h2, .inl h3, rfl, h4.1, h4.2⟩
    · cases h
  · rename_i s j h1 h2 h3
    split at h
    · rename_i h4
      simp only [Option.some.injEq, Prod.mk.injEq] at h
      obtain ⟨rfl, rfl⟩ := h
      obtain rfl := Nat.eq_of_beq_eq_true h1
      simp only [Bool.and_eq_true, decide_eq_true_eq] at h4
      exact ⟨rfl, s, h2, .inr h3, rfl, h4.1, h4.2⟩
    · cases h
  · cases h

section
variable {cx : Cx} {ls : List LS} {cur : Nat} {e : Nat → Lv} {Y : Nat → Prop} {w : World}
/-- a field's cell -/
theorem Data.fld (h : Data cx ls e Y w) {l o i : Nat} {f : Fld} (hf : fldAtL cx ls cur l o = some (i, f)) (h7 : f.kind ≠ 7) : l = cur ∧ f.tag < 0 ∧ f.has cx.V = true ∧
    ∃ s x, ls[cur]? = some s ∧ (e cur).fs = s.fs ∧ s.fs.getD i FNIL = f ∧ (e cur).xs[o]? = some x ∧ Rep w Y (wrF f s.tg cx.V cx.flex ((e cur).t.at_ i)) [x] := by
  obtain ⟨rfl, s, hs, hc, hg, h1, h2⟩ := fldAtL_spec hf
  refine ⟨rfl, h1, h2, s, ?_⟩
  rcases hc with hc | hc
  · obtain ⟨x, h3, h4⟩ := h.cell _ _ _ _ hs hc
    exact ⟨x, hs, h.fs _ _ hs, hg, h3, by rw [← hg]; exact h4⟩
  · obtain ⟨h3, _⟩ := h.cell _ _ _ _ hs hc
    exact absurd (hg ▸ h3) h7
/-- sixteen octets in cells of their own -/
theorem Data.uu (h : Data cx ls e Y w) {l o i : Nat} {f : Fld} (hf : fldAtL cx ls cur l o = some (i, f)) (h7 : f.kind = 7) : l = cur ∧ f.tag < 0 ∧ f.has cx.V = true ∧
    ∃ s, ls[cur]? = some s ∧ (e cur).fs = s.fs ∧ s.fs.getD i FNIL = f ∧ ((e cur).xs.drop o).take 16 = bv (sixteen ((e cur).t.at_ i).s) := by
  obtain ⟨rfl, s, hs, hc, hg, h1, h2⟩ := fldAtL_spec hf
  refine ⟨rfl, h1, h2, s, hs, h.fs _ _ hs, hg, ?_⟩
  have key : ∀ (s : List UInt8) (c : List Value), RepL w Y (s.map ddB) c → c = bv s := by
    intro s
    induction s with
    | nil => intro c h; simp [h.unNil, bv]
    | cons b r ih =>
      intro c h
      simp only [List.map_cons, ddB] at h
      obtain ⟨c2, rfl, h2⟩ := h.unV
      rw [ih c2 h2]
      rfl
  rcases hc with hc | hc
  · obtain ⟨x, h3, h4⟩ := h.cell _ _ _ _ hs hc
    rw [hg] at h4
    have := wrF_len7 h7 h4
    simp at this
  · obtain ⟨_, h3, h4⟩ := h.cell _ _ _ _ hs hc
    rw [hg] at h4
    cases f with
    | mk kind fr to nu tag df of sub =>
      simp only [Fld.kind] at h7
      subst h7
      have h1' : tag < 0 := h1
      rw [wrF_hasT h1' h2, if_neg (by decide)] at h4
      exact key _ _ (rep_agg_inv h4)
theorem sixteen_len (s : List UInt8) : (sixteen s).length = 16 := by simp [sixteen]

theorem null_neg {f : Fld} {V : Int} {t : T} (h : f.nu < 0) : f.null V t = false := by
  unfold Fld.null
  have : ¬ f.nu ≥ 0 := by omega
  simp [this]

/-- a list's cell -/
theorem Data.list (h : Data cx ls e Y w) {l o i : Nat} {f : Fld} (hf : fldAtL cx ls cur l o = some (i, f)) (h11 : f.kind = 11) : l = cur ∧
    ∃ s p cap, ls[cur]? = some s ∧ (e cur).fs = s.fs ∧ s.fs.getD i FNIL = f ∧ (e cur).xs[o]? = some (.slice p (lst f cx.V ((e cur).t.at_ i)).length cap) ∧ (0 ≤ f.nu → p.isNone = f.null cx.V ((e cur).t.at_ i)) ∧
      Rep w Y (.sl false (widVal f.of (-1) (widS f.sub s.tg)) ((lst f cx.V ((e cur).t.at_ i)).map fun x => wrVal f.of (-1) false (wrS f.sub s.tg cx.V cx.flex) x)) [.slice p (lst f cx.V ((e cur).t.at_ i)).length cap] := by
  obtain ⟨rfl, h1, h2, s, x, hs, hfs, hg, hx, hr⟩ := h.fld hf (by omega)
  refine ⟨rfl, s, ?_⟩
  cases f with
  | mk kind fr to nu tag df of sub =>
    simp only [Fld.kind] at h11
    subst h11
    have h1' : tag < 0 := h1
    rw [wrF_hasT h1' h2, if_pos rfl] at hr
    by_cases hn : 0 ≤ nu ∧ (Fld.mk 11 fr to nu tag df of sub).null cx.V ((e l).t.at_ i) = true
    · rw [if_pos hn] at hr
      obtain rfl := rep_v_inv hr
      have hl : lst (Fld.mk 11 fr to nu tag df of sub) cx.V ((e l).t.at_ i) = [] := by unfold lst; rw [if_pos hn.2]
      rw [hl]
      exact ⟨none, 0, hs, hfs, hg, hx, fun _ => by rw [hn.2]; rfl, by simp [Rep]⟩
    · rw [if_neg hn] at hr
      have hnull : (Fld.mk 11 fr to nu tag df of sub).null cx.V ((e l).t.at_ i) = false := by
        by_cases h0 : 0 ≤ nu
        · simpa using fun hc => hn ⟨h0, hc⟩
        · exact null_neg (f := Fld.mk 11 fr to nu tag df of sub) (show nu < 0 by omega)
      have hl : lst (Fld.mk 11 fr to nu tag df of sub) cx.V ((e l).t.at_ i) = things ((e l).t.at_ i).l := by unfold lst; rw [hnull]; rfl
      rw [hl]
      obtain ⟨p, cap, rfl⟩ := rep_sl_lenM hr
      refine ⟨p, cap, hs, hfs, hg, hx, fun h0 => ?_, ?_⟩
      · rw [hnull]
        have hst : (decide (0 ≤ nu) && decide (tag < 0)) = true := by simp only [Bool.and_eq_true, decide_eq_true_eq]; exact ⟨h0, h1⟩
        rw [hst] at hr
        rcases rep_sl hr with ⟨_, q, he, hq⟩ | ⟨b, off, cp, cs, he, _⟩
        · simp only [Value.slice.injEq] at he
          rw [he.1]
          have := hq rfl
          cases q with
          | none => exact absurd rfl this
          | some a => rfl
        · simp only [Value.slice.injEq] at he
          rw [he.1]; rfl
      · simp only [Rep] at hr ⊢
        rcases hr with ⟨a1, q, a2, _⟩ | hr
        · exact .inl ⟨a1, q, a2, fun hf => by cases hf⟩
        · exact .inr hr
theorem lst_len (f : Fld) (V : Int) (t : T) : (lst f V t).length ≤ 32767 := by
  unfold lst
  split
  · simp
  · exact things_len _
end

/-! ### Tags -/
theorem tagsOk_fit (fs : List Fld) {t : T} (h : t.sane = true) : TagsOk (fitU fs t.u) := by
  obtain ⟨h1, h2⟩ := unk_rising fs t.u
  refine ⟨rising_map (g := fun p => (p.1, whole p.2)) (fun _ => rfl) h1, ?_, fun p hp => ?_⟩
  · unfold fitU; rw [List.length_map]; exact unk_length fs t.u
  · obtain ⟨q, hq, rfl⟩ := List.mem_map.1 hp
    exact ⟨sane_keys h q (h2 q hq), whole_len _⟩
end Go.Mk.Ea
/- Flexible parts of which no field has a tag: their pieces. No statement of a seat stands here. -/
namespace Go.Mk
open Go
mutual
/-- No field has a tag, nor has any of its parts' fields. -/
def noTagF : Fld → Bool
  | .mk _ _ _ _ tag _ _ sub => decide (tag < 0) && noTagFs sub
def noTagFs : List Fld → Bool
  | [] => true
  | f :: r => noTagF f && noTagFs r
end
theorem noTag_mem : ∀ {fs : List Fld}, noTagFs fs = true → ∀ f ∈ fs, noTagF f = true
  | [], _, _, h => by cases h
  | g :: r, h, f, hf => by
    simp only [noTagFs, Bool.and_eq_true] at h
    cases hf with
    | head => exact h.1
    | tail _ hf => exact noTag_mem h.2 f hf
theorem noTag_sub {f : Fld} (h : noTagF f = true) : noTagFs f.sub = true := by
  cases f
  simp only [noTagF, Bool.and_eq_true] at h
  exact h.2
theorem noTag_tag {f : Fld} (h : noTagF f = true) : f.tag < 0 := by
  cases f
  simp only [noTagF, Bool.and_eq_true, decide_eq_true_eq] at h
  exact h.1
theorem known_none : ∀ {fs : List Fld}, noTagFs fs = true → known fs = 0
  | [], _ => rfl
  | f :: r, h => by
    simp only [noTagFs, Bool.and_eq_true] at h
    have h2 := known_none h.2
    have h1 := noTag_tag h.1
    show max (if f.tag ≥ 0 then f.tag.toNat + 1 else 0) (known r) = 0
    rw [if_neg (by omega), h2]
    rfl
theorem partP_off {fs : List Fld} {V : Int} {flex : Bool} {t : T} (h : flex = false) : partP fs V flex t = (List.range fs.length).flatMap (pie fs V flex t) := by
  subst h; exact partP_false fs V t
theorem partP_on {fs : List Fld} {V : Int} {flex : Bool} {t : T} (h : flex = true) (hk : known fs = 0) :
    partP fs V flex t = ((List.range fs.length).flatMap (pie fs V flex t) ++ uvarint (unknownP fs t.u).length) ++ (unknownP fs t.u).flatMap (fun u => tagP u.1 (whole u.2)) := by
  subst h
  unfold partP partQ
  simp only [if_true, hk, List.range_zero, List.flatMap_nil, List.length_nil, Nat.zero_add, List.flatten_nil, List.append_nil]
  rw [plain_range]
  congr 2
  apply flatMap_same
  intro j _
  simp [pie, T.at_]
theorem partP_plain_le {fs : List Fld} {V : Int} {flex : Bool} {t : T} (hk : flex = true → known fs = 0) : ((List.range fs.length).flatMap (pie fs V flex t)).length ≤ (partP fs V flex t).length := by
  cases flex with
  | false => rw [partP_off rfl]; exact Nat.le_refl _
  | true => rw [partP_on rfl (hk rfl), List.length_append, List.length_append]; omega
theorem tagP_len (k : Nat) (b : List UInt8) : (tagP k b).length = (uvarint k).length + (uvarint b.length).length + b.length := by
  unfold tagP; rw [List.length_append, List.length_append]
theorem unk_key {fs : List Fld} {t : T} (h : t.sane = true) {k : Nat} (hk : k < (unknownP fs t.u).length) : ((unknownP fs t.u).getD k (0, [])).1 < 4294967296 := by
  refine sane_keys h _ ((unk_rising fs t.u).2 _ ?_)
  rw [List.getD_eq_getElem?_getD, List.getElem?_eq_getElem hk]
  exact List.getElem_mem hk
end Go.Mk
/- Blocks that a caller hands in; blocks and rows frozen. No statement of a seat stands here. -/
namespace Go.Mk
open Go

section
variable {w0 w w' : World} {X Z : Nat → Prop} {m : List Ent} {i j e sz n g : Nat} {v : Value} {xs cs : List Value}

theorem Mem.startBlk (hb : w0.heap[g]? = some (.cells cs.toArray e (0, 0))) (hZ : Z g) {m : List Ent} (hm : muts m = []) (h : ∀ x ∈ m, x.holds w0 Z) : Mem w0 (fun k => k = g) Z (.blk g cs e :: m) w0 := by
  have hmu : muts (.blk g cs e :: m) = [g] := by simp [muts, Ent.mut, hm]
  refine ⟨Agr.refl _ _, fun k hk => by subst hk; exact hZ, by rw [hmu]; simp, fun b hb' => ?_, ?_⟩
  · rw [hmu] at hb'
    have : b = g := by simpa using hb'
    subst this
    exact ⟨(Array.getElem?_eq_some_iff.1 hb).1, fun _ => rfl⟩
  · have hmv : ∀ k, k < w0.heap.size → ¬ Z k → w0.heap[k]? = w0.heap[k]? ∧ ¬ Yof w0 Z (.blk g cs e :: m) k := fun k _ hz => ⟨rfl, by
      rintro (h1 | h1)
      · exact hz h1.2
      · rw [hmu] at h1
        have : k = g := by simpa using h1
        subst this
        exact hz hZ⟩
    intro x hx
    rcases List.mem_cons.1 hx with rfl | hx
    · exact hb
    · exact Ent.holds_move hmv (h x hx) (fun _ _ => rfl)
/-- a row that was made here is not the caller's block -/
theorem Mem.rowNe (h : Mem w0 X Z m w) {k : Nat} (hi : entAt m i = some (.row e sz v n xs)) {e' : TypeId} (hj : entAt m j = some (.blk g cs e')) (hne : i ≠ j) (hk : v.ownBlock = some k) : ¬ k = g := fun hkg =>
  muts_apart h.nodup hne hi hj k (by simp [Ent.mut, hk]) (by simp [Ent.mut, hkg])
/-- a block that is not written any more -/
theorem Mem.freezeBlk (h : Mem w0 X Z m w) (hi : entAt m i = some (.blk g cs e)) (hx : ¬ X g) : Mem w0 X Z (putAt m i (.cel g 0 cs)) w := by
  have hsub : ∀ {m : List Ent} {i : Nat} {b : Nat}, entAt m i = some (.blk g cs e) → b ∈ muts (putAt m i (.cel g 0 cs)) → b ∈ muts m := by
    intro m
    induction m with
    | nil => intro i b h _; simp [entAt] at h
    | cons x r ih =>
      intro i b h hb
      cases i with
      | zero =>
        simp only [putAt, muts, Ent.mut, List.nil_append] at hb
        simp only [muts, List.mem_append]; exact .inr hb
      | succ i =>
        simp only [putAt, muts, List.mem_append] at hb ⊢
        rcases hb with hb | hb
        · exact .inl hb
        · exact .inr (ih h hb)
  have hnd : ∀ {m : List Ent} {i : Nat}, (muts m).Nodup → entAt m i = some (.blk g cs e) → (muts (putAt m i (.cel g 0 cs))).Nodup ∧ g ∉ muts (putAt m i (.cel g 0 cs)) := by
    intro m
    induction m with
    | nil => intro i _ h; simp [entAt] at h
    | cons x r ih =>
      intro i hn h
      cases i with
      | zero =>
        simp only [entAt, Option.some.injEq] at h
        subst h
        simp only [putAt, muts, Ent.mut, List.nil_append, List.nodup_append] at hn ⊢
        exact ⟨hn.2.1, fun hk' => hn.2.2 g (by simp) g hk' rfl⟩
      | succ i =>
        simp only [putAt, muts, List.nodup_append, List.mem_append, not_or] at hn ⊢
        have hr := ih hn.2.1 h
        refine ⟨⟨hn.1, hr.1, fun a ha b hb hab => hn.2.2 a ha b (hsub h hb) hab⟩, ?_, hr.2⟩
        exact fun hkx => hn.2.2 g hkx g (muts_mem (entAt_mem (m := r) h) (by simp [Ent.mut])) rfl
  have hN := hnd h.nodup hi
  have hmv : ∀ k, k < w.heap.size → ¬ Yof w0 Z m k → w.heap[k]? = w.heap[k]? ∧ ¬ Yof w0 Z (putAt m i (.cel g 0 cs)) k := fun k _ hy => ⟨rfl, by
    rintro (hz | hz)
    · exact hy (.inl hz)
    · exact hy (.inr (hsub hi hz))⟩
  refine ⟨h.agr, h.sub, hN.1, fun b hb => h.own b (hsub hi hb), ?_⟩
  intro x hx'
  rcases mem_putAt hx' with rfl | ⟨j, _, hj⟩
  · have hb := h.all _ (entAt_mem hi)
    simp only [Ent.holds] at hb ⊢
    intro j u hj
    refine ⟨?_, ?_⟩
    · rintro (hz | hz)
      · exact hx ((h.own g (muts_mem (entAt_mem hi) (by simp [Ent.mut]))).2 hz.1)
      · exact hN.2 hz
    · rw [Nat.zero_add]
      simp only [World.cell?, hb]
      simpa using hj
  · exact Ent.holds_move hmv (h.all x (entAt_mem hj)) (fun _ _ => rfl)
/-- a slice's literal, not written any more -/
theorem Mem.freezeLit (h : Mem w0 X Z m w) {l : List DD} (hi : entAt m i = some (.blk g cs e)) (hx : ¬ X g) (hl : l.length = n) (_hcl : cs.length = n * sz) (_hn : n ≤ maxLen) (he : RepE w (Yof w0 Z m) sz l cs) :
    Mem w0 X Z (putAt m i (.rep (.sl false sz l) [.slice (some ⟨g, 0, none⟩) n n])) w := by
  have h2 := h.freezeBlk hi hx
  have hsub : ∀ {m : List Ent} {i : Nat} {e1 e2 e3 : Ent}, entAt m i = some e1 → putAt (putAt m i e2) i e3 = putAt m i e3 := by
    intro m
    induction m with
    | nil => intro i e1 e2 e3 h; simp [entAt] at h
    | cons x r ih =>
      intro i e1 e2 e3 h
      cases i with
      | zero => rfl
      | succ i => simp only [putAt]; rw [ih (e1 := e1) h]
  have hent : ∀ {m : List Ent} {i : Nat} {e1 e2 : Ent}, entAt m i = some e1 → entAt (putAt m i e2) i = some e2 := by
    intro m
    induction m with
    | nil => intro i e1 e2 h; simp [entAt] at h
    | cons x r ih =>
      intro i e1 e2 h
      cases i with
      | zero => rfl
      | succ i => simp only [putAt, entAt]; exact ih (e1 := e1) h
  have hmut : ∀ {m : List Ent} {i b : Nat}, entAt m i = some (.blk g cs e) → b ∈ muts (putAt m i (.cel g 0 cs)) → b ∈ muts m := by
    intro m
    induction m with
    | nil => intro i b h _; simp [entAt] at h
    | cons x r ih =>
      intro i b h hb
      cases i with
      | zero =>
        simp only [putAt, muts, Ent.mut, List.nil_append] at hb
        simp only [muts, List.mem_append]; exact .inr hb
      | succ i =>
        simp only [putAt, muts, List.mem_append] at hb ⊢
        rcases hb with hb | hb
        · exact .inl hb
        · exact .inr (ih h hb)
  have hcel := h2.all _ (entAt_mem (hent (e2 := .cel g 0 cs) hi))
  have h3 := h2.putFrozen (e' := .rep (.sl false sz l) [.slice (some ⟨g, 0, none⟩) n n]) (hent hi) rfl rfl (by
    simp only [Ent.holds, Rep] at hcel ⊢
    refine .inr ⟨g, 0, n, cs, by rw [hl], by omega, hcel, RepE.move (fun k _ hy => ⟨rfl, ?_⟩) sz l cs he⟩
    rintro (hz | hz)
    · exact hy (.inl hz)
    · exact hy (.inr (hmut hi hz)))
  rw [hsub hi] at h3
  exact h3
theorem RepE.consC {w : World} {Y : Nat → Prop} {esz : Nat} {d : DD} {r : List DD} {c1 c2 : List Value} (h1 : c1.length = esz) (hd : Rep w Y d c1) (hr : RepE w Y esz r c2) : RepE w Y esz (d :: r) (c1 ++ c2) := by
  simp only [RepE]; exact ⟨c1, c2, rfl, h1, hd, hr⟩
theorem rep_nosub {w : World} {Y : Nat → Prop} : Rep w Y (.sl false 8 (([] : List Fld).map ddFd)) [.slice none 0 0] := by simp [Rep]
/-- what a callee has left in a block that was handed in -/
theorem Mem.blkCall (h : Mem w0 X Z m w) {cs' : List Value} (hi : entAt m i = some (.blk g cs e)) (hp : Agr (fun k => k = g) w w') (hb : w'.heap[g]? = some (.cells cs'.toArray e (0, 0))) {d : DD} {c : List Value}
    (hr : Rep w' (fun b => b < w.heap.size ∧ Yof w0 Z m b) d c) : Mem w0 X Z (.rep d c :: putAt m i (.blk g cs' e)) w' := by
  have h2 := h.write hi hp hb
  have hmu : muts (putAt m i (.blk g cs' e)) = muts m := muts_putAt hi rfl
  refine h2.add rfl (Rep.move (fun _ _ hy => ⟨rfl, fun hz => hy ⟨Yof.lt h ?_, ?_⟩⟩) d c hr)
  · simpa [Yof, hmu] using hz
  · simpa [Yof, hmu] using hz
theorem row_nil (w : World) (e sz : Nat) : w.ownsRow 0 e sz (.slice none 0 0) 0 [] := World.ownsRow_nil w 0 e sz
/-- octets of a row, read -/
theorem rep_row {Y : Nat → Prop} {s : List UInt8} (h : w.ownsRow 0 e 1 v n (bv s)) (hY : ∀ k, v.ownBlock = some k → ¬ Y k) : Rep w Y (ddBs s) [v] := by
  have hn : n = s.length := by have := h.1; rw [bv_length] at this; omega
  subst hn
  simp only [ddBs, Rep]
  rcases h.2 with ⟨rfl, h0⟩ | ⟨g, cap, cur, rfl, _, hg, hnc, hcm, hcs, htake⟩
  · left
    have : s = [] := List.eq_nil_of_length_eq_zero h0
    subst this
    exact ⟨rfl, none, rfl, fun e => Bool.noConfusion e⟩
  · right
    refine ⟨g, 0, cap, bv s, by rw [List.length_map], by rw [List.length_map]; omega, ?_, repE_bv s⟩
    intro j u hj
    refine ⟨hY g rfl, ?_⟩
    have := h.cells (g := g) rfl j u hj
    rw [Addr.add_lit] at this
    exact this
/-- a row of octets that is not appended to any more -/
theorem Mem.freezeBytes (h : Mem w0 Nob Z m w) {s : List UInt8} (hi : entAt m i = some (.row e 1 v n (bv s))) (hn : n = s.length) : Mem w0 Nob Z (putAt m i (.rep (ddBs s) [v])) w :=
  h.freezeRow (st := false) hi (noX v) (repE_bv s) (by rw [List.length_map, hn]) (fun _ => rfl)
end
end Go.Mk
namespace Go.Mk
open Go
theorem c_cutE {P : Program} {Q : Exit → Act → World → Prop} {a : Act} {w : World} {x : Code} (J : Act → World → Prop) (hx : x.wp P (Exit.then J Q) a w) (hy : ∀ a w, J a w → Q .normal a w) : x.wp P Q a w :=
  Code.wp_mono (fun e a w h => by cases e <;> first | exact hy _ _ h | exact h) hx
end Go.Mk
namespace Go.Mk
open Go
theorem yof_blk {w0 : World} {Z : Nat → Prop} {m : List Ent} {i b : Nat} {cs : List Value} {e : TypeId} (hi : entAt m i = some (.blk b cs e)) : Yof w0 Z m b := .inr (muts_mem (entAt_mem hi) (by simp [Ent.mut]))
end Go.Mk
/- Arguments, as they are read: trees in memory; how long what is written may be. No statement of a seat stands here. -/
namespace Go.Mk
open Go

/-! ### what is written is bounded by its fields -/
def mxV (kind part : Nat) : Nat :=
  match kind with
  | 0 => 1
  | 7 => 16
  | 8 => 32777
  | 9 => 32777
  | 10 => part
  | _ => 8
mutual
def mxF : Fld → Nat
  | .mk kind _ _ _ _ _ of sub => if kind = 11 then 10 + 32767 * mxV of (mxFs sub) else 1 + mxV kind (mxFs sub)
def mxFs : List Fld → Nat
  | [] => 0
  | f :: r => mxF f + mxFs r
end
theorem counted_len2 {flex null : Bool} {n size : Nat} (hs : size ≤ 8) (hn : n ≤ 32767) : (counted flex null n size).length ≤ 10 := counted_len hs (by unfold room; omega)
theorem mxV_le {kind : Nat} {pt : T → List UInt8} {null flex : Bool} {t : T} {m : Nat} (hp : (pt t).length ≤ m) : (valueP kind pt null flex t).length ≤ mxV kind m := by
  by_cases h0 : kind = 0
  · subst h0; exact Nat.le_refl _
  by_cases h7 : kind = 7
  · subst h7; exact Nat.le_of_eq (sixteen_length _)
  have hw : (if null then [] else whole t.s).length ≤ 32767 := by split; exact Nat.zero_le _; exact whole_len t.s
  by_cases h8 : kind = 8
  · subst h8
    show (counted flex null _ 2 ++ _).length ≤ 32777
    rw [List.length_append]
    have := counted_len2 (flex := flex) (null := null) (n := (if null then [] else whole t.s).length) (size := 2) (by decide) hw
    omega
  by_cases h9 : kind = 9
  · subst h9
    show (counted flex null _ 4 ++ _).length ≤ 32777
    rw [List.length_append]
    have := counted_len2 (flex := flex) (null := null) (n := (if null then [] else whole t.s).length) (size := 4) (by decide) hw
    omega
  by_cases h10 : kind = 10
  · subst h10; exact hp
  · rw [valueP_num h0 h7 h8 h9 h10, fixed_length]
    have : mxV kind m = 8 := by unfold mxV; split <;> simp_all
    rw [this]; exact width_le kind
theorem flat_le {α β : Type} (F : α → List β) (c : Nat) : ∀ (l : List α), (∀ x ∈ l, (F x).length ≤ c) → (l.flatMap F).length ≤ l.length * c
  | [], _ => by simp
  | x :: r, h => by
    have h1 := h x List.mem_cons_self
    have h2 := flat_le F c r fun y hy => h y (List.mem_cons_of_mem _ hy)
    rw [List.flatMap_cons, List.length_append, List.length_cons, Nat.succ_mul]
    omega
theorem mxF_eq (f : Fld) : mxF f = if f.kind = 11 then 10 + 32767 * mxV f.of (mxFs f.sub) else 1 + mxV f.kind (mxFs f.sub) := by
  cases f; unfold mxF; rfl
theorem mxF_le_of {f : Fld} {V : Int} {flex : Bool} (hp : ∀ t, (partP f.sub V flex t).length ≤ mxFs f.sub) (t : T) : (fieldP f V flex t).length ≤ mxF f := by
  rw [fieldP_eq, mxF_eq]
  unfold fieldQ
  by_cases h11 : f.kind = 11
  · rw [if_pos h11, if_pos h11, List.length_append]
    have hl : (if f.null V t then [] else things t.l).length ≤ 32767 := by split; exact Nat.zero_le _; exact things_len t.l
    have h1 := counted_len2 (flex := flex) (null := f.null V t) (size := 4) (by decide) hl
    have h2 := flat_le (valueP f.of (partP f.sub V flex) false flex) (mxV f.of (mxFs f.sub)) (if f.null V t then [] else things t.l) (fun x _ => mxV_le (hp x))
    have h3 := Nat.mul_le_mul_right (mxV f.of (mxFs f.sub)) hl
    omega
  · rw [if_neg h11, if_neg h11]
    by_cases h10 : f.kind = 10 ∧ f.nu ≥ 0
    · rw [if_pos h10, h10.1]
      have := hp t
      show _ ≤ 1 + mxFs f.sub
      split
      · simp [fixed_length]
      · rw [List.length_append, fixed_length]; omega
    · rw [if_neg h10]
      have := mxV_le (kind := f.kind) (null := f.null V t) (flex := flex) (hp t)
      omega
theorem plain_le (V : Int) (flex : Bool) : ∀ (fs : List Fld) (l : List T) (i : Nat), (∀ f ∈ fs, ∀ t, (fieldP f V flex t).length ≤ mxF f) → (plainOut fs V (fieldsP fs V flex l i)).length ≤ mxFs fs
  | [], l, i, _ => by simp [plainOut]
  | f :: r, l, i, h => by
    rw [plainOut_cons, List.length_append]
    have h1 := h f List.mem_cons_self (l.getD i T.nil)
    have h2 := plain_le V flex r l (i + 1) fun g hg => h g (List.mem_cons_of_mem _ hg)
    have h3 : (pieceP f V flex (l.getD i T.nil)).length ≤ mxF f := by unfold pieceP; split; exact h1; exact Nat.zero_le _
    simp only [mxFs]
    omega
theorem mx_field (V : Int) : ∀ (f : Fld) (t : T), (fieldP f V false t).length ≤ mxF f := Fld_ind fun f ih => mxF_le_of fun t => by
  unfold partP partQ
  simp only [Bool.false_eq_true, if_false]
  exact plain_le V false f.sub t.l 0 ih
/-- what is written of a part that is not flexible -/
theorem mx_part (fs : List Fld) (V : Int) (t : T) : (partP fs V false t).length ≤ mxFs fs := by
  unfold partP partQ
  simp only [Bool.false_eq_true, if_false]
  exact plain_le V false fs t.l 0 fun f _ => mx_field V f

/-! ### what is read -/
/-- a struct's fields: type, place, cells of each -/
def structOf (P : Program) (t : Nat) : Option (Nat × List (Nat × Nat × Nat)) := match P.underlying t with
  | some (.struct fs) => some (P.cellsOf t, fs.toList.map fun f => (f.type, f.offset, P.cellsOf f.type))
  | _ => none
def sliceOf (P : Program) (t : Nat) : Option (Nat × Nat) := match P.underlying t with
  | some (.slice e) => some (e, P.cellsOf e)
  | _ => none
theorem structOf_spec {P : Program} {t c : Nat} {l : List (Nat × Nat × Nat)} (h : structOf P t = some (c, l)) : ∃ fs, P.underlying t = some (.struct fs) ∧ P.cellsOf t = c ∧ (fs.toList.map fun f => (f.type, f.offset, P.cellsOf f.type)) = l := by
  unfold structOf at h
  split at h
  · rename_i fs hfs
    simp only [Option.some.injEq, Prod.mk.injEq] at h
    exact ⟨fs, hfs, h.1, h.2⟩
  · cases h
theorem sliceOf_spec {P : Program} {t e c : Nat} (h : sliceOf P t = some (e, c)) : P.underlying t = some (.slice e) ∧ P.cellsOf e = c := by
  unfold sliceOf at h
  split at h
  · rename_i e' he
    simp only [Option.some.injEq, Prod.mk.injEq] at h
    obtain ⟨rfl, h2⟩ := h
    exact ⟨he, h2⟩
  · cases h


section
variable {H : Type} {enc : TypeId × Value → H} {P : Program} {w : World} {base : Nat} {spare : Nat → Bool} {held : Bool} {fuel t : Nat} {cs : List Value} {x : DataW H × List MemPlace}

theorem add_eq (a : Addr) (hs : a.spot = none) (n : Nat) : a.add n = ⟨a.block, a.off + n, none⟩ := by
  unfold Addr.add
  split
  · rename_i h; subst h; cases a; simp_all
  · rfl
/-- a slice that is read: its things, each of which stands for what 'F' says -/
theorem open_sl {α : Type} {e c : Nat} (F : α → DD) (R : α → DataW H → Prop) (hc0 : 0 < c) (ht : sliceOf P t = some (e, c)) (ih : ∀ (f : Nat) (ce : List Value) (y : DataW H × List MemPlace), f < fuel → DataW.trod enc P w base spare held f e ce = some y → ∃ a : α, (Rep w Nob (F a) ce ∧ R a y.1) ∧ ce.length = c)
    (h : DataW.trod enc P w base spare held fuel t cs = some x) (hsp : ∀ b, spare b = true) : ∃ (l : List α) (el sp : List (DataW H)), Rep w Nob (.sl false c (l.map F)) cs ∧ l.length ≤ maxLen ∧ l.length = el.length ∧ (∀ (i : Nat) a d, l[i]? = some a → el[i]? = some d → R a d) ∧ ((x.1 = .nil ∧ el = []) ∨ x.1 = .slice el sp) := by
  obtain ⟨hu, rfl⟩ := sliceOf_spec ht
  rcases DataW.trod_slice hu h with ⟨rfl, hx⟩ | ⟨a, len, cap, elems, rest, n, rfl, rfl, hx, hb, hlc, hcm, hel, hget, hspare, _⟩
  · exact ⟨[], [], [], by simp [Rep], Nat.zero_le _, rfl, by simp, .inl ⟨by rw [hx], rfl⟩⟩
  · by_cases hcap : cap = 0
    · have h0 : len = 0 := by omega
      subst hcap h0
      have he0 : elems = [] := List.eq_nil_of_length_eq_zero hel
      exact ⟨[], [], _, by simp [Rep], Nat.zero_le _, rfl, by simp, .inr (by rw [hx, he0]; rfl)⟩
    · -- the address has no spot: a cell of it is read
      have hspot : a.spot = none := by
        have h1 : ∃ ce, w.cells? base (a.add (0 * P.cellsOf e)) (P.cellsOf e) = some ce := by
          by_cases hl : 0 < len
          · have := hget 0 hl
            have h2 : elems[0]? = some elems[0] := List.getElem?_eq_getElem (by omega)
            cases hq : w.cells? base (a.add (0 * P.cellsOf e)) (P.cellsOf e) with
            | none => rw [hq, h2] at this; cases this
            | some ce => exact ⟨ce, rfl⟩
          · have hl0 : len = 0 := by omega
            obtain ⟨h2, h3⟩ := hspare (hsp _)
            have := h3 0 (by omega)
            have h2' : rest[0]? = some rest[0] := List.getElem?_eq_getElem (by omega)
            rw [hl0, Nat.add_zero] at this
            cases hq : w.cells? base (a.add (0 * P.cellsOf e)) (P.cellsOf e) with
            | none => rw [hq, h2'] at this; cases this
            | some ce => exact ⟨ce, rfl⟩
        obtain ⟨ce, hce⟩ := h1
        obtain ⟨_, h3, h4⟩ := World.cells?_some hce
        have h5 := h4 0 hc0
        rw [Nat.zero_mul] at h5
        have h6 : (a.add 0).add 0 = a := by simp [Addr.add]
        rw [h6] at h5
        have h7 : ce[0]? ≠ none := by rw [List.getElem?_eq_getElem (by omega)]; simp
        rw [← h5] at h7
        unfold World.cell? at h7
        split at h7
        · split at h7
          · exact absurd rfl h7
          · rename_i hs; simpa using hs
        · exact absurd rfl h7
      have key : ∀ (k : Nat), k ≤ len → ∃ (l : List α) (xs : List Value), l.length = k ∧ RepE w Nob (P.cellsOf e) (l.map F) xs ∧ Cel w Nob a.block a.off xs ∧ ∀ (i : Nat) b d, l[i]? = some b → (elems.map (·.1))[i]? = some d → R b d := by
        intro k
        induction k with
        | zero => intro _; exact ⟨[], [], rfl, by simp [RepE], (fun j u hj => by simp at hj), by simp⟩
        | succ k ihk =>
          intro hk
          obtain ⟨l, xs, h1, h2, h3, hR⟩ := ihk (by omega)
          have hg := hget k (by omega)
          cases hq : w.cells? base (a.add (k * P.cellsOf e)) (P.cellsOf e) with
          | none =>
            rw [hq, List.getElem?_eq_getElem (by omega)] at hg
            cases hg
          | some ce =>
            rw [hq] at hg
            have hlt : k < elems.length := by omega
            have hg' : DataW.trod enc P w base spare held n e ce = some elems[k] := by simpa [hlt] using hg
            obtain ⟨v, ⟨hv, hvR⟩, hvl⟩ := ih n ce _ (Nat.lt_succ_self n) hg'
            refine ⟨l ++ [v], xs ++ ce, by simp [h1], by rw [List.map_append]; exact h2.append (RepE.one hv hvl), ?_, ?_⟩
            rotate_left
            · intro i b d hi hd
              rw [List.getElem?_append] at hi
              split at hi
              · exact hR i b d hi hd
              · rename_i hge
                have hik : i = k := by
                  have := (List.getElem?_eq_some_iff.1 hi).1
                  simp only [List.length_singleton] at this
                  omega
                subst hik
                rw [h1, Nat.sub_self] at hi
                simp only [List.getElem?_cons_zero, Option.some.injEq] at hi
                subst hi
                rw [List.getElem?_map, List.getElem?_eq_getElem hlt] at hd
                simp only [Option.map_some, Option.some.injEq] at hd
                subst hd
                exact hvR
            intro j u hj
            have hxl := h2.length
            rw [List.length_map, h1] at hxl
            rw [List.getElem?_append] at hj
            split at hj
            · exact h3 j u hj
            · rename_i hge
              obtain ⟨_, h5, h6⟩ := World.cells?_some hq
              have hj2 : j - xs.length < P.cellsOf e := by
                have := (List.getElem?_eq_some_iff.1 hj).1
                omega
              have h7 := h6 (j - xs.length) hj2
              rw [hj, add_eq a hspot] at h7
              refine ⟨id, ?_⟩
              have h8 : (⟨a.block, a.off + k * P.cellsOf e, none⟩ : Addr).add (j - xs.length) = ⟨a.block, a.off + j, none⟩ := by
                rw [add_eq _ rfl]
                have : a.off + k * P.cellsOf e + (j - xs.length) = a.off + j := by omega
                rw [this]
              rw [h8] at h7
              exact h7
      obtain ⟨l, xs, h1, h2, h3, hR⟩ := key len (Nat.le_refl _)
      refine ⟨l, elems.map (·.1), rest.map (·.1), ?_, by omega, by rw [List.length_map]; omega, hR, .inr (by rw [hx])⟩
      simp only [Rep]
      refine .inr ⟨a.block, a.off, cap, xs, ?_, by rw [List.length_map]; omega, h3, h2⟩
      rw [List.length_map, h1]
      cases a
      simp only at hspot
      subst hspot
      rfl

def intOf (P : Program) (t : Nat) (k : IntKind) : Bool := match P.underlying t with | some (.int k') => decide (k' = k) | _ => false
theorem intOf_spec {k : IntKind} (h : intOf P t k = true) : P.underlying t = some (.int k) := by
  unfold intOf at h
  split at h
  · rename_i k' hk; rw [hk]; simpa using h
  · cases h
def boolOf (P : Program) (t : Nat) : Bool := match P.underlying t with | some .bool => true | _ => false
theorem boolOf_spec (h : boolOf P t = true) : P.underlying t = some .bool := by
  unfold boolOf at h
  split at h
  · assumption
  · cases h

theorem open_byte (ht : intOf P t .u8 = true) (h : DataW.trod enc P w base spare held fuel t cs = some x) : ∃ b : UInt8, (Rep w Nob (ddB b) cs ∧ True) ∧ cs.length = 1 := by
  obtain ⟨n, rfl, _, hwf⟩ := DataW.trod_int (intOf_spec ht) h
  simp only [Lit.wf, Bool.and_eq_true, decide_eq_true_eq] at hwf
  refine ⟨UInt8.ofNat n.toNat, ⟨?_, trivial⟩, rfl⟩
  have h1 : 0 ≤ n ∧ n < 256 := by
    simp [IntKind.min, IntKind.max, IntKind.bits, IntKind.signed] at hwf
    omega
  simp only [ddB, Rep]
  have : ((UInt8.ofNat n.toNat).toNat : Int) = n := by
    rw [UInt8.toNat_ofNat']
    omega
  rw [this]

theorem open_fields {c : Nat} {l : List (Nat × Nat × Nat)} (ht : structOf P t = some (c, l)) (h : DataW.trod enc P w base spare held fuel t cs = some x) :
    ∃ (n : Nat) (xs : List (DataW H × List MemPlace)), fuel = n + 1 ∧ cs.length = c ∧ x.1 = .agg (xs.map (·.1)) ∧ xs.length = l.length ∧ ∀ (i ty off k : Nat), l[i]? = some (ty, off, k) → ∃ y, DataW.trod enc P w base spare held n ty ((cs.drop off).take k) = some y ∧ xs[i]? = some y := by
  obtain ⟨fs, hu, hc, hl⟩ := structOf_spec ht
  obtain ⟨xs, n, rfl, hx, h1, h2, h3⟩ := DataW.trod_struct hu h
  refine ⟨n, xs, rfl, by rw [h1, hc], by rw [hx], by rw [h2, ← hl]; simp, fun i ty off k hi => ?_⟩
  rw [← hl, List.getElem?_map] at hi
  cases hf : fs.toList[i]? with
  | none => rw [hf] at hi; simp at hi
  | some f =>
    rw [hf] at hi
    simp only [Option.map_some, Option.some.injEq, Prod.mk.injEq] at hi
    obtain ⟨rfl, rfl, rfl⟩ := hi
    have hf' : fs[i]? = some f := by simpa using hf
    have h4 := h3 i f hf'
    have hlt : i < xs.length := by
      have := (List.getElem?_eq_some_iff.1 hf).1
      simp only [Array.length_toList] at this
      omega
    exact ⟨xs[i], by rw [h4, List.getElem?_eq_getElem hlt], List.getElem?_eq_getElem hlt⟩

/- how many values and letters a reading holds -/
mutual
def bulkD {H : Type} : DataW H → Nat
  | .lit (.string bytes) => bytes.length + 1
  | .lit _ => 1
  | .nil => 1
  | .ptr d => bulkD d + 1
  | .slice elems spare => bulkDs elems + bulkDs spare + 1
  | .agg parts => bulkDs parts + 1
  | .iface _ d => bulkD d + 1
  | .map entries => bulkEs entries + 1
  | .held _ => 1
def bulkDs {H : Type} : List (DataW H) → Nat
  | [] => 0
  | d :: r => bulkD d + bulkDs r
def bulkEs {H : Type} : List (Lit × DataW H) → Nat
  | [] => 0
  | x :: r => bulkE x + bulkEs r
def bulkE {H : Type} : Lit × DataW H → Nat
  | (.string bytes, d) => bytes.length + bulkD d + 1
  | (_, d) => bulkD d + 1
end
def bulkU : List (Nat × List UInt8) → Nat
  | [] => 0
  | p :: r => 1 + p.2.length + bulkU r
mutual
def T.bulk : T → Nat
  | .mk _ s _ l u => 1 + s.length + bulkU u + T.bulks l
def T.bulks : List T → Nat
  | [] => 0
  | t :: r => T.bulk t + T.bulks r
end
theorem bulk_pos (d : DataW H) : 1 ≤ bulkD d := by cases d <;> try (unfold bulkD; omega)
                                                   rename_i l; cases l <;> simp [bulkD]
theorem bulk_count : ∀ {el : List (DataW H)}, el.length ≤ bulkDs el
  | [] => by simp [bulkDs]
  | d :: r => by have := bulk_pos d; have := bulk_count (el := r); simp only [List.length_cons, bulkDs]; omega
theorem weightsAll_mem {e : Nat} : ∀ {el : List (DataW H)} {i : Nat} {d : DataW H}, el[i]? = some d → ∀ n ∈ d.weights P e, n ∈ DataW.weightsAll P e el
  | [], i, d, h, _, _ => by simp at h
  | d0 :: r, 0, d, h, n, hn => by simp only [List.getElem?_cons_zero, Option.some.injEq] at h; subst h; simp only [DataW.weightsAll, List.mem_append]; exact .inl hn
  | d0 :: r, i + 1, d, h, n, hn => by simp only [List.getElem?_cons_succ] at h; simp only [DataW.weightsAll, List.mem_append]; exact .inr (weightsAll_mem h n hn)

/-- the types of trees and tags -/
structure TreeTy (P : Program) (tt tg tn ts t8 tb tl tu tk : Nat) : Prop where
  st : structOf P tt = some (5, [(tn, 0, 1), (ts, 1, 1), (tb, 2, 1), (tl, 3, 1), (tu, 4, 1)])
  n : intOf P tn .i64 = true
  s : sliceOf P ts = some (t8, 1)
  b8 : intOf P t8 .u8 = true
  b : boolOf P tb = true
  l : sliceOf P tl = some (tt, 5)
  u : sliceOf P tu = some (tg, 2)
  g : structOf P tg = some (2, [(tk, 0, 1), (ts, 1, 1)])
  k : intOf P tk .u32 = true
  y8 : Nat.blt 0 (P.bytesOf t8) = true
  yt : Nat.blt 0 (P.bytesOf tt) = true
  yg : Nat.blt 0 (P.bytesOf tg) = true

/-- it fits into memory -/
def Light (P : Program) (t : Nat) (d : DataW H) : Prop := ∀ n ∈ d.weights P t, n ≤ reachBytes
theorem sl_light {e c : Nat} {el sp : List (DataW H)} {d : DataW H} (ht : sliceOf P t = some (e, c)) (hy : Nat.blt 0 (P.bytesOf e) = true) (hx : (d = .nil ∧ el = []) ∨ d = .slice el sp) (h : Light P t d) :
    el.length ≤ 140737488355328 ∧ ∀ (i : Nat) d', el[i]? = some d' → Light P e d' := by
  obtain ⟨hu, _⟩ := sliceOf_spec ht
  have hy' : 0 < P.bytesOf e := by simpa [Nat.blt_eq] using hy
  rcases hx with ⟨rfl, rfl⟩ | rfl
  · exact ⟨by simp, fun i d' hi => by simp at hi⟩
  · unfold Light at h
    simp only [DataW.weights, hu, List.mem_cons, List.mem_append, forall_eq_or_imp] at h
    refine ⟨?_, fun i d' hi n hn => h.2 n (.inl (weightsAll_mem hi n hn))⟩
    have h1 := h.1
    have h2 := reachBytes_lt
    have h3 : el.length + sp.length ≤ (el.length + sp.length) * P.bytesOf e := Nat.le_mul_of_pos_right _ hy'
    omega
theorem sl_bulk {el sp : List (DataW H)} {d : DataW H} (hx : (d = .nil ∧ el = []) ∨ d = .slice el sp) : bulkDs el + 1 ≤ bulkD d := by
  rcases hx with ⟨rfl, rfl⟩ | rfl
  · simp [bulkDs, bulkD]
  · unfold bulkD; omega
theorem bulks_le {α : Type} {g : α → Nat} : ∀ {l : List α} {el : List (DataW H)}, l.length = el.length → (∀ (i : Nat) a d, l[i]? = some a → el[i]? = some d → g a ≤ bulkD d) → (l.map g).sum ≤ bulkDs el
  | [], [], _, _ => by simp [bulkDs]
  | [], _ :: _, h, _ => by simp at h
  | _ :: _, [], h, _ => by simp at h
  | a :: r, d :: s, h, hg => by
    have h0 := hg 0 a d rfl rfl
    have := bulks_le (l := r) (el := s) (by simpa using h) (fun i a d h1 h2 => hg (i + 1) a d (by simpa using h1) (by simpa using h2))
    simp only [List.map_cons, List.sum_cons, bulkDs]
    omega
theorem bulks_sum : ∀ l : List T, T.bulks l = (l.map T.bulk).sum
  | [] => by simp [T.bulks]
  | t :: r => by simp only [T.bulks, List.map_cons, List.sum_cons, bulks_sum r]
theorem bulkU_sum : ∀ l : List (Nat × List UInt8), bulkU l = (l.map fun p => 1 + p.2.length).sum
  | [] => by simp [bulkU]
  | t :: r => by simp only [bulkU, List.map_cons, List.sum_cons, bulkU_sum r]

theorem open_tag {tt tg tn ts t8 tb tl tu tk : Nat} (ty : TreeTy P tt tg tn ts t8 tb tl tu tk) (hsp : ∀ b, spare b = true) (h : DataW.trod enc P w base spare held fuel tg cs = some x) :
    ∃ u : Nat × List UInt8, (Rep w Nob (ddTag u) cs ∧ u.1 < 4294967296 ∧ 1 + u.2.length ≤ bulkD x.1 ∧ (Light P tg x.1 → u.2.length ≤ 140737488355328)) ∧ cs.length = 2 := by
  obtain ⟨n, xs, rfl, hl, hx, hxl, hf⟩ := open_fields ty.g h
  match cs, hl, xs, hxl with
  | [c0, c1], _, [z0, z1], _ =>
    obtain ⟨y0, h0, e0⟩ := hf 0 tk 0 1 rfl
    obtain ⟨y1, h1, e1⟩ := hf 1 ts 1 1 rfl
    simp only [List.getElem?_cons_zero, List.getElem?_cons_succ, Option.some.injEq] at e0 e1
    subst e0 e1
    simp only [List.drop_zero, List.take_succ_cons, List.take_zero, List.drop_succ_cons] at h0 h1
    obtain ⟨m, hm, _, hwf⟩ := DataW.trod_int (intOf_spec ty.k) h0
    simp only [List.cons.injEq, and_true] at hm
    subst hm
    simp only [Lit.wf, Bool.and_eq_true, decide_eq_true_eq] at hwf
    obtain ⟨bs, el, sp, h2, _, hlen, _, hxs⟩ := open_sl ddB (fun _ _ => True) (by decide) ty.s (fun f ce y _ hc => open_byte ty.b8 hc) h1 hsp
    have h0m : 0 ≤ m := by
      have := hwf.1
      simp [IntKind.min, IntKind.signed] at this
      exact this
    have h1m : m < 4294967296 := by
      have := hwf.2
      simp [IntKind.max, IntKind.bits, IntKind.signed] at this
      omega
    refine ⟨(m.toNat, bs), ⟨?_, by show m.toNat < _; omega, ?_, ?_⟩, rfl⟩
    · have e : Value.int .u32 m = .int .u32 ((m.toNat : Nat) : Int) := by rw [Int.toNat_of_nonneg h0m]
      rw [e]
      exact rep_Tag_mk (u := (m.toNat, bs)) h2
    · rw [hx]
      have := sl_bulk hxs
      have := bulk_count (el := el)
      simp only [List.map_cons, List.map_nil, bulkD, bulkDs]
      omega
    · intro hw
      rw [hx] at hw
      have : Light P ts z1.1 := fun n hn => hw n (by
        obtain ⟨fs, hu, _, hl⟩ := structOf_spec ty.g
        have hty : fs.toList.map (·.type) = [tk, ts] := by
          have := congrArg (List.map (·.1)) hl
          rw [List.map_map] at this
          exact this
        simp only [DataW.weights, hu, hty, List.map_cons, List.map_nil, DataW.weightsEach, List.mem_append]
        exact .inr (.inl hn))
      have := (sl_light ty.s ty.y8 hxs this).1
      show bs.length ≤ _
      omega

theorem open_T {tt tg tn ts t8 tb tl tu tk : Nat} (ty : TreeTy P tt tg tn ts t8 tb tl tu tk) (hsp : ∀ b, spare b = true) : ∀ (fuel : Nat) (cs : List Value) (x : DataW H × List MemPlace), DataW.trod enc P w base spare held fuel tt cs = some x →
    ∃ t : T, (Rep w Nob (ddT t) cs ∧ t.bulk ≤ bulkD x.1 ∧ (Light P tt x.1 → t.sane = true)) ∧ cs.length = 5 := by
  have key : ∀ (N fuel : Nat) (cs : List Value) (x : DataW H × List MemPlace), fuel ≤ N → DataW.trod enc P w base spare held fuel tt cs = some x →
      ∃ t : T, (Rep w Nob (ddT t) cs ∧ t.bulk ≤ bulkD x.1 ∧ (Light P tt x.1 → t.sane = true)) ∧ cs.length = 5 := by
    intro N
    induction N with
    | zero => intro fuel cs x hN h; obtain ⟨n, _, rfl, _⟩ := open_fields ty.st h; omega
    | succ N ih =>
      intro fuel cs x hN h
      obtain ⟨n, xs, rfl, hl, hx, hxl, hf⟩ := open_fields ty.st h
      match cs, hl, xs, hxl with
      | [c0, c1, c2, c3, c4], _, [z0, z1, z2, z3, z4], _ =>
        obtain ⟨y0, h0, e0⟩ := hf 0 _ _ _ rfl
        obtain ⟨y1, h1, e1⟩ := hf 1 _ _ _ rfl
        obtain ⟨y2, h2, e2⟩ := hf 2 _ _ _ rfl
        obtain ⟨y3, h3, e3⟩ := hf 3 _ _ _ rfl
        obtain ⟨y4, h4, e4⟩ := hf 4 _ _ _ rfl
        simp only [List.getElem?_cons_zero, List.getElem?_cons_succ, Option.some.injEq] at e0 e1 e2 e3 e4
        subst e0 e1 e2 e3 e4
        simp only [List.drop_zero, List.take_succ_cons, List.take_zero, List.drop_succ_cons] at h0 h1 h2 h3 h4
        obtain ⟨m, hm, _, _⟩ := DataW.trod_int (intOf_spec ty.n) h0
        obtain ⟨z, hz, _⟩ := DataW.trod_bool (boolOf_spec ty.b) h2
        simp only [List.cons.injEq, and_true] at hm hz
        subst hm hz
        obtain ⟨bs, el1, sp1, g1, k1, n1, _, x1⟩ := open_sl ddB (fun _ _ => True) (by decide) ty.s (fun f ce y _ hc => open_byte ty.b8 hc) h1 hsp
        obtain ⟨l, el3, sp3, g3, k3, n3, r3, x3⟩ := open_sl ddT (fun t d => t.bulk ≤ bulkD d ∧ (Light P tt d → t.sane = true)) (by decide) ty.l (fun f ce y hf hc => ih f ce y (by omega) hc) h3 hsp
        obtain ⟨u, el4, sp4, g4, k4, n4, r4, x4⟩ := open_sl ddTag (fun u d => u.1 < 4294967296 ∧ 1 + u.2.length ≤ bulkD d ∧ (Light P tg d → u.2.length ≤ 140737488355328)) (by decide) ty.u (fun f ce y _ hc => open_tag ty hsp hc) h4 hsp
        refine ⟨.mk m bs z l u, ⟨rep_T_mk (t := .mk m bs z l u) g1 g3 g4, ?_, ?_⟩, rfl⟩
        · rw [hx]
          have b1 := sl_bulk x1
          have b3 := sl_bulk x3
          have b4 := sl_bulk x4
          have c1 := bulk_count (el := el1)
          have c3 := bulks_le (g := T.bulk) n3 (fun i a d h1 h2 => (r3 i a d h1 h2).1)
          have c4 := bulks_le (g := fun p : Nat × List UInt8 => 1 + p.2.length) n4 (fun i a d h1 h2 => (r4 i a d h1 h2).2.1)
          have p0 := bulk_pos z0.1
          have p2 := bulk_pos z2.1
          rw [← bulks_sum] at c3
          rw [← bulkU_sum] at c4
          simp only [List.map_cons, List.map_nil, bulkD, bulkDs, T.bulk]
          omega
        · intro hw
          rw [hx] at hw
          obtain ⟨fs, hu, _, hl⟩ := structOf_spec ty.st
          have hty : fs.toList.map (·.type) = [tn, ts, tb, tl, tu] := by
            have h9 := congrArg (List.map (·.1)) hl
            rw [List.map_map] at h9
            exact h9
          unfold Light at hw
          simp only [DataW.weights, hu, hty, List.map_cons, List.map_nil, DataW.weightsEach, List.mem_append] at hw
          have w1 := sl_light ty.s ty.y8 x1 (fun n hn => hw n (.inr (.inl hn)))
          have w3 := sl_light ty.l ty.yt x3 (fun n hn => hw n (.inr (.inr (.inr (.inl hn)))))
          have w4 := sl_light ty.u ty.yg x4 (fun n hn => hw n (.inr (.inr (.inr (.inr (.inl hn))))))
          refine sane_mk (by omega) (by omega) (by omega) ?_ ?_
          · intro p hp
            obtain ⟨i, hi⟩ := List.mem_iff_getElem?.1 hp
            have hlt := (List.getElem?_eq_some_iff.1 hi).1
            exact (r4 i p el4[i] hi (List.getElem?_eq_getElem (by omega))).1
          · intro p hp
            obtain ⟨i, hi⟩ := List.mem_iff_getElem?.1 hp
            have hlt := (List.getElem?_eq_some_iff.1 hi).1
            exact (r3 i p el3[i] hi (List.getElem?_eq_getElem (by omega))).2 (w3.2 i _ (List.getElem?_eq_getElem (by omega)))
  exact fun fuel cs x h => key fuel fuel cs x (Nat.le_refl _) h
/-- a tree that is handed in -/
theorem open_tree {tt tg tn ts t8 tb tl tu tk : Nat} (ty : TreeTy P tt tg tn ts t8 tb tl tu tk) (hsp : ∀ b, spare b = true) {v : Value} {d : DataW H} {ps : List MemPlace} (hv : v.cells.toList.length = 5 → ∃ cs : Array Value, v = .agg cs) (h : DataW.Trod enc P w base spare held tt v d ps) :
    ∃ (t : T) (c : List Value), v = .agg c.toArray ∧ Rep w Nob (ddT t) c ∧ t.bulk ≤ bulkD d ∧ (Light P tt d → t.sane = true) := by
  obtain ⟨fuel, h⟩ := h
  obtain ⟨t, ⟨h1, h3, h4⟩, h2⟩ := open_T ty hsp fuel _ _ h
  obtain ⟨cs, rfl⟩ := hv h2
  exact ⟨t, cs.toList, by simp, by simpa [Value.cells] using h1, h3, h4⟩
theorem agg_of_len {v : Value} (h : v.cells.toList.length = 5) : ∃ cs : Array Value, v = .agg cs := by
  cases v <;> first | exact ⟨_, rfl⟩ | simp [Value.cells] at h
end
theorem bres_nil {at_ : Nat → Option (Nat × Nat)} {l : List (Nat × Value)} {zs r : List Value} (h : r = zs) : bres at_ l [] zs r := h
end Go.Mk
/- How long flexible messages may be. No statement of a seat stands here. -/
namespace Go.Mk
open Go
theorem tags_len (fs : List Fld) {t : T} (hsn : t.sane = true) : ∀ u ∈ unknownP fs t.u, (tagP u.1 (whole u.2)).length ≤ 20 + (whole u.2).length := fun u hu => by
  have h1 := sane_keys hsn u ((unk_rising fs t.u).2 u hu)
  have h2 := uvarint_len10 u.1 (by omega)
  have h3 := whole_len u.2
  have h4 := uvarint_len10 (whole u.2).length (by omega)
  rw [tagP_len]; omega
theorem sane_get {t : T} (h : t.sane = true) (l : List T) (hl : ∀ x ∈ l, x ∈ t.l) (j : Nat) : (l.getD j T.nil).sane = true := by
  rw [List.getD_eq_getElem?_getD]
  cases hi : l[j]? with
  | none => exact sane_nil
  | some x => exact (sane_spec h).2.2.2 x (hl x (List.mem_of_getElem? hi))

/-! ### by the fields alone -/
def tagMax : Nat := 10 + 32767 * 32787
mutual
def myF : Fld → Nat
  | .mk kind _ _ _ _ _ of sub => if kind = 11 then 10 + 32767 * mxV of (myFs sub + tagMax) else 1 + mxV kind (myFs sub + tagMax)
def myFs : List Fld → Nat
  | [] => 0
  | f :: r => myF f + myFs r
end
theorem myF_eq (f : Fld) : myF f = if f.kind = 11 then 10 + 32767 * mxV f.of (myFs f.sub + tagMax) else 1 + mxV f.kind (myFs f.sub + tagMax) := by
  cases f; unfold myF; rfl
theorem myF_le_of {f : Fld} {V : Int} {flex : Bool} (hp : ∀ t : T, t.sane = true → (partP f.sub V flex t).length ≤ myFs f.sub + tagMax) (t : T) (hsn : t.sane = true) : (fieldP f V flex t).length ≤ myF f := by
  rw [fieldP_eq, myF_eq]
  unfold fieldQ
  by_cases h11 : f.kind = 11
  · rw [if_pos h11, if_pos h11, List.length_append]
    have hl : (if f.null V t then [] else things t.l).length ≤ 32767 := by split; exact Nat.zero_le _; exact things_len t.l
    have h1 := counted_len2 (flex := flex) (null := f.null V t) (size := 4) (by decide) hl
    have h2 := flat_le (valueP f.of (partP f.sub V flex) false flex) (mxV f.of (myFs f.sub + tagMax)) (if f.null V t then [] else things t.l) (fun x hx => mxV_le (hp x ((sane_spec hsn).2.2.2 x (by
      split at hx
      · cases hx
      · exact List.mem_of_mem_take hx))))
    have h3 := Nat.mul_le_mul_right (mxV f.of (myFs f.sub + tagMax)) hl
    omega
  · rw [if_neg h11, if_neg h11]
    by_cases h10 : f.kind = 10 ∧ f.nu ≥ 0
    · rw [if_pos h10, h10.1]
      have := hp t hsn
      show _ ≤ 1 + (myFs f.sub + tagMax)
      split
      · simp [fixed_length]
      · rw [List.length_append, fixed_length]; omega
    · rw [if_neg h10]
      have := mxV_le (kind := f.kind) (null := f.null V t) (flex := flex) (hp t hsn)
      omega
theorem plain_leY (V : Int) (flex : Bool) (t : T) (hsn : t.sane = true) : ∀ (fs : List Fld) (i : Nat), (∀ f ∈ fs, ∀ t : T, t.sane = true → (fieldP f V flex t).length ≤ myF f) → (plainOut fs V (fieldsP fs V flex t.l i)).length ≤ myFs fs
  | [], i, _ => by simp [plainOut]
  | f :: r, i, h => by
    rw [plainOut_cons, List.length_append]
    have h1 := h f List.mem_cons_self (t.l.getD i T.nil) (sane_get hsn t.l (fun _ hx => hx) i)
    have h2 := plain_leY V flex t hsn r (i + 1) fun g hg => h g (List.mem_cons_of_mem _ hg)
    have h3 : (pieceP f V flex (t.l.getD i T.nil)).length ≤ myF f := by unfold pieceP; split; exact h1; exact Nat.zero_le _
    simp only [myFs]
    omega
theorem plain_flat (fs : List Fld) (V : Int) (flex : Bool) (t : T) : (List.range fs.length).flatMap (pie fs V flex t) = plainOut fs V (fieldsP fs V flex t.l 0) := by
  rw [plain_range]
  apply flatMap_same
  intro j _
  simp [pie, T.at_]
theorem my_part_of {fs : List Fld} {V : Int} {flex : Bool} (hk : flex = true → known fs = 0) (hf : ∀ f ∈ fs, ∀ t : T, t.sane = true → (fieldP f V flex t).length ≤ myF f) (t : T) (hsn : t.sane = true) : (partP fs V flex t).length ≤ myFs fs + tagMax := by
  have h1 := plain_leY V flex t hsn fs 0 hf
  cases flex with
  | false => rw [partP_off rfl, plain_flat]; omega
  | true =>
    rw [partP_on rfl (hk rfl), plain_flat, List.length_append, List.length_append]
    have hl := unk_length fs t.u
    have h2 := uvarint_len10 (unknownP fs t.u).length (by omega)
    have h3 := flat_le (fun u : Nat × List UInt8 => tagP u.1 (whole u.2)) 32787 (unknownP fs t.u) fun u hu => by
      have := tags_len fs hsn u hu
      have := whole_len u.2
      show (tagP u.1 (whole u.2)).length ≤ _
      omega
    have h4 := Nat.mul_le_mul_right 32787 hl
    unfold tagMax
    omega
theorem my_field {flex : Bool} (V : Int) : ∀ (f : Fld), (flex = true → noTagF f = true) → ∀ t : T, t.sane = true → (fieldP f V flex t).length ≤ myF f := Fld_ind fun _f ih hn => myF_le_of fun t hsn =>
  my_part_of (fun e => known_none (noTag_sub (hn e))) (fun g hg => ih g hg fun e => noTag_mem (noTag_sub (hn e)) g hg) t hsn
theorem my_part {flex : Bool} (fs : List Fld) (hn : flex = true → noTagFs fs = true) (V : Int) (t : T) (hsn : t.sane = true) : (partP fs V flex t).length ≤ myFs fs + tagMax :=
  my_part_of (fun e => known_none (hn e)) (fun f hf => my_field V f fun e => noTag_mem (hn e) f hf) t hsn

/-! ### by the bulk -/
def kpV (kind part : Nat) : Nat :=
  match kind with
  | 0 => 1
  | 7 => 16
  | 8 => 11
  | 9 => 11
  | 10 => part
  | _ => 8
mutual
def kpF : Fld → Nat
  | .mk kind _ _ _ _ _ of sub => 10 + (if kind = 11 then kpV of (kpFs sub + 31) else 1 + kpV kind (kpFs sub + 31))
def kpFs : List Fld → Nat
  | [] => 0
  | f :: r => kpF f + kpFs r
end
theorem kpF_eq (f : Fld) : kpF f = 10 + (if f.kind = 11 then kpV f.of (kpFs f.sub + 31) else 1 + kpV f.kind (kpFs f.sub + 31)) := by
  cases f; unfold kpF; rfl
theorem bulk_s (t : T) : 1 + t.s.length + bulkU t.u + T.bulks t.l = t.bulk := by cases t; simp only [T.bulk, T.s, T.u, T.l]
theorem kpV_le {kind : Nat} {pt : T → List UInt8} {null flex : Bool} {t : T} {m : Nat} (hp : (pt t).length ≤ m * t.bulk) : (valueP kind pt null flex t).length ≤ kpV kind m * t.bulk := by
  have hb := bulk_s t
  by_cases h0 : kind = 0
  · subst h0; show 1 ≤ 1 * t.bulk; omega
  by_cases h7 : kind = 7
  · subst h7; show (sixteen t.s).length ≤ 16 * t.bulk; rw [sixteen_length]; omega
  have hw : (if null then [] else whole t.s).length ≤ 32767 := by split; exact Nat.zero_le _; exact whole_len t.s
  have hw2 : (if null then [] else whole t.s).length ≤ t.s.length := by
    split
    · exact Nat.zero_le _
    · unfold whole; rw [List.length_take]; omega
  by_cases h8 : kind = 8
  · subst h8
    show (counted flex null _ 2 ++ _).length ≤ 11 * t.bulk
    rw [List.length_append]
    have := counted_len2 (flex := flex) (null := null) (n := (if null then [] else whole t.s).length) (size := 2) (by decide) hw
    omega
  by_cases h9 : kind = 9
  · subst h9
    show (counted flex null _ 4 ++ _).length ≤ 11 * t.bulk
    rw [List.length_append]
    have := counted_len2 (flex := flex) (null := null) (n := (if null then [] else whole t.s).length) (size := 4) (by decide) hw
    omega
  by_cases h10 : kind = 10
  · subst h10; exact hp
  · rw [valueP_num h0 h7 h8 h9 h10, fixed_length]
    have : kpV kind m = 8 := by unfold kpV; split <;> simp_all
    rw [this]
    have := width_le kind
    omega
theorem flat_sum {α β : Type} (F : α → List β) (c : Nat) (g : α → Nat) : ∀ (l : List α), (∀ x ∈ l, (F x).length ≤ c * g x) → (l.flatMap F).length ≤ c * (l.map g).sum
  | [], _ => by simp
  | x :: r, h => by
    have h1 := h x List.mem_cons_self
    have h2 := flat_sum F c g r fun y hy => h y (List.mem_cons_of_mem _ hy)
    rw [List.flatMap_cons, List.length_append, List.map_cons, List.sum_cons, Nat.mul_add]
    omega
theorem sum_take {α : Type} (g : α → Nat) : ∀ (l : List α) (k : Nat), ((l.take k).map g).sum ≤ (l.map g).sum
  | [], k => by simp
  | x :: r, 0 => by simp
  | x :: r, k + 1 => by
    have := sum_take g r k
    simp only [List.take_succ_cons, List.map_cons, List.sum_cons]; omega
theorem mem_sum {α : Type} (g : α → Nat) : ∀ {l : List α} {x : α}, x ∈ l → g x ≤ (l.map g).sum
  | [], x, h => by cases h
  | y :: r, x, h => by
    simp only [List.map_cons, List.sum_cons]
    rcases List.mem_cons.1 h with rfl | h
    · omega
    · have := mem_sum g h; omega
theorem ins_sum {g : Nat × List UInt8 → Nat} {u : Nat × List UInt8} : ∀ l : List (Nat × List UInt8), ((insTag u l).map g).sum ≤ g u + (l.map g).sum
  | [] => by simp [insTag]
  | x :: r => by
    have := ins_sum (g := g) (u := u) r
    unfold insTag
    split
    · simp only [List.map_cons, List.sum_cons]; omega
    · split <;> (simp only [List.map_cons, List.sum_cons]; omega)
theorem unk_sum (g : Nat × List UInt8 → Nat) (fs : List Fld) (u : List (Nat × List UInt8)) : ((unknownP fs u).map g).sum ≤ (u.map g).sum := by
  have key : ∀ (l out : List (Nat × List UInt8)), ((l.foldl (fun out t => if t.1 < known fs then out else insTag t out) out).map g).sum ≤ (out.map g).sum + (l.map g).sum := by
    intro l
    induction l with
    | nil => intro out; simp
    | cons x r ih =>
      intro out
      simp only [List.foldl_cons, List.map_cons, List.sum_cons]
      have h1 := ih (if x.1 < known fs then out else insTag x out)
      have h2 : ((if x.1 < known fs then out else insTag x out).map g).sum ≤ g x + (out.map g).sum := by
        split
        · omega
        · exact ins_sum out
      omega
  have h1 := key (u.take 32767) []
  have h2 := sum_take g u 32767
  simp only [List.map_nil, List.sum_nil, Nat.zero_add] at h1
  exact Nat.le_trans h1 h2
theorem kpF_le_of {f : Fld} {V : Int} {flex : Bool} (hp : ∀ t : T, t.sane = true → (partP f.sub V flex t).length ≤ (kpFs f.sub + 31) * t.bulk) (t : T) (hsn : t.sane = true) : (fieldP f V flex t).length ≤ kpF f * t.bulk := by
  have hb := bulk_s t
  rw [fieldP_eq, kpF_eq]
  unfold fieldQ
  by_cases h11 : f.kind = 11
  · rw [if_pos h11, if_pos h11, List.length_append]
    have hl : (if f.null V t then [] else things t.l).length ≤ 32767 := by split; exact Nat.zero_le _; exact things_len t.l
    have h1 := counted_len2 (flex := flex) (null := f.null V t) (size := 4) (by decide) hl
    have h2 := flat_sum (valueP f.of (partP f.sub V flex) false flex) (kpV f.of (kpFs f.sub + 31)) T.bulk (if f.null V t then [] else things t.l) (fun x hx => kpV_le (hp x ((sane_spec hsn).2.2.2 x (by
      split at hx
      · cases hx
      · exact List.mem_of_mem_take hx))))
    have h3 : ((if f.null V t then [] else things t.l).map T.bulk).sum ≤ t.bulk := by
      have := sum_take T.bulk t.l 32767
      rw [← bulks_sum t.l] at this
      split
      · simp
      · unfold things; omega
    have h4 := Nat.mul_le_mul_left (kpV f.of (kpFs f.sub + 31)) h3
    rw [Nat.add_mul]
    omega
  · rw [if_neg h11, if_neg h11]
    by_cases h10 : f.kind = 10 ∧ f.nu ≥ 0
    · rw [if_pos h10, h10.1]
      have := hp t hsn
      show _ ≤ (10 + (1 + (kpFs f.sub + 31))) * t.bulk
      rw [Nat.add_mul, Nat.add_mul]
      split
      · simp only [fixed_length]; omega
      · rw [List.length_append, fixed_length]; omega
    · rw [if_neg h10]
      have := kpV_le (kind := f.kind) (null := f.null V t) (flex := flex) (hp t hsn)
      rw [Nat.add_mul, Nat.add_mul]
      omega
theorem plain_leK (V : Int) (flex : Bool) (t : T) (hsn : t.sane = true) : ∀ (fs : List Fld) (i : Nat), (∀ f ∈ fs, ∀ t : T, t.sane = true → (fieldP f V flex t).length ≤ kpF f * t.bulk) → (plainOut fs V (fieldsP fs V flex t.l i)).length ≤ kpFs fs * t.bulk
  | [], i, _ => by simp [plainOut]
  | f :: r, i, h => by
    rw [plainOut_cons, List.length_append]
    have h1 := h f List.mem_cons_self (t.l.getD i T.nil) (sane_get hsn t.l (fun _ hx => hx) i)
    have h2 := plain_leK V flex t hsn r (i + 1) fun g hg => h g (List.mem_cons_of_mem _ hg)
    have hb : (t.l.getD i T.nil).bulk ≤ t.bulk := by
      have hbs := bulk_s t
      rw [List.getD_eq_getElem?_getD]
      cases hi : t.l[i]? with
      | none => show 1 + 0 + 0 + 0 ≤ _; omega
      | some x =>
        have h5 := mem_sum T.bulk (List.mem_of_getElem? hi)
        rw [← bulks_sum t.l] at h5
        show x.bulk ≤ _
        omega
    have h3 : (pieceP f V flex (t.l.getD i T.nil)).length ≤ kpF f * t.bulk := by
      unfold pieceP
      split
      · exact Nat.le_trans h1 (Nat.mul_le_mul_left _ hb)
      · exact Nat.zero_le _
    simp only [kpFs]
    rw [Nat.add_mul]
    omega
theorem kp_part_of {fs : List Fld} {V : Int} {flex : Bool} (hk : flex = true → known fs = 0) (hf : ∀ f ∈ fs, ∀ t : T, t.sane = true → (fieldP f V flex t).length ≤ kpF f * t.bulk) (t : T) (hsn : t.sane = true) : (partP fs V flex t).length ≤ (kpFs fs + 31) * t.bulk := by
  have h1 := plain_leK V flex t hsn fs 0 hf
  have hb := bulk_s t
  rw [Nat.add_mul]
  cases flex with
  | false => rw [partP_off rfl, plain_flat]; omega
  | true =>
    rw [partP_on rfl (hk rfl), plain_flat, List.length_append, List.length_append]
    have hl := unk_length fs t.u
    have h2 := uvarint_len10 (unknownP fs t.u).length (by omega)
    have h3 := flat_sum (fun u : Nat × List UInt8 => tagP u.1 (whole u.2)) 21 (fun p => 1 + p.2.length) (unknownP fs t.u) fun u hu => by
      have := tags_len fs hsn u hu
      have h5 : (whole u.2).length ≤ u.2.length := by unfold whole; rw [List.length_take]; omega
      show (tagP u.1 (whole u.2)).length ≤ 21 * (1 + u.2.length)
      omega
    have h4 := unk_sum (fun p => 1 + p.2.length) fs t.u
    rw [← bulkU_sum t.u] at h4
    have h6 := Nat.mul_le_mul_left 21 h4
    omega
theorem kp_field {flex : Bool} (V : Int) : ∀ (f : Fld), (flex = true → noTagF f = true) → ∀ t : T, t.sane = true → (fieldP f V flex t).length ≤ kpF f * t.bulk := Fld_ind fun _f ih hn => kpF_le_of fun t hsn =>
  kp_part_of (fun e => known_none (noTag_sub (hn e))) (fun g hg => ih g hg fun e => noTag_mem (noTag_sub (hn e)) g hg) t hsn
theorem kp_part {flex : Bool} (fs : List Fld) (hn : flex = true → noTagFs fs = true) (V : Int) (t : T) (hsn : t.sane = true) : (partP fs V flex t).length ≤ (kpFs fs + 31) * t.bulk :=
  kp_part_of (fun e => known_none (hn e)) (fun f hf => kp_field V f fun e => noTag_mem (hn e) f hf) t hsn
end Go.Mk
