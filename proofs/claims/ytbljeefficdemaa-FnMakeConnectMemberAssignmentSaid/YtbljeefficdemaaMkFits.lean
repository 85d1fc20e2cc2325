/- What is fitted, by number; fitted trees are small. No statement of a seat stands here. -/
import Derived.Test.YtbljeefficdemaaMkPart
namespace Go.Mk
open Go

theorem fitFs_range (fs : List Fld) (v : Int) (l : List T) (i : Nat) : fitFs fs v l i = (List.range fs.length).map (fun j => fitF (fs.getD j FNIL) v (l.getD (i + j) T.nil)) := by
  induction fs generalizing i with
  | nil => simp [fitFs]
  | cons f r ih =>
    rw [fitFs, ih (i + 1), List.length_cons, List.range_succ_eq_map, List.map_cons, List.map_map]
    congr 1
    apply List.map_congr_left
    intro j _
    simp only [Function.comp, List.getD_cons_succ]
    congr 2
    omega
def fitAt (fs : List Fld) (v : Int) (t : T) (j : Nat) : T := fitF (fs.getD j FNIL) v (t.at_ j)
theorem fitP_range (fs : List Fld) (v : Int) (t : T) : fitP fs v t = .mk 0 [] false ((List.range fs.length).map (fitAt fs v t)) (fitU fs t.u) := by
  unfold fitP
  rw [fitFs_range]
  congr 1
  apply List.map_congr_left
  intro j _
  simp [fitAt, T.at_]
theorem range_map_succ {α β : Type} (f : α → β) (G : Nat → α) (k : Nat) : ((List.range (k + 1)).map G).map f = ((List.range k).map G).map f ++ [f (G k)] := by
  rw [List.range_succ]; simp
def fitTag (p : Nat × List UInt8) : Nat × List UInt8 := (p.1, whole p.2)
theorem fitU_eq (fs : List Fld) (u : List (Nat × List UInt8)) : fitU fs u = (unknownP fs u).map fitTag := rfl
theorem take_map_succ {α β γ : Type} (f : β → γ) (g : α → β) (l : List α) (k : Nat) (d : α) (h : k < l.length) : ((l.take (k + 1)).map g).map f = ((l.take k).map g).map f ++ [f (g (l.getD k d))] := by
  rw [List.take_succ_eq_append_getElem h, List.map_append, List.map_append]
  congr 1
  simp [h]

/-- of a list the field of its things -/
def oneOf (f : Fld) : Fld := .mk f.of f.fr f.to (-1) (-1) f.df f.of f.sub
theorem fitF_other {f : Fld} {v : Int} {t : T} (h11 : f.kind ≠ 11) : fitF f v t = fitVal f.kind (f.null v t) (fun x => fitP f.sub v x) t := by
  cases f with
  | mk kind fr to nu tag df of sub =>
    have h : kind ≠ 11 := h11
    unfold fitF
    rw [if_neg h]
    rfl
theorem oneOf_null (f : Fld) (v : Int) (t : T) : (oneOf f).null v t = false := by simp [oneOf, Fld.null, Fld.nu]
theorem fitF_list {f : Fld} {v : Int} {t : T} (h11 : f.kind = 11) (hof : f.of ≤ 10) : fitF f v t = .mk 0 [] (f.null v t || (decide (f.tag ≥ 0) && decide (t.l.length = 0))) ((things t.l).map fun x => fitF (oneOf f) v x) [] := by
  have h2 : ∀ x, fitF (oneOf f) v x = fitVal f.of false (fun x => fitP f.sub v x) x := fun x => by
    rw [fitF_other (by simp [oneOf, Fld.kind]; omega), oneOf_null]
    simp [oneOf, Fld.kind, Fld.sub]
  have h3 : ((things t.l).map fun x => fitF (oneOf f) v x) = (things t.l).map fun x => fitVal f.of false (fun x => fitP f.sub v x) x := List.map_congr_left fun x _ => h2 x
  rw [h3]
  cases f with
  | mk kind fr to nu tag df of sub =>
    have h : kind = 11 := h11
    unfold fitF
    rw [if_pos h]
    rfl
theorem fitVal_text {k : Nat} {null : Bool} {st : T → T} {t : T} (h : k = 8 ∨ k = 9) : fitVal k null st t = .mk 0 (whole t.s) null [] [] := by
  rcases h with rfl | rfl <;> rfl
theorem fitVal_part {k : Nat} {null : Bool} {st : T → T} {t : T} (h : k = 10) : fitVal k null st t = .mk (st t).n (st t).s null (st t).l (st t).u := by subst h; rfl
theorem fitVal_num {k : Nat} {null : Bool} {st : T → T} {t : T} (h8 : k ≠ 8) (h9 : k ≠ 9) (h10 : k ≠ 10) : fitVal k null st t = .mk t.n t.s false [] [] := by
  unfold fitVal; split <;> simp_all
theorem rep_Fd_mk {w : World} {Y : Nat → Prop} {kind of : Nat} {fr to nu tag df : Int} {sub : List Fld} {x : Value} (h : Rep w Y (.sl false 8 (sub.map ddFd)) [x]) :
    Rep w Y (ddFd (.mk kind fr to nu tag df of sub)) [.int .i64 (kind : Int), .int .i64 fr, .int .i64 to, .int .i64 nu, .int .i64 tag, .int .i64 df, .int .i64 (of : Int), x] := by
  simp only [ddFd, ddFds_map]
  exact rep_agg (RepL.cons1 (rep_v _) (RepL.cons1 (rep_v _) (RepL.cons1 (rep_v _) (RepL.cons1 (rep_v _) (RepL.cons1 (rep_v _) (RepL.cons1 (rep_v _) (RepL.cons1 (rep_v _) (RepL.cons1 h RepL.nil))))))))

/-! ### fitted trees are small -/
theorem small_mk {n : Int} {s : List UInt8} {z : Bool} {l : List T} {u : List (Nat × List UInt8)} (h1 : l.length ≤ 32767) (h2 : u.length ≤ 32767) (h3 : ∀ p ∈ u, p.2.length ≤ 32767) (h4 : ∀ x ∈ l, x.small = true) : (T.mk n s z l u).small = true := by
  have h5 : ∀ l : List T, (∀ x ∈ l, x.small = true) → T.smalls l = true := by
    intro l
    induction l with
    | nil => intro _; rfl
    | cons x r ih => intro h; simp only [T.smalls, Bool.and_eq_true]; exact ⟨h x List.mem_cons_self, ih fun y hy => h y (List.mem_cons_of_mem _ hy)⟩
  simp only [T.small, Bool.and_eq_true, decide_eq_true_eq, List.all_eq_true]
  exact ⟨⟨⟨⟨Nat.le_refl _, h1⟩, h2⟩, fun p hp => h3 p hp⟩, h5 l h4⟩
theorem unk_length (fs : List Fld) (u : List (Nat × List UInt8)) : (unknownP fs u).length ≤ 32767 := by
  rw [unkF_eq]
  have h := unkF_length (known fs) (u.take 32767) 32767
  rwa [List.take_take, Nat.min_self] at h
theorem small_fitVal {k : Nat} {null : Bool} {st : T → T} (hs : ∀ x, (st x).small = true) (t : T) : (fitVal k null st t).small = true := by
  have h0 : ∀ (n : Int) (s : List UInt8) (z : Bool), (T.mk n s z [] []).small = true := fun n s z => small_mk (by simp) (by simp) (by simp) (by simp)
  by_cases h : k = 8 ∨ k = 9
  · rw [fitVal_text h]; exact h0 _ _ _
  · by_cases h10 : k = 10
    · rw [fitVal_part h10]
      have := small_spec (hs t)
      exact small_mk this.2.1 this.2.2.1 this.2.2.2.1 this.2.2.2.2
    · rw [fitVal_num (fun e => h (.inl e)) (fun e => h (.inr e)) h10]; exact h0 _ _ _
theorem small_fitP_of {fs : List Fld} (hl : fs.length ≤ 1000) (v : Int) (hf : ∀ f ∈ fs, ∀ x, (fitF f v x).small = true) (t : T) : (fitP fs v t).small = true := by
  rw [fitP_range]
  refine small_mk (by simp; omega) (by rw [fitU_eq, List.length_map]; exact unk_length fs t.u) ?_ ?_
  · intro p hp
    rw [fitU_eq] at hp
    obtain ⟨q, _, rfl⟩ := List.mem_map.1 hp
    exact whole_len q.2
  · intro x hx
    obtain ⟨j, hj, rfl⟩ := List.mem_map.1 hx
    exact hf _ (getD_mem (List.mem_range.1 hj)) _
theorem small_fitF (v : Int) : ∀ f : Fld, tidyF f = true → ∀ x, (fitF f v x).small = true := Fld_ind fun f ih h => by
  have ht := tidy_spec h
  have hp : ∀ x, (fitP f.sub v x).small = true := fun x => small_fitP_of ht.2.2.2.1 v (fun g hg => ih g hg (tidy_mem ht.2.2.2.2 g hg)) x
  intro x
  by_cases h11 : f.kind = 11
  · rw [fitF_list h11 ht.2.1]
    refine small_mk (by rw [List.length_map]; exact things_len x.l) (by simp) (by simp) ?_
    intro y hy
    obtain ⟨z, _, rfl⟩ := List.mem_map.1 hy
    rw [fitF_other (by simp [oneOf, Fld.kind]; omega)]
    exact small_fitVal hp z
  · rw [fitF_other h11]; exact small_fitVal hp x
theorem small_fitP {fs : List Fld} (h : tidyFs fs = true) (hl : fs.length ≤ 1000) (v : Int) (t : T) : (fitP fs v t).small = true := small_fitP_of hl v (fun f hf => small_fitF v f (tidy_mem h f hf)) t
end Go.Mk
