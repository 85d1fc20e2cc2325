/- Walks of programs, step by step: what holds of memory behind each; the reference in plain words. No statement of a seat stands here. -/
import Derived.Test.YthholdjpcdpceabDoorL3
namespace Go.Mk
open Go
theorem fail_l : RS.fail.l = [] := rfl
theorem num_le (k : Nat) (s : RS) : (RS.num k s).2.l.length ≤ s.l.length := by
 unfold RS.num
 split
 ·rw [fail_l]; simp
 ·show (s.l.drop k).length ≤ _
  rw [List.length_drop]; omega
theorem uvG_le : ∀ (k : Nat) (l : List UInt8) (n : Nat) (r : List UInt8), uvG k l = some (n, r) → r.length < l.length
 | _, [], n, r, h => by cases ‹Nat› <;> simp [uvG] at h
 | 0, b :: q, n, r, h => by
  simp only [uvG] at h
  split at h
  ·simp only [Option.some.injEq, Prod.mk.injEq] at h
   rw [← h.2]; simp
  ·cases h
 | k + 1, b :: q, n, r, h => by
  simp only [uvG] at h
  split at h
  ·simp only [Option.some.injEq, Prod.mk.injEq] at h
   rw [← h.2]; simp
  ·cases hq : uvG k q with
   | none => rw [hq] at h; simp at h
   | some p =>
    rw [hq] at h
    simp only [Option.map_some, Option.some.injEq, Prod.mk.injEq] at h
    have := uvG_le k q p.1 p.2 hq
    rw [← h.2]; simp only [List.length_cons]; omega
theorem uv_or (s : RS) : (RS.uv s).2.l.length < s.l.length ∨ ((RS.uv s).1 = 0 ∧ (RS.uv s).2.l = []) := by
 unfold RS.uv
 split
 ·rename_i n r h
  exact .inl (uvG_le 4 s.l n r h)
 ·exact .inr ⟨rfl, rfl⟩
theorem uv_le (s : RS) : (RS.uv s).2.l.length ≤ s.l.length := by
 rcases uv_or s with h | ⟨_, h⟩
 ·omega
 ·rw [h]; simp
theorem span_le (k : Int) (s : RS) : (RS.span k s).2.l.length ≤ s.l.length ∧ ((RS.span k s).1.getD []).length ≤ s.l.length := by
 unfold RS.span
 split
 ·rw [fail_l]; simp
 ·unfold RS.l
  cases s.src with
  | none => simp
  | some l => simp only [Option.map_some, Option.getD_some, List.length_drop, List.length_take]; omega
theorem rdLen_le (flex : Bool) (k : Nat) (ik : IntKind) (s : RS) : (rdLen flex k ik s).2.l.length ≤ s.l.length := by
 unfold rdLen
 split
 ·exact uv_le s
 ·exact num_le k s
theorem fine_leaf {n : Int} {s : List UInt8} {z : Bool} (h : s.length ≤ 32767) : (T.mk n s z [] []).fine = true := fine_mk h (by simp) (by simp) (by simp) (by simp) (by simp)
def FineR (one : RS → Option (T × RS)) : Prop := ∀ (s : RS) (t : T) (s' : RS), s.l.length ≤ 32766 → one s = some (t, s') → t.fine = true ∧ s'.l.length ≤ s.l.length
theorem fine_rdText (nul flex : Bool) : FineR fun s => some (rdText nul flex s) := fun s t s' hs h => by
 have h1 := rdLen_le flex 2 .i16 s
 have h2 := span_le (rdLen flex 2 .i16 s).1 (rdLen flex 2 .i16 s).2
 simp only [Option.some.injEq] at h
 unfold rdText at h
 split at h
 ·simp only [Prod.mk.injEq] at h
  obtain ⟨rfl, rfl⟩ := h
  exact ⟨fine_leaf (by simp), h1⟩
 ·simp only [Prod.mk.injEq] at h
  obtain ⟨rfl, rfl⟩ := h
  exact ⟨fine_leaf (by omega), by omega⟩
theorem fine_rdBytes (nul flex : Bool) : FineR fun s => some (rdBytes nul flex s) := fun s t s' hs h => by
 have h1 := rdLen_le flex 4 .i32 s
 have h2 := span_le (rdLen flex 4 .i32 s).1 (rdLen flex 4 .i32 s).2
 simp only [Option.some.injEq] at h
 unfold rdBytes at h
 split at h
 ·simp only [Prod.mk.injEq] at h
  obtain ⟨rfl, rfl⟩ := h
  exact ⟨fine_leaf (by simp), h1⟩
 ·split at h
  ·simp only [Prod.mk.injEq] at h
   obtain ⟨rfl, rfl⟩ := h
   exact ⟨fine_leaf (by simp), h1⟩
  ·simp only [Prod.mk.injEq] at h
   obtain ⟨rfl, rfl⟩ := h
   refine ⟨?_, by omega⟩
   cases hq : (RS.span (rdLen flex 4 .i32 s).1 (rdLen flex 4 .i32 s).2).1 with
   | none => exact fine_leaf (by simp)
   | some b =>
    rw [hq] at h2
    exact fine_leaf (by have := h2.2; simp only [Option.getD_some] at this; omega)
theorem fine_rdVal {kind : Nat} {nul flex : Bool} {pt : RS → Option (T × RS)} (hp : FineR pt) : FineR (rdVal kind nul flex pt) := fun s t s' hs h => by
 unfold rdVal at h
 split at h
 ·simp only [Option.some.injEq, Prod.mk.injEq] at h
  obtain ⟨rfl, rfl⟩ := h
  exact ⟨fine_leaf (by simp), num_le _ _⟩
 ·simp only [Option.some.injEq, Prod.mk.injEq] at h
  obtain ⟨rfl, rfl⟩ := h
  exact ⟨fine_leaf (by rw [sixteen_length]; omega), (span_le _ _).1⟩
 ·exact fine_rdText nul flex s t s' hs h
 ·exact fine_rdBytes nul flex s t s' hs h
 ·exact hp s t s' hs h
 ·simp only [Option.some.injEq, Prod.mk.injEq] at h
  obtain ⟨rfl, rfl⟩ := h
  exact ⟨fine_leaf (by simp), num_le _ _⟩
theorem fine_rdEach {one : RS → Option (T × RS)} (hp : FineR one) : ∀ (n : Nat) (s : RS) (l : List T) (s' : RS), s.l.length ≤ 32766 → rdEach one n s = some (l, s') → (∀ t ∈ l, t.fine = true) ∧ l.length = n ∧ s'.l.length ≤ s.l.length
 | 0, s, l, s', _, h => by
  simp only [rdEach, Option.some.injEq, Prod.mk.injEq] at h
  obtain ⟨rfl, rfl⟩ := h
  exact ⟨by simp, rfl, Nat.le_refl _⟩
 | n + 1, s, l, s', hs, h => by
  simp only [rdEach] at h
  split at h
  ·rename_i t s1 h1
   split at h
   ·rename_i l2 s2 h2
    simp only [Option.some.injEq, Prod.mk.injEq] at h
    obtain ⟨rfl, rfl⟩ := h
    obtain ⟨a1, a2⟩ := hp s t s1 hs h1
    obtain ⟨b1, b2, b3⟩ := fine_rdEach hp n s1 l2 s2 (by omega) h2
    refine ⟨fun x hx => ?_, by simp [b2], by omega⟩
    rcases List.mem_cons.1 hx with rfl | hx
    ·exact a1
    ·exact b1 x hx
   ·cases h
  ·cases h
theorem rdCnt_le (flex : Bool) (s : RS) : (rdCnt flex s).2.l.length ≤ s.l.length ∧ (rdCnt flex s).1.toNat ≤ s.l.length := by
 unfold rdCnt
 have key : ∀ p : Int × RS, p.2.l.length ≤ s.l.length → (if (p.2.l.length : Int) < IntKind.i32.wrap p.1 then ((0, RS.fail) : Int × RS) else (IntKind.i32.wrap p.1, p.2)).2.l.length ≤ s.l.length ∧
   (if (p.2.l.length : Int) < IntKind.i32.wrap p.1 then ((0, RS.fail) : Int × RS) else (IntKind.i32.wrap p.1, p.2)).1.toNat ≤ s.l.length := by
  intro p hp
  split
  ·exact ⟨by simp [fail_l], by simp⟩
  ·exact ⟨hp, by show (IntKind.i32.wrap p.1).toNat ≤ _; omega⟩
 refine key (if flex then _ else _) ?_
 split
 ·exact uv_le s
 ·exact num_le 4 s
theorem fine_rdQ {f : Fld} {V : Int} {flex : Bool} {pt : RS → Option (T × RS)} (hp : FineR pt) : FineR (rdQ f V flex pt) := fun s t s' hs h => by
 have hc := rdCnt_le flex s
 unfold rdQ at h
 split at h
 ·split at h
  ·cases h
  ·split at h
   ·rename_i l s1 h1
    simp only [Option.some.injEq, Prod.mk.injEq] at h
    obtain ⟨rfl, rfl⟩ := h
    obtain ⟨a1, a2, a3⟩ := fine_rdEach (fine_rdVal hp) _ _ _ _ (by omega) h1
    exact ⟨fine_mk (by simp) (by omega) (by simp) (by simp) (by simp) a1, by omega⟩
   ·cases h
 ·split at h
  ·have hn := num_le 1 s
   split at h
   ·obtain ⟨a1, a2⟩ := hp _ t s' (by omega) h
    exact ⟨a1, by omega⟩
   ·simp only [Option.some.injEq, Prod.mk.injEq] at h
    obtain ⟨rfl, rfl⟩ := h
    exact ⟨fine_leaf (by simp), hn⟩
  ·exact fine_rdVal hp s t s' hs h
theorem setU_keys (k : Nat) (b : List UInt8) : ∀ u : List (Nat × List UInt8), (setU k b u).map (·.1) = if k ∈ u.map (·.1) then u.map (·.1) else u.map (·.1) ++ [k]
 | [] => by simp [setU]
 | x :: r => by
  simp only [setU]
  by_cases hx : x.1 = k
  ·rw [if_pos hx]
   simp [hx]
  ·rw [if_neg hx, List.map_cons, setU_keys k b r]
   have hne : ¬ k = x.1 := fun e => hx e.symm
   by_cases hk : k ∈ r.map (·.1)
   ·rw [if_pos hk, if_pos (by rw [List.map_cons]; exact List.mem_cons_of_mem _ hk)]; rfl
   ·rw [if_neg hk, if_neg (by rw [List.map_cons, List.mem_cons, not_or]; exact ⟨hne, hk⟩)]; rfl
theorem setU_mem {k : Nat} {b : List UInt8} : ∀ {u : List (Nat × List UInt8)} {p : Nat × List UInt8}, p ∈ setU k b u → p = (k, b) ∨ p ∈ u
 | [], p, h => by simp only [setU, List.mem_singleton] at h; exact .inl h
 | x :: r, p, h => by
  simp only [setU] at h
  split at h
  ·rcases List.mem_cons.1 h with h | h
   ·exact .inl h
   ·exact .inr (List.mem_cons_of_mem _ h)
  ·rcases List.mem_cons.1 h with h | h
   ·exact .inr (by rw [h]; exact List.mem_cons_self)
   ·exact (setU_mem h).imp id (List.mem_cons_of_mem _)
theorem rdTagsN_fine : ∀ (n : Nat) (u : List (Nat × List UInt8)) (s : RS), s.l.length ≤ 32766 → (u.map (·.1)).Nodup → (∀ p ∈ u, p.2.length ≤ 32767) →
  ((rdTagsN n u s).1.map (·.1)).Nodup ∧ (∀ p ∈ (rdTagsN n u s).1, p.2.length ≤ 32767) ∧ (rdTagsN n u s).2.l.length ≤ s.l.length ∧
  (rdTagsN n u s).1.length + (rdTagsN n u s).2.l.length + (if 0 ∈ (rdTagsN n u s).1.map (·.1) then 0 else 1) ≤ u.length + s.l.length + (if 0 ∈ u.map (·.1) then 0 else 1)
 | 0, u, s, _, hn, hv => ⟨hn, hv, Nat.le_refl _, Nat.le_refl _⟩
 | n + 1, u, s, hs, hn, hv => by
  simp only [rdTagsN]
  have h1 := uv_or s
  have h2 := uv_le (RS.uv s).2
  have h3 := span_le ((RS.uv (RS.uv s).2).1 : Int) (RS.uv (RS.uv s).2).2
  have hl : (rdTag s).2.2.l.length ≤ (RS.uv s).2.l.length := by show (RS.span _ _).2.l.length ≤ _; omega
  have hu := uv_le s
  have hk := setU_keys (rdTag s).1 (rdTag s).2.1 u
  have hlen := congrArg List.length hk
  rw [List.length_map] at hlen
  have hnd : ((setU (rdTag s).1 (rdTag s).2.1 u).map (·.1)).Nodup := by
   rw [hk]
   split
   ·exact hn
   ·rename_i hx
    rw [List.nodup_append]
    exact ⟨hn, by simp, fun a ha b hb e => hx (by simp only [List.mem_singleton] at hb; rw [← hb, ← e]; exact ha)⟩
  have hvl : ∀ p ∈ setU (rdTag s).1 (rdTag s).2.1 u, p.2.length ≤ 32767 := fun p hp => by
   rcases setU_mem hp with rfl | hp
   ·show ((RS.span _ _).1.getD []).length ≤ _; omega
   ·exact hv p hp
  obtain ⟨a1, a2, a3, a4⟩ := rdTagsN_fine n (setU (rdTag s).1 (rdTag s).2.1 u) (rdTag s).2.2 (by omega) hnd hvl
  refine ⟨a1, a2, by omega, Nat.le_trans a4 ?_⟩
  rw [hk]
  by_cases hx : (rdTag s).1 ∈ u.map (·.1)
  ·rw [if_pos hx] at hlen ⊢
   rw [List.length_map] at hlen
   omega
  ·rw [if_neg hx] at hlen ⊢
   rw [List.length_append, List.length_map, List.length_singleton] at hlen
   by_cases h0 : (0 : Nat) ∈ u.map (·.1)
   ·rw [if_pos h0, if_pos (List.mem_append_left _ h0)]
    rcases h1 with h1 | ⟨h1, _⟩
    ·omega
    ·exact absurd (by show (RS.uv s).1 ∈ _; rw [h1]; exact h0) hx
   ·rw [if_neg h0]
    rcases h1 with h1 | ⟨h1, h4⟩
    ·split <;> omega
    ·rw [if_pos (List.mem_append_right _ (by show (0 : Nat) ∈ [(RS.uv s).1]; rw [h1]; simp))]
     have : (RS.uv s).2.l.length = 0 := by rw [h4]; rfl
     omega
theorem rdTags_fine {s : RS} (hs : s.l.length ≤ 32766) : ((rdTags s).1.map (·.1)).Nodup ∧ (∀ p ∈ (rdTags s).1, p.2.length ≤ 32767) ∧ (rdTags s).1.length ≤ 32767 ∧ (rdTags s).2.l.length ≤ s.l.length := by
 have hu := uv_le s
 obtain ⟨a1, a2, a3, a4⟩ := rdTagsN_fine (RS.uv s).1 [] (RS.uv s).2 (by omega) (by simp) (by simp)
 refine ⟨a1, a2, ?_, Nat.le_trans a3 hu⟩
 simp only [List.length_nil, List.map_nil, List.not_mem_nil, if_false] at a4
 show (rdTagsN _ _ _).1.length ≤ _
 omega
theorem fine_dfF (f : Fld) (h : tidyF f = true) : (dfF f).fine = true := tiny_fine _ (tiny_dfF f h)
theorem fine_rdFs {V : Int} {flex : Bool} : ∀ (fs : List Fld), tidyFs fs = true → (∀ f ∈ fs, FineR (rdF f V flex)) → ∀ (s : RS) (l : List T) (s' : RS), s.l.length ≤ 32766 → rdFs fs V flex s = some (l, s') → (∀ t ∈ l, t.fine = true) ∧ l.length = fs.length ∧ s'.l.length ≤ s.l.length
 | [], _, _, s, l, s', _, h => by
  simp only [rdFs, Option.some.injEq, Prod.mk.injEq] at h
  obtain ⟨rfl, rfl⟩ := h
  exact ⟨by simp, rfl, Nat.le_refl _⟩
 | f :: r, ht, hf, s, l, s', hs, h => by
  have htr : tidyFs r = true := by simp only [tidyFs, Bool.and_eq_true] at ht; exact ht.2
  simp only [rdFs] at h
  split at h
  ·split at h
   ·rename_i t s1 h1
    split at h
    ·rename_i l2 s2 h2
     simp only [Option.some.injEq, Prod.mk.injEq] at h
     obtain ⟨rfl, rfl⟩ := h
     obtain ⟨a1, a2⟩ := hf f List.mem_cons_self s t s1 hs h1
     obtain ⟨b1, b2, b3⟩ := fine_rdFs r htr (fun g hg => hf g (List.mem_cons_of_mem _ hg)) s1 l2 s2 (by omega) h2
     refine ⟨fun x hx => ?_, by simp [b2], by omega⟩
     rcases List.mem_cons.1 hx with rfl | hx
     ·exact a1
     ·exact b1 x hx
    ·cases h
   ·cases h
  ·split at h
   ·rename_i l2 s2 h2
    simp only [Option.some.injEq, Prod.mk.injEq] at h
    obtain ⟨rfl, rfl⟩ := h
    obtain ⟨b1, b2, b3⟩ := fine_rdFs r htr (fun g hg => hf g (List.mem_cons_of_mem _ hg)) s l2 s2 hs h2
    refine ⟨fun x hx => ?_, by simp [b2], b3⟩
    rcases List.mem_cons.1 hx with rfl | hx
    ·exact fine_dfF f (tidy_mem ht f List.mem_cons_self)
    ·exact b1 x hx
   ·cases h
theorem fine_rdP_of {fs : List Fld} {V : Int} {flex : Bool} (hl : fs.length ≤ 1000) (ht : tidyFs fs = true) (hf : ∀ f ∈ fs, FineR (rdF f V flex)) : FineR (rdP fs V flex) := fun s t s' hs h => by
 unfold rdP rdPart at h
 split at h
 ·rename_i l s1 h1
  obtain ⟨b1, b2, b3⟩ := fine_rdFs fs ht hf s l s1 hs h1
  split at h
  ·simp only [Option.some.injEq, Prod.mk.injEq] at h
   obtain ⟨rfl, rfl⟩ := h
   obtain ⟨a1, a2, a3, a4⟩ := rdTags_fine (s := s1) (by omega)
   exact ⟨fine_mk (by simp) (by omega) a3 a2 a1 b1, by omega⟩
  ·simp only [Option.some.injEq, Prod.mk.injEq] at h
   obtain ⟨rfl, rfl⟩ := h
   exact ⟨fine_mk (by simp) (by omega) (by simp) (by simp) (by simp) b1, b3⟩
 ·cases h
theorem fine_rdF {V : Int} {flex : Bool} : ∀ f : Fld, tidyF f = true → FineR (rdF f V flex) := Fld_ind fun f ih h => by
 have ht := tidy_spec h
 intro s t s' hs hr
 rw [rdF_eq] at hr
 exact fine_rdQ (fine_rdP_of ht.2.2.2.1 ht.2.2.2.2 fun g hg => ih g hg (tidy_mem ht.2.2.2.2 g hg)) s t s' hs hr
theorem fine_rdP {fs : List Fld} {V : Int} {flex : Bool} (h : tidyFs fs = true) (hl : fs.length ≤ 1000) : FineR (rdP fs V flex) := fine_rdP_of hl h fun f hf => fine_rdF f (tidy_mem h f hf)
theorem fine_telV {kind : Nat} {nu : Int} {pt : T → T} {q : T} (hq : q.fine = true) (hp : kind = 10 → (pt q).tiny = true) : (telV kind nu pt q).tiny = true := by
 have hs := fine_spec hq
 unfold telV
 split
 ·exact tiny_leaf (by simp)
 ·exact tiny_leaf (by rw [sixteen_length]; omega)
 ·split
  ·exact tiny_leaf (by simp)
  ·exact tiny_leaf hs.1
 ·refine tiny_leaf ?_
  split
  ·simp
  ·exact hs.1
 ·split
  ·exact tiny_leaf (by simp)
  ·exact hp rfl
 ·exact tiny_leaf (by simp)
theorem fine_telP_of {fs : List Fld} (hl : fs.length ≤ 1000) (hf : ∀ f ∈ fs, ∀ q : T, q.fine = true → (telF f q).tiny = true) (q : T) (hq : q.fine = true) : (telP fs q).tiny = true := by
 have hs := fine_spec hq
 unfold telP
 refine tiny_mk (by simp) (by rw [telFs_length]; omega) (by rw [(sortU_perm q.u).length_eq]; exact hs.2.2.1) (fun p hp => hs.2.2.2.1 p ((sortU_perm q.u).mem_iff.1 hp)) ?_ (sortU_rise hs.2.2.2.2.1)
 intro x hx
 obtain ⟨g, hg, k, rfl⟩ := telFs_mem hx
 exact hf g hg _ (fine_getD hq k)
theorem fine_telF : ∀ f : Fld, tidyF f = true → ∀ q : T, q.fine = true → (telF f q).tiny = true := Fld_ind fun f ih h q hq => by
 have ht := tidy_spec h
 have hp : ∀ q : T, q.fine = true → (telP f.sub q).tiny = true := fun q hq => fine_telP_of ht.2.2.2.1 (fun g hg => ih g hg (tidy_mem ht.2.2.2.2 g hg)) q hq
 have hs := fine_spec hq
 rw [telF_eq]
 split
 ·refine tiny_mk (by simp) ?_ (by simp) (by simp) ?_ trivial
  ·split
   ·simp
   ·rw [List.length_map]; exact hs.2.1
  ·intro x hx
   split at hx
   ·cases hx
   ·obtain ⟨y, hy, rfl⟩ := List.mem_map.1 hx
    exact fine_telV (hs.2.2.2.2.2 y hy) fun _ => hp y (hs.2.2.2.2.2 y hy)
 ·exact fine_telV hq fun _ => hp q hq
theorem fine_telP {fs : List Fld} (h : tidyFs fs = true) (hl : fs.length ≤ 1000) (q : T) (hq : q.fine = true) : (telP fs q).tiny = true := fine_telP_of hl (fun f hf => fine_telF f (tidy_mem h f hf)) q hq
end Go.Mk
namespace Go.Mk
open Go
def srcOf (d : List UInt8) : Option (List UInt8) := if d.isEmpty then none else some d
def rdo (fs : List Fld) (V : Int) (flex : Bool) (d : List UInt8) : Option T := match rdP fs V flex ⟨srcOf d, false⟩ with
 | some (q, s') => if s'.bad then none else some q
 | none => none
theorem rdo_fine {fs : List Fld} {V : Int} {flex : Bool} {d : List UInt8} {q : T} (h : tidyFs fs = true) (hl : fs.length ≤ 1000) (hd : d.length ≤ 1000) (hq : rdo fs V flex d = some q) : q.fine = true := by
 unfold rdo at hq
 split at hq
 ·rename_i q' s' h1
  split at hq
  ·cases hq
  ·simp only [Option.some.injEq] at hq
   subst hq
   refine (fine_rdP h hl _ _ _ ?_ h1).1
   unfold RS.l srcOf
   split
   ·simp
   ·simp only [Option.getD_some]; omega
 ·cases hq
theorem told_or {gv : Value} {fs : List Fld} {tg flex : Bool} {V : Nat} {d : List UInt8} {g ety : Nat} {Y : Nat → Prop} {w0 w' : World} {x : Value} (h : Er.Told .nilIface gv fs tg V flex (srcOf d) g ety Y w0 x w') :
  Agr (fun k => k = g) w0 w' ∧ ((∃ q, rdo fs V flex d = some q ∧ x = .nilIface ∧ ∃ c', w'.heap[g]? = some (.cells (.int .i16 (V : Int) :: c').toArray ety (0, 0)) ∧ Rep w' (fun b => b < w0.heap.size ∧ Y b) (ddS fs tg q) c') ∨ (rdo fs V flex d = none ∧ x = gv)) := by
 obtain ⟨h1, h2, h3⟩ := h
 refine ⟨h1, ?_⟩
 unfold rdo
 cases hr : rdP fs V flex ⟨srcOf d, false⟩ with
 | none => exact .inr ⟨rfl, h3 (.inl hr)⟩
 | some p =>
  obtain ⟨q, s'⟩ := p
  cases hb : s'.bad with
  | true => exact .inr ⟨by simp [hb], h3 (.inr ⟨q, s', hr, hb⟩)⟩
  | false => exact .inl ⟨q, by simp [hb], h2 q s' hr hb⟩
def tellO (fs : List Fld) (o : Option T) : T := match o with
 | some q => telP fs q
 | none => T.nil
theorem tiny_tellO {fs : List Fld} {V : Int} {flex : Bool} {d : List UInt8} (h : tidyFs fs = true) (hl : fs.length ≤ 1000) (hd : d.length ≤ 1000) : (tellO fs (rdo fs V flex d)).tiny = true := by
 cases hq : rdo fs V flex d with
 | none => rfl
 | some q => exact fine_telP h hl q (rdo_fine h hl hd hq)
theorem src_or {w : World} {Y : Nat → Prop} {d : List UInt8} {v : Value} (h : Rep w Y (ddBs d) [v]) (hnil : v = .slice none 0 0 ↔ (Value.slice none 0 0 = .slice none 0 0 ∧ d.length = 0)) : Rep w Y (ddSrc (srcOf d)) [v] := by
 cases d with
 | nil =>
  have hv := hnil.2 ⟨rfl, rfl⟩
  subst hv
  exact rep_v (w := w) (Y := Y) (Value.slice none 0 0)
 | cons b r => exact src_of_bs h (by simp)
theorem o_ifaceNe1 {P : Program} {ops : Array Oper} {Q : Exit → Act → World → Prop} {rest : List Oper} {a : Act} {w : World} {n : Nat} {l : List (Nat × Value)} {d : Nat} {ty : Nat} {ps : String} {af : Array Edge} {x : Operand} {t t' u : Nat} {y : Value}
  (hk : Kn n l a) (ht : isErrTy P t = true) (hx : ev l x = some (.iface u y)) (hd : Nat.blt d n = true)
  (K : ∀ a', Kn n ((d, .bool true) :: l) a' → wpList P ops Q rest a' w) :
  wpList P ops Q (⟨some d, .binOp .neq t x (.const .nilIface) t', ty, ps, af, none⟩ :: rest) a w := by
 refine step_runs hk rfl rfl hd ?_ K
 have hy : a.eval (.const .nilIface) = .nilIface := rfl
 have hg : ∀ w, (eqGuard .neq t x (.const .nilIface) (.iface u y) .nilIface).run P w = .ok () w := fun w => by
  unfold eqGuard
  cases x <;> simp
 have he : ∀ w, (binOp .neq t (.iface u y) .nilIface).run P w = .ok (.bool true) w := fun w => by
  have h : ∀ dd : Nat, (Op.equalIn (dd + 1) t (.iface u y) .nilIface).run P w = .ok false w := fun dd => by
   simp [Op.equalIn, run_underlying (isErrTy_at ht)]
  simp only [binOp]
  simp [Op.equal, Op.maxDepth, h 9999]
 unfold Runs execOp
 simp only [Sem.run_bind, hk.eval hx, hy, hg, Result.andThen_ok, he, Sem.run_pure]
end Go.Mk
