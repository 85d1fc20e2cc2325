/- What is fitted and set holds what is to be written. No statement of a seat stands here. -/
import Derived.Test.YtbljeefficdemaaMkWr
namespace Go.Mk
open Go

def Imp (d d' : DD) : Prop := ∀ (w : World) (Y : Nat → Prop) (c : List Value), Rep w Y d c → Rep w Y d' c
theorem Imp.refl (d : DD) : Imp d d := fun _ _ _ h => h

theorem imp_RepE {w : World} {Y : Nat → Prop} {esz : Nat} {α β : Type} (f : α → DD) (g : β → DD) : ∀ (l : List α) (l' : List β) (c : List Value), l.length = l'.length → (∀ (i : Nat) x y, l[i]? = some x → l'[i]? = some y → Imp (f x) (g y)) →
    RepE w Y esz (l.map f) c → RepE w Y esz (l'.map g) c
  | [], [], c, _, _, h => h
  | x :: r, y :: r', c, hl, hi, h => by
    simp only [List.map_cons, RepE] at h ⊢
    obtain ⟨c1, c2, h1, h2, h3, h4⟩ := h
    exact ⟨c1, c2, h1, h2, hi 0 x y rfl rfl w Y c1 h3, imp_RepE f g r r' c2 (by simpa using hl) (fun i x y hx hy => hi (i + 1) x y (by simpa using hx) (by simpa using hy)) h4⟩
  | [], _ :: _, _, hl, _, _ => by simp at hl
  | _ :: _, [], _, hl, _, _ => by simp at hl

theorem imp_ptr {d d' : DD} (h : Imp d d') : Imp (.ptr d) (.ptr d') := fun w Y c hr => by
  simp only [Rep] at hr ⊢
  obtain ⟨b, off, cs, h1, h2, h3⟩ := hr
  exact ⟨b, off, cs, h1, h2, h w Y cs h3⟩

theorem imp_val {kind : Nat} {nu : Int} {null : Bool} {st st' : T → DD} {ft : T → T} {x : T} (hk : kind ≤ 10) (hn : null = true → 0 ≤ nu)
    (hs : kind = 10 → Imp (st (.mk (ft x).n (ft x).s null (ft x).l (ft x).u)) (st' x)) : Imp (ddVal kind nu st (fitVal kind null ft x)) (wrVal kind nu null st' x) := by
  match kind, hk, hs with
  | 0, _, _ => exact Imp.refl _
  | 1, _, _ => exact Imp.refl _
  | 2, _, _ => exact Imp.refl _
  | 3, _, _ => exact Imp.refl _
  | 4, _, _ => exact Imp.refl _
  | 5, _, _ => exact Imp.refl _
  | 6, _, _ => exact Imp.refl _
  | 7, _, _ => exact Imp.refl _
  | 8, _, _ => exact Imp.refl _
  | 9, _, _ =>
    show Imp (if null then .v (.slice none 0 0) else .sl true 1 ((whole x.s).map ddB)) (if 0 ≤ nu then (if null then .v (.slice none 0 0) else .sl true 1 ((whole x.s).map ddB)) else .sl false 1 ((whole x.s).map ddB))
    by_cases h0 : 0 ≤ nu
    · rw [if_pos h0]; exact Imp.refl _
    · rw [if_neg h0]
      have hnf : null = false := by cases null with
        | false => rfl
        | true => exact absurd (hn rfl) h0
      rw [hnf]
      intro w Y c h
      simp only [Bool.false_eq_true, if_false, Rep] at h ⊢
      rcases h with ⟨h1, p, h2, _⟩ | h
      · exact .inl ⟨h1, p, h2, fun e => by cases e⟩
      · exact .inr h
  | 10, _, hs =>
    show Imp (if 0 ≤ nu then (if null then .v (.pointer none) else .ptr (st _)) else st _) (if 0 ≤ nu then (if null then .v (.pointer none) else .ptr (st' x)) else st' x)
    by_cases h0 : 0 ≤ nu
    · rw [if_pos h0, if_pos h0]
      cases null with
      | true => exact Imp.refl _
      | false => exact imp_ptr (hs rfl)
    · rw [if_neg h0, if_neg h0]; exact hs rfl

mutual
/-- the fields are such as the reference has them -/
def okF : Fld → Bool
  | .mk kind _ _ _ _ _ of sub => decide (kind ≤ 11) && decide (of ≤ 10) && okFs sub
def okFs : List Fld → Bool
  | [] => true
  | f :: r => okF f && okFs r
end

/-- so many cells -/
def Wid (d : DD) (n : Nat) : Prop := ∀ (w : World) (Y : Nat → Prop) (c : List Value), Rep w Y d c → c.length = n
theorem Wid.one {d : DD} (h : One1 d) : Wid d 1 := h
theorem wid_agg_map {l : List UInt8} : Wid (.agg (l.map ddB)) l.length := fun w Y c h => by
  simp only [Rep] at h
  induction l generalizing c with
  | nil => simp only [List.map_nil, RepL] at h; simp [h]
  | cons x r ih =>
    simp only [List.map_cons, RepL, ddB, Rep] at h
    obtain ⟨c1, c2, rfl, rfl, h⟩ := h
    have := ih c2 h
    simp [this]
theorem sixteen_length (s : List UInt8) : (sixteen s).length = 16 := by simp only [sixteen, List.length_take, List.length_append, List.length_replicate]; omega
theorem wid_ddVal {kind : Nat} {nu : Int} {st : T → DD} {n : Nat} {t : T} (hk : kind ≤ 10) (hs : ∀ t, Wid (st t) n) : Wid (ddVal kind nu st t) (widVal kind nu n) := by
  match kind, hk with
  | 0, _ => exact one1_v _
  | 1, _ => exact one1_v _
  | 2, _ => exact one1_v _
  | 3, _ => exact one1_v _
  | 4, _ => exact one1_v _
  | 5, _ => exact one1_v _
  | 6, _ => exact one1_v _
  | 7, _ =>
    have := wid_agg_map (l := sixteen t.s)
    rw [sixteen_length] at this
    exact this
  | 8, _ => exact one1_ite (one1_ite (one1_v _) (one1_ptr _)) (one1_v _)
  | 9, _ => exact one1_ite (one1_v _) (one1_sl _ _ _)
  | 10, _ =>
    show Wid (if 0 ≤ nu then (if t.z then .v (.pointer none) else .ptr (st t)) else st t) (if 0 ≤ nu then 1 else n)
    by_cases h0 : 0 ≤ nu
    · rw [if_pos h0, if_pos h0]; exact one1_ite (one1_v _) (one1_ptr _)
    · rw [if_neg h0, if_neg h0]; exact hs t

theorem RepL_append {w : World} {Y : Nat → Prop} : ∀ {l l' : List DD} {c : List Value}, RepL w Y (l ++ l') c ↔ ∃ c1 c2, c = c1 ++ c2 ∧ RepL w Y l c1 ∧ RepL w Y l' c2
  | [], l', c => by
    constructor
    · intro h; exact ⟨[], c, rfl, by simp [RepL], h⟩
    · rintro ⟨c1, c2, rfl, h1, h2⟩
      simp only [RepL] at h1
      subst h1
      exact h2
  | d :: r, l', c => by
    simp only [List.cons_append, RepL]
    constructor
    · rintro ⟨c1, c2, rfl, h1, h2⟩
      obtain ⟨c3, c4, rfl, h3, h4⟩ := RepL_append.1 h2
      exact ⟨c1 ++ c3, c4, by simp, ⟨c1, c3, rfl, h1, h3⟩, h4⟩
    · rintro ⟨c1, c2, rfl, ⟨c3, c4, rfl, h3, h4⟩, h2⟩
      exact ⟨c3, c4 ++ c2, by simp, h3, RepL_append.2 ⟨c4, c2, rfl, h4, h2⟩⟩

def WidL (l : List DD) (n : Nat) : Prop := ∀ (w : World) (Y : Nat → Prop) (c : List Value), RepL w Y l c → c.length = n
theorem wid_part {l : List DD} {n : Nat} {tg : Bool} {u : List (Nat × List UInt8)} (h : WidL l n) : Wid (.agg (l ++ (if tg then [ddTagMap u] else []))) (n + tg.toNat) := fun w Y c hr => by
  have hr' := rep_agg_inv hr
  obtain ⟨c1, c2, rfl, h1, h2⟩ := RepL_append.1 hr'
  rw [List.length_append, h w Y c1 h1]
  cases tg with
  | false => simp only [Bool.false_eq_true, if_false, RepL] at h2; simp [h2]
  | true =>
    simp only [if_true, RepL] at h2
    obtain ⟨c3, c4, rfl, h3, rfl⟩ := h2
    have := one1_mp _ _ w Y c3 h3
    simp [this]

mutual
theorem wid_ddF : ∀ (f : Fld), okF f = true → ∀ (tg : Bool) (t : T), Wid (ddF f tg t) (widF f tg)
  | .mk kind fr to nu tag df of sub, hok, tg, t => by
    simp only [okF, Bool.and_eq_true, decide_eq_true_eq] at hok
    obtain ⟨⟨h1, h2⟩, h3⟩ := hok
    unfold ddF widF
    by_cases hk : kind = 11
    · rw [if_pos hk, if_pos hk]; exact one1_ite (one1_v _) (one1_sl _ _ _)
    · rw [if_neg hk, if_neg hk]
      exact wid_ddVal (by omega) (fun t => wid_part (wid_ddFs sub h3 tg t.l 0))
theorem wid_ddFs : ∀ (fs : List Fld), okFs fs = true → ∀ (tg : Bool) (l : List T) (i : Nat), WidL (ddFs fs tg l i) (widFs fs tg)
  | [], _, tg, l, i => fun w Y c h => by simp only [ddFs, RepL] at h; simp [h, widFs]
  | f :: r, hok, tg, l, i => fun w Y c h => by
    simp only [okFs, Bool.and_eq_true] at hok
    simp only [ddFs, RepL] at h
    obtain ⟨c1, c2, rfl, h1, h2⟩ := h
    simp only [widFs, List.length_append, wid_ddF f hok.1 tg _ w Y c1 h1, wid_ddFs r hok.2 tg l (i + 1) w Y c2 h2]
end

theorem null_nu {kind : Nat} {fr to nu tag df : Int} {of : Nat} {sub : List Fld} {v : Int} {t : T} (h : (Fld.mk kind fr to nu tag df of sub).null v t = true) : 0 ≤ nu := by
  have h' : (t.z && decide (nu ≥ 0) && decide (v ≥ nu)) = true := h
  simp only [Bool.and_eq_true, decide_eq_true_eq] at h'
  exact h'.1.2

mutual
theorem imp_fit_F : ∀ (f : Fld), okF f = true → ∀ (tg : Bool) (v : Int) (flex : Bool) (x : T), Imp (ddF f tg (fitF f v x)) (wrF f tg v flex x)
  | .mk kind fr to nu tag df of sub, hok, tg, v, flex, x => by
    have hok' := hok
    simp only [okF, Bool.and_eq_true, decide_eq_true_eq] at hok
    obtain ⟨⟨h1, h2⟩, h3⟩ := hok
    have part : ∀ y : T, Imp (.agg (ddFs sub tg (fitFs sub v y.l 0) 0 ++ (if tg then [ddTagMap (fitU sub y.u)] else []))) (.agg (wrFs sub tg v flex y.l 0 ++ (if tg then [ddTagMap (fitU sub y.u)] else []))) := fun y w Y c h => by
      obtain ⟨c1, c2, rfl, h4, h5⟩ := RepL_append.1 (rep_agg_inv h)
      refine rep_agg (RepL_append.2 ⟨c1, c2, rfl, ?_, h5⟩)
      have := imp_fit_Fs sub h3 tg v flex [] y.l 0 w Y c1
      simp only [List.nil_append, List.length_nil] at this
      exact this h4
    unfold wrF
    by_cases hh : (if tag < 0 then (Fld.mk kind fr to nu tag df of []).has v else flex) = true
    case neg =>
      rw [if_neg hh]
      intro w Y c h
      have hw := wid_ddF _ hok' tg _ w Y c h
      unfold widF at hw
      exact hw
    rw [if_pos hh]
    by_cases hk : kind = 11
    · subst hk
      rw [if_pos rfl]
      intro w Y c h
      have h' : Rep w Y (if ((Fld.mk 11 fr to nu tag df of []).null v x || (decide (tag ≥ 0) && decide (x.l.length = 0))) = true then .v (.slice none 0 0)
          else .sl true (widVal of (-1) (widS sub tg)) (((things x.l).map fun x => fitVal of false (fun x => .mk 0 [] false (fitFs sub v x.l 0) (fitU sub x.u)) x).map
            fun x => ddVal of (-1) (fun x => .agg (ddFs sub tg x.l 0 ++ (if tg then [ddTagMap x.u] else []))) x)) c := by
        unfold fitF ddF at h
        rw [if_pos rfl, if_pos rfl] at h
        exact h
      by_cases hn : (Fld.mk 11 fr to nu tag df of []).null v x = true
      · rw [if_pos ⟨null_nu hn, hn⟩]
        rw [if_pos (by rw [hn]; rfl)] at h'
        exact h'
      · have hn' : (Fld.mk 11 fr to nu tag df of []).null v x = false := by simpa using hn
        rw [if_neg (fun e => hn e.2)]
        by_cases hz : tag ≥ 0 ∧ x.l.length = 0
        · have hx : x.l = [] := List.eq_nil_of_length_eq_zero hz.2
          have ht : ¬ tag < 0 := by omega
          rw [if_pos (by rw [hn', decide_eq_true hz.1, decide_eq_true hz.2]; rfl)] at h'
          simp only [Rep] at h'
          rw [hx]
          simp only [Rep, things, List.take_nil, List.map_nil, ht, decide_false, Bool.and_false]
          refine Or.inl ⟨?_, none, h', ?_⟩
          all_goals first | rfl | simp
        · have hz' : (decide (tag ≥ 0) && decide (x.l.length = 0)) = false := by
            simp only [Bool.and_eq_false_iff, decide_eq_false_iff_not]
            omega
          rw [if_neg (by rw [hn', hz']; exact Bool.false_ne_true)] at h'
          simp only [Rep] at h' ⊢
          rcases h' with ⟨h4, p, h5, h6⟩ | ⟨b, off, cap, cs, h4, h5, h6, h7⟩
          · refine .inl ⟨?_, p, h5, fun _ => by first | exact h6 rfl | exact h6 trivial | simpa using h6⟩
            have h8 := congrArg List.length h4
            simp only [List.length_map, List.length_nil] at h8
            rw [List.eq_nil_of_length_eq_zero h8]
            rfl
          · refine .inr ⟨b, off, cap, cs, ?_, ?_, h6, ?_⟩
            · simpa using h4
            · simpa using h5
            · refine imp_RepE _ _ ((things x.l).map _) (things x.l) cs (by simp) ?_ h7
              intro i y z hy hz
              rw [List.getElem?_map, hz] at hy
              simp only [Option.map_some, Option.some.injEq] at hy
              subst hy
              exact imp_val h2 (fun e => by cases e) (fun _ => part z)
    · rw [if_neg hk]
      unfold fitF ddF
      rw [if_neg hk, if_neg hk]
      exact imp_val (by omega) (fun e => null_nu e) (fun _ => part x)
theorem imp_fit_Fs : ∀ (fs : List Fld), okFs fs = true → ∀ (tg : Bool) (v : Int) (flex : Bool) (pre l : List T) (j : Nat) (w : World) (Y : Nat → Prop) (c : List Value),
    RepL w Y (ddFs fs tg (pre ++ fitFs fs v l j) pre.length) c → RepL w Y (wrFs fs tg v flex l j) c
  | [], _, tg, v, flex, pre, l, j, w, Y, c, h => by simpa [ddFs, wrFs] using h
  | f :: r, hok, tg, v, flex, pre, l, j, w, Y, c, h => by
    simp only [okFs, Bool.and_eq_true] at hok
    simp only [ddFs, fitFs, RepL, wrFs] at h ⊢
    obtain ⟨c1, c2, rfl, h1, h2⟩ := h
    refine ⟨c1, c2, rfl, ?_, ?_⟩
    · have e : (pre ++ fitF f v (l.getD j T.nil) :: fitFs r v l (j + 1)).getD pre.length T.nil = fitF f v (l.getD j T.nil) := by simp
      rw [e] at h1
      exact imp_fit_F f hok.1 tg v flex _ w Y c1 h1
    · have := imp_fit_Fs r hok.2 tg v flex (pre ++ [fitF f v (l.getD j T.nil)]) l (j + 1) w Y c2
      simp only [List.append_assoc, List.singleton_append, List.length_append, List.length_cons, List.length_nil] at this
      exact this h2
end

/-- What is fitted and set: its struct holds what is to be written. -/
theorem imp_fit (fs : List Fld) (hok : okFs fs = true) (tg : Bool) (v : Int) (flex : Bool) (t : T) : Imp (ddS fs tg (fitP fs v t)) (wrS fs tg v flex t) := fun w Y c h => by
  obtain ⟨c1, c2, rfl, h4, h5⟩ := RepL_append.1 (rep_agg_inv h)
  refine rep_agg (RepL_append.2 ⟨c1, c2, rfl, ?_, h5⟩)
  have := imp_fit_Fs fs hok tg v flex [] t.l 0 w Y c1
  simp only [List.nil_append, List.length_nil] at this
  exact this h4

end Go.Mk
