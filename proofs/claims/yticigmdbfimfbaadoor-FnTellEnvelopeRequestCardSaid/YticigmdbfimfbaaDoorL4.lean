/- Walks of programs, step by step: what holds of memory behind each; the reference in plain words. No statement of a seat stands here. -/
import Derived.Test.YticigmdbfimfbaaDoorL3
namespace Go.Mk
open Go
theorem sane_leaf {n : Int} {s : List UInt8} {z : Bool} (h : s.length ≤ 32767) : (T.mk n s z [] []).sane = true := sane_mk (by omega) (by simp) (by simp) (by simp) (by simp)
theorem sane_gotV {kind : Nat} {null : Bool} {gp : T → T} {t : T} (hp : kind = 10 → (gp t).sane = true) : (gotV kind null gp t).sane = true := by
 unfold gotV
 split
 ·exact sane_leaf (by simp)
 ·exact sane_leaf (by rw [sixteen_length]; omega)
 ·split
  ·exact sane_leaf (by simp)
  ·exact sane_leaf (whole_len _)
 ·split
  ·exact sane_leaf (by simp)
  ·exact sane_leaf (whole_len _)
 ·exact hp rfl
 ·exact sane_leaf (by simp)
theorem sane_gotQ {f : Fld} {V : Int} {gp : T → T} {t : T} (ht : t.sane = true) (hp : ∀ x, x.sane = true → (gp x).sane = true) : (gotQ f V gp t).sane = true := by
 unfold gotQ
 split
 ·refine sane_mk (by simp) ?_ (by simp) (by simp) ?_
  ·split
   ·simp
   ·rw [List.length_map]; have := things_len t.l; omega
  ·intro x hx
   split at hx
   ·cases hx
   ·obtain ⟨y, hy, rfl⟩ := List.mem_map.1 hx
    exact sane_gotV fun _ => hp y ((sane_spec ht).2.2.2 y (List.mem_of_mem_take hy))
 ·split
  ·split
   ·exact sane_leaf (by simp)
   ·exact hp t ht
  ·exact sane_gotV fun _ => hp t ht
theorem sane_dfF : ∀ f : Fld, tidyF f = true → (dfF f).sane = true := Fld_ind fun f ih h => by
 have ht := tidy_spec h
 cases f with
 | mk kind fr to nu tag df of sub =>
  unfold dfF
  split
  ·exact sane_leaf (by simp)
  ·split
   ·exact sane_leaf (by simp)
   ·split
    ·exact sane_leaf (by simp)
    ·split
     ·split
      ·exact sane_leaf (by simp)
      ·refine sane_mk (by simp) ?_ (by simp) (by simp) ?_
       ·rw [dfFs_length]; have : sub.length ≤ 1000 := ht.2.2.2.1; omega
       ·intro x hx
        obtain ⟨g, hg, rfl⟩ := dfFs_mem hx
        exact ih g hg (tidy_mem ht.2.2.2.2 g hg)
     ·exact sane_leaf (by simp)
theorem gotFs_memS {V : Int} {flex : Bool} : ∀ {fs : List Fld} {l : List T} {i : Nat} {x : T}, x ∈ gotFs fs V flex l i → ∃ f ∈ fs, ∃ k, x = (if f.has V then gotF f V flex (l.getD k T.nil) else dfF f)
 | [], _, _, x, h => by simp [gotFs] at h
 | f :: r, l, i, x, h => by
  simp only [gotFs, List.mem_cons] at h
  rcases h with rfl | h
  ·exact ⟨f, List.mem_cons_self, _, rfl⟩
  ·obtain ⟨g, hg, t, e⟩ := gotFs_memS h
   exact ⟨g, List.mem_cons_of_mem _ hg, t, e⟩
theorem sane_gotP_of {fs : List Fld} {V : Int} {flex : Bool} (hl : fs.length ≤ 1000) (ht : tidyFs fs = true) (hf : ∀ f ∈ fs, ∀ t : T, t.sane = true → (gotF f V flex t).sane = true) (t : T) (hs : t.sane = true) : (gotP fs V flex t).sane = true := by
 unfold gotP
 have htg := Ea.tagsOk_fit fs hs
 refine sane_mk (by simp) (by rw [gotFs_length]; omega) ?_ ?_ ?_
 ·split
  ·have := htg.2.1; omega
  ·simp
 ·intro p hp
  split at hp
  ·exact (htg.2.2 p hp).1
  ·cases hp
 ·intro x hx
  obtain ⟨f, hm, k, rfl⟩ := gotFs_memS hx
  split
  ·exact hf f hm _ (sane_at hs k)
  ·exact sane_dfF f (tidy_mem ht f hm)
theorem sane_gotF {V : Int} {flex : Bool} : ∀ f : Fld, tidyF f = true → ∀ t : T, t.sane = true → (gotF f V flex t).sane = true := Fld_ind fun f ih h t hs => by
 have ht := tidy_spec h
 rw [gotF_eq]
 exact sane_gotQ hs fun x hx => sane_gotP_of ht.2.2.2.1 ht.2.2.2.2 (fun g hg => ih g hg (tidy_mem ht.2.2.2.2 g hg)) x hx
theorem sane_gotP {fs : List Fld} {V : Int} {flex : Bool} (h : tidyFs fs = true) (hl : fs.length ≤ 1000) (t : T) (hs : t.sane = true) : (gotP fs V flex t).sane = true := sane_gotP_of hl h (fun f hf => sane_gotF f (tidy_mem h f hf)) t hs
theorem sane_telV {kind : Nat} {nu : Int} {pt : T → T} {q : T} (hq : q.sane = true) (hp : kind = 10 → (pt q).sane = true) : (telV kind nu pt q).sane = true := by
 have hs := sane_spec hq
 unfold telV
 split
 ·exact sane_leaf (by simp)
 ·exact sane_leaf (by rw [sixteen_length]; omega)
 ·split
  ·exact sane_leaf (by simp)
  ·exact sane_mk hs.1 (by simp) (by simp) (by simp) (by simp)
 ·refine sane_mk ?_ (by simp) (by simp) (by simp) (by simp)
  split
  ·simp
  ·exact hs.1
 ·split
  ·exact sane_leaf (by simp)
  ·exact hp rfl
 ·exact sane_leaf (by simp)
theorem sane_telP_of {fs : List Fld} (hl : fs.length ≤ 1000) (hf : ∀ f ∈ fs, ∀ q : T, q.sane = true → (telF f q).sane = true) (q : T) (hq : q.sane = true) : (telP fs q).sane = true := by
 have hs := sane_spec hq
 unfold telP
 refine sane_mk (by simp) (by rw [telFs_length]; omega) ?_ ?_ ?_
 ·rw [(sortU_perm q.u).length_eq]; exact hs.2.2.1
 ·intro p hp
  exact sane_keys hq p ((sortU_perm q.u).mem_iff.1 hp)
 ·intro x hx
  obtain ⟨g, hg, k, rfl⟩ := telFs_mem hx
  exact hf g hg _ (sane_getD hs.2.2.2 k)
theorem sane_telF : ∀ f : Fld, tidyF f = true → ∀ q : T, q.sane = true → (telF f q).sane = true := Fld_ind fun f ih h q hq => by
 have ht := tidy_spec h
 have hp : ∀ q : T, q.sane = true → (telP f.sub q).sane = true := fun q hq => sane_telP_of ht.2.2.2.1 (fun g hg => ih g hg (tidy_mem ht.2.2.2.2 g hg)) q hq
 have hs := sane_spec hq
 rw [telF_eq]
 split
 ·refine sane_mk (by simp) ?_ (by simp) (by simp) ?_
  ·split
   ·simp
   ·rw [List.length_map]; exact hs.2.1
  ·intro x hx
   split at hx
   ·cases hx
   ·obtain ⟨y, hy, rfl⟩ := List.mem_map.1 hx
    exact sane_telV (hs.2.2.2 y hy) fun _ => hp y (hs.2.2.2 y hy)
 ·exact sane_telV hq fun _ => hp q hq
theorem sane_telP {fs : List Fld} (h : tidyFs fs = true) (hl : fs.length ≤ 1000) (q : T) (hq : q.sane = true) : (telP fs q).sane = true := sane_telP_of hl (fun f hf => sane_telF f (tidy_mem h f hf)) q hq
theorem told_read {gv : Value} {fs : List Fld} {tg flex : Bool} {V : Nat} {t : T} {g ety : Nat} {Y : Nat → Prop} {w0 w' : World} {x : Value} (hn : noTagFs fs = true) (hk : okRFs fs V flex = true) (hsn : t.sane = true)
  (h : Er.Told .nilIface gv fs tg V flex (some (partP fs V flex t)) g ety Y w0 x w') :
  Agr (fun k => k = g) w0 w' ∧ x = .nilIface ∧ ∃ c', w'.heap[g]? = some (.cells (.int .i16 (V : Int) :: c').toArray ety (0, 0)) ∧ Rep w' (fun b => b < w0.heap.size ∧ Y b) (ddS fs tg (gotP fs V flex t)) c' := by
 obtain ⟨h1, h2, -⟩ := h
 have hp := rdP_part hn hk t hsn []
 rw [List.append_nil] at hp
 obtain ⟨h3, c', h4, h5⟩ := h2 _ _ hp rfl
 exact ⟨h1, h3, c', h4, h5⟩
section
variable {P : Program} {a : Act} {w : World} {n : Nat} {l : List (Nat × Value)}
theorem b_retCellTmp {w0 : World} {X Z : Nat → Prop} {m : List Ent} {fn : Func} {s t u i b e : Nat} {cs : List Value} {v' : Value} {R : Value → World → Prop} (hr : fn.results = #[.cell s t, .tmp u]) (ht : tySz P t = some (true, cs.length))
  (hk : Kn n l a) (hm : Mem w0 X Z m w) (hv : look l s = some (.pointer (some ⟨b, 0, none⟩))) (hv' : look l u = some v') (hi : entAt m i = some (.blk b cs e)) (h : R (.tuple #[.agg cs.toArray, v']) w) :
  bodyPost P fn (fun e w' => ∃ v, e = .returned v ∧ R v w') .ret a w := by
 refine bodyPost_ret (v := .tuple #[.agg cs.toArray, v']) ?_ hk.defers ⟨_, rfl, h⟩
 have hc := run_loadCells' (P := P) (w := w) (b := b) (off := 0) (cs := cs) (fun j u hj => hm.cell_blk hi (by rw [Nat.zero_add]; exact hj))
 have hs : a.tmps[s]?.getD undef = .pointer (some ⟨b, 0, none⟩) := by rw [← Array.getD_eq_getD_getElem?]; exact hk.at_ s _ hv
 have hu : a.tmps[u]?.getD undef = v' := by rw [← Array.getD_eq_getD_getElem?]; exact hk.at_ u _ hv'
 simp [results, hr, hs, hu, asAddr, loadVar, isAgg_true ht, sizeOf_run ht, hc]
end
end Go.Mk
namespace Go.Mk
open Go
section
variable {f : Fld} {V : Int} {flex : Bool} {t g : T}
def toldAt (f : Fld) (V : Int) (flex : Bool) (t g : T) (k : Nat) : Bool := toldF (oneOf f) V flex ((things t.l).getD k T.nil) (g.l.getD k T.nil)
def toldR (f : Fld) (V : Int) (flex : Bool) (t g : T) : Bool :=
 if f.kind = 11 then decide (g.l.length = (things t.l).length) && (List.range (things t.l).length).all (toldAt f V flex t g) else toldV f.kind (toldP f.sub V flex) t g
theorem all2_range {p : T → T → Bool} : ∀ {l m : List T}, m.length = l.length → all2 p l m = (List.range l.length).all (fun k => p (l.getD k T.nil) (m.getD k T.nil))
 | [], [], _ => rfl
 | a :: r, b :: s, h => by
  have ih := all2_range (p := p) (l := r) (m := s) (by simpa using h)
  rw [all2, ih, List.length_cons, List.range_succ_eq_map, List.all_cons, List.all_map]
  rfl
 | [], _ :: _, h => by simp at h
 | _ :: _, [], h => by simp at h
theorem oneOf_may (f : Fld) (V : Int) : (oneOf f).may V = false := by simp [oneOf, Fld.may, Fld.nu]
theorem told_one (hof : f.of ≤ 10) (x y : T) : toldF (oneOf f) V flex x y = if (decide (f.of = 8) || decide (f.of = 10)) && y.z then false else toldV f.of (toldP f.sub V flex) x y := by
 rw [toldF_eq]
 unfold toldQ
 rw [oneOf_null, oneOf_may]
 have h1 : (oneOf f).kind = f.of := rfl
 have h2 : (oneOf f).sub = f.sub := rfl
 rw [h1, h2]
 have h3 : ¬ f.of = 11 := by omega
 simp only [Bool.or_false, h3, if_false, Bool.false_eq_true]
 cases y.z <;> simp
theorem toldF_split (hof : f.of ≤ 10) : toldF f V flex t g = if (decide (f.kind = 8) || decide (f.kind = 10) || f.may V) && (g.z != f.null V t) then false else if f.null V t then true else toldR f V flex t g := by
 rw [toldF_eq]
 unfold toldQ toldR
 by_cases h11 : f.kind = 11
 ·rw [if_pos h11, if_pos h11]
  have e : (decide (g.l.length = (things t.l).length) && all2 (fun x y => if (decide (f.of = 8) || decide (f.of = 10)) && y.z then false else toldV f.of (toldP f.sub V flex) x y) (things t.l) g.l) =
    (decide (g.l.length = (things t.l).length) && (List.range (things t.l).length).all (toldAt f V flex t g)) := by
   by_cases hl : g.l.length = (things t.l).length
   ·rw [all2_range hl]
    congr 2
    funext k
    exact (told_one hof _ _).symm
   ·rw [decide_eq_false hl]; rfl
  rw [e]
 ·rw [if_neg h11, if_neg h11]
theorem may_iff : f.may V = true ↔ (f.nu ≥ 0 ∧ V ≥ f.nu) := by unfold Fld.may; simp
theorem toldF_bad (hof : f.of ≤ 10) (hA : f.kind = 8 ∨ f.kind = 10 ∨ (f.nu ≥ 0 ∧ V ≥ f.nu)) (h : (g.z != f.null V t) = true) : false = toldF f V flex t g := by
 rw [toldF_split hof, h, Bool.and_true, if_pos]
 rcases hA with h | h | h
 ·simp [h]
 ·simp [h]
 ·simp [may_iff.2 h]
theorem toldF_ok1 (hof : f.of ≤ 10) (h8 : f.kind ≠ 8) (h10 : f.kind ≠ 10) (hm : ¬ (f.nu ≥ 0 ∧ V ≥ f.nu)) : toldF f V flex t g = if f.null V t then true else toldR f V flex t g := by
 rw [toldF_split hof, if_neg]
 have : f.may V = false := by
  cases h : f.may V with
  | false => rfl
  | true => exact absurd (may_iff.1 h) hm
 simp [h8, h10, this]
theorem toldF_ok2 (hof : f.of ≤ 10) (h : (g.z != f.null V t) = false) : toldF f V flex t g = if f.null V t then true else toldR f V flex t g := by
 rw [toldF_split hof, h, Bool.and_false]; rfl
theorem toldR_89 (hk : f.kind = 8 ∨ f.kind = 9) : decide (g.s = whole t.s) = toldR f V flex t g := by
 unfold toldR
 rw [if_neg (by omega)]
 rcases hk with h | h <;> rw [h] <;> rfl
theorem toldR_7 (hk : f.kind = 7) : decide (g.s = sixteen t.s) = toldR f V flex t g := by
 unfold toldR
 rw [if_neg (by omega), hk]; rfl
theorem toldR_10 (hk : f.kind = 10) : toldP f.sub V flex t g = toldR f V flex t g := by
 unfold toldR
 rw [if_neg (by omega), hk]; rfl
theorem toldR_n (h7 : f.kind ≠ 7) (h8 : f.kind ≠ 8) (h9 : f.kind ≠ 9) (h10 : f.kind ≠ 10) (h11 : f.kind ≠ 11) : ((g.n : Int) == numberK f.kind t.n) = toldR f V flex t g := by
 unfold toldR
 rw [if_neg h11]
 unfold toldV
 split
 ·contradiction
 ·contradiction
 ·contradiction
 ·contradiction
 ·exact Bool.eq_iff_iff.2 (by simp)
theorem toldR_len (hk : f.kind = 11) (h : (((g.l.length : Nat) : Int) != (((things t.l).length : Nat) : Int)) = true) : false = toldR f V flex t g := by
 unfold toldR
 rw [if_pos hk]
 have : ¬ g.l.length = (things t.l).length := fun e => by rw [e] at h; simp at h
 rw [decide_eq_false this]; rfl
theorem toldR_loopF {k : Nat} (hk : f.kind = 11) (hlt : k < (things t.l).length) (h : (!toldAt f V flex t g k) = true) : false = toldR f V flex t g := by
 unfold toldR
 rw [if_pos hk, range_all_false hlt ((Bool.not_eq_true' _).mp h), Bool.and_false]
theorem toldR_loopT (hk : f.kind = 11) (h : (((g.l.length : Nat) : Int) != (((things t.l).length : Nat) : Int)) = false) (hI : (List.range (things t.l).length).all (toldAt f V flex t g) = true) : true = toldR f V flex t g := by
 unfold toldR
 rw [if_pos hk, hI, Bool.and_true]
 have : g.l.length = (things t.l).length := by have := bne_eq_false_iff_eq.1 h; omega
 rw [decide_eq_true this]
def mayX (f : Fld) (V : Int) : Bool := decide (f.nu ≥ 0) && decide (V ≥ f.nu)
def toldX (f : Fld) (V : Int) (t g : T) : Bool := ((((f.kind : Nat) : Int) == 8) || (((f.kind : Nat) : Int) == 10) || mayX f V) && (g.z != f.null V t)
theorem toldX_bad (hof : f.of ≤ 10) (h : toldX f V t g = true) : false = toldF f V flex t g := by
 unfold toldX mayX at h
 simp only [Bool.and_eq_true, Bool.or_eq_true, beq_iff_eq, decide_eq_true_eq] at h
 exact toldF_bad hof (by omega) h.2
theorem toldX_ok (hof : f.of ≤ 10) (h : toldX f V t g = false) : toldF f V flex t g = if f.null V t then true else toldR f V flex t g := by
 cases hz : (g.z != f.null V t) with
 | false => exact toldF_ok2 hof hz
 | true =>
  unfold toldX mayX at h
  rw [hz, Bool.and_true] at h
  simp only [Bool.or_eq_false_iff, beq_eq_false_iff_ne, ne_eq, Bool.and_eq_false_iff, decide_eq_false_iff_not] at h
  exact toldF_ok1 hof (by omega) (by omega) (by omega)
end
end Go.Mk
namespace Go.Mk
open Go
section
variable {fs : List Fld} {V : Int} {flex : Bool} {t g : T}
def tpAt (fs : List Fld) (V : Int) (flex : Bool) (t g : T) (j : Nat) : Bool := if (fs.getD j FNIL).has V then toldF (fs.getD j FNIL) V flex (t.at_ j) (g.l.getD j T.nil) else usuF (fs.getD j FNIL) (g.l.getD j T.nil)
theorem toldFs_range : ∀ (fs : List Fld) (l m : List T) (i : Nat), toldFs fs V flex l m i = (List.range fs.length).all (fun j => if (fs.getD j FNIL).has V then toldF (fs.getD j FNIL) V flex (l.getD (i + j) T.nil) (m.getD (i + j) T.nil) else usuF (fs.getD j FNIL) (m.getD (i + j) T.nil))
 | [], _, _, _ => by simp [toldFs]
 | f :: r, l, m, i => by
  rw [toldFs, toldFs_range r l m (i + 1), List.length_cons, List.range_succ_eq_map, List.all_cons, List.all_map]
  congr 1
  congr 1
  funext j
  simp only [Function.comp, List.getD_cons_succ]
  rw [show i + 1 + j = i + (j + 1) by omega]
theorem toldFs_all (fs : List Fld) (t g : T) : toldFs fs V flex t.l g.l 0 = (List.range fs.length).all (tpAt fs V flex t g) := by
 rw [toldFs_range]
 congr 1
 funext j
 rw [Nat.zero_add]; rfl
def tgL (fs : List Fld) (flex : Bool) (t : T) : List (Nat × List UInt8) := if flex then unknownP fs t.u else []
def tgAt (L : List (Nat × List UInt8)) (g : T) (k : Nat) : Bool := decide ((g.u.getD k (0, [])).1 = (L.getD k (0, [])).1) && decide ((g.u.getD k (0, [])).2 = whole (L.getD k (0, [])).2)
theorem tg_eq : ∀ {u L : List (Nat × List UInt8)}, u.length = L.length → ((u = L.map fitTag) ↔ (List.range L.length).all (fun k => decide ((u.getD k (0, [])).1 = (L.getD k (0, [])).1) && decide ((u.getD k (0, [])).2 = whole (L.getD k (0, [])).2)) = true)
 | [], [], _ => by simp
 | a :: r, b :: s, h => by
  have ih := tg_eq (u := r) (L := s) (by simpa using h)
  rw [List.length_cons, List.range_succ_eq_map, List.all_cons, List.all_map, List.map_cons, List.cons.injEq, ih, Bool.and_eq_true]
  refine and_congr ?_ Iff.rfl
  obtain ⟨a1, a2⟩ := a
  obtain ⟨b1, b2⟩ := b
  simp [fitTag]
 | [], _ :: _, h => by simp at h
 | _ :: _, [], h => by simp at h
theorem toldP_eq : toldP fs V flex t g = (decide (g.l.length = fs.length) && (List.range fs.length).all (tpAt fs V flex t g) && (decide (g.u.length = (tgL fs flex t).length) && (List.range (tgL fs flex t).length).all (tgAt (tgL fs flex t) g))) := by
 unfold toldP
 rw [toldFs_all]
 congr 1
 have e : (if flex then fitU fs t.u else []) = (tgL fs flex t).map fitTag := by
  unfold tgL
  cases flex with
  | true => exact fitU_eq fs t.u
  | false => rfl
 rw [e]
 by_cases hl : g.u.length = (tgL fs flex t).length
 ·rw [decide_eq_true hl, Bool.true_and]
  exact Bool.eq_iff_iff.2 (by rw [decide_eq_true_eq]; exact tg_eq hl)
 ·rw [decide_eq_false hl, Bool.false_and, decide_eq_false]
  intro h
  rw [h] at hl
  simp at hl
theorem toldP_len (h : (((g.l.length : Nat) : Int) != ((fs.length : Nat) : Int)) = true) : false = toldP fs V flex t g := by
 rw [toldP_eq]
 have : ¬ g.l.length = fs.length := fun e => by rw [e] at h; simp at h
 rw [decide_eq_false this]; rfl
theorem toldP_loopF {k : Nat} (hlt : k < fs.length) (h : tpAt fs V flex t g k = false) : false = toldP fs V flex t g := by
 rw [toldP_eq, range_all_false hlt h, Bool.and_false, Bool.false_and]
theorem toldP_tlen (h : (((g.u.length : Nat) : Int) != (((tgL fs flex t).length : Nat) : Int)) = true) : false = toldP fs V flex t g := by
 rw [toldP_eq]
 have : ¬ g.u.length = (tgL fs flex t).length := fun e => by rw [e] at h; simp at h
 rw [decide_eq_false this, Bool.false_and, Bool.and_false]
theorem toldP_tagF {k : Nat} (hlt : k < (tgL fs flex t).length) (h : tgAt (tgL fs flex t) g k = false) : false = toldP fs V flex t g := by
 rw [toldP_eq, range_all_false hlt h, Bool.and_false, Bool.and_false]
theorem toldP_T (h1 : (((g.l.length : Nat) : Int) != ((fs.length : Nat) : Int)) = false) (h2 : (List.range fs.length).all (tpAt fs V flex t g) = true) (h3 : (((g.u.length : Nat) : Int) != (((tgL fs flex t).length : Nat) : Int)) = false) (h4 : (List.range (tgL fs flex t).length).all (tgAt (tgL fs flex t) g) = true) : true = toldP fs V flex t g := by
 rw [toldP_eq, h2, h4]
 have e1 : g.l.length = fs.length := by have := bne_eq_false_iff_eq.1 h1; omega
 have e3 : g.u.length = (tgL fs flex t).length := by have := bne_eq_false_iff_eq.1 h3; omega
 rw [decide_eq_true e1, decide_eq_true e3]; rfl
theorem tpAt_has {k : Nat} (h : (fs.getD k FNIL).has V = true) : tpAt fs V flex t g k = toldF (fs.getD k FNIL) V flex (t.at_ k) (g.l.getD k T.nil) := by unfold tpAt; rw [if_pos h]
theorem tpAt_not {k : Nat} (h : (fs.getD k FNIL).has V = false) : tpAt fs V flex t g k = usuF (fs.getD k FNIL) (g.l.getD k T.nil) := by unfold tpAt; rw [if_neg (by rw [h]; exact Bool.false_ne_true)]
theorem usu_single {f : Fld} {x : T} : (([] : List (Nat × List UInt8)).isEmpty && usuFs [f] [x] 0) = usuF f x := by simp [usuFs]
theorem tgAt_ok {L : List (Nat × List UInt8)} {k : Nat} (h1 : ((((g.u.getD k (0, [])).1 : Nat) : Int) != (((L.getD k (0, [])).1 : Nat) : Int)) = false) (h2 : (!decide ((g.u.getD k (0, [])).2 = whole (L.getD k (0, [])).2)) = false) : tgAt L g k = true := by
 unfold tgAt
 have e1 := bne_eq_false_iff_eq.1 h1
 rw [decide_eq_true (by omega), Bool.true_and]
 exact (Bool.not_eq_false' _).mp h2
theorem tgAt_bad1 {L : List (Nat × List UInt8)} {k : Nat} (h1 : ((((g.u.getD k (0, [])).1 : Nat) : Int) != (((L.getD k (0, [])).1 : Nat) : Int)) = true) : tgAt L g k = false := by
 unfold tgAt
 have e1 := bne_iff_ne.1 h1
 rw [decide_eq_false (by omega), Bool.false_and]
theorem tgAt_bad2 {L : List (Nat × List UInt8)} {k : Nat} (h2 : (!decide ((g.u.getD k (0, [])).2 = whole (L.getD k (0, [])).2)) = true) : tgAt L g k = false := by
 unfold tgAt
 rw [(Bool.not_eq_true' _).mp h2, Bool.and_false]
theorem small_tag (h : g.small = true) (k : Nat) : (g.u.getD k (0, [])).2.length < 4611686018427387904 := by
 rw [List.getD_eq_getElem?_getD]
 cases hk : g.u[k]? with
 | none => simp
 | some x =>
  have := (small_spec h).2.2.2.1 x (List.mem_of_getElem? hk)
  simp only [Option.getD_some]
  omega
end
end Go.Mk
