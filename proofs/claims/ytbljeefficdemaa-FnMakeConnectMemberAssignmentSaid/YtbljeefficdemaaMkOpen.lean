/- Arguments, as they are read: trees in memory; how long what is written may be. No statement of a seat stands here. -/
import Derived.Test.YtbljeefficdemaaMkDoor
import Derived.Carry
import Derived.ProofKit
import Derived.WalkKit
import Derived.OpenShut
namespace Go.Mk
open Go

/-! ### what is written is bounded by its fields -/
def mxV (kind part : Nat) : Nat :=
  match kind with
  | 0 => 1
  | 7 => 16
  | 8 => 32777
  | 9 => 32777
  | 10 => part
  | _ => 8
mutual
def mxF : Fld → Nat
  | .mk kind _ _ _ _ _ of sub => if kind = 11 then 10 + 32767 * mxV of (mxFs sub) else 1 + mxV kind (mxFs sub)
def mxFs : List Fld → Nat
  | [] => 0
  | f :: r => mxF f + mxFs r
end
theorem counted_len2 {flex null : Bool} {n size : Nat} (hs : size ≤ 8) (hn : n ≤ 32767) : (counted flex null n size).length ≤ 10 := counted_len hs (by unfold room; omega)
theorem mxV_le {kind : Nat} {pt : T → List UInt8} {null flex : Bool} {t : T} {m : Nat} (hp : (pt t).length ≤ m) : (valueP kind pt null flex t).length ≤ mxV kind m := by
  by_cases h0 : kind = 0
  · subst h0; exact Nat.le_refl _
  by_cases h7 : kind = 7
  · subst h7; exact Nat.le_of_eq (sixteen_length _)
  have hw : (if null then [] else whole t.s).length ≤ 32767 := by split; exact Nat.zero_le _; exact whole_len t.s
  by_cases h8 : kind = 8
  · subst h8
    show (counted flex null _ 2 ++ _).length ≤ 32777
    rw [List.length_append]
    have := counted_len2 (flex := flex) (null := null) (n := (if null then [] else whole t.s).length) (size := 2) (by decide) hw
    omega
  by_cases h9 : kind = 9
  · subst h9
    show (counted flex null _ 4 ++ _).length ≤ 32777
    rw [List.length_append]
    have := counted_len2 (flex := flex) (null := null) (n := (if null then [] else whole t.s).length) (size := 4) (by decide) hw
    omega
  by_cases h10 : kind = 10
  · subst h10; exact hp
  · rw [valueP_num h0 h7 h8 h9 h10, fixed_length]
    have : mxV kind m = 8 := by unfold mxV; split <;> simp_all
    rw [this]; exact width_le kind
theorem flat_le {α β : Type} (F : α → List β) (c : Nat) : ∀ (l : List α), (∀ x ∈ l, (F x).length ≤ c) → (l.flatMap F).length ≤ l.length * c
  | [], _ => by simp
  | x :: r, h => by
    have h1 := h x List.mem_cons_self
    have h2 := flat_le F c r fun y hy => h y (List.mem_cons_of_mem _ hy)
    rw [List.flatMap_cons, List.length_append, List.length_cons, Nat.succ_mul]
    omega
theorem mxF_eq (f : Fld) : mxF f = if f.kind = 11 then 10 + 32767 * mxV f.of (mxFs f.sub) else 1 + mxV f.kind (mxFs f.sub) := by
  cases f; unfold mxF; rfl
theorem mxF_le_of {f : Fld} {V : Int} {flex : Bool} (hp : ∀ t, (partP f.sub V flex t).length ≤ mxFs f.sub) (t : T) : (fieldP f V flex t).length ≤ mxF f := by
  rw [fieldP_eq, mxF_eq]
  unfold fieldQ
  by_cases h11 : f.kind = 11
  · rw [if_pos h11, if_pos h11, List.length_append]
    have hl : (if f.null V t then [] else things t.l).length ≤ 32767 := by split; exact Nat.zero_le _; exact things_len t.l
    have h1 := counted_len2 (flex := flex) (null := f.null V t) (size := 4) (by decide) hl
    have h2 := flat_le (valueP f.of (partP f.sub V flex) false flex) (mxV f.of (mxFs f.sub)) (if f.null V t then [] else things t.l) (fun x _ => mxV_le (hp x))
    have h3 := Nat.mul_le_mul_right (mxV f.of (mxFs f.sub)) hl
    omega
  · rw [if_neg h11, if_neg h11]
    by_cases h10 : f.kind = 10 ∧ f.nu ≥ 0
    · rw [if_pos h10, h10.1]
      have := hp t
      show _ ≤ 1 + mxFs f.sub
      split
      · simp [fixed_length]
      · rw [List.length_append, fixed_length]; omega
    · rw [if_neg h10]
      have := mxV_le (kind := f.kind) (null := f.null V t) (flex := flex) (hp t)
      omega
theorem plain_le (V : Int) (flex : Bool) : ∀ (fs : List Fld) (l : List T) (i : Nat), (∀ f ∈ fs, ∀ t, (fieldP f V flex t).length ≤ mxF f) → (plainOut fs V (fieldsP fs V flex l i)).length ≤ mxFs fs
  | [], l, i, _ => by simp [plainOut]
  | f :: r, l, i, h => by
    rw [plainOut_cons, List.length_append]
    have h1 := h f List.mem_cons_self (l.getD i T.nil)
    have h2 := plain_le V flex r l (i + 1) fun g hg => h g (List.mem_cons_of_mem _ hg)
    have h3 : (pieceP f V flex (l.getD i T.nil)).length ≤ mxF f := by unfold pieceP; split; exact h1; exact Nat.zero_le _
    simp only [mxFs]
    omega
theorem mx_field (V : Int) : ∀ (f : Fld) (t : T), (fieldP f V false t).length ≤ mxF f := Fld_ind fun f ih => mxF_le_of fun t => by
  unfold partP partQ
  simp only [Bool.false_eq_true, if_false]
  exact plain_le V false f.sub t.l 0 ih
/-- what is written of a part that is not flexible -/
theorem mx_part (fs : List Fld) (V : Int) (t : T) : (partP fs V false t).length ≤ mxFs fs := by
  unfold partP partQ
  simp only [Bool.false_eq_true, if_false]
  exact plain_le V false fs t.l 0 fun f _ => mx_field V f

/-! ### what is read -/
/-- a struct's fields: type, place, cells of each -/
def structOf (P : Program) (t : Nat) : Option (Nat × List (Nat × Nat × Nat)) := match P.underlying t with
  | some (.struct fs) => some (P.cellsOf t, fs.toList.map fun f => (f.type, f.offset, P.cellsOf f.type))
  | _ => none
def sliceOf (P : Program) (t : Nat) : Option (Nat × Nat) := match P.underlying t with
  | some (.slice e) => some (e, P.cellsOf e)
  | _ => none
theorem structOf_spec {P : Program} {t c : Nat} {l : List (Nat × Nat × Nat)} (h : structOf P t = some (c, l)) : ∃ fs, P.underlying t = some (.struct fs) ∧ P.cellsOf t = c ∧ (fs.toList.map fun f => (f.type, f.offset, P.cellsOf f.type)) = l := by
  unfold structOf at h
  split at h
  · rename_i fs hfs
    simp only [Option.some.injEq, Prod.mk.injEq] at h
    exact ⟨fs, hfs, h.1, h.2⟩
  · cases h
theorem sliceOf_spec {P : Program} {t e c : Nat} (h : sliceOf P t = some (e, c)) : P.underlying t = some (.slice e) ∧ P.cellsOf e = c := by
  unfold sliceOf at h
  split at h
  · rename_i e' he
    simp only [Option.some.injEq, Prod.mk.injEq] at h
    obtain ⟨rfl, h2⟩ := h
    exact ⟨he, h2⟩
  · cases h


section
variable {H : Type} {enc : TypeId × Value → H} {P : Program} {w : World} {base : Nat} {spare : Nat → Bool} {held : Bool} {fuel t : Nat} {cs : List Value} {x : DataW H × List MemPlace}

theorem add_eq (a : Addr) (hs : a.spot = none) (n : Nat) : a.add n = ⟨a.block, a.off + n, none⟩ := by
  unfold Addr.add
  split
  · rename_i h; subst h; cases a; simp_all
  · rfl
/-- a slice that is read: its things, each of which stands for what 'F' says -/
theorem open_sl {α : Type} {e c : Nat} (F : α → DD) (hc0 : 0 < c) (ht : sliceOf P t = some (e, c)) (ih : ∀ (f : Nat) (ce : List Value) (y : DataW H × List MemPlace), f < fuel → DataW.trod enc P w base spare held f e ce = some y → ∃ a : α, Rep w Nob (F a) ce ∧ ce.length = c)
    (h : DataW.trod enc P w base spare held fuel t cs = some x) (hsp : ∀ b, spare b = true) : ∃ l : List α, Rep w Nob (.sl false c (l.map F)) cs ∧ l.length ≤ maxLen := by
  obtain ⟨hu, rfl⟩ := sliceOf_spec ht
  rcases DataW.trod_slice hu h with ⟨rfl, _⟩ | ⟨a, len, cap, elems, rest, n, rfl, rfl, _, hb, hlc, hcm, hel, hget, hspare, _⟩
  · exact ⟨[], by simp [Rep], Nat.zero_le _⟩
  · by_cases hcap : cap = 0
    · have h0 : len = 0 := by omega
      subst hcap h0
      exact ⟨[], by simp [Rep], Nat.zero_le _⟩
    · -- the address has no spot: a cell of it is read
      have hspot : a.spot = none := by
        have h1 : ∃ ce, w.cells? base (a.add (0 * P.cellsOf e)) (P.cellsOf e) = some ce := by
          by_cases hl : 0 < len
          · have := hget 0 hl
            have h2 : elems[0]? = some elems[0] := List.getElem?_eq_getElem (by omega)
            cases hq : w.cells? base (a.add (0 * P.cellsOf e)) (P.cellsOf e) with
            | none => rw [hq, h2] at this; cases this
            | some ce => exact ⟨ce, rfl⟩
          · have hl0 : len = 0 := by omega
            obtain ⟨h2, h3⟩ := hspare (hsp _)
            have := h3 0 (by omega)
            have h2' : rest[0]? = some rest[0] := List.getElem?_eq_getElem (by omega)
            rw [hl0, Nat.add_zero] at this
            cases hq : w.cells? base (a.add (0 * P.cellsOf e)) (P.cellsOf e) with
            | none => rw [hq, h2'] at this; cases this
            | some ce => exact ⟨ce, rfl⟩
        obtain ⟨ce, hce⟩ := h1
        obtain ⟨_, h3, h4⟩ := World.cells?_some hce
        have h5 := h4 0 hc0
        rw [Nat.zero_mul] at h5
        have h6 : (a.add 0).add 0 = a := by simp [Addr.add]
        rw [h6] at h5
        have h7 : ce[0]? ≠ none := by rw [List.getElem?_eq_getElem (by omega)]; simp
        rw [← h5] at h7
        unfold World.cell? at h7
        split at h7
        · split at h7
          · exact absurd rfl h7
          · rename_i hs; simpa using hs
        · exact absurd rfl h7
      have key : ∀ (k : Nat), k ≤ len → ∃ (l : List α) (xs : List Value), l.length = k ∧ RepE w Nob (P.cellsOf e) (l.map F) xs ∧ Cel w Nob a.block a.off xs := by
        intro k
        induction k with
        | zero => intro _; exact ⟨[], [], rfl, by simp [RepE], fun j u hj => by simp at hj⟩
        | succ k ihk =>
          intro hk
          obtain ⟨l, xs, h1, h2, h3⟩ := ihk (by omega)
          have hg := hget k (by omega)
          cases hq : w.cells? base (a.add (k * P.cellsOf e)) (P.cellsOf e) with
          | none =>
            rw [hq, List.getElem?_eq_getElem (by omega)] at hg
            cases hg
          | some ce =>
            rw [hq] at hg
            have hlt : k < elems.length := by omega
            have hg' : DataW.trod enc P w base spare held n e ce = some elems[k] := by simpa [hlt] using hg
            obtain ⟨v, hv, hvl⟩ := ih n ce _ (Nat.lt_succ_self n) hg'
            refine ⟨l ++ [v], xs ++ ce, by simp [h1], by rw [List.map_append]; exact h2.append (RepE.one hv hvl), ?_⟩
            intro j u hj
            have hxl := h2.length
            rw [List.length_map, h1] at hxl
            rw [List.getElem?_append] at hj
            split at hj
            · exact h3 j u hj
            · rename_i hge
              obtain ⟨_, h5, h6⟩ := World.cells?_some hq
              have hj2 : j - xs.length < P.cellsOf e := by
                have := (List.getElem?_eq_some_iff.1 hj).1
                omega
              have h7 := h6 (j - xs.length) hj2
              rw [hj, add_eq a hspot] at h7
              refine ⟨id, ?_⟩
              have h8 : (⟨a.block, a.off + k * P.cellsOf e, none⟩ : Addr).add (j - xs.length) = ⟨a.block, a.off + j, none⟩ := by
                rw [add_eq _ rfl]
                have : a.off + k * P.cellsOf e + (j - xs.length) = a.off + j := by omega
                rw [this]
              rw [h8] at h7
              exact h7
      obtain ⟨l, xs, h1, h2, h3⟩ := key len (Nat.le_refl _)
      refine ⟨l, ?_, by omega⟩
      simp only [Rep]
      refine .inr ⟨a.block, a.off, cap, xs, ?_, by rw [List.length_map]; omega, h3, h2⟩
      rw [List.length_map, h1]
      cases a
      simp only at hspot
      subst hspot
      rfl

def intOf (P : Program) (t : Nat) (k : IntKind) : Bool := match P.underlying t with | some (.int k') => decide (k' = k) | _ => false
theorem intOf_spec {k : IntKind} (h : intOf P t k = true) : P.underlying t = some (.int k) := by
  unfold intOf at h
  split at h
  · rename_i k' hk; rw [hk]; simpa using h
  · cases h
def boolOf (P : Program) (t : Nat) : Bool := match P.underlying t with | some .bool => true | _ => false
theorem boolOf_spec (h : boolOf P t = true) : P.underlying t = some .bool := by
  unfold boolOf at h
  split at h
  · assumption
  · cases h

theorem open_byte (ht : intOf P t .u8 = true) (h : DataW.trod enc P w base spare held fuel t cs = some x) : ∃ b : UInt8, Rep w Nob (ddB b) cs ∧ cs.length = 1 := by
  obtain ⟨n, rfl, _, hwf⟩ := DataW.trod_int (intOf_spec ht) h
  simp only [Lit.wf, Bool.and_eq_true, decide_eq_true_eq] at hwf
  refine ⟨UInt8.ofNat n.toNat, ?_, rfl⟩
  have h1 : 0 ≤ n ∧ n < 256 := by
    simp [IntKind.min, IntKind.max, IntKind.bits, IntKind.signed] at hwf
    omega
  simp only [ddB, Rep]
  have : ((UInt8.ofNat n.toNat).toNat : Int) = n := by
    rw [UInt8.toNat_ofNat']
    omega
  rw [this]

theorem open_fields {c : Nat} {l : List (Nat × Nat × Nat)} (ht : structOf P t = some (c, l)) (h : DataW.trod enc P w base spare held fuel t cs = some x) :
    ∃ n, fuel = n + 1 ∧ cs.length = c ∧ ∀ (i ty off k : Nat), l[i]? = some (ty, off, k) → ∃ y, DataW.trod enc P w base spare held n ty ((cs.drop off).take k) = some y := by
  obtain ⟨fs, hu, hc, hl⟩ := structOf_spec ht
  obtain ⟨xs, n, rfl, _, h1, h2, h3⟩ := DataW.trod_struct hu h
  refine ⟨n, rfl, by rw [h1, hc], fun i ty off k hi => ?_⟩
  rw [← hl, List.getElem?_map] at hi
  cases hf : fs.toList[i]? with
  | none => rw [hf] at hi; simp at hi
  | some f =>
    rw [hf] at hi
    simp only [Option.map_some, Option.some.injEq, Prod.mk.injEq] at hi
    obtain ⟨rfl, rfl, rfl⟩ := hi
    have hf' : fs[i]? = some f := by simpa using hf
    have h4 := h3 i f hf'
    have hlt : i < xs.length := by
      have := (List.getElem?_eq_some_iff.1 hf).1
      simp only [Array.length_toList] at this
      omega
    exact ⟨xs[i], by rw [h4, List.getElem?_eq_getElem hlt]⟩

/-- the types of trees and tags -/
structure TreeTy (P : Program) (tt tg tn ts t8 tb tl tu tk : Nat) : Prop where
  st : structOf P tt = some (5, [(tn, 0, 1), (ts, 1, 1), (tb, 2, 1), (tl, 3, 1), (tu, 4, 1)])
  n : intOf P tn .i64 = true
  s : sliceOf P ts = some (t8, 1)
  b8 : intOf P t8 .u8 = true
  b : boolOf P tb = true
  l : sliceOf P tl = some (tt, 5)
  u : sliceOf P tu = some (tg, 2)
  g : structOf P tg = some (2, [(tk, 0, 1), (ts, 1, 1)])
  k : intOf P tk .u32 = true

theorem open_tag {tt tg tn ts t8 tb tl tu tk : Nat} (ty : TreeTy P tt tg tn ts t8 tb tl tu tk) (hsp : ∀ b, spare b = true) (h : DataW.trod enc P w base spare held fuel tg cs = some x) : ∃ u : Nat × List UInt8, Rep w Nob (ddTag u) cs ∧ cs.length = 2 := by
  obtain ⟨n, rfl, hl, hf⟩ := open_fields ty.g h
  match cs, hl with
  | [c0, c1], _ =>
    obtain ⟨y0, h0⟩ := hf 0 tk 0 1 rfl
    obtain ⟨y1, h1⟩ := hf 1 ts 1 1 rfl
    simp only [List.drop_zero, List.take_succ_cons, List.take_zero, List.drop_succ_cons] at h0 h1
    obtain ⟨m, hm, _, hwf⟩ := DataW.trod_int (intOf_spec ty.k) h0
    simp only [List.cons.injEq, and_true] at hm
    subst hm
    simp only [Lit.wf, Bool.and_eq_true, decide_eq_true_eq] at hwf
    obtain ⟨bs, h2, _⟩ := open_sl ddB (by decide) ty.s (fun f ce y _ hc => open_byte ty.b8 hc) h1 hsp
    have h0m : 0 ≤ m := by
      have := hwf.1
      simp [IntKind.min, IntKind.signed] at this
      exact this
    refine ⟨(m.toNat, bs), ?_, rfl⟩
    have e : Value.int .u32 m = .int .u32 ((m.toNat : Nat) : Int) := by rw [Int.toNat_of_nonneg h0m]
    rw [e]
    exact rep_Tag_mk (u := (m.toNat, bs)) h2

theorem open_T {tt tg tn ts t8 tb tl tu tk : Nat} (ty : TreeTy P tt tg tn ts t8 tb tl tu tk) (hsp : ∀ b, spare b = true) : ∀ (fuel : Nat) (cs : List Value) (x : DataW H × List MemPlace), DataW.trod enc P w base spare held fuel tt cs = some x → ∃ t : T, Rep w Nob (ddT t) cs ∧ cs.length = 5 := by
  have key : ∀ (N fuel : Nat) (cs : List Value) (x : DataW H × List MemPlace), fuel ≤ N → DataW.trod enc P w base spare held fuel tt cs = some x → ∃ t : T, Rep w Nob (ddT t) cs ∧ cs.length = 5 := by
    intro N
    induction N with
    | zero => intro fuel cs x hN h; obtain ⟨n, rfl, _⟩ := open_fields ty.st h; omega
    | succ N ih =>
      intro fuel cs x hN h
      obtain ⟨n, rfl, hl, hf⟩ := open_fields ty.st h
      match cs, hl with
      | [c0, c1, c2, c3, c4], _ =>
        obtain ⟨y0, h0⟩ := hf 0 _ _ _ rfl
        obtain ⟨y1, h1⟩ := hf 1 _ _ _ rfl
        obtain ⟨y2, h2⟩ := hf 2 _ _ _ rfl
        obtain ⟨y3, h3⟩ := hf 3 _ _ _ rfl
        obtain ⟨y4, h4⟩ := hf 4 _ _ _ rfl
        simp only [List.drop_zero, List.take_succ_cons, List.take_zero, List.drop_succ_cons] at h0 h1 h2 h3 h4
        obtain ⟨m, hm, _, _⟩ := DataW.trod_int (intOf_spec ty.n) h0
        obtain ⟨z, hz, _⟩ := DataW.trod_bool (boolOf_spec ty.b) h2
        simp only [List.cons.injEq, and_true] at hm hz
        subst hm hz
        obtain ⟨bs, g1, _⟩ := open_sl ddB (by decide) ty.s (fun f ce y _ hc => open_byte ty.b8 hc) h1 hsp
        obtain ⟨l, g3, _⟩ := open_sl ddT (by decide) ty.l (fun f ce y hf hc => ih f ce y (by omega) hc) h3 hsp
        obtain ⟨u, g4, _⟩ := open_sl ddTag (by decide) ty.u (fun f ce y _ hc => open_tag ty hsp hc) h4 hsp
        exact ⟨.mk m bs z l u, rep_T_mk (t := .mk m bs z l u) g1 g3 g4, rfl⟩
  exact fun fuel cs x h => key fuel fuel cs x (Nat.le_refl _) h
/-- a tree that is handed in -/
theorem open_tree {tt tg tn ts t8 tb tl tu tk : Nat} (ty : TreeTy P tt tg tn ts t8 tb tl tu tk) (hsp : ∀ b, spare b = true) {v : Value} {d : DataW H} {ps : List MemPlace} (hv : v.cells.toList.length = 5 → ∃ cs : Array Value, v = .agg cs) (h : DataW.Trod enc P w base spare held tt v d ps) :
    ∃ (t : T) (c : List Value), v = .agg c.toArray ∧ Rep w Nob (ddT t) c := by
  obtain ⟨fuel, h⟩ := h
  obtain ⟨t, h1, h2⟩ := open_T ty hsp fuel _ _ h
  obtain ⟨cs, rfl⟩ := hv h2
  exact ⟨t, cs.toList, by simp, by simpa [Value.cells] using h1⟩
theorem agg_of_len {v : Value} (h : v.cells.toList.length = 5) : ∃ cs : Array Value, v = .agg cs := by
  cases v <;> first | exact ⟨_, rfl⟩ | simp [Value.cells] at h
end
theorem bres_nil {at_ : Nat → Option (Nat × Nat)} {l : List (Nat × Value)} {zs r : List Value} (h : r = zs) : bres at_ l [] zs r := h
end Go.Mk
