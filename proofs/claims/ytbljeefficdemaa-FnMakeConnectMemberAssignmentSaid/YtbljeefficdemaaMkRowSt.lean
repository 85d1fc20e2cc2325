/- Rows that are written in place; tags laid among tags. No statement of a seat stands here. -/
import Derived.Test.YtbljeefficdemaaMkLaw2
namespace Go.Mk
open Go

theorem row_form {w : World} {e sz n : Nat} {v : Value} {xs : List Value} (h : w.ownsRow 0 e sz v n xs) : ∃ p cap, v = .slice p n cap := by
  rcases h.2 with ⟨rfl, rfl⟩ | ⟨g, cap, cur, rfl, _⟩
  · exact ⟨_, _, rfl⟩
  · exact ⟨_, _, rfl⟩
theorem row_ptr {w : World} {e sz n cap : Nat} {p : Option Addr} {xs : List Value} (h : w.ownsRow 0 e sz (.slice p n cap) n xs) (hn : 0 < n) : ∃ g, p = some ⟨g, 0, none⟩ := by
  rcases h.2 with ⟨h1, h2⟩ | ⟨g, cap', cur, h1, _⟩
  · omega
  · simp only [Value.slice.injEq] at h1
    exact ⟨g, h1.1⟩

section
variable {P : Program} {ops : Array Oper} {Q : Exit → Act → World → Prop} {rest : List Oper} {a : Act} {w w0 : World} {n : Nat} {l : List (Nat × Value)} {X Z : Nat → Prop} {m : List Ent}
variable {d : Nat} {ty : Nat} {ps : String} {af : Array Edge}

theorem Mem.rowCells (h : Mem w0 X Z m w) {i e sz k cap g off : Nat} {xs vs : List Value} (hi : entAt m i = some (.row e sz (.slice (some ⟨g, 0, none⟩) k cap) k xs)) (hv : (xs.drop off).take vs.length = vs) :
    ∀ j u, vs[j]? = some u → w.cell? ⟨g, 0 + off + j, none⟩ = some u := fun j u hj => by
  have hr := h.row hi
  have hlt : j < vs.length := (List.getElem?_eq_some_iff.1 hj).1
  rw [← hv, List.getElem?_take, if_pos hlt, List.getElem?_drop] at hj
  have := hr.cells (g := g) rfl (off + j) u hj
  rw [Addr.add_lit] at this
  rw [Nat.add_assoc]
  exact this
theorem Mem.rowCell (h : Mem w0 X Z m w) {i e sz k cap g off o : Nat} {xs : List Value} {u : Value} (hi : entAt m i = some (.row e sz (.slice (some ⟨g, 0, none⟩) k cap) k xs)) (hv : xs[off + o]? = some u) :
    w.cell? ⟨g, 0 + off + o, none⟩ = some u := by
  have hr := h.row hi
  have := hr.cells (g := g) rfl (off + o) u hv
  rw [Addr.add_lit] at this
  rw [Nat.add_assoc]
  exact this

theorem o_storeRow {x y : Operand} {t s i e sz k cap g off : Nat} {bl : Bool} {v : Value} {xs vs : List Value} (hk : Kn n l a) (hm : Mem w0 X Z m w) (ht : tySz P t = some (bl, s))
    (hx : ev l x = some (.pointer (some ⟨g, off, none⟩))) (hy : ev l y = some v) (hvs : cellsOf v = vs) (hs : vs.length = s) (h1 : oneCells vs = true)
    (hi : entAt m i = some (.row e sz (.slice (some ⟨g, 0, none⟩) k cap) k xs)) (ho : off + vs.length ≤ k * sz)
    (K : ∀ a' w', Kn n l a' → Mem w0 X Z (putAt m i (.row e sz (.slice (some ⟨g, 0, none⟩) k cap) k (spl xs off vs))) w' → wpList P ops Q rest a' w') :
    wpList P ops Q (⟨none, .store t x y, ty, ps, af, none⟩ :: rest) a w := by
  subst hvs
  have hrow := hm.row hi
  obtain ⟨hl, hcase⟩ := hrow
  rcases hcase with ⟨h0, _⟩ | ⟨g', cap', cur, h0, _, hg, hnc, hcm, hcs, htake⟩
  · simp at h0
  · simp only [Value.slice.injEq, Option.some.injEq, Addr.mk.injEq, and_true, true_and] at h0
    obtain ⟨rfl, rfl⟩ := h0
    have hkc : k * sz ≤ cap * sz := Nat.mul_le_mul_right _ hnc
    have hst := run_storeCells_at P g off e (cellsOf v) 0 cur w hg (by simp; omega) (oneCells_spec h1)
    rw [Nat.add_zero] at hst
    have hcl : off + (cellsOf v).length ≤ cur.toList.length := by simp; omega
    refine step_runsU (w' := w.setRow g (spl cur.toList off (cellsOf v)).toArray) hk rfl rfl ?_ fun a' hk' => K a' _ hk' ?_
    · unfold RunsU execOp
      have hsz : v.cells.size = s := by rw [cellsOf_eq]; simpa using hs
      simp [hk.eval hx, hk.eval hy, Instr.storeAt, Instr.sureAddr, storeVar, sizeOf_run ht, hsz]
      rw [show v.cells.toList = cellsOf v by rw [cellsOf_eq], hst]
      rw [spl_eq hcl]
      rfl
    · refine hm.rowStep hi ((setRow_agr w g _).mono fun x _ hx => by simp [Value.ownBlock, hx]) ?_ (fun k hk => .inl hk)
      refine ⟨by rw [spl_length (by omega)]; exact hl, .inr ⟨g, cap, _, rfl, Nat.zero_le _, setRow_heap w g cur _ e _ hg, hnc, hcm, ?_, ?_⟩⟩
      · rw [List.size_toArray, spl_length hcl]; simpa using hcs
      · rw [spl_eq hcl, spl_eq (by omega), ← htake]
        rw [← htake] at hl
        simp only [List.length_take, Array.length_toList] at hl
        apply List.ext_getElem?
        intro j
        simp only [List.getElem?_take, List.getElem?_append, List.length_append, List.length_take, List.getElem?_drop, Array.length_toList]
        have e1 : min off (min (k * sz) cur.size) = min off cur.size := by omega
        rw [e1]
        by_cases hj : j < k * sz
        · rw [if_pos hj]
          by_cases h2 : j < min off cur.size + (cellsOf v).length
          · rw [if_pos h2, if_pos h2]
            by_cases h3 : j < min off cur.size
            · rw [if_pos h3, if_pos h3]
              have : j < off := by omega
              rw [if_pos this, if_pos this, if_pos hj]
            · rw [if_neg h3, if_neg h3]
          · rw [if_neg h2, if_neg h2]
            have e2 : off + (cellsOf v).length + (j - (min off cur.size + (cellsOf v).length)) = j := by omega
            rw [e2, if_pos hj]
        · rw [if_neg hj]
          have h2 : ¬ j < min off cur.size + (cellsOf v).length := by omega
          rw [if_neg h2]
          have e2 : off + (cellsOf v).length + (j - (min off cur.size + (cellsOf v).length)) = j := by omega
          rw [e2, if_neg hj]
end

theorem RepE.set {w : World} {Y : Nat → Prop} {esz : Nat} : ∀ {l : List DD} {c : List Value}, RepE w Y esz l c → ∀ {j : Nat} {d : DD} {cs : List Value}, j < l.length → Rep w Y d cs → cs.length = esz → RepE w Y esz (l.set j d) (spl c (j * esz) cs)
  | [], c, _, j, d, cs, hj, _, _ => by simp at hj
  | d0 :: r, c, h, j, d, cs, hj, hd, hl => by
    have hlen := h.length
    simp only [RepE] at h
    obtain ⟨c1, c2, rfl, h1, h2, h3⟩ := h
    have h3l := h3.length
    cases j with
    | zero =>
      rw [Nat.zero_mul, List.set_cons_zero, spl_eq (by simp only [List.length_append]; omega)]
      simp only [List.take_zero, List.nil_append, Nat.zero_add, RepE]
      exact ⟨cs, c2, by rw [hl, ← h1, List.drop_left], hl, hd, h3⟩
    | succ j =>
      rw [List.set_cons_succ]
      simp only [RepE]
      have hj' : j < r.length := by simpa using hj
      have hjl : j * esz + esz ≤ r.length * esz := by rw [← Nat.succ_mul]; exact Nat.mul_le_mul_right _ hj'
      refine ⟨c1, spl c2 (j * esz) cs, ?_, h1, h2, h3.set hj' hd hl⟩
      rw [spl_eq (by simp only [List.length_append, Nat.succ_mul]; omega), spl_eq (by omega), Nat.succ_mul]
      have e1 : (c1 ++ c2).take (j * esz + esz) = c1 ++ c2.take (j * esz) := by
        rw [List.take_append, List.take_of_length_le (by omega)]; congr 2; omega
      have e2 : (c1 ++ c2).drop (j * esz + esz + cs.length) = c2.drop (j * esz + cs.length) := by
        rw [List.drop_append, List.drop_eq_nil_of_le (by omega), List.nil_append]; congr 1; omega
      rw [e1, e2]
      simp

theorem Mem.elsSet {w0 w : World} {X Z : Nat → Prop} {m : List Ent} (hm : Mem w0 X Z m w) {i sz j : Nat} {ds : List DD} {xs c : List Value} {d : DD} (hi : entAt m i = some (.els sz ds xs)) (hj : j < ds.length) (hR : Rep w (Yof w0 Z m) d c) (hl : c.length = sz) :
    Mem w0 X Z (putAt m i (.els sz (ds.set j d) (spl xs (j * sz) c))) w :=
  hm.putFrozen hi rfl rfl ((hm.els hi).set hj hR hl)

/-- the tag of a number, in its cells -/
theorem els_tag {w : World} {Y : Nat → Prop} {us : List (Nat × List UInt8)} {xs : List Value} (h : RepE w Y 2 (us.map ddTag) xs) {i : Nat} (hi : i < us.length) :
    ∃ p cap, (xs.drop (i * 2)).take 2 = [.int .u32 ((us.getD i (0, [])).1 : Int), .slice p (us.getD i (0, [])).2.length cap] ∧ Rep w Y (ddTag (us.getD i (0, []))) [.int .u32 ((us.getD i (0, [])).1 : Int), .slice p (us.getD i (0, [])).2.length cap] := by
  obtain ⟨h1, h2⟩ := h.get (getD_map ddTag us i (0, []) hi)
  obtain ⟨p, cap, he, _⟩ := rep_Tag h2
  refine ⟨p, cap, he, ?_⟩
  rw [← he]; exact h2
theorem cell_of_take2 {xs : List Value} {k : Nat} {a b : Value} (h : (xs.drop k).take 2 = [a, b]) : xs[k + 0]? = some a ∧ xs[k + 1]? = some b := by
  have h0 : ((xs.drop k).take 2)[0]? = some a := by rw [h]; rfl
  have h1 : ((xs.drop k).take 2)[1]? = some b := by rw [h]; rfl
  simp only [List.getElem?_take, List.getElem?_drop] at h0 h1
  exact ⟨by simpa using h0, by simpa using h1⟩

/-! ### laying a tag among others -/
def tagd : Nat × List UInt8 := (0, [])
theorem ins_same {t : Nat × List UInt8} : ∀ {out : List (Nat × List UInt8)} {i : Nat}, (∀ j < i, (out.getD j (0, [])).1 < t.1) → i < out.length → (out.getD i (0, [])).1 = t.1 → insTag t out = out
  | [], i, _, h, _ => by simp at h
  | x :: r, 0, _, _, he => by
    have he' : x.1 = t.1 := by simpa using he
    simp [insTag, he']
  | x :: r, i + 1, hs, hl, he => by
    have hx : x.1 < t.1 := by simpa using hs 0 (by omega)
    have := ins_same (t := t) (out := r) (i := i) (fun j hj => by simpa using hs (j + 1) (by omega)) (by simpa using hl) (by simpa using he)
    simp [insTag, hx, this]
theorem ins_at {t : Nat × List UInt8} : ∀ {out : List (Nat × List UInt8)} {i : Nat}, (∀ j < i, (out.getD j (0, [])).1 < t.1) → i ≤ out.length → (i < out.length → t.1 < (out.getD i (0, [])).1) → insTag t out = out.take i ++ t :: out.drop i
  | [], i, _, h, _ => by
    have : i = 0 := by simpa using h
    subst this; rfl
  | x :: r, 0, _, _, he => by
    have he' : t.1 < x.1 := by simpa using he
    have h1 : ¬ x.1 < t.1 := by omega
    have h2 : ¬ x.1 = t.1 := by omega
    simp [insTag, h1, h2]
  | x :: r, i + 1, hs, hl, he => by
    have hx : x.1 < t.1 := by simpa using hs 0 (by omega)
    have := ins_at (t := t) (out := r) (i := i) (fun j hj => by simpa using hs (j + 1) (by omega)) (by simpa using hl) (fun h => by simpa using he (by simpa using h))
    simp [insTag, hx, this]

/-- what stands behind k tags -/
def unkF (kn : Nat) (us : List (Nat × List UInt8)) : List (Nat × List UInt8) := us.foldl (fun out t => if t.1 < kn then out else insTag t out) []
theorem unkF_succ (kn : Nat) (us : List (Nat × List UInt8)) (k : Nat) (h : k < us.length) : unkF kn (us.take (k + 1)) = if (us.getD k (0, [])).1 < kn then unkF kn (us.take k) else insTag (us.getD k (0, [])) (unkF kn (us.take k)) := by
  unfold unkF
  rw [List.take_succ_eq_append_getElem h, List.foldl_append]
  simp [h]
theorem ins_length (t : Nat × List UInt8) : ∀ out : List (Nat × List UInt8), (insTag t out).length ≤ out.length + 1
  | [] => by simp [insTag]
  | x :: r => by
    have := ins_length t r
    simp only [insTag]
    split
    · simp; exact this
    · split <;> simp
theorem unkF_length (kn : Nat) (us : List (Nat × List UInt8)) : ∀ k, (unkF kn (us.take k)).length ≤ k
  | 0 => by simp [unkF]
  | k + 1 => by
    by_cases h : k < us.length
    · rw [unkF_succ kn us k h]
      have := unkF_length kn us k
      split
      · omega
      · have := ins_length (us.getD k (0, [])) (unkF kn (us.take k)); omega
    · have h1 : us.take (k + 1) = us.take k := by rw [List.take_of_length_le (by omega), List.take_of_length_le (by omega)]
      rw [h1]; have := unkF_length kn us k; omega
theorem unkF_eq (fs : List Fld) (us : List (Nat × List UInt8)) : unknownP fs us = unkF (known fs) (us.take 32767) := rfl

/-- one shift to the right -/
theorem shift_step {cur out : List (Nat × List UInt8)} {k : Nat} (hl : cur.length = out.length + 1) (hk : k + 1 ≤ out.length) (h1 : cur.take (k + 1) = out.take (k + 1)) (h2 : cur.drop (k + 2) = out.drop (k + 1)) :
    (cur.set (k + 1) (cur.getD k (0, []))).take k = out.take k ∧ (cur.set (k + 1) (cur.getD k (0, []))).drop (k + 1) = out.drop k := by
  have e0 : cur.getD k (0, []) = out[k] := by
    have : (cur.take (k + 1))[k]? = (out.take (k + 1))[k]? := by rw [h1]
    simp only [List.getElem?_take, Nat.lt_succ_self, if_true] at this
    rw [List.getD_eq_getElem?_getD, this]
    simp [show k < out.length by omega]
  constructor
  · rw [List.take_set, List.set_eq_of_length_le (by simp; omega)]
    have := congrArg (List.take k) h1
    simpa [List.take_take] using this
  · have hc : k + 1 < (cur.set (k + 1) (cur.getD k (0, []))).length := by simp; omega
    rw [List.drop_eq_getElem_cons hc, List.drop_set, if_pos (by omega), h2, List.drop_eq_getElem_cons (show k < out.length by omega), ← e0]
    simp
theorem shift_end {cur out : List (Nat × List UInt8)} {i : Nat} {t : Nat × List UInt8} (hl : cur.length = out.length + 1) (hi : i ≤ out.length) (h1 : cur.take i = out.take i) (h2 : cur.drop (i + 1) = out.drop i) : cur.set i t = out.take i ++ t :: out.drop i := by
  rw [List.set_eq_take_append_cons_drop, if_pos (by omega), h1, h2]
end Go.Mk
namespace Go.Mk
open Go
theorem rep_tags_take {w : World} {Y : Nat → Prop} {us : List (Nat × List UInt8)} {p : Option Addr} {n cap : Nat} (h : Rep w Y (.sl false 2 ((us.map ddTag).take (us.take 32767).length)) [.slice p n cap]) : Rep w Y (ddTags (us.take 32767)) [.slice p n cap] := by
  have e : (us.map ddTag).take (us.take 32767).length = (us.take 32767).map ddTag := by
    rw [← List.map_take]
    congr 1
    rw [List.length_take]
    rcases Nat.le_total 32767 us.length with h | h
    · rw [Nat.min_eq_left h]
    · rw [Nat.min_eq_right h, List.take_length, List.take_of_length_le h]
  rw [e] at h
  exact h
end Go.Mk
namespace Go.Mk
open Go
theorem c_cut2 {P : Program} {Q : Exit → Act → World → Prop} {a : Act} {w : World} {x y : Code} (J : Act → World → Prop) (hx : x.wp P (Exit.then J Q) a w) (hy : ∀ a w, J a w → y.wp P Q a w) : x.wp P (Exit.then (y.wp P Q) Q) a w :=
  Code.wp_mono (fun e a w h => by cases e <;> first | exact hy _ _ h | exact h) hx
end Go.Mk
