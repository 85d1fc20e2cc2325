/- The step of each operation, over known slots. No statement of a seat stands here. -/
import Derived.Test.YtbljeefficdemaaMkMem
namespace Go.Mk
open Go

/-! ### Facts of the program's types, by computation -/
def fldOff (P : Program) (t k : Nat) : Option Nat :=
  match P.underlying t with
  | some (.struct fs) => match fs[k]? with
    | some f => match P.info? f.type with
      | some i => match i.size with
        | 0 => none
        | _ + 1 => some f.offset
      | none => none
    | none => none
  | _ => none

/-- Is the type an array or a struct? how many cells? -/
def tySz (P : Program) (t : Nat) : Option (Bool × Nat) :=
  match P.underlying t, P.info? t with
  | some (.struct _), some i => some (true, i.size)
  | some (.array _ _), some i => some (true, i.size)
  | some _, some i => some (false, i.size)
  | _, _ => none

def tyZero (P : Program) (t : Nat) : Option Value := (P.info? t).bind (·.zero)
def tyElem (P : Program) (t : Nat) : Option Nat := match P.underlying t with | some (.slice e) => some e | _ => none
def tyInt (P : Program) (t : Nat) : Option IntKind := match P.underlying t with | some (.int k) => some k | _ => none

theorem fldOff_spec {P : Program} {t k o : Nat} (h : fldOff P t k = some o) : ∃ fs f i, P.underlying t = some (.struct fs) ∧ fs[k]? = some f ∧ P.info? f.type = some i ∧ i.size ≠ 0 ∧ f.offset = o := by
  unfold fldOff at h
  split at h
  · rename_i fs hfs
    split at h
    · rename_i f hf
      split at h
      · rename_i i hi
        split at h
        · cases h
        · rename_i n hn
          exact ⟨fs, f, i, hfs, hf, hi, by omega, by simpa using h⟩
      · cases h
    · cases h
  · cases h

theorem tySz_false {P : Program} {t s : Nat} (h : tySz P t = some (false, s)) : ∃ d i, P.underlying t = some d ∧ P.info? t = some i ∧ i.size = s ∧ (∀ fs, d ≠ .struct fs) ∧ (∀ n e, d ≠ .array n e) := by
  unfold tySz at h
  split at h
  · simp at h
  · simp at h
  · rename_i d i hd1 hd2 hi hu
    exact ⟨d, i, by first | exact hu | exact hi, by first | exact hi | exact hu, by simpa using h, fun fs e => by subst e; first | exact hd1 fs rfl | exact hd1 fs hu, fun n e' e => by subst e; first | exact hd2 n e' rfl | exact hd2 n e' hu⟩
  · cases h

theorem tySz_true {P : Program} {t s : Nat} (h : tySz P t = some (true, s)) : ∃ d i, P.underlying t = some d ∧ P.info? t = some i ∧ i.size = s ∧ ((∃ fs, d = .struct fs) ∨ ∃ n e, d = .array n e) := by
  unfold tySz at h
  split at h
  · rename_i fs i hu hi
    exact ⟨_, i, hu, hi, by simpa using h, .inl ⟨fs, rfl⟩⟩
  · rename_i n e i hu hi
    exact ⟨_, i, hu, hi, by simpa using h, .inr ⟨n, e, rfl⟩⟩
  · simp at h
  · cases h

theorem isAgg_false {P : Program} {t s : Nat} (h : tySz P t = some (false, s)) (w : World) : (isAgg t).run P w = .ok false w := by
  obtain ⟨d, i, hu, _, _, h1, h2⟩ := tySz_false h
  unfold isAgg
  simp only [Sem.run_bind, run_underlying hu, Result.andThen_ok]
  cases d <;> first | rfl | exact absurd rfl (h1 _) | exact absurd rfl (h2 _ _)
theorem isAgg_true {P : Program} {t s : Nat} (h : tySz P t = some (true, s)) (w : World) : (isAgg t).run P w = .ok true w := by
  obtain ⟨d, i, hu, _, _, h1⟩ := tySz_true h
  unfold isAgg
  simp only [Sem.run_bind, run_underlying hu, Result.andThen_ok]
  rcases h1 with ⟨fs, rfl⟩ | ⟨n, e, rfl⟩ <;> rfl
theorem run_typeInfo' {P : Program} {t : Nat} {i : TypeInfo} (h : P.info? t = some i) (w : World) : (typeInfo t).run P w = .ok i w := by
  unfold typeInfo
  simp [h]
theorem sizeOf_run {P : Program} {t s : Nat} {b : Bool} (h : tySz P t = some (b, s)) (w : World) : (sizeOf t).run P w = .ok s w := by
  have : ∃ i, P.info? t = some i ∧ i.size = s := by
    cases b with
    | false => obtain ⟨d, i, _, h2, h3, _⟩ := tySz_false h; exact ⟨i, h2, h3⟩
    | true => obtain ⟨d, i, _, h2, h3, _⟩ := tySz_true h; exact ⟨i, h2, h3⟩
  obtain ⟨i, hi, hs⟩ := this
  unfold sizeOf
  simp only [Sem.run_bind, run_typeInfo' hi, Result.andThen_ok, Sem.run_pure, hs]
theorem zeroValue_run {P : Program} {t : Nat} {z : Value} (h : tyZero P t = some z) (w : World) : (zeroValue t).run P w = .ok z w := by
  unfold tyZero at h
  cases hi : P.info? t with
  | none => rw [hi] at h; cases h
  | some i =>
    rw [hi] at h
    have h' : i.zero = some z := by simpa using h
    unfold zeroValue
    simp only [Sem.run_bind, run_typeInfo' hi, Result.andThen_ok, h', Sem.run_pure]
theorem tyElem_run {P : Program} {t e : Nat} (h : tyElem P t = some e) : P.underlying t = some (.slice e) := by
  unfold tyElem at h
  split at h
  · rename_i e' hu; rw [hu]; simpa using h
  · cases h
theorem tyInt_run {P : Program} {t : Nat} {k : IntKind} (h : tyInt P t = some k) : P.underlying t = some (.int k) := by
  unfold tyInt at h
  split at h
  · rename_i e' hu; rw [hu]; simpa using h
  · cases h

section
variable {P : Program} {a : Act} {w : World} {n : Nat} {l : List (Nat × Value)} {d : Option Nat} {ty : Nat} {ps : String} {af : Array Edge} {g : Option (Nat × Bool)}

theorem r_move {x : Operand} {v : Value} (hk : Kn n l a) (hx : ev l x = some v) : Runs P ⟨d, .move x, ty, ps, af, g⟩ a w v w := by
  unfold Runs execOp; simp only [Sem.run_pure, hk.eval hx]
theorem r_assign {x : Operand} {v : Value} (hk : Kn n l a) (hx : ev l x = some v) : Runs P ⟨d, .assign x, ty, ps, af, g⟩ a w v w := by
  unfold Runs execOp; simp only [Sem.run_pure, hk.eval hx]
theorem r_pick {c x y : Operand} {b : Bool} {v u : Value} (hk : Kn n l a) (hc : ev l c = some (.bool b)) (hx : ev l x = some v) (hy : ev l y = some u) :
    Runs P ⟨d, .pick c x y, ty, ps, af, g⟩ a w (if b then v else u) w := by
  unfold Runs execOp; simp [hk.eval hc, hk.eval hx, hk.eval hy, asBool]
theorem r_nilCheck {x : Operand} {p : Addr} (hk : Kn n l a) (hx : ev l x = some (.pointer (some p))) : Runs P ⟨d, .nilCheck x, ty, ps, af, g⟩ a w (.pointer (some p)) w := by
  unfold Runs execOp; simp [hk.eval hx]
theorem r_fieldAddr {x : Operand} {t k o b off : Nat} (hk : Kn n l a) (hf : fldOff P t k = some o) (hx : ev l x = some (.pointer (some ⟨b, off, none⟩))) :
    Runs P ⟨d, .fieldAddr t x k, ty, ps, af, g⟩ a w (.pointer (some ⟨b, off + o, none⟩)) w := by
  obtain ⟨fs, f, i, h1, h2, h3, h4, rfl⟩ := fldOff_spec hf
  unfold Runs execOp
  simp [hk.eval hx, Instr.fieldAt, run_underlying h1, h2, Instr.sureAddr, fieldPlace, sizeOf, run_typeInfo' h3, h4, Addr.add_lit]
theorem r_load1 {x : Operand} {t s : Nat} {p : Addr} {v : Value} (hk : Kn n l a) (ht : tySz P t = some (false, s)) (hx : ev l x = some (.pointer (some p))) (hc : w.cell? p = some v) :
    Runs P ⟨d, .load t x, ty, ps, af, g⟩ a w v w := by
  unfold Runs execOp
  simp [hk.eval hx, Instr.loadAt, Instr.sureAddr, loadVar, isAgg_false ht, hc]

theorem run_loadCells' {P : Program} {w : World} {b off : Nat} {cs : List Value} (h : ∀ j u, cs[j]? = some u → w.cell? ⟨b, off + j, none⟩ = some u) :
    (loadCells ⟨b, off, none⟩ cs.length).run P w = .ok cs.toArray w := by
  have key : ∀ (cs : List Value) (i : Nat) (acc : Array Value), (∀ j u, cs[j]? = some u → w.cell? ⟨b, off + (i + j), none⟩ = some u) →
      (loadCellsFrom ⟨b, off, none⟩ i cs.length acc).run P w = .ok (acc ++ cs.toArray) w := by
    intro cs
    induction cs with
    | nil => intro i acc _; simp [loadCellsFrom]
    | cons c r ih =>
      intro i acc h
      have h0 := h 0 c (by simp)
      simp only [List.length_cons, loadCellsFrom, Sem.run_bind, Addr.add_lit]
      rw [Nat.add_zero] at h0
      simp only [run_load, h0, Result.andThen_ok]
      rw [ih (i + 1) (acc.push c) (fun j u hj => by have := h (j + 1) u (by simpa using hj); rw [show i + 1 + j = i + (j + 1) by omega]; exact this)]
      simp
  have := key cs 0 #[] (by simpa using h)
  simpa [loadCells] using this

theorem r_loadN {x : Operand} {t b off : Nat} {cs : List Value} (hk : Kn n l a) (ht : tySz P t = some (true, cs.length)) (hx : ev l x = some (.pointer (some ⟨b, off, none⟩)))
    (hc : ∀ j u, cs[j]? = some u → w.cell? ⟨b, off + j, none⟩ = some u) : Runs P ⟨d, .load t x, ty, ps, af, g⟩ a w (.agg cs.toArray) w := by
  unfold Runs execOp
  simp only [Sem.run_bind, hk.eval hx, Instr.loadAt, Instr.sureAddr, loadVar, isAgg_true ht, Sem.run_pure, Result.andThen_ok, sizeOf_run ht, run_loadCells' hc, if_true]

theorem r_field1 {x : Operand} {t k o s : Nat} {cs : Array Value} {v : Value} (hk : Kn n l a) (hf : ∃ fs f, P.underlying t = some (.struct fs) ∧ fs[k]? = some f ∧ tySz P f.type = some (false, s) ∧ f.offset = o)
    (hx : ev l x = some (.agg cs)) (hv : cs[o]? = some v) : Runs P ⟨d, .field t x k, ty, ps, af, g⟩ a w v w := by
  obtain ⟨fs, f, h1, h2, h3, rfl⟩ := hf
  unfold Runs execOp
  simp [hk.eval hx, Instr.field, run_underlying h1, h2, part, asAgg, isAgg_false h3, hv]

/-- comparisons of integers -/
def icmp : BinOp → Int → Int → Option Bool
  | .eql, x, y => some (x == y)
  | .neq, x, y => some (x != y)
  | .lss, x, y => some (decide (x < y))
  | .leq, x, y => some (decide (x ≤ y))
  | .gtr, x, y => some (decide (x > y))
  | .geq, x, y => some (decide (x ≥ y))
  | _, _, _ => none
theorem r_icmp {x y : Operand} {op : BinOp} {t t' : Nat} {k : IntKind} {i j : Int} {b : Bool} (hk : Kn n l a) (hx : ev l x = some (.int k i)) (hy : ev l y = some (.int k j)) (hb : icmp op i j = some b) :
    Runs P ⟨d, .binOp op t x y t', ty, ps, af, g⟩ a w (.bool b) w := by
  unfold Runs execOp
  simp only [Sem.run_bind, hk.eval hx, hk.eval hy, eqGuard_at_int, Sem.run_pure, Result.andThen_ok]
  cases op <;> simp only [icmp, Option.some.injEq, reduceCtorEq] at hb <;> subst hb <;> simp [binOp, Op.intCmp]
def iarith : BinOp → Int → Int → Option Int
  | .add, x, y => some (x + y)
  | .sub, x, y => some (x - y)
  | .mul, x, y => some (x * y)
  | _, _, _ => none
theorem r_iarith {x y : Operand} {op : BinOp} {t t' : Nat} {k : IntKind} {i j z c : Int} (hk : Kn n l a) (hx : ev l x = some (.int k i)) (hy : ev l y = some (.int k j)) (hz : iarith op i j = some z) (hc : k.wrap z = c) :
    Runs P ⟨d, .binOp op t x y t', ty, ps, af, g⟩ a w (.int k c) w := by
  unfold Runs execOp
  simp only [Sem.run_bind, hk.eval hx, hk.eval hy, eqGuard_at_int, Sem.run_pure, Result.andThen_ok]
  subst hc
  cases op <;> simp only [iarith, Option.some.injEq, reduceCtorEq] at hz <;> subst hz <;> simp [binOp, Op.intArith]
theorem r_convInt {x : Operand} {s t : Nat} {k k' : IntKind} {i c : Int} (hk : Kn n l a) (hs : ∃ u, P.underlying s = some u) (ht : tyInt P t = some k') (hx : ev l x = some (.int k i)) (hc : k'.wrap i = c) :
    Runs P ⟨d, .convert s t x, ty, ps, af, g⟩ a w (.int k' c) w := by
  obtain ⟨u, hu⟩ := hs
  unfold Runs execOp
  subst hc
  simp only [Sem.run_bind, hk.eval hx, convert, run_underlying hu, run_underlying (tyInt_run ht), Result.andThen_ok, Conv.intToInt, Sem.run_pure]
theorem r_not {x : Operand} {t : Nat} {b : Bool} (hk : Kn n l a) (hx : ev l x = some (.bool b)) : Runs P ⟨d, .unOp .not t x, ty, ps, af, g⟩ a w (.bool (!b)) w := by
  unfold Runs execOp
  simp [hk.eval hx, Op.unary]
theorem r_lenSlice {x : Operand} {t e k c : Nat} {p : Option Addr} (hk : Kn n l a) (ht : tyElem P t = some e) (hx : ev l x = some (.slice p k c)) :
    Runs P ⟨d, .call ⟨.builtin .len, #[x], #[t]⟩, ty, ps, af, g⟩ a w (.int .i64 k) w := by
  unfold Runs execOp
  simp [hk.eval hx, resolve, invoke, builtin, Builtin.len_, run_underlying (tyElem_run ht), goInt]
theorem r_indexAddr {x i : Operand} {t e k c b off s : Nat} {bl : Bool} {j : Nat} {kk : IntKind} (hk : Kn n l a) (ht : tyElem P t = some e) (hs : tySz P e = some (bl, s)) (hx : ev l x = some (.slice (some ⟨b, off, none⟩) k c))
    (hi : ev l i = some (.int kk (j : Int))) (hj : j < k) : Runs P ⟨d, .indexAddr t x i, ty, ps, af, g⟩ a w (.pointer (some ⟨b, off + j * s, none⟩)) w := by
  unfold Runs execOp
  simp [hk.eval hx, hk.eval hi, Instr.indexAt, asIntOf, run_underlying (tyElem_run ht), hj, sizeOf_run hs, Addr.add_lit]
end

end Go.Mk
