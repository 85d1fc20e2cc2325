/- Shifts, bits, literals of slices, texts, slices of slices, nil. No statement of a seat stands here. -/
import Derived.Test.YtbljeefficdemaaMkAppend
import Derived.Laws.Cover3
namespace Go.Mk
open Go

def isStrTy (P : Program) (t : Nat) : Bool := match P.underlying t with | some .string => true | _ => false
theorem isStrTy_run {P : Program} {t : Nat} (h : isStrTy P t = true) : P.underlying t = some .string := by
  unfold isStrTy at h
  split at h
  · assumption
  · cases h

section
variable {P : Program} {ops : Array Oper} {Q : Exit → Act → World → Prop} {rest : List Oper} {a : Act} {w w0 : World} {n : Nat} {l : List (Nat × Value)} {X Z : Nat → Prop} {m : List Ent}
variable {d : Nat} {ty : Nat} {ps : String} {af : Array Edge} {dd : Option Nat} {g : Option (Nat × Bool)}

theorem o_shr {x : Operand} {t t' s : Nat} {k yk : IntKind} {i c : Int} (hk : Kn n l a) (hx : ev l x = some (.int k i)) (hs : Nat.ble s k.bits = true) (hc : i / 2 ^ s = c) (hd : Nat.blt d n = true)
    (K : ∀ a', Kn n ((d, .int k c) :: l) a' → wpList P ops Q rest a' w) :
    wpList P ops Q (⟨some d, .binOp .shr t x (.const (.int yk (s : Int))) t', ty, ps, af, none⟩ :: rest) a w := by
  refine step_runs hk rfl rfl hd ?_ K
  subst hc
  have hs' := Nat.le_of_ble_eq_true hs
  unfold Runs execOp
  have h1 : ¬ ((s : Int) < 0) := by omega
  have h2 : min (s : Int).toNat k.bits = s := by simp; omega
  have hy : a.eval (.const (.int yk (s : Int))) = .int yk (s : Int) := rfl
  simp only [Sem.run_bind, hk.eval hx, hy, eqGuard_at_int, Sem.run_pure, Result.andThen_ok, binOp, Op.shift, if_neg h1, h2]
  rw [Int.fdiv_eq_ediv_of_nonneg _ (Int.pow_nonneg (by decide))]

theorem o_shl {x : Operand} {t t' s : Nat} {k yk : IntKind} {i c : Int} (hk : Kn n l a) (hx : ev l x = some (.int k i)) (hs : Nat.ble s k.bits = true) (hc : k.wrap (i * 2 ^ s) = c) (hd : Nat.blt d n = true)
    (K : ∀ a', Kn n ((d, .int k c) :: l) a' → wpList P ops Q rest a' w) :
    wpList P ops Q (⟨some d, .binOp .shl t x (.const (.int yk (s : Int))) t', ty, ps, af, none⟩ :: rest) a w := by
  refine step_runs hk rfl rfl hd ?_ K
  subst hc
  have hs' := Nat.le_of_ble_eq_true hs
  unfold Runs execOp
  have h1 : ¬ ((s : Int) < 0) := by omega
  have h2 : min (s : Int).toNat k.bits = s := by simp; omega
  have hy : a.eval (.const (.int yk (s : Int))) = .int yk (s : Int) := rfl
  simp only [Sem.run_bind, hk.eval hx, hy, eqGuard_at_int, Sem.run_pure, Result.andThen_ok, binOp, Op.shift, if_neg h1, h2]

/-- & and |: by the value that the kind's bits give. -/
def ibits : BinOp → IntKind → Int → Int → Option Int
  | .and, k, x, y => some (k.wrap (BitVec.ofInt k.bits x &&& BitVec.ofInt k.bits y).toNat)
  | .or, k, x, y => some (k.wrap (BitVec.ofInt k.bits x ||| BitVec.ofInt k.bits y).toNat)
  | .xor, k, x, y => some (k.wrap (BitVec.ofInt k.bits x ^^^ BitVec.ofInt k.bits y).toNat)
  | _, _, _, _ => none
theorem o_ibits {x y : Operand} {op : BinOp} {t t' : Nat} {k : IntKind} {i j c : Int} (hk : Kn n l a) (hx : ev l x = some (.int k i)) (hy : ev l y = some (.int k j)) (hc : ibits op k i j = some c) (hd : Nat.blt d n = true)
    (K : ∀ a', Kn n ((d, .int k c) :: l) a' → wpList P ops Q rest a' w) :
    wpList P ops Q (⟨some d, .binOp op t x y t', ty, ps, af, none⟩ :: rest) a w := by
  refine step_runs hk rfl rfl hd ?_ K
  unfold Runs execOp
  simp only [Sem.run_bind, hk.eval hx, hk.eval hy, eqGuard_at_int, Sem.run_pure, Result.andThen_ok]
  cases op <;> simp only [ibits, Option.some.injEq, reduceCtorEq] at hc <;> subst hc <;> simp [binOp, Op.intBits]

theorem o_rem {x y : Operand} {t t' : Nat} {k : IntKind} {i j c : Int} (hk : Kn n l a) (hx : ev l x = some (.int k i)) (hy : ev l y = some (.int k j)) (h0 : j ≠ 0) (hc : i.tmod j = c) (hd : Nat.blt d n = true)
    (K : ∀ a', Kn n ((d, .int k c) :: l) a' → wpList P ops Q rest a' w) :
    wpList P ops Q (⟨some d, .binOp .rem t x y t', ty, ps, af, none⟩ :: rest) a w := by
  refine step_runs hk rfl rfl hd ?_ K
  subst hc
  unfold Runs execOp
  simp [hk.eval hx, hk.eval hy, eqGuard_at_int, binOp, Op.intDiv, h0]

def isBoolTy (P : Program) (t : Nat) : Bool := match P.underlying t with | some .bool => true | _ => false
def isPtrTy (P : Program) (t : Nat) : Bool := match P.underlying t with | some (.pointer _) => true | _ => false
def isMapTy (P : Program) (t : Nat) : Bool := match P.underlying t with | some (.map _ _) => true | _ => false
theorem o_eqBool {x y : Operand} {t t' : Nat} {u v : Bool} (hk : Kn n l a) (ht : isBoolTy P t = true) (hx : ev l x = some (.bool u)) (hy : ev l y = some (.bool v)) (hd : Nat.blt d n = true)
    (K : ∀ a', Kn n ((d, .bool (u == v)) :: l) a' → wpList P ops Q rest a' w) :
    wpList P ops Q (⟨some d, .binOp .eql t x y t', ty, ps, af, none⟩ :: rest) a w := by
  refine step_runs hk rfl rfl hd ?_ K
  have ht' : P.underlying t = some .bool := by
    unfold isBoolTy at ht
    split at ht
    · assumption
    · cases ht
  unfold Runs execOp
  simp only [Sem.run_bind, hk.eval hx, hk.eval hy, eqGuard_at_bool, Sem.run_pure, Result.andThen_ok, run_eql_bool _ t u v ht']
theorem o_ptrNil {x : Operand} {t t' : Nat} {p : Option Addr} (hk : Kn n l a) (ht : isPtrTy P t = true) (hx : ev l x = some (.pointer p)) (hd : Nat.blt d n = true)
    (K : ∀ a', Kn n ((d, .bool p.isNone) :: l) a' → wpList P ops Q rest a' w) :
    wpList P ops Q (⟨some d, .binOp .eql t x (.const (.pointer none)) t', ty, ps, af, none⟩ :: rest) a w := by
  refine step_runs hk rfl rfl hd ?_ K
  have ht' : P.underlying t = some (.pointer (P.pointee t)) := by
    unfold isPtrTy at ht
    split at ht
    · rename_i e he; rw [he]; unfold Program.pointee; rw [he]
    · cases ht
  have hy : a.eval (.const (.pointer none)) = .pointer none := rfl
  unfold Runs execOp
  simp only [Sem.run_bind, hk.eval hx, hy, eqGuard_at_pointer, Sem.run_pure, Result.andThen_ok, run_eql_pointer_nil _ t p ht']
theorem o_sliceNil {x : Operand} {t t' e k c : Nat} {p : Option Addr} (hk : Kn n l a) (ht : tyElem P t = some e) (hx : ev l x = some (.slice p k c)) (hd : Nat.blt d n = true)
    (K : ∀ a', Kn n ((d, .bool p.isNone) :: l) a' → wpList P ops Q rest a' w) :
    wpList P ops Q (⟨some d, .binOp .eql t x (.const (.slice none 0 0)) t', ty, ps, af, none⟩ :: rest) a w := by
  refine step_runs hk rfl rfl hd ?_ K
  have hy : a.eval (.const (.slice none 0 0)) = .slice none 0 0 := rfl
  unfold Runs execOp
  simp only [Sem.run_bind, hk.eval hx, hy, eqGuard_at_slice, Sem.run_pure, Result.andThen_ok, binOp, run_equal_slice_nil _ t e p k c (tyElem_run ht)]
theorem o_mapNil {x : Operand} {t t' : Nat} {p : Option Nat} (hk : Kn n l a) (ht : isMapTy P t = true) (hx : ev l x = some (.map p)) (hd : Nat.blt d n = true)
    (K : ∀ a', Kn n ((d, .bool p.isNone) :: l) a' → wpList P ops Q rest a' w) :
    wpList P ops Q (⟨some d, .binOp .eql t x (.const (.map none)) t', ty, ps, af, none⟩ :: rest) a w := by
  refine step_runs hk rfl rfl hd ?_ K
  obtain ⟨kk, ee, ht'⟩ : ∃ kk ee, P.underlying t = some (.map kk ee) := by
    unfold isMapTy at ht
    split at ht
    · rename_i kk ee he; exact ⟨kk, ee, he⟩
    · cases ht
  have hy : a.eval (.const (.map none)) = .map none := rfl
  unfold Runs execOp
  simp only [Sem.run_bind, hk.eval hx, hy, eqGuard_at_map, Sem.run_pure, Result.andThen_ok, binOp, run_equal_map_nil _ t kk ee p ht']

theorem o_lenStr {x : Operand} {t : Nat} {s : ByteArray} (hk : Kn n l a) (ht : isStrTy P t = true) (hx : ev l x = some (.string s)) (hd : Nat.blt d n = true) (K : ∀ a', Kn n ((d, .int .i64 s.size) :: l) a' → wpList P ops Q rest a' w) :
    wpList P ops Q (⟨some d, .call ⟨.builtin .len, #[x], #[t]⟩, ty, ps, af, none⟩ :: rest) a w := by
  refine step_runs hk rfl rfl hd ?_ K
  have ht' := isStrTy_run ht
  unfold Runs execOp
  simp [hk.eval hx, resolve, invoke, builtin, Builtin.len_, run_underlying ht', goInt]

theorem o_min {x y : Operand} {tys : Array Nat} {k k' : IntKind} {i j c : Int} (hk : Kn n l a) (hx : ev l x = some (.int k i)) (hy : ev l y = some (.int k' j)) (hc : min i j = c) (hd : Nat.blt d n = true) (K : ∀ a', Kn n ((d, .int k c) :: l) a' → wpList P ops Q rest a' w) :
    wpList P ops Q (⟨some d, .call ⟨.builtin .min, #[x, y], tys⟩, ty, ps, af, none⟩ :: rest) a w := by
  refine step_runs hk rfl rfl hd ?_ K
  subst hc
  unfold Runs execOp
  simp [hk.eval hx, hk.eval hy, resolve, invoke, builtin, Builtin.min_, Builtin.min2]
  by_cases h : j < i
  · rw [if_pos h, Int.min_eq_right (by omega)]
  · rw [if_neg h, Int.min_eq_left (by omega)]

/-- x[:k] of a slice. -/
theorem o_sliceTo {x h : Operand} {t e s len cap k : Nat} {bl : Bool} {kk : IntKind} {p : Option Addr} (hk : Kn n l a) (ht : tyElem P t = some e) (hs : tySz P e = some (bl, s)) (hx : ev l x = some (.slice p len cap)) (hh : ev l h = some (.int kk (k : Int))) (hkc : k ≤ cap) (hd : Nat.blt d n = true)
    (K : ∀ a', Kn n ((d, .slice p k cap) :: l) a' → wpList P ops Q rest a' w) :
    wpList P ops Q (⟨some d, .slice t x none (some h) none, ty, ps, af, none⟩ :: rest) a w := by
  refine step_runs hk rfl rfl hd ?_ K
  unfold Runs execOp
  have h1 : (0 : Int) ≤ (k : Int) ∧ (k : Int) ≤ (cap : Int) := by omega
  have hp : (if cap = 0 then p else p.map (·.add 0)) = p := by
    split
    · rfl
    · cases p <;> simp [Addr.add]
  simp [hk.eval hx, hk.eval hh, Instr.sliceAt, Instr.slice, run_underlying (tyElem_run ht), Instr.sliceBounds, Instr.sliceBound, asIntOf, hkc, sizeOf_run hs, hp]

theorem o_buildSlice {t e sz by_ len : Nat} {z : Value} {parts : List (Nat × Operand)} {zs r : List Value} (hk : Kn n l a) (hm : Mem w0 X Z m w) (ht : rowTy P t = some (e, sz, by_)) (hz : tyZero P e = some z)
    (hzs : ((List.range (len * sz)).map fun i => z.cells[i % z.cells.size]!) = zs) (hpos : Nat.blt 0 (len * sz) = true) (hsmall : Nat.ble (len * sz) 16777216 = true) (hb : bres (fun i => some (i * sz, sz)) l parts zs r) (hd : Nat.blt d n = true)
    (K : ∀ a' b w', Kn n ((d, .slice (some ⟨b, 0, none⟩) len len) :: l) a' → Mem w0 X Z (.blk b r e :: m) w' → wpList P ops Q rest a' w') :
    wpList P ops Q (⟨some d, .buildSlice t len parts.toArray, ty, ps, af, none⟩ :: rest) a w := by
  obtain ⟨i, z', h1, h2, h3, h4, rfl, rfl⟩ := rowTy_spec ht
  have hpos' : 0 < len * i.size := by simpa [Nat.blt_eq] using hpos
  have hsm' := Nat.le_of_ble_eq_true hsmall
  have hfill := fill_bres hk hb
  have hz' : z' = z := by unfold tyZero at hz; rw [h2] at hz; simp [h3] at hz; exact hz
  subst hz'
  refine step_runs (v := .slice (some ⟨w.heap.size, 0, none⟩) len len) (w' := w.alloc (.cells r.toArray e)) hk rfl rfl hd ?_ fun a' hk' => K a' _ _ hk' (hm.alloc r e)
  unfold Runs execOp
  have e1 : ((Array.range (len * i.size)).map fun j => z'.cells[j % z'.cells.size]!) = zs.toArray := by
    apply Array.ext'
    rw [← hzs]
    simp
  have e2 : ((parts.toArray.map fun (i, x) => (i, a.eval x)).toList) = parts.map fun p => (p.1, a.eval p.2) := by simp
  have hsz : (sizeOf e).run P w = .ok i.size w := by unfold sizeOf; simp only [Sem.run_bind, run_typeInfo' h2, Result.andThen_ok, Sem.run_pure]
  have hn1 : ¬ len * i.size > 2 ^ 24 := by omega
  have hn2 : ¬ len * i.size = 0 := by omega
  simp only [Sem.run_bind, Instr.buildSlice, run_underlying h1, Result.andThen_ok, hsz, if_neg hn1, if_neg hn2, zeroValue_run hz, Sem.run_pure, e1, e2, hfill, newRow, run_newObj]
  rfl
end
end Go.Mk
