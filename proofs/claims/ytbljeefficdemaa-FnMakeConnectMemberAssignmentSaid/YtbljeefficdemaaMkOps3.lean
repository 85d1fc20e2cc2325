/- More steps: literals of structs and slices, slices of slices, conversions. No statement of a seat stands here. -/
import Derived.Test.YtbljeefficdemaaMkData
namespace Go.Mk
open Go

def fldAt (P : Program) (t k : Nat) : Option (Nat × Nat) :=
  match P.underlying t with
  | some (.struct fs) => match fs[k]? with
    | some f => (P.info? f.type).map fun i => (f.offset, i.size)
    | none => none
  | _ => none

theorem foldl_spl (off : Nat) : ∀ (vs : List Value) (k : Nat) (pre cs : List Value), off + k + vs.length ≤ cs.length → pre.length = off + k →
    (∀ j, j < off + k → cs[j]? = pre[j]?) →
    ((vs.zipIdx k).foldl (fun (cs : Array Value) (p : Value × Nat) => cs.setIfInBounds (off + p.2) p.1) cs.toArray).toList = pre ++ vs ++ cs.drop (off + k + vs.length)
  | [], k, pre, cs, h, hp, hj => by
    simp only [List.zipIdx_nil, List.foldl_nil, List.append_nil, List.length_nil, Nat.add_zero] at h ⊢
    have : pre = cs.take (off + k) := by
      apply List.ext_getElem?
      intro i
      rw [List.getElem?_take]
      split
      · rename_i hi; exact (hj i hi).symm
      · rename_i hi; exact List.getElem?_eq_none (by omega)
    rw [this, List.take_append_drop]
  | v :: r, k, pre, cs, h, hp, hj => by
    simp only [List.zipIdx_cons, List.foldl_cons, List.length_cons] at h ⊢
    have h1 : off + k < cs.length := by omega
    rw [show (cs.toArray.setIfInBounds (off + k) v) = (cs.set (off + k) v).toArray by simp]
    rw [foldl_spl off r (k + 1) (pre ++ [v]) (cs.set (off + k) v) (by simp; omega) (by simp; omega)]
    · simp only [List.append_assoc, List.singleton_append]
      congr 2
      rw [List.drop_set, if_pos (by omega)]
      congr 1
      omega
    · intro j hjj
      by_cases e : j = off + k
      · subst e
        rw [List.getElem?_set_self h1, List.getElem?_append_right (by omega), hp]
        simp
      · rw [List.getElem?_set_ne (by omega), hj j (by omega), List.getElem?_append_left (by omega)]

theorem fill_step {place : Nat → Option (Nat × Nat)} {zs : List Value} {i off : Nat} {v : Value} {vs : List Value} {rest : List (Nat × Value)} (hv : cellsOf v = vs) (hp : place i = some (off, vs.length)) (hl : off + vs.length ≤ zs.length) :
    Instr.fill place zs.toArray ((i, v) :: rest) = Instr.fill place (spl zs off vs).toArray rest := by
  have hsz : v.cells.size = vs.length := by rw [cellsOf_eq, hv]; simp
  have hfold : (v.cells.zipIdx.foldl (fun (cs : Array Value) (p : Value × Nat) => cs.setIfInBounds (off + p.2) p.1) zs.toArray) = (spl zs off vs).toArray := by
    apply Array.ext'
    rw [cellsOf_eq, hv]
    have := foldl_spl off vs 0 (zs.take off) zs (by omega) (by simp; omega) (fun j hj => by rw [List.getElem?_take, if_pos (by omega)])
    simp only [Nat.add_zero] at this
    rw [show (vs.toArray.zipIdx) = (vs.zipIdx).toArray by simp, ← Array.foldl_toList]
    rw [this]
    rw [spl_eq hl]
  simp only [Instr.fill, hp]
  rw [if_neg (by simp [hsz]; omega)]
  exact congrArg (fun x => Instr.fill place x rest) hfold

/-- The parts of a literal, laid one by one. -/
def bres (at_ : Nat → Option (Nat × Nat)) (l : List (Nat × Value)) : List (Nat × Operand) → List Value → List Value → Prop
  | [], z, r => r = z
  | (i, x) :: ps, z, r => ∃ v vs off, ev l x = some v ∧ cellsOf v = vs ∧ at_ i = some (off, vs.length) ∧ Nat.ble (off + vs.length) z.length = true ∧ bres at_ l ps (spl z off vs) r

theorem fill_bres {at_ : Nat → Option (Nat × Nat)} {n : Nat} {l : List (Nat × Value)} {a : Act} (hk : Kn n l a) : ∀ {ps : List (Nat × Operand)} {z r : List Value}, bres at_ l ps z r →
    Instr.fill at_ z.toArray (ps.map fun p => (p.1, a.eval p.2)) = some r.toArray
  | [], z, r, h => by simp only [bres] at h; subst h; simp [Instr.fill]
  | (i, x) :: ps, z, r, h => by
    simp only [bres] at h
    obtain ⟨v, vs, off, h1, h2, h3, h4, h5⟩ := h
    simp only [List.map_cons, hk.eval h1]
    rw [fill_step h2 h3 (Nat.le_of_ble_eq_true h4)]
    exact fill_bres hk h5

section
variable {P : Program} {ops : Array Oper} {Q : Exit → Act → World → Prop} {rest : List Oper} {a : Act} {w w0 : World} {n : Nat} {l : List (Nat × Value)} {X Z : Nat → Prop} {m : List Ent}
variable {d : Nat} {ty : Nat} {ps : String} {af : Array Edge} {dd : Option Nat} {g : Option (Nat × Bool)}

theorem mapM_pairs (P : Program) (w : World) : ∀ (fs : List Field) (ps : List (Nat × Nat)), (fs.map fun f => (P.info? f.type).map fun i => (f.offset, i.size)) = ps.map some →
    ((fs.mapM fun f => do pure (f.offset, ← sizeOf f.type) : Sem (List (Nat × Nat)))).run P w = .ok ps w
  | [], ps, h => by
    cases ps with
    | nil => simp
    | cons p r => simp at h
  | f :: fs, ps, h => by
    cases ps with
    | nil => simp at h
    | cons p r =>
      simp only [List.map_cons, List.cons.injEq] at h
      cases hi : P.info? f.type with
      | none => rw [hi] at h; simp at h
      | some i =>
        rw [hi] at h
        simp only [Option.map_some, Option.some.injEq] at h
        have := mapM_pairs P w fs r h.2
        simp only [sizeOf] at this ⊢
        simp only [List.mapM_cons, Sem.run_bind, run_typeInfo' hi, Result.andThen_ok, Sem.run_pure, this, h.1]

/-- all fields have their sizes -/
def fldsOk (P : Program) (t : Nat) : Bool :=
  match P.underlying t with
  | some (.struct fs) => fs.toList.all fun f => (P.info? f.type).isSome
  | _ => false

theorem r_build {t : Nat} {z : Value} {parts : List (Nat × Operand)} {zs r : List Value} (hk : Kn n l a) (hz : tyZero P t = some z) (hzs : cellsOf z = zs) (hok : fldsOk P t = true) (hb : bres (fldAt P t) l parts zs r) :
    Runs P ⟨dd, .build t parts.toArray, ty, ps, af, g⟩ a w (.agg r.toArray) w := by
  unfold fldsOk at hok
  split at hok
  case h_2 => cases hok
  rename_i fs hu
  have hall : ∃ pl : List (Nat × Nat), (fs.toList.map fun f => (P.info? f.type).map fun i => (f.offset, i.size)) = pl.map some := by
    generalize fs.toList = fl at hok
    clear hu
    induction fl with
    | nil => exact ⟨[], rfl⟩
    | cons f r ih =>
      simp only [List.all_cons, Bool.and_eq_true] at hok
      obtain ⟨pl, hpl⟩ := ih hok.2
      obtain ⟨i, hi⟩ := Option.isSome_iff_exists.1 hok.1
      exact ⟨(f.offset, i.size) :: pl, by simp [hi, hpl]⟩
  obtain ⟨pl, hpl⟩ := hall
  have hat : fldAt P t = (pl.toArray[·]?) := by
    funext k
    have h1 : (fs.toList.map fun f => (P.info? f.type).map fun i => (f.offset, i.size))[k]? = (pl.map some)[k]? := by rw [hpl]
    simp only [List.getElem?_map] at h1
    unfold fldAt
    rw [hu]
    simp only [List.getElem?_toArray]
    rw [← Array.getElem?_toList]
    cases hf : fs.toList[k]? with
    | none =>
      rw [hf] at h1
      cases hp : pl[k]? with
      | none => rfl
      | some p => rw [hp] at h1; simp at h1
    | some f =>
      rw [hf] at h1
      cases hp : pl[k]? with
      | none => rw [hp] at h1; simp at h1
      | some p => rw [hp] at h1; simpa using h1
  have hfill := fill_bres hk hb
  rw [hat] at hfill
  have hmap : (fs.mapM fun f => do pure (f.offset, ← sizeOf f.type) : Sem (Array (Nat × Nat))).run P w = .ok pl.toArray w := by
    rw [Array.mapM_eq_mapM_toList]
    simp only [Sem.run_map, mapM_pairs P w fs.toList pl hpl, Result.andThen_ok]
  unfold Runs execOp
  simp only [Sem.run_bind, Instr.build, zeroValue_run hz, Result.andThen_ok, run_underlying hu, hmap]
  rw [show z.cells = zs.toArray by rw [cellsOf_eq, hzs]]
  rw [show ((parts.toArray.map fun (i, x) => (i, a.eval x)).toList) = parts.map fun p => (p.1, a.eval p.2) by simp]
  rw [hfill]
  rfl
end

end Go.Mk
