/- What a struct must hold for its fields to be written as a tree says them. No statement of a seat stands here. -/
import Derived.Test.YtbljeefficdemaaMkSpec
namespace Go.Mk
open Go

/-- A value that is to be written: 'st' says what a part holds. -/
def wrVal (kind : Nat) (nu : Int) (null : Bool) (st : T → DD) (t : T) : DD :=
  match kind with
  | 0 => .v (.bool (t.n % 2 == 1))
  | 1 => .v (.int .i8 (IntKind.i8.wrap t.n))
  | 2 => .v (.int .i16 (IntKind.i16.wrap t.n))
  | 3 => .v (.int .i32 (IntKind.i32.wrap t.n))
  | 4 => .v (.int .i64 t.n)
  | 5 => .v (.int .u16 (IntKind.u16.wrap t.n))
  | 6 => .v (.float .f64 (IntKind.u64.wrap t.n).toNat)
  | 7 => .agg ((sixteen t.s).map ddB)
  | 8 => if 0 ≤ nu then (if null then .v (.pointer none) else .ptr (.v (.string (bs (whole t.s))))) else .v (.string (bs (whole t.s)))
  | 9 => if 0 ≤ nu then (if null then .v (.slice none 0 0) else .sl true 1 ((whole t.s).map ddB)) else .sl false 1 ((whole t.s).map ddB)
  | _ => if 0 ≤ nu then (if null then .v (.pointer none) else .ptr (st t)) else st t
mutual
/-- What a struct must hold of a field at a version. -/
def wrF : Fld → Bool → Int → Bool → T → DD
  | .mk kind fr to nu tag df of sub, tg, v, flex, t =>
    if (if tag < 0 then (Fld.mk kind fr to nu tag df of []).has v else flex) then
      (if kind = 11 then
        (if 0 ≤ nu ∧ (Fld.mk kind fr to nu tag df of []).null v t = true then .v (.slice none 0 0)
         else .sl (decide (0 ≤ nu) && decide (tag < 0)) (widVal of (-1) (widS sub tg))
          ((things t.l).map fun x => wrVal of (-1) false (fun x => .agg (wrFs sub tg v flex x.l 0 ++ (if tg then [ddTagMap (fitU sub x.u)] else []))) x))
       else wrVal kind nu ((Fld.mk kind fr to nu tag df of []).null v t) (fun x => .agg (wrFs sub tg v flex x.l 0 ++ (if tg then [ddTagMap (fitU sub x.u)] else []))) t)
    else .any (if kind = 11 then 1 else widVal kind nu (widS sub tg))
def wrFs : List Fld → Bool → Int → Bool → List T → Nat → List DD
  | [], _, _, _, _, _ => []
  | f :: r, tg, v, flex, l, i => wrF f tg v flex (l.getD i T.nil) :: wrFs r tg v flex l (i + 1)
end
def wrS (fs : List Fld) (tg : Bool) (v : Int) (flex : Bool) (t : T) : DD := .agg (wrFs fs tg v flex t.l 0 ++ (if tg then [ddTagMap (fitU fs t.u)] else []))

/-- what is written of a field at a version -/
def pieceP (f : Fld) (v : Int) (flex : Bool) (t : T) : List UInt8 := if f.tag < 0 && f.has v then fieldP f v flex t else []

theorem plainOut_cons (f : Fld) (r : List Fld) (v : Int) (flex : Bool) (l : List T) (i : Nat) : plainOut (f :: r) v (fieldsP (f :: r) v flex l i) = pieceP f v flex (l.getD i T.nil) ++ plainOut r v (fieldsP r v flex l (i + 1)) := by
  simp [plainOut, fieldsP, pieceP]
theorem plainOut_nil (v : Int) (flex : Bool) (l : List T) (i : Nat) : plainOut [] v (fieldsP [] v flex l i) = [] := by simp [plainOut]

/-! ### Cells out of what they stand for -/
theorem RepL.unV {w : World} {Y : Nat → Prop} {x : Value} {r : List DD} {c : List Value} (h : RepL w Y (.v x :: r) c) : ∃ c2, c = x :: c2 ∧ RepL w Y r c2 := by
  simp only [RepL, Rep] at h
  obtain ⟨c1, c2, rfl, rfl, h⟩ := h
  exact ⟨c2, rfl, h⟩
/-- It stands for one cell. -/
def One1 : DD → Prop := fun d => ∀ (w : World) (Y : Nat → Prop) (c : List Value), Rep w Y d c → c.length = 1
theorem RepL.un1 {w : World} {Y : Nat → Prop} {d : DD} {r : List DD} {c : List Value} (hd : One1 d) (h : RepL w Y (d :: r) c) : ∃ x c2, c = x :: c2 ∧ Rep w Y d [x] ∧ RepL w Y r c2 := by
  simp only [RepL] at h
  obtain ⟨c1, c2, rfl, h1, h⟩ := h
  have hl := hd w Y c1 h1
  match c1, hl with
  | [x], _ => exact ⟨x, c2, rfl, h1, h⟩
theorem RepL.unNil {w : World} {Y : Nat → Prop} {c : List Value} (h : RepL w Y [] c) : c = [] := by simpa [RepL] using h
theorem one1_v (x : Value) : One1 (.v x) := fun w Y c h => by simp only [Rep] at h; simp [h]
theorem one1_sl (st : Bool) (e : Nat) (l : List DD) : One1 (.sl st e l) := fun w Y c h => by
  simp only [Rep] at h
  rcases h with ⟨_, p, h, _⟩ | ⟨b, off, cap, cs, h, _⟩ <;> simp [h]
theorem one1_ptr (d : DD) : One1 (.ptr d) := fun w Y c h => by
  simp only [Rep] at h
  obtain ⟨b, off, cs, h, _⟩ := h
  simp [h]
theorem one1_any : One1 (.any 1) := fun w Y c h => by simpa only [Rep] using h
theorem one1_mp (ks : List Nat) (ds : List DD) : One1 (.mp ks ds) := fun w Y c h => by
  simp only [Rep] at h
  rcases h with ⟨_, _, h⟩ | ⟨r, es, clk, vs, h, _⟩ <;> simp [h]
theorem one1_ite {p : Prop} [Decidable p] {a b : DD} (ha : One1 a) (hb : One1 b) : One1 (if p then a else b) := by split <;> assumption
theorem rep_v_inv {w : World} {Y : Nat → Prop} {x y : Value} (h : Rep w Y (.v x) [y]) : y = x := by simp only [Rep] at h; simpa using h

/-- kinds of one cell -/
def oneKind (kind : Nat) (nu : Int) : Bool :=
  match kind with
  | 7 => false
  | 10 => decide (0 ≤ nu)
  | _ => true
theorem one1_wrVal {kind : Nat} {nu : Int} {null : Bool} {st : T → DD} {t : T} (h7 : kind ≠ 7) (h : kind < 10 ∨ 0 ≤ nu) : One1 (wrVal kind nu null st t) := by
  match kind, h7, h with
  | 0, _, _ => exact one1_v _
  | 1, _, _ => exact one1_v _
  | 2, _, _ => exact one1_v _
  | 3, _, _ => exact one1_v _
  | 4, _, _ => exact one1_v _
  | 5, _, _ => exact one1_v _
  | 6, _, _ => exact one1_v _
  | 7, h7, _ => exact absurd rfl h7
  | 8, _, _ => exact one1_ite (one1_ite (one1_v _) (one1_ptr _)) (one1_v _)
  | 9, _, _ => exact one1_ite (one1_ite (one1_v _) (one1_sl _ _ _)) (one1_sl _ _ _)
  | k + 10, _, h =>
    have h' : 0 ≤ nu := by omega
    show One1 (if 0 ≤ nu then (if null then .v (.pointer none) else .ptr (st t)) else st t)
    rw [if_pos h']
    exact one1_ite (one1_v _) (one1_ptr _)
theorem widVal_one {kind : Nat} {nu : Int} {st : Nat} (h7 : kind ≠ 7) (h : kind ≠ 10 ∨ 0 ≤ nu) : widVal kind nu st = 1 := by
  unfold widVal
  split
  · exact absurd rfl h7
  · rcases h with h | h
    · exact absurd rfl h
    · rw [if_pos h]
  · rfl
theorem one1_wrF {f : Fld} {tg : Bool} {v : Int} {flex : Bool} {t : T} (h : oneKind f.kind f.nu = true) (h11 : f.kind ≤ 11) : One1 (wrF f tg v flex t) := by
  cases f with
  | mk kind fr to nu tag df of sub =>
    simp only [Fld.kind, Fld.nu] at h h11
    have h7 : kind ≠ 7 := fun e => by subst e; simp [oneKind] at h
    have h10 : kind = 10 → 0 ≤ nu := fun e => by subst e; simpa [oneKind] using h
    unfold wrF
    refine one1_ite ?_ ?_
    · by_cases hk : kind = 11
      · rw [if_pos hk]; exact one1_ite (one1_v _) (one1_sl _ _ _)
      · rw [if_neg hk]
        refine one1_wrVal h7 ?_
        by_cases h10' : kind = 10
        · exact .inr (h10 h10')
        · exact .inl (by omega)
    · by_cases hk : kind = 11
      · rw [if_pos hk]; exact one1_any
      · rw [if_neg hk, widVal_one h7 (by by_cases e : kind = 10; exact .inr (h10 e); exact .inl e)]; exact one1_any

/-! ### What a field's cells hold, where the version has it -/
section
variable {fr to nu tag df : Int} {of : Nat} {sub : List Fld} {tg flex : Bool} {v : Int} {t : T}
theorem wrF_has {kind : Nat} (h : (if tag < 0 then (Fld.mk kind fr to nu tag df of sub).has v else flex) = true) : wrF (.mk kind fr to nu tag df of sub) tg v flex t =
    if kind = 11 then (if 0 ≤ nu ∧ (Fld.mk kind fr to nu tag df of sub).null v t = true then .v (.slice none 0 0)
         else .sl (decide (0 ≤ nu) && decide (tag < 0)) (widVal of (-1) (widS sub tg)) ((things t.l).map fun x => wrVal of (-1) false (wrS sub tg v flex) x))
    else wrVal kind nu ((Fld.mk kind fr to nu tag df of sub).null v t) (wrS sub tg v flex) t := by
  have h' : (if tag < 0 then (Fld.mk kind fr to nu tag df of []).has v else flex) = true := h
  unfold wrF
  rw [if_pos h']
  rfl
theorem pieceP_has {f : Fld} (h1 : f.tag < 0) (h2 : f.has v = true) : pieceP f v flex t = fieldP f v flex t := by simp [pieceP, h1, h2]
theorem pieceP_not {f : Fld} (h2 : f.has v = false) : pieceP f v flex t = [] := by simp [pieceP, h2]
theorem fieldP_eq (f : Fld) : fieldP f v flex t = fieldQ f v flex (partP f.sub v flex) t := by
  cases f
  unfold fieldP
  rfl
end

/-! ### Pieces -/
section
variable {fr to nu tag df : Int} {of : Nat} {sub : List Fld} {tg flex : Bool} {v : Int} {t : T}
theorem has_of {kind : Nat} (h1 : fr ≤ v) (h2 : to < 0 ∨ v ≤ to) : (Fld.mk kind fr to nu tag df of sub).has v = true := by
  show (decide (fr ≤ v) && (decide (to < 0) || decide (v ≤ to))) = true
  simp only [Bool.and_eq_true, Bool.or_eq_true, decide_eq_true_eq]
  exact ⟨h1, h2⟩
theorem has_not {kind : Nat} (h : v < fr ∨ (0 ≤ to ∧ to < v)) : (Fld.mk kind fr to nu tag df of sub).has v = false := by
  show (decide (fr ≤ v) && (decide (to < 0) || decide (v ≤ to))) = false
  simp only [Bool.and_eq_false_iff, Bool.or_eq_false_iff, decide_eq_false_iff_not]
  omega
theorem wrF_hasT {kind : Nat} (ht : tag < 0) (h : (Fld.mk kind fr to nu tag df of sub).has v = true) : wrF (.mk kind fr to nu tag df of sub) tg v flex t =
    if kind = 11 then (if 0 ≤ nu ∧ (Fld.mk kind fr to nu tag df of sub).null v t = true then .v (.slice none 0 0)
         else .sl (decide (0 ≤ nu) && decide (tag < 0)) (widVal of (-1) (widS sub tg)) ((things t.l).map fun x => wrVal of (-1) false (wrS sub tg v flex) x))
    else wrVal kind nu ((Fld.mk kind fr to nu tag df of sub).null v t) (wrS sub tg v flex) t := wrF_has (by rw [if_pos ht]; exact h)
theorem piece_i8 (ht : tag < 0) (h : (Fld.mk 1 fr to nu tag df of sub).has v = true) : pieceP (.mk 1 fr to nu tag df of sub) v flex t = [u8 t.n] := by
  rw [pieceP_has (f := .mk 1 fr to nu tag df of sub) ht h, fieldP_eq]; simp [fieldQ, Fld.kind, valueP, width, fixed]
theorem piece_i16 (ht : tag < 0) (h : (Fld.mk 2 fr to nu tag df of sub).has v = true) : pieceP (.mk 2 fr to nu tag df of sub) v flex t = fixed (IntKind.i16.wrap t.n) 2 := by
  rw [pieceP_has (f := .mk 2 fr to nu tag df of sub) ht h, fieldP_eq]; simp [fieldQ, Fld.kind, valueP, width, fixed_i16]
theorem piece_i32 (ht : tag < 0) (h : (Fld.mk 3 fr to nu tag df of sub).has v = true) : pieceP (.mk 3 fr to nu tag df of sub) v flex t = fixed (IntKind.i32.wrap t.n) 4 := by
  rw [pieceP_has (f := .mk 3 fr to nu tag df of sub) ht h, fieldP_eq]; simp [fieldQ, Fld.kind, valueP, width, fixed_i32]
theorem piece_i64 (ht : tag < 0) (h : (Fld.mk 4 fr to nu tag df of sub).has v = true) : pieceP (.mk 4 fr to nu tag df of sub) v flex t = fixed t.n 8 := by
  rw [pieceP_has (f := .mk 4 fr to nu tag df of sub) ht h, fieldP_eq]; simp [fieldQ, Fld.kind, valueP, width]
theorem piece_u16 (ht : tag < 0) (h : (Fld.mk 5 fr to nu tag df of sub).has v = true) : pieceP (.mk 5 fr to nu tag df of sub) v flex t = fixed (IntKind.u16.wrap t.n) 2 := by
  rw [pieceP_has (f := .mk 5 fr to nu tag df of sub) ht h, fieldP_eq]; simp [fieldQ, Fld.kind, valueP, width, fixed_u16]
theorem piece_bool (ht : tag < 0) (h : (Fld.mk 0 fr to nu tag df of sub).has v = true) : pieceP (.mk 0 fr to nu tag df of sub) v flex t = [if t.n % 2 == 1 then 1 else 0] := by
  rw [pieceP_has (f := .mk 0 fr to nu tag df of sub) ht h, fieldP_eq]
  simp only [fieldQ, Fld.kind, valueP]
  have : t.n % 2 = 0 ∨ t.n % 2 = 1 := by omega
  rcases this with e | e <;> simp [e] <;> rfl
theorem piece_uuid (ht : tag < 0) (h : (Fld.mk 7 fr to nu tag df of sub).has v = true) : pieceP (.mk 7 fr to nu tag df of sub) v flex t = sixteen t.s := by
  rw [pieceP_has (f := .mk 7 fr to nu tag df of sub) ht h, fieldP_eq]; simp [fieldQ, Fld.kind, valueP]
theorem piece_text (ht : tag < 0) (hn : nu < 0) (h : (Fld.mk 8 fr to nu tag df of sub).has v = true) : pieceP (.mk 8 fr to nu tag df of sub) v flex t = counted flex false (whole t.s).length 2 ++ whole t.s := by
  rw [pieceP_has (f := .mk 8 fr to nu tag df of sub) ht h, fieldP_eq]
  have hnu : (Fld.mk 8 fr to nu tag df of sub).null v t = false := by simp [Fld.null, Fld.nu]; omega
  simp [fieldQ, Fld.kind, valueP, hnu]
theorem piece_textN (ht : tag < 0) (h : (Fld.mk 8 fr to nu tag df of sub).has v = true) : pieceP (.mk 8 fr to nu tag df of sub) v flex t =
    counted flex ((Fld.mk 8 fr to nu tag df of sub).null v t) (if (Fld.mk 8 fr to nu tag df of sub).null v t then [] else whole t.s).length 2 ++ (if (Fld.mk 8 fr to nu tag df of sub).null v t then [] else whole t.s) := by
  rw [pieceP_has (f := .mk 8 fr to nu tag df of sub) ht h, fieldP_eq]
  simp [fieldQ, Fld.kind, valueP]
theorem piece_bytes (ht : tag < 0) (hn : nu < 0) (h : (Fld.mk 9 fr to nu tag df of sub).has v = true) : pieceP (.mk 9 fr to nu tag df of sub) v flex t = counted flex false (whole t.s).length 4 ++ whole t.s := by
  rw [pieceP_has (f := .mk 9 fr to nu tag df of sub) ht h, fieldP_eq]
  have hnu : (Fld.mk 9 fr to nu tag df of sub).null v t = false := by simp [Fld.null, Fld.nu]; omega
  simp [fieldQ, Fld.kind, valueP, hnu]
theorem piece_bytesN (ht : tag < 0) (h : (Fld.mk 9 fr to nu tag df of sub).has v = true) : pieceP (.mk 9 fr to nu tag df of sub) v flex t =
    counted flex ((Fld.mk 9 fr to nu tag df of sub).null v t) (if (Fld.mk 9 fr to nu tag df of sub).null v t then [] else whole t.s).length 4 ++ (if (Fld.mk 9 fr to nu tag df of sub).null v t then [] else whole t.s) := by
  rw [pieceP_has (f := .mk 9 fr to nu tag df of sub) ht h, fieldP_eq]
  simp [fieldQ, Fld.kind, valueP]
theorem piece_list (ht : tag < 0) (hn : nu < 0) (h : (Fld.mk 11 fr to nu tag df of sub).has v = true) : pieceP (.mk 11 fr to nu tag df of sub) v flex t = counted flex false (things t.l).length 4 ++ (things t.l).flatMap (valueP of (partP sub v flex) false flex) := by
  rw [pieceP_has (f := .mk 11 fr to nu tag df of sub) ht h, fieldP_eq]
  have hnu : (Fld.mk 11 fr to nu tag df of sub).null v t = false := by simp [Fld.null, Fld.nu]; omega
  simp [fieldQ, Fld.kind, hnu, Fld.of, Fld.sub]
theorem piece_listN (ht : tag < 0) (h : (Fld.mk 11 fr to nu tag df of sub).has v = true) : pieceP (.mk 11 fr to nu tag df of sub) v flex t =
    counted flex ((Fld.mk 11 fr to nu tag df of sub).null v t) (if (Fld.mk 11 fr to nu tag df of sub).null v t then [] else things t.l).length 4 ++
      (if (Fld.mk 11 fr to nu tag df of sub).null v t then [] else things t.l).flatMap (valueP of (partP sub v flex) false flex) := by
  rw [pieceP_has (f := .mk 11 fr to nu tag df of sub) ht h, fieldP_eq]
  simp [fieldQ, Fld.kind, Fld.of, Fld.sub]
theorem piece_struct (ht : tag < 0) (hn : nu < 0) (h : (Fld.mk 10 fr to nu tag df of sub).has v = true) : pieceP (.mk 10 fr to nu tag df of sub) v flex t = partP sub v flex t := by
  rw [pieceP_has (f := .mk 10 fr to nu tag df of sub) ht h, fieldP_eq]
  have : ¬ nu ≥ 0 := by omega
  simp [fieldQ, Fld.kind, Fld.nu, this, valueP, Fld.sub]
end
theorem partP_plain (fs : List Fld) (v : Int) (t : T) : partP fs v false t = plainOut fs v (fieldsP fs v false t.l 0) := by simp [partP, partQ]
theorem flatMap_take_succ {α β : Type} (F : α → List β) (l : List α) (k : Nat) (d : α) (h : k < l.length) : (l.take (k + 1)).flatMap F = (l.take k).flatMap F ++ F (l.getD k d) := by
  rw [List.take_succ_eq_append_getElem h, List.flatMap_append]
  simp [h]
theorem flatMap_take_le {α β : Type} (F : α → List β) (l : List α) (k : Nat) (d : α) (h : k < l.length) : ((l.take k).flatMap F).length + (F (l.getD k d)).length ≤ (l.flatMap F).length := by
  rw [← List.length_append, ← flatMap_take_succ F l k d h]
  have : l.flatMap F = (l.take (k + 1)).flatMap F ++ (l.drop (k + 1)).flatMap F := by rw [← List.flatMap_append, List.take_append_drop]
  rw [this, List.length_append]
  omega
theorem things_len {α : Type} (l : List α) : (things l).length ≤ 32767 := by simp only [things, List.length_take]; omega
theorem whole_len (s : List UInt8) : (whole s).length ≤ 32767 := by simp only [whole, List.length_take]; omega
theorem Mem.rowEq {w0 w : World} {X Z : Nat → Prop} {m : List Ent} (h : Mem w0 X Z m w) {i e sz n n' : Nat} {v : Value} {xs xs' : List Value} (hi : entAt m i = some (.row e sz v n xs)) (hn : n = n') (hx : xs = xs') :
    Mem w0 X Z (putAt m i (.row e sz v n' xs')) w := by
  subst hn hx
  have : putAt m i (.row e sz v n xs) = m := by
    clear h
    induction m generalizing i with
    | nil => rfl
    | cons x r ih => cases i with
      | zero => simp only [entAt, Option.some.injEq] at hi; subst hi; rfl
      | succ i => simp only [putAt]; rw [ih hi]
  rw [this]; exact h
theorem rep_sl_lenM {α : Type} {w : World} {Y : Nat → Prop} {st : Bool} {esz : Nat} {f : α → DD} {l : List α} {c : Value} (h : Rep w Y (.sl st esz (l.map f)) [c]) : ∃ p cap, c = .slice p l.length cap := by
  obtain ⟨p, cap, rfl⟩ := rep_sl_len h
  exact ⟨p, cap, by rw [List.length_map]⟩
end Go.Mk
