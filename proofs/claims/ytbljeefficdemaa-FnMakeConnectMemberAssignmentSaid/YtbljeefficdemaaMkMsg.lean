/- The fields of a message: what a struct of the package holds where they say what a tree says. No statement of a seat stands here. -/
import Derived.Test.YtbljeefficdemaaMkRow
namespace Go.Mk
open Go

/-- A field: its kind, versions, from where it may be null, its tag, what it is by default, the kind of its things, the fields of its part. -/
inductive Fld
  | mk (kind : Nat) (fr to nu tag : Int) (df : Int) (of : Nat) (sub : List Fld)

def sixteen (s : List UInt8) : List UInt8 := (s ++ List.replicate 16 0).take 16

/-- A value of a kind in a struct: 'st' says what a part holds. -/
def ddVal (kind : Nat) (nu : Int) (st : T → DD) (t : T) : DD :=
  match kind with
  | 0 => .v (.bool (t.n % 2 == 1))
  | 1 => .v (.int .i8 (IntKind.i8.wrap t.n))
  | 2 => .v (.int .i16 (IntKind.i16.wrap t.n))
  | 3 => .v (.int .i32 (IntKind.i32.wrap t.n))
  | 4 => .v (.int .i64 t.n)
  | 5 => .v (.int .u16 (IntKind.u16.wrap t.n))
  | 6 => .v (.float .f64 (IntKind.u64.wrap t.n).toNat)
  | 7 => .agg ((sixteen t.s).map ddB)
  | 8 => if 0 ≤ nu then (if t.z then .v (.pointer none) else .ptr (.v (.string (bs t.s)))) else .v (.string (bs t.s))
  | 9 => if t.z then .v (.slice none 0 0) else .sl true 1 (t.s.map ddB)
  | _ => if 0 ≤ nu then (if t.z then .v (.pointer none) else .ptr (st t)) else st t

/-- How many cells a value of a kind has. -/
def widVal (kind : Nat) (nu : Int) (st : Nat) : Nat :=
  match kind with
  | 7 => 16
  | 10 => if 0 ≤ nu then 1 else st
  | _ => 1
def wid1 : Fld → Nat → Nat
  | .mk kind _ _ nu _ _ _ _, st => if kind = 11 then 1 else widVal kind nu st
mutual
def widF : Fld → Bool → Nat
  | .mk kind _ _ nu _ _ _ sub, tg => if kind = 11 then 1 else widVal kind nu (widFs sub tg + tg.toNat)
def widFs : List Fld → Bool → Nat
  | [], _ => 0
  | f :: r, tg => widF f tg + widFs r tg
end
/-- the cells of a part -/
def widS (fs : List Fld) (tg : Bool) : Nat := widFs fs tg + tg.toNat

def ddTagMap (u : List (Nat × List UInt8)) : DD := .mp (u.map (·.1)) (u.map fun p => ddBs p.2)

mutual
/-- What a struct holds of a field. -/
def ddF : Fld → Bool → T → DD
  | .mk kind _ _ nu _ _ of sub, tg, t =>
    if kind = 11 then (if t.z then .v (.slice none 0 0) else .sl true (widVal of (-1) (widS sub tg)) (t.l.map fun x => ddVal of (-1) (fun x => .agg (ddFs sub tg x.l 0 ++ (if tg then [ddTagMap x.u] else []))) x))
    else ddVal kind nu (fun x => .agg (ddFs sub tg x.l 0 ++ (if tg then [ddTagMap x.u] else []))) t
/-- of the fields from number i on -/
def ddFs : List Fld → Bool → List T → Nat → List DD
  | [], _, _, _ => []
  | f :: r, tg, l, i => ddF f tg (l.getD i T.nil) :: ddFs r tg l (i + 1)
end
/-- a part -/
def ddS (fs : List Fld) (tg : Bool) (t : T) : DD := .agg (ddFs fs tg t.l 0 ++ (if tg then [ddTagMap t.u] else []))

mutual
/-- nothing in it is longer than what a message bears -/
def T.small : T → Bool
  | .mk _ s _ l u => decide (s.length ≤ s.length) && decide (l.length ≤ 32767) && decide (u.length ≤ 32767) && u.all (fun p => decide (p.2.length ≤ 32767)) && T.smalls l
def T.smalls : List T → Bool
  | [] => true
  | t :: r => t.small && T.smalls r
end
theorem smalls_mem : ∀ {l : List T}, T.smalls l = true → ∀ t ∈ l, t.small = true
  | [], _, t, h => by cases h
  | x :: r, h, t, ht => by
    simp only [T.smalls, Bool.and_eq_true] at h
    rcases List.mem_cons.1 ht with rfl | ht
    · exact h.1
    · exact smalls_mem h.2 t ht
theorem small_spec {t : T} (h : t.small = true) : t.s.length ≤ t.s.length ∧ t.l.length ≤ 32767 ∧ t.u.length ≤ 32767 ∧ (∀ p ∈ t.u, p.2.length ≤ 32767) ∧ ∀ x ∈ t.l, x.small = true := by
  cases t with
  | mk n s z l u =>
    simp only [T.small, Bool.and_eq_true, decide_eq_true_eq, List.all_eq_true] at h
    obtain ⟨⟨⟨⟨h1, h2⟩, h3⟩, h4⟩, h5⟩ := h
    exact ⟨h1, h2, h3, fun p hp => by simpa using h4 p hp, fun x hx => smalls_mem h5 x hx⟩
theorem small_at {t : T} (h : t.small = true) (i : Nat) : (t.at_ i).small = true := by
  unfold T.at_
  rw [List.getD_eq_getElem?_getD]
  cases hi : t.l[i]? with
  | none => rfl
  | some x => exact (small_spec h).2.2.2.2 x (List.mem_of_getElem? hi)
end Go.Mk
