/- The data: trees, fields, and what they look like in memory. No statement of a seat stands here. -/
import Derived.Test.YtbljeefficdemaaMkOps2
namespace Go.Mk
open Go

/-- What a field says. -/
inductive T
  | mk (n : Int) (s : List UInt8) (z : Bool) (l : List T) (u : List (Nat × List UInt8))
namespace T
def n : T → Int | .mk n _ _ _ _ => n
def s : T → List UInt8 | .mk _ s _ _ _ => s
def z : T → Bool | .mk _ _ z _ _ => z
def l : T → List T | .mk _ _ _ l _ => l
def u : T → List (Nat × List UInt8) | .mk _ _ _ _ u => u
def nil : T := .mk 0 [] false [] []
/-- what the field of a number says -/
def at_ (t : T) (i : Nat) : T := t.l.getD i nil
end T

def ddB (b : UInt8) : DD := .v (.int .u8 b.toNat)
def ddBs (s : List UInt8) : DD := .sl false 1 (s.map ddB)
def ddTag (u : Nat × List UInt8) : DD := .agg [.v (.int .u32 u.1), ddBs u.2]
def ddTags (u : List (Nat × List UInt8)) : DD := .sl false 2 (u.map ddTag)
mutual
def ddT : T → DD
  | .mk n s z l u => .agg [.v (.int .i64 n), ddBs s, .v (.bool z), .sl false 5 (ddTs l), ddTags u]
def ddTs : List T → List DD
  | [] => []
  | t :: r => ddT t :: ddTs r
end
theorem ddTs_map : ∀ l : List T, ddTs l = l.map ddT
  | [] => rfl
  | t :: r => by simp [ddTs, ddTs_map r]

/-- A tree's five cells. -/
theorem rep_T {w : World} {Y : Nat → Prop} {t : T} {c : List Value} (h : Rep w Y (ddT t) c) :
    ∃ cs cl cu, c = [.int .i64 t.n, cs, .bool t.z, cl, cu] ∧ Rep w Y (ddBs t.s) [cs] ∧ Rep w Y (.sl false 5 (t.l.map ddT)) [cl] ∧ Rep w Y (ddTags t.u) [cu] := by
  cases t with
  | mk n s z l u =>
    have one : ∀ (w : World) (Y : Nat → Prop) (st : Bool) (e : Nat) (l : List DD) (c : List Value), Rep w Y (.sl st e l) c → ∃ x, c = [x] := by
      intro w Y st e l c h
      simp only [Rep] at h
      rcases h with ⟨_, _, h, _⟩ | ⟨b, off, cap, cs, h, _⟩ <;> exact ⟨_, h⟩
    simp only [ddT, ddBs, ddTags, ddTs_map] at h
    unfold Rep at h
    simp only [RepL] at h
    obtain ⟨c1, c2, rfl, h1, d1, d2, rfl, h2, e1, e2, rfl, h3, f1, f2, rfl, h4, g1, g2, rfl, h5, rfl⟩ := h
    obtain ⟨x1, rfl⟩ := one _ _ _ _ _ _ h2
    obtain ⟨x2, rfl⟩ := one _ _ _ _ _ _ h4
    obtain ⟨x3, rfl⟩ := one _ _ _ _ _ _ h5
    simp only [Rep] at h1 h3
    subst h1 h3
    exact ⟨x1, x2, x3, rfl, h2, h4, h5⟩

theorem rep_T_mk {w : World} {Y : Nat → Prop} {t : T} {cs cl cu : Value} (h1 : Rep w Y (ddBs t.s) [cs]) (h2 : Rep w Y (.sl false 5 (t.l.map ddT)) [cl]) (h3 : Rep w Y (ddTags t.u) [cu]) :
    Rep w Y (ddT t) [.int .i64 t.n, cs, .bool t.z, cl, cu] := by
  cases t with
  | mk n s z l u =>
    simp only [ddT, ddTs_map]
    unfold Rep
    simp only [RepL]
    exact ⟨[.int .i64 n], _, rfl, by simp [Rep], [cs], _, rfl, h1, [.bool z], _, rfl, by simp [Rep], [cl], _, rfl, h2, [cu], _, rfl, h3, rfl⟩

theorem rep_T_nil {w : World} {Y : Nat → Prop} : Rep w Y (ddT T.nil) [.int .i64 0, .slice none 0 0, .bool false, .slice none 0 0, .slice none 0 0] :=
  rep_T_mk (t := T.nil) (by simp [Rep, ddBs, T.nil, T.s]) (by simp [Rep, T.nil, T.l]) (by simp [Rep, ddTags, T.nil, T.u])

/-- A slice: nil, or its cells. -/
theorem rep_sl {w : World} {Y : Nat → Prop} {st : Bool} {esz : Nat} {l : List DD} {c : Value} (h : Rep w Y (.sl st esz l) [c]) :
    (l = [] ∧ ∃ p, c = .slice p 0 0 ∧ (st = true → p ≠ none)) ∨ ∃ b off cap cs, c = .slice (some ⟨b, off, none⟩) l.length cap ∧ l.length ≤ cap ∧ Cel w Y b off cs ∧ RepE w Y esz l cs := by
  simp only [Rep] at h
  rcases h with ⟨h1, p, h2, h3⟩ | ⟨b, off, cap, cs, h1, h2⟩
  · exact .inl ⟨h1, p, by simpa using h2, h3⟩
  · exact .inr ⟨b, off, cap, cs, by simpa using h1, h2⟩

/-- Its length, and that it is a slice. -/
theorem rep_sl_len {w : World} {Y : Nat → Prop} {st : Bool} {esz : Nat} {l : List DD} {c : Value} (h : Rep w Y (.sl st esz l) [c]) : ∃ p cap, c = .slice p l.length cap := by
  rcases rep_sl h with ⟨rfl, p, rfl, _⟩ | ⟨b, off, cap, cs, rfl, _⟩
  · exact ⟨_, _, rfl⟩
  · exact ⟨_, _, rfl⟩

end Go.Mk
