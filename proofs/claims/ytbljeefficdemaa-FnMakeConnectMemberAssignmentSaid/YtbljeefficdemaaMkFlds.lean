/- Fields, trees, tags in memory: their cells. No statement of a seat stands here. -/
import Derived.Test.YtbljeefficdemaaMkDraw2
namespace Go.Mk
open Go

mutual
/-- a field of the reference -/
def ddFd : Fld → DD
  | .mk kind fr to nu tag df of sub => .agg [.v (.int .i64 (kind : Int)), .v (.int .i64 fr), .v (.int .i64 to), .v (.int .i64 nu), .v (.int .i64 tag), .v (.int .i64 df), .v (.int .i64 (of : Int)), .sl false 8 (ddFds sub)]
def ddFds : List Fld → List DD
  | [] => []
  | f :: r => ddFd f :: ddFds r
end
theorem ddFds_map : ∀ l : List Fld, ddFds l = l.map ddFd
  | [] => rfl
  | f :: r => by simp [ddFds, ddFds_map r]

theorem rep_Fd {w : World} {Y : Nat → Prop} {f : Fld} {c : List Value} (h : Rep w Y (ddFd f) c) :
    ∃ p cap, c = [.int .i64 (f.kind : Int), .int .i64 f.fr, .int .i64 f.to, .int .i64 f.nu, .int .i64 f.tag, .int .i64 f.df, .int .i64 (f.of : Int), .slice p f.sub.length cap] ∧ Rep w Y (.sl false 8 (f.sub.map ddFd)) [.slice p f.sub.length cap] := by
  cases f with
  | mk kind fr to nu tag df of sub =>
    simp only [ddFd, ddFds_map] at h
    have g0 := rep_agg_inv h
    obtain ⟨c0, rfl, g1⟩ := g0.unV
    obtain ⟨c1, rfl, g2⟩ := g1.unV
    obtain ⟨c2, rfl, g3⟩ := g2.unV
    obtain ⟨c3, rfl, g4⟩ := g3.unV
    obtain ⟨c4, rfl, g5⟩ := g4.unV
    obtain ⟨c5, rfl, g6⟩ := g5.unV
    obtain ⟨c6, rfl, g7⟩ := g6.unV
    obtain ⟨x, c9, rfl, h1, g8⟩ := g7.un1 (one1_sl _ _ _)
    obtain rfl := g8.unNil
    obtain ⟨p, cap, rfl⟩ := rep_sl_len h1
    rw [List.length_map] at h1 ⊢
    exact ⟨p, cap, rfl, h1⟩

/-- a tree's five cells, its slices open -/
theorem rep_T7 {w : World} {Y : Nat → Prop} {t : T} {c : List Value} (h : Rep w Y (ddT t) c) : ∃ ps caps p cap pu capu, c = [.int .i64 t.n, .slice ps t.s.length caps, .bool t.z, .slice p t.l.length cap, .slice pu t.u.length capu] := by
  obtain ⟨cs, cl, cu, rfl, h1, h2, h3⟩ := rep_T h
  obtain ⟨ps, caps, rfl⟩ := rep_sl_len h1
  obtain ⟨p, cap, rfl⟩ := rep_sl_len h2
  obtain ⟨pu, capu, rfl⟩ := rep_sl_len h3
  exact ⟨ps, caps, p, cap, pu, capu, by simp⟩
theorem rep_Tag {w : World} {Y : Nat → Prop} {u : Nat × List UInt8} {c : List Value} (h : Rep w Y (ddTag u) c) : ∃ p cap, c = [.int .u32 (u.1 : Int), .slice p u.2.length cap] ∧ Rep w Y (ddBs u.2) [.slice p u.2.length cap] := by
  have g0 := rep_agg_inv h
  obtain ⟨c2, rfl, g1⟩ := g0.unV
  obtain ⟨x, c3, rfl, h1, g2⟩ := g1.un1 (one1_sl _ _ _)
  obtain rfl := g2.unNil
  obtain ⟨p, cap, rfl⟩ := rep_sl_len h1
  exact ⟨p, cap, by simp, by rw [List.length_map] at h1; exact h1⟩
theorem rep_Tag2 {w : World} {Y : Nat → Prop} {u : Nat × List UInt8} {x y : Value} (h : Rep w Y (ddTag u) [x, y]) : Rep w Y (ddBs u.2) [y] := by
  obtain ⟨p, cap, he, h⟩ := rep_Tag h
  simp only [List.cons.injEq, and_true] at he
  rw [he.2]; exact h
theorem rep_Fd8 {w : World} {Y : Nat → Prop} {f : Fld} {a b c d e g i x : Value} (h : Rep w Y (ddFd f) [a, b, c, d, e, g, i, x]) : Rep w Y (.sl false 8 (f.sub.map ddFd)) [x] := by
  obtain ⟨p, cap, he, h⟩ := rep_Fd h
  simp only [List.cons.injEq, and_true] at he
  rw [he.2.2.2.2.2.2.2]; exact h
theorem rep_B {w : World} {Y : Nat → Prop} {b : UInt8} {c : List Value} (h : Rep w Y (ddB b) c) : c = [.int .u8 (b.toNat : Int)] := by simpa only [ddB, Rep] using h
theorem rep_Tag_mk {w : World} {Y : Nat → Prop} {u : Nat × List UInt8} {y : Value} (h : Rep w Y (ddBs u.2) [y]) : Rep w Y (ddTag u) [.int .u32 (u.1 : Int), y] :=
  rep_agg (RepL.cons1 (rep_v _) (RepL.cons1 h RepL.nil))
/-- fewer things of a slice -/
theorem rep_sl_take {w : World} {Y : Nat → Prop} {esz : Nat} {l : List DD} {p : Option Addr} {n cap : Nat} (h : Rep w Y (.sl false esz l) [.slice p n cap]) (k : Nat) (hk : k ≤ n) : k ≤ cap ∧ Rep w Y (.sl false esz (l.take k)) [.slice p k cap] := by
  rcases rep_sl h with ⟨rfl, q, he, _⟩ | ⟨b, off, cap', cs, he, h2, h3, h4⟩
  · simp only [Value.slice.injEq] at he
    obtain ⟨rfl, rfl, rfl⟩ := he
    have : k = 0 := by omega
    subst this
    exact ⟨by omega, by simpa using h⟩
  · simp only [Value.slice.injEq] at he
    obtain ⟨rfl, rfl, rfl⟩ := he
    refine ⟨by omega, ?_⟩
    simp only [Rep]
    refine .inr ⟨b, off, cap, cs.take (k * esz), by rw [List.length_take]; congr 3; omega, by rw [List.length_take]; omega, ?_, ?_⟩
    · intro j u hj
      rw [List.getElem?_take] at hj
      split at hj
      · exact h3 j u hj
      · cases hj
    · clear h3 h
      have : ∀ (l : List DD) (cs : List Value) (k : Nat), k ≤ l.length → RepE w Y esz l cs → RepE w Y esz (l.take k) (cs.take (k * esz)) := by
        intro l
        induction l with
        | nil => intro cs k hk h; have : k = 0 := by simpa using hk
                 subst this; simp [RepE]
        | cons d r ih =>
          intro cs k hk h
          cases k with
          | zero => simp [RepE]
          | succ k =>
            simp only [RepE] at h
            obtain ⟨c1, c2, rfl, h1, h2, h3⟩ := h
            simp only [List.take_succ_cons, RepE]
            refine ⟨c1, c2.take (k * esz), ?_, h1, h2, ih c2 k (by simpa using hk) h3⟩
            rw [Nat.add_mul, Nat.one_mul, List.take_append, h1, List.take_of_length_le (by omega)]
            congr 2
            omega
      exact this l cs k hk h4
end Go.Mk
