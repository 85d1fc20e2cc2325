/- Memory: what values stand for (Rep), what is known of the blocks at hand (Mem), and how each step hands it on. No statement of a seat stands here. -/
import Derived.Test.YtbljeefficdemaaMkCore
namespace Go.Mk
open Go

/-! ### Agreement of two worlds but for some blocks -/
structure Agr (X : Nat → Prop) (w w' : World) : Prop where
  os : w'.os = w.os
  tape : w'.tape = w.tape
  output : w'.output = w.output
  size : w.heap.size ≤ w'.heap.size
  block : ∀ b, b < w.heap.size → ¬ X b → w'.heap[b]? = w.heap[b]?

def Nob : Nat → Prop := fun _ => False

theorem Agr.refl (X : Nat → Prop) (w : World) : Agr X w w := ⟨rfl, rfl, rfl, Nat.le_refl _, fun _ _ _ => rfl⟩
theorem Agr.trans {X Y Z : Nat → Prop} {a b c : World} (h : Agr X a b) (k : Agr Y b c) (hX : ∀ i, i < a.heap.size → X i → Z i) (hY : ∀ i, i < a.heap.size → Y i → Z i) : Agr Z a c :=
  ⟨k.os.trans h.os, k.tape.trans h.tape, k.output.trans h.output, Nat.le_trans h.size k.size, fun i hi hz =>
    (k.block i (Nat.lt_of_lt_of_le hi h.size) (fun y => hz (hY i hi y))).trans (h.block i hi (fun x => hz (hX i hi x)))⟩
theorem Agr.mono {X Y : Nat → Prop} {a b : World} (h : Agr X a b) (hX : ∀ i, i < a.heap.size → X i → Y i) : Agr Y a b :=
  ⟨h.os, h.tape, h.output, h.size, fun i hi hz => h.block i hi (fun x => hz (hX i hi x))⟩
theorem Agr.drew (X : Nat → Prop) (w : World) : Agr X w w.drew := ⟨rfl, rfl, rfl, Nat.le_refl _, fun _ _ _ => rfl⟩
theorem Agr.alloc (X : Nat → Prop) (w : World) (o : Obj) : Agr X w (w.alloc o) := ⟨rfl, rfl, rfl, by simp, fun i hi _ => by
  show (w.heap.push o)[i]? = _
  rw [Array.getElem?_push, if_neg (by omega)]⟩
theorem Agr.below {w w' : World} (h : Agr Nob w w') : RowKit.Below w.heap.size w w' := ⟨h.os, h.tape, h.output, h.size, fun k hk => h.block k hk id⟩

/-! ### What a row of cells stands for -/
inductive DD
  | v (x : Value)
  | agg (l : List DD)
  | sl (st : Bool) (esz : Nat) (l : List DD)
  | ptr (d : DD)
  /-- so many cells, whatever they hold -/
  | any (n : Nat)
  /-- a map from numbers to texts of octets: keys, values -/
  | mp (ks : List Nat) (ds : List DD)

/-- The cells from (b, off) on. -/
def Cel (w : World) (Y : Nat → Prop) (b off : Nat) (cs : List Value) : Prop := ∀ j u, cs[j]? = some u → ¬ Y b ∧ w.cell? ⟨b, off + j, none⟩ = some u

mutual
def Rep (w : World) (Y : Nat → Prop) : DD → List Value → Prop
  | .v x, c => c = [x]
  | .agg l, c => RepL w Y l c
  | .sl st esz l, c => (l = [] ∧ ∃ p, c = [.slice p 0 0] ∧ (st = true → p ≠ none)) ∨
      ∃ b off cap cs, c = [.slice (some ⟨b, off, none⟩) l.length cap] ∧ l.length ≤ cap ∧ Cel w Y b off cs ∧ RepE w Y esz l cs
  | .ptr d, c => ∃ b off cs, c = [.pointer (some ⟨b, off, none⟩)] ∧ Cel w Y b off cs ∧ Rep w Y d cs
  | .any n, c => c.length = n
  | .mp ks ds, c => (ks = [] ∧ ds = [] ∧ c = [.map none]) ∨
      ∃ r es clk vs, c = [.map (some r)] ∧ ¬ Y r ∧ w.heap[r]? = some (.map es clk) ∧ es.toList.map (fun e => (e.key, e.val)) = (ks.zip vs).map (fun p => (Value.int .u32 (p.1 : Int), p.2)) ∧ RepL w Y ds vs
def RepL (w : World) (Y : Nat → Prop) : List DD → List Value → Prop
  | [], c => c = []
  | d :: r, c => ∃ c1 c2, c = c1 ++ c2 ∧ Rep w Y d c1 ∧ RepL w Y r c2
def RepE (w : World) (Y : Nat → Prop) (esz : Nat) : List DD → List Value → Prop
  | [], c => c = []
  | d :: r, c => ∃ c1 c2, c = c1 ++ c2 ∧ c1.length = esz ∧ Rep w Y d c1 ∧ RepE w Y esz r c2
end

theorem cell_lt {w : World} {b off : Nat} {u : Value} (h : w.cell? ⟨b, off, none⟩ = some u) : b < w.heap.size := World.block_lt_of_cell? w _ h

theorem Cel.move {w w' : World} {Y Y' : Nat → Prop} {b off : Nat} {cs : List Value} (h : Cel w Y b off cs)
    (hm : ∀ i, i < w.heap.size → ¬ Y i → w'.heap[i]? = w.heap[i]? ∧ ¬ Y' i) : Cel w' Y' b off cs := fun j u hj => by
  obtain ⟨h1, h2⟩ := h j u hj
  obtain ⟨h3, h4⟩ := hm b (cell_lt h2) h1
  exact ⟨h4, by rw [World.cell?_of_block (w := w) (w' := w') (a := ⟨b, off + j, none⟩) h3]; exact h2⟩

mutual
theorem Rep.move {w w' : World} {Y Y' : Nat → Prop} (hm : ∀ i, i < w.heap.size → ¬ Y i → w'.heap[i]? = w.heap[i]? ∧ ¬ Y' i) : ∀ (d : DD) (c : List Value), Rep w Y d c → Rep w' Y' d c
  | .v x, c, h => by simpa [Rep] using h
  | .agg l, c, h => by simp only [Rep] at h ⊢; exact RepL.move hm l c h
  | .sl st esz l, c, h => by
    simp only [Rep] at h ⊢
    rcases h with h | ⟨b, off, cap, cs, h1, h2, h3, h4⟩
    · exact .inl h
    · exact .inr ⟨b, off, cap, cs, h1, h2, h3.move hm, RepE.move hm esz l cs h4⟩
  | .ptr d, c, h => by
    simp only [Rep] at h ⊢
    obtain ⟨b, off, cs, h1, h2, h3⟩ := h
    exact ⟨b, off, cs, h1, h2.move hm, Rep.move hm d cs h3⟩
  | .any n, c, h => by simpa [Rep] using h
  | .mp ks ds, c, h => by
    simp only [Rep] at h ⊢
    rcases h with h | ⟨r, es, clk, vs, h1, h2, h3, h4, h5⟩
    · exact .inl h
    · have hlt : r < w.heap.size := (Array.getElem?_eq_some_iff.1 h3).1
      exact .inr ⟨r, es, clk, vs, h1, (hm r hlt h2).2, (hm r hlt h2).1.trans h3, h4, RepL.move hm ds vs h5⟩
theorem RepL.move {w w' : World} {Y Y' : Nat → Prop} (hm : ∀ i, i < w.heap.size → ¬ Y i → w'.heap[i]? = w.heap[i]? ∧ ¬ Y' i) : ∀ (l : List DD) (c : List Value), RepL w Y l c → RepL w' Y' l c
  | [], c, h => by simpa [RepL] using h
  | d :: r, c, h => by
    simp only [RepL] at h ⊢
    obtain ⟨c1, c2, h1, h2, h3⟩ := h
    exact ⟨c1, c2, h1, Rep.move hm d c1 h2, RepL.move hm r c2 h3⟩
theorem RepE.move {w w' : World} {Y Y' : Nat → Prop} (hm : ∀ i, i < w.heap.size → ¬ Y i → w'.heap[i]? = w.heap[i]? ∧ ¬ Y' i) (esz : Nat) : ∀ (l : List DD) (c : List Value), RepE w Y esz l c → RepE w' Y' esz l c
  | [], c, h => by simpa [RepE] using h
  | d :: r, c, h => by
    simp only [RepE] at h ⊢
    obtain ⟨c1, c2, h1, h2, h3, h4⟩ := h
    exact ⟨c1, c2, h1, h2, Rep.move hm d c1 h3, RepE.move hm esz r c2 h4⟩
end

theorem RepE.length {w : World} {Y : Nat → Prop} {esz : Nat} : ∀ {l : List DD} {c : List Value}, RepE w Y esz l c → c.length = l.length * esz
  | [], c, h => by simp only [RepE] at h; simp [h]
  | d :: r, c, h => by
    simp only [RepE] at h
    obtain ⟨c1, c2, h1, h2, _, h4⟩ := h
    rw [h1, List.length_append, h2, h4.length, List.length_cons, Nat.add_mul]
    omega

theorem RepE.get {w : World} {Y : Nat → Prop} {esz : Nat} : ∀ {l : List DD} {c : List Value}, RepE w Y esz l c → ∀ {i : Nat} {d : DD}, l[i]? = some d →
    ((c.drop (i * esz)).take esz).length = esz ∧ Rep w Y d ((c.drop (i * esz)).take esz)
  | [], c, _, i, d, hi => by simp at hi
  | d0 :: r, c, h, i, d, hi => by
    simp only [RepE] at h
    obtain ⟨c1, c2, h1, h2, h3, h4⟩ := h
    cases i with
    | zero =>
      have : d0 = d := by simpa using hi
      subst this
      subst h1
      rw [Nat.zero_mul, List.drop_zero, ← h2, List.take_left]
      exact ⟨rfl, h3⟩
    | succ i =>
      have hi' : r[i]? = some d := by simpa using hi
      have := h4.get hi'
      rw [h1, Nat.add_mul, Nat.one_mul, Nat.add_comm (i * esz) esz, ← List.drop_drop, ← h2, List.drop_left, h2]
      exact this

theorem RepE.append {w : World} {Y : Nat → Prop} {esz : Nat} : ∀ {l l' : List DD} {c c' : List Value}, RepE w Y esz l c → RepE w Y esz l' c' → RepE w Y esz (l ++ l') (c ++ c')
  | [], l', c, c', h, h' => by simp only [RepE] at h; subst h; simpa using h'
  | d :: r, l', c, c', h, h' => by
    simp only [RepE] at h
    obtain ⟨c1, c2, h1, h2, h3, h4⟩ := h
    simp only [List.cons_append, RepE]
    exact ⟨c1, c2 ++ c', by rw [h1, List.append_assoc], h2, h3, h4.append h'⟩

theorem RepE.one {w : World} {Y : Nat → Prop} {esz : Nat} {d : DD} {c : List Value} (h : Rep w Y d c) (hl : c.length = esz) : RepE w Y esz [d] c := by
  simp only [RepE]
  exact ⟨c, [], by simp, hl, h, rfl⟩

theorem RepE.nil (w : World) (Y : Nat → Prop) (esz : Nat) : RepE w Y esz [] [] := by simp [RepE]

/-! ### The blocks at hand -/
inductive Ent
  /-- a block that may be written: its cells -/
  | blk (b : Nat) (cs : List Value) (e : TypeId)
  /-- a slice that may be appended to: it owns its row -/
  | row (e : TypeId) (sz : Nat) (v : Value) (n : Nat) (xs : List Value)
  /-- cells that are not written any more -/
  | cel (b off : Nat) (cs : List Value)
  | rep (d : DD) (cs : List Value)
  | els (esz : Nat) (l : List DD) (cs : List Value)

def Ent.mut : Ent → List Nat
  | .blk b _ _ => [b]
  | .row _ _ v _ _ => v.ownBlock.toList
  | _ => []

def muts : List Ent → List Nat
  | [] => []
  | e :: r => e.mut ++ muts r

def Ent.holds (w : World) (Y : Nat → Prop) : Ent → Prop
  | .blk b cs e => w.heap[b]? = some (.cells cs.toArray e (0, 0))
  | .row e sz v n xs => w.ownsRow 0 e sz v n xs
  | .cel b off cs => Cel w Y b off cs
  | .rep d cs => Rep w Y d cs
  | .els esz l cs => RepE w Y esz l cs

/-- Who must not be leant on: the caller's, and the blocks that are still written. -/
def Yof (w0 : World) (Z : Nat → Prop) (m : List Ent) (b : Nat) : Prop := (b < w0.heap.size ∧ Z b) ∨ b ∈ muts m

structure Mem (w0 : World) (X Z : Nat → Prop) (m : List Ent) (w : World) : Prop where
  agr : Agr X w0 w
  sub : ∀ b, X b → Z b
  nodup : (muts m).Nodup
  own : ∀ b ∈ muts m, b < w.heap.size ∧ (b < w0.heap.size → X b)
  all : ∀ e ∈ m, e.holds w (Yof w0 Z m)

theorem Mem.size {w0 w : World} {X Z : Nat → Prop} {m : List Ent} (h : Mem w0 X Z m w) : w0.heap.size ≤ w.heap.size := h.agr.size

theorem Yof.lt {w0 w : World} {X Z : Nat → Prop} {m : List Ent} (h : Mem w0 X Z m w) {b : Nat} (hb : Yof w0 Z m b) : b < w.heap.size := by
  rcases hb with hb | hb
  · exact Nat.lt_of_lt_of_le hb.1 h.agr.size
  · exact (h.own b hb).1

theorem Mem.start {w0 : World} {Z : Nat → Prop} {m : List Ent} (hm : muts m = []) (h : ∀ e ∈ m, e.holds w0 Z) : Mem w0 Nob Z m w0 :=
  ⟨Agr.refl _ _, fun _ h => h.elim, by rw [hm]; exact List.nodup_nil, by rw [hm]; simp, fun e he => by
    have := h e he
    have hm' : ∀ i, i < w0.heap.size → ¬ Z i → w0.heap[i]? = w0.heap[i]? ∧ ¬ Yof w0 Z m i := fun i hi hz => ⟨rfl, by
      unfold Yof; rw [hm]; simp; exact fun _ => hz⟩
    cases e with
    | blk b cs e => exact this
    | row e sz v n xs => exact this
    | cel b off cs => exact Cel.move this hm'
    | rep d cs => exact Rep.move hm' d cs this
    | els esz l cs => exact RepE.move hm' esz l cs this⟩

theorem muts_mem {m : List Ent} {e : Ent} (he : e ∈ m) {b : Nat} (hb : b ∈ e.mut) : b ∈ muts m := by
  induction m with
  | nil => cases he
  | cons x r ih =>
    simp only [muts, List.mem_append]
    rcases List.mem_cons.1 he with rfl | he
    · exact .inl hb
    · exact .inr (ih he)

/-- What is not written holds on where the world changes outside of it. -/
theorem Ent.holds_move {w w' : World} {Y Y' : Nat → Prop} (hm : ∀ i, i < w.heap.size → ¬ Y i → w'.heap[i]? = w.heap[i]? ∧ ¬ Y' i) {e : Ent} (h : e.holds w Y)
    (hb : ∀ b ∈ e.mut, w'.heap[b]? = w.heap[b]?) : e.holds w' Y' := by
  cases e with
  | blk b cs e => exact (hb b (by simp [Ent.mut])).trans h
  | row e sz v n xs =>
    obtain ⟨h1, h2⟩ := h
    refine ⟨h1, ?_⟩
    rcases h2 with h2 | ⟨g, cap, cur, rfl, h3, h4, h5⟩
    · exact .inl h2
    · exact .inr ⟨g, cap, cur, rfl, h3, (hb g (by simp [Ent.mut, Value.ownBlock])).trans h4, h5⟩
  | cel b off cs => exact Cel.move h hm
  | rep d cs => exact Rep.move hm d cs h
  | els esz l cs => exact RepE.move hm esz l cs h

/-- A step that leaves all old blocks as they are. -/
theorem Mem.pure {w0 w w' : World} {X Z : Nat → Prop} {m : List Ent} (h : Mem w0 X Z m w) (hp : Agr Nob w w') : Mem w0 X Z m w' :=
  ⟨h.agr.trans hp (fun _ _ x => x) (fun _ _ x => x.elim), h.sub, h.nodup, fun b hb => ⟨Nat.lt_of_lt_of_le (h.own b hb).1 hp.size, (h.own b hb).2⟩,
    fun e he => Ent.holds_move (fun i hi hy => ⟨hp.block i hi id, hy⟩) (h.all e he) (fun b hb => hp.block b (h.own b (muts_mem he hb)).1 id)⟩

/-- One entry more, that is not written. -/
theorem Mem.add {w0 w : World} {X Z : Nat → Prop} {m : List Ent} (h : Mem w0 X Z m w) {e : Ent} (he : e.mut = []) (hh : e.holds w (Yof w0 Z m)) : Mem w0 X Z (e :: m) w := by
  have hy : Yof w0 Z (e :: m) = Yof w0 Z m := by funext b; simp [Yof, muts, he]
  refine ⟨h.agr, h.sub, by simpa [muts, he] using h.nodup, by simpa [muts, he] using h.own, ?_⟩
  rw [hy]
  intro x hx
  rcases List.mem_cons.1 hx with rfl | hx
  · exact hh
  · exact h.all x hx

/-- A callee's result. -/
theorem Mem.result {w0 w w' : World} {X Z : Nat → Prop} {m : List Ent} (h : Mem w0 X Z m w) (hp : Agr Nob w w') {d : DD} {cs : List Value}
    (hr : Rep w' (fun b => b < w.heap.size ∧ Yof w0 Z m b) d cs) : Mem w0 X Z (.rep d cs :: m) w' :=
  (h.pure hp).add rfl (Rep.move (fun _ _ hy => ⟨rfl, fun hz => hy ⟨Yof.lt h hz, hz⟩⟩) d cs hr)

/-- A new block. -/
theorem Mem.alloc {w0 w : World} {X Z : Nat → Prop} {m : List Ent} (h : Mem w0 X Z m w) (cs : List Value) (e : TypeId) :
    Mem w0 X Z (.blk w.heap.size cs e :: m) (w.alloc (.cells cs.toArray e)) := by
  have hp := Agr.alloc Nob w (.cells cs.toArray e)
  have hm' := h.pure hp
  have hnot : w.heap.size ∉ muts m := fun hb => Nat.lt_irrefl _ (h.own _ hb).1
  refine ⟨hm'.agr, h.sub, by simp only [muts, Ent.mut, List.singleton_append, List.nodup_cons]; exact ⟨hnot, h.nodup⟩, ?_, ?_⟩
  · intro b hb
    simp only [muts, Ent.mut, List.singleton_append, List.mem_cons] at hb
    rcases hb with rfl | hb
    · exact ⟨by simp, fun hlt => absurd hlt (Nat.not_lt.2 h.agr.size)⟩
    · exact hm'.own b hb
  · intro x hx
    rcases List.mem_cons.1 hx with rfl | hx
    · exact heap_alloc_new w _
    · refine Ent.holds_move (fun i hi hy => ⟨hp.block i hi id, ?_⟩) (h.all x hx) (fun b hb => hp.block b (h.own b (muts_mem hx hb)).1 id)
      rintro (hz | hz)
      · exact hy (.inl hz)
      · simp only [muts, Ent.mut, List.singleton_append, List.mem_cons] at hz
        rcases hz with rfl | hz
        · exact Nat.lt_irrefl _ hi
        · exact hy (.inr hz)

end Go.Mk
