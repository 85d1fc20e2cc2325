/- Blocks that a caller hands in; blocks and rows frozen. No statement of a seat stands here. -/
import Derived.Test.YtbljeefficdemaaMkFits
namespace Go.Mk
open Go

section
variable {w0 w w' : World} {X Z : Nat → Prop} {m : List Ent} {i j e sz n g : Nat} {v : Value} {xs cs : List Value}

theorem Mem.startBlk (hb : w0.heap[g]? = some (.cells cs.toArray e (0, 0))) (hZ : Z g) {m : List Ent} (hm : muts m = []) (h : ∀ x ∈ m, x.holds w0 Z) : Mem w0 (fun k => k = g) Z (.blk g cs e :: m) w0 := by
  have hmu : muts (.blk g cs e :: m) = [g] := by simp [muts, Ent.mut, hm]
  refine ⟨Agr.refl _ _, fun k hk => by subst hk; exact hZ, by rw [hmu]; simp, fun b hb' => ?_, ?_⟩
  · rw [hmu] at hb'
    have : b = g := by simpa using hb'
    subst this
    exact ⟨(Array.getElem?_eq_some_iff.1 hb).1, fun _ => rfl⟩
  · have hmv : ∀ k, k < w0.heap.size → ¬ Z k → w0.heap[k]? = w0.heap[k]? ∧ ¬ Yof w0 Z (.blk g cs e :: m) k := fun k _ hz => ⟨rfl, by
      rintro (h1 | h1)
      · exact hz h1.2
      · rw [hmu] at h1
        have : k = g := by simpa using h1
        subst this
        exact hz hZ⟩
    intro x hx
    rcases List.mem_cons.1 hx with rfl | hx
    · exact hb
    · exact Ent.holds_move hmv (h x hx) (fun _ _ => rfl)
/-- a row that was made here is not the caller's block -/
theorem Mem.rowNe (h : Mem w0 X Z m w) {k : Nat} (hi : entAt m i = some (.row e sz v n xs)) {e' : TypeId} (hj : entAt m j = some (.blk g cs e')) (hne : i ≠ j) (hk : v.ownBlock = some k) : ¬ k = g := fun hkg =>
  muts_apart h.nodup hne hi hj k (by simp [Ent.mut, hk]) (by simp [Ent.mut, hkg])
/-- a block that is not written any more -/
theorem Mem.freezeBlk (h : Mem w0 X Z m w) (hi : entAt m i = some (.blk g cs e)) (hx : ¬ X g) : Mem w0 X Z (putAt m i (.cel g 0 cs)) w := by
  have hsub : ∀ {m : List Ent} {i : Nat} {b : Nat}, entAt m i = some (.blk g cs e) → b ∈ muts (putAt m i (.cel g 0 cs)) → b ∈ muts m := by
    intro m
    induction m with
    | nil => intro i b h _; simp [entAt] at h
    | cons x r ih =>
      intro i b h hb
      cases i with
      | zero =>
        simp only [putAt, muts, Ent.mut, List.nil_append] at hb
        simp only [muts, List.mem_append]; exact .inr hb
      | succ i =>
        simp only [putAt, muts, List.mem_append] at hb ⊢
        rcases hb with hb | hb
        · exact .inl hb
        · exact .inr (ih h hb)
  have hnd : ∀ {m : List Ent} {i : Nat}, (muts m).Nodup → entAt m i = some (.blk g cs e) → (muts (putAt m i (.cel g 0 cs))).Nodup ∧ g ∉ muts (putAt m i (.cel g 0 cs)) := by
    intro m
    induction m with
    | nil => intro i _ h; simp [entAt] at h
    | cons x r ih =>
      intro i hn h
      cases i with
      | zero =>
        simp only [entAt, Option.some.injEq] at h
        subst h
        simp only [putAt, muts, Ent.mut, List.nil_append, List.nodup_append] at hn ⊢
        exact ⟨hn.2.1, fun hk' => hn.2.2 g (by simp) g hk' rfl⟩
      | succ i =>
        simp only [putAt, muts, List.nodup_append, List.mem_append, not_or] at hn ⊢
        have hr := ih hn.2.1 h
        refine ⟨⟨hn.1, hr.1, fun a ha b hb hab => hn.2.2 a ha b (hsub h hb) hab⟩, ?_, hr.2⟩
        exact fun hkx => hn.2.2 g hkx g (muts_mem (entAt_mem (m := r) h) (by simp [Ent.mut])) rfl
  have hN := hnd h.nodup hi
  have hmv : ∀ k, k < w.heap.size → ¬ Yof w0 Z m k → w.heap[k]? = w.heap[k]? ∧ ¬ Yof w0 Z (putAt m i (.cel g 0 cs)) k := fun k _ hy => ⟨rfl, by
    rintro (hz | hz)
    · exact hy (.inl hz)
    · exact hy (.inr (hsub hi hz))⟩
  refine ⟨h.agr, h.sub, hN.1, fun b hb => h.own b (hsub hi hb), ?_⟩
  intro x hx'
  rcases mem_putAt hx' with rfl | ⟨j, _, hj⟩
  · have hb := h.all _ (entAt_mem hi)
    simp only [Ent.holds] at hb ⊢
    intro j u hj
    refine ⟨?_, ?_⟩
    · rintro (hz | hz)
      · exact hx ((h.own g (muts_mem (entAt_mem hi) (by simp [Ent.mut]))).2 hz.1)
      · exact hN.2 hz
    · rw [Nat.zero_add]
      simp only [World.cell?, hb]
      simpa using hj
  · exact Ent.holds_move hmv (h.all x (entAt_mem hj)) (fun _ _ => rfl)
/-- a slice's literal, not written any more -/
theorem Mem.freezeLit (h : Mem w0 X Z m w) {l : List DD} (hi : entAt m i = some (.blk g cs e)) (hx : ¬ X g) (hl : l.length = n) (hcl : cs.length = n * sz) (hn : n ≤ maxLen) (he : RepE w (Yof w0 Z m) sz l cs) :
    Mem w0 X Z (putAt m i (.rep (.sl false sz l) [.slice (some ⟨g, 0, none⟩) n n])) w := by
  have h2 := h.freezeBlk hi hx
  have hsub : ∀ {m : List Ent} {i : Nat} {e1 e2 e3 : Ent}, entAt m i = some e1 → putAt (putAt m i e2) i e3 = putAt m i e3 := by
    intro m
    induction m with
    | nil => intro i e1 e2 e3 h; simp [entAt] at h
    | cons x r ih =>
      intro i e1 e2 e3 h
      cases i with
      | zero => rfl
      | succ i => simp only [putAt]; rw [ih (e1 := e1) h]
  have hent : ∀ {m : List Ent} {i : Nat} {e1 e2 : Ent}, entAt m i = some e1 → entAt (putAt m i e2) i = some e2 := by
    intro m
    induction m with
    | nil => intro i e1 e2 h; simp [entAt] at h
    | cons x r ih =>
      intro i e1 e2 h
      cases i with
      | zero => rfl
      | succ i => simp only [putAt, entAt]; exact ih (e1 := e1) h
  have hmut : ∀ {m : List Ent} {i b : Nat}, entAt m i = some (.blk g cs e) → b ∈ muts (putAt m i (.cel g 0 cs)) → b ∈ muts m := by
    intro m
    induction m with
    | nil => intro i b h _; simp [entAt] at h
    | cons x r ih =>
      intro i b h hb
      cases i with
      | zero =>
        simp only [putAt, muts, Ent.mut, List.nil_append] at hb
        simp only [muts, List.mem_append]; exact .inr hb
      | succ i =>
        simp only [putAt, muts, List.mem_append] at hb ⊢
        rcases hb with hb | hb
        · exact .inl hb
        · exact .inr (ih h hb)
  have hcel := h2.all _ (entAt_mem (hent (e2 := .cel g 0 cs) hi))
  have h3 := h2.putFrozen (e' := .rep (.sl false sz l) [.slice (some ⟨g, 0, none⟩) n n]) (hent hi) rfl rfl (by
    simp only [Ent.holds, Rep] at hcel ⊢
    refine .inr ⟨g, 0, n, cs, by rw [hl], by omega, hcel, RepE.move (fun k _ hy => ⟨rfl, ?_⟩) sz l cs he⟩
    rintro (hz | hz)
    · exact hy (.inl hz)
    · exact hy (.inr (hmut hi hz)))
  rw [hsub hi] at h3
  exact h3
theorem RepE.consC {w : World} {Y : Nat → Prop} {esz : Nat} {d : DD} {r : List DD} {c1 c2 : List Value} (h1 : c1.length = esz) (hd : Rep w Y d c1) (hr : RepE w Y esz r c2) : RepE w Y esz (d :: r) (c1 ++ c2) := by
  simp only [RepE]; exact ⟨c1, c2, rfl, h1, hd, hr⟩
theorem rep_nosub {w : World} {Y : Nat → Prop} : Rep w Y (.sl false 8 (([] : List Fld).map ddFd)) [.slice none 0 0] := by simp [Rep]
/-- what a callee has left in a block that was handed in -/
theorem Mem.blkCall (h : Mem w0 X Z m w) {cs' : List Value} (hi : entAt m i = some (.blk g cs e)) (hp : Agr (fun k => k = g) w w') (hb : w'.heap[g]? = some (.cells cs'.toArray e (0, 0))) {d : DD} {c : List Value}
    (hr : Rep w' (fun b => b < w.heap.size ∧ Yof w0 Z m b) d c) : Mem w0 X Z (.rep d c :: putAt m i (.blk g cs' e)) w' := by
  have h2 := h.write hi hp hb
  have hmu : muts (putAt m i (.blk g cs' e)) = muts m := muts_putAt hi rfl
  refine h2.add rfl (Rep.move (fun _ _ hy => ⟨rfl, fun hz => hy ⟨Yof.lt h ?_, ?_⟩⟩) d c hr)
  · simpa [Yof, hmu] using hz
  · simpa [Yof, hmu] using hz
theorem row_nil (w : World) (e sz : Nat) : w.ownsRow 0 e sz (.slice none 0 0) 0 [] := World.ownsRow_nil w 0 e sz
/-- octets of a row, read -/
theorem rep_row {Y : Nat → Prop} {s : List UInt8} (h : w.ownsRow 0 e 1 v n (bv s)) (hY : ∀ k, v.ownBlock = some k → ¬ Y k) : Rep w Y (ddBs s) [v] := by
  have hn : n = s.length := by have := h.1; rw [bv_length] at this; omega
  subst hn
  simp only [ddBs, Rep]
  rcases h.2 with ⟨rfl, h0⟩ | ⟨g, cap, cur, rfl, _, hg, hnc, hcm, hcs, htake⟩
  · left
    have : s = [] := List.eq_nil_of_length_eq_zero h0
    subst this
    exact ⟨rfl, none, rfl, fun e => Bool.noConfusion e⟩
  · right
    refine ⟨g, 0, cap, bv s, by rw [List.length_map], by rw [List.length_map]; omega, ?_, repE_bv s⟩
    intro j u hj
    refine ⟨hY g rfl, ?_⟩
    have := h.cells (g := g) rfl j u hj
    rw [Addr.add_lit] at this
    exact this
/-- a row of octets that is not appended to any more -/
theorem Mem.freezeBytes (h : Mem w0 Nob Z m w) {s : List UInt8} (hi : entAt m i = some (.row e 1 v n (bv s))) (hn : n = s.length) : Mem w0 Nob Z (putAt m i (.rep (ddBs s) [v])) w :=
  h.freezeRow (st := false) hi (noX v) (repE_bv s) (by rw [List.length_map, hn]) (fun _ => rfl)
end
end Go.Mk
namespace Go.Mk
open Go
theorem c_cutE {P : Program} {Q : Exit → Act → World → Prop} {a : Act} {w : World} {x : Code} (J : Act → World → Prop) (hx : x.wp P (Exit.then J Q) a w) (hy : ∀ a w, J a w → Q .normal a w) : x.wp P Q a w :=
  Code.wp_mono (fun e a w h => by cases e <;> first | exact hy _ _ h | exact h) hx
end Go.Mk
namespace Go.Mk
open Go
theorem yof_blk {w0 : World} {Z : Nat → Prop} {m : List Ent} {i b : Nat} {cs : List Value} {e : TypeId} (hi : entAt m i = some (.blk b cs e)) : Yof w0 Z m b := .inr (muts_mem (entAt_mem hi) (by simp [Ent.mut]))
end Go.Mk
