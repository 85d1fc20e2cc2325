/- append onto a row at hand. No statement of a seat stands here. -/
import Derived.Test.YtbljeefficdemaaMkData2
import Derived.Deep.AppendSrc
namespace Go.Mk
open Go

section
variable {P : Program} {w : World}

theorem run_append_mk {t tx ty e : TypeId} {i : TypeInfo} {z : Value} (ht : P.underlying t = some (.slice e)) (hi : P.info? e = some i) (hz : i.zero = some z) (hzs : z.cells.size = i.size)
    {v : Value} {n : Nat} {xs : List Value} (hown : w.ownsRow 0 e i.size v n xs) {x : Value} {m : Nat} {news : List Value} (hs : Src P i.size tx x m news w)
    (h63 : n + m ≤ maxLen) (hbytes : (n + m) * i.bytes ≤ 140737488355328) :
    ∃ v' w', (Builtin.append_ #[t, tx] ty #[v, x]).run P w = .ok v' w' ∧ w'.ownsRow 0 e i.size v' (n + m) (xs ++ news) ∧ Agr (fun k => v.ownBlock = some k) w w' ∧
      (∀ k, v'.ownBlock = some k → v.ownBlock = some k ∨ w.heap.size ≤ k) ∧ (v' = .slice none 0 0 ↔ v = .slice none 0 0 ∧ m = 0) := by
  have hsmall : ((n + m : Nat) : Int) ≤ 9223372036854775807 := by simp only [maxLen] at h63; omega
  have hlen : (xs ++ news).length = (n + m) * i.size := by rw [List.length_append, hown.1, hs.newsLen, Nat.add_mul]
  have grow : ∀ (base : Option Addr) (old : Nat), (Builtin.firstCells i.size n (.slice base n old)).run P w.drew = .ok xs.toArray w.drew → old < n + m → v = .slice base n old →
      ∃ v' w', (Builtin.append_ #[t, tx] ty #[v, x]).run P w = .ok v' w' ∧ w'.ownsRow 0 e i.size v' (n + m) (xs ++ news) ∧ Agr (fun k => v.ownBlock = some k) w w' ∧
      (∀ k, v'.ownBlock = some k → v.ownBlock = some k ∨ w.heap.size ≤ k) ∧ (v' = .slice none 0 0 ↔ v = .slice none 0 0 ∧ m = 0) := by
    intro base old hold hlt hv
    subst hv
    have hr := run_append_grow_src (P := P) (w := w) t tx ty e i z ht hi hz base n old xs hold x m news hs hlt hsmall (growslice_fits hlt hbytes)
    refine ⟨_, _, hr, ⟨hlen, .inr ⟨w.heap.size, _, _, rfl, Nat.zero_le _, heap_alloc_new w.drew _, grownCap_ge w (n + m) old e, grownCap_le_maxLen w (n + m) old e h63, ?_, ?_⟩⟩, ?_, ?_, ?_⟩
    · have hge := grownCap_ge w (n + m) old e
      simp only [Array.size_append, List.size_toArray, size_zeroCells, hzs, hlen, ← Nat.add_mul]
      congr 1
      omega
    · simp only [Array.toList_append]
      rw [← hlen]
      exact List.take_left
    · exact (Agr.drew _ w).trans (Agr.alloc _ w.drew _) (fun _ _ h => h) (fun _ _ h => h)
    · intro k hk
      simp only [Value.ownBlock, Option.some.injEq] at hk
      exact .inr (by omega)
    · constructor
      · intro h; simp at h
      · rintro ⟨h1, rfl⟩
        simp only [Value.slice.injEq] at h1
        omega
  rcases hown.2 with ⟨rfl, rfl⟩ | ⟨g, cap, cur, rfl, _, hg, hnc, hcm, hcs, htake⟩
  · have hx : xs = [] := List.eq_nil_of_length_eq_zero (by simpa using hown.1)
    subst hx
    by_cases hm : m = 0
    · subst hm
      have hn : news = [] := List.eq_nil_of_length_eq_zero (by simpa using hs.newsLen)
      subst hn
      refine ⟨.slice none 0 0, w, ?_, by simpa using World.ownsRow_nil w 0 e i.size, Agr.refl _ _, by simp [Value.ownBlock], by simp⟩
      rcases hs.kind with ⟨e', hk⟩ | hk <;> simp [Builtin.append_, run_underlying ht, run_underlying hk, sizeOf, typeInfo, hi, hs.len, hs.cells]
    · exact grow none 0 (run_firstCells_none w.drew i.size 0 0 0) (by omega) rfl
  · by_cases hroom : n + m ≤ cap
    · have hfit : n * i.size + news.length ≤ cur.size := by rw [hs.newsLen, hcs, ← Nat.add_mul]; exact Nat.mul_le_mul_right _ hroom
      have hst := run_storeCells_at P g (n * i.size) e news 0 cur w hg (by simpa using hfit) hs.one
      simp only [Nat.add_zero] at hst
      refine ⟨.slice (some ⟨g, 0, none⟩) (n + m) cap, w.setRow g (cur.toList.take (n * i.size) ++ news ++ cur.toList.drop (n * i.size + news.length)).toArray, ?_,
        ⟨hlen, .inr ⟨g, cap, _, rfl, Nat.zero_le _, setRow_heap w g cur _ e _ hg, hroom, hcm, ?_, ?_⟩⟩, ?_, ?_, by simp⟩
      · rcases hs.kind with ⟨e', hk⟩ | hk <;> simp [Builtin.append_, run_underlying ht, run_underlying hk, sizeOf, typeInfo, hi, hs.len, hroom, hs.cells, Addr.add_lit, hst]
      · simp only [List.size_toArray, List.length_append, List.length_take, List.length_drop, Array.length_toList]
        omega
      · rw [htake, ← hlen]
        exact List.take_left
      · exact (setRow_agr w g _).mono fun k _ hk => by simp [Value.ownBlock, hk]
      · intro k hk; exact .inl hk
    · refine grow (some ⟨g, 0, none⟩) cap ?_ (by omega) rfl
      have holds : ∀ j u, xs[j]? = some u → w.cell? ((⟨g, 0, none⟩ : Addr).add j) = some u := hown.cells (g := g) rfl
      exact run_firstCells_some (P := P) w.drew i.size n ⟨g, 0, none⟩ n cap xs hown.1 (by simpa using holds)
end

/-- The element type of a row: its cells, its bytes. -/
def rowTy (P : Program) (t : Nat) : Option (Nat × Nat × Nat) :=
  match P.underlying t with
  | some (.slice e) => match P.info? e with
    | some i => match i.zero with
      | some z => match Nat.beq z.cells.size i.size with
        | true => some (e, i.size, i.bytes)
        | false => none
      | none => none
    | none => none
  | _ => none
theorem rowTy_spec {P : Program} {t e sz by_ : Nat} (h : rowTy P t = some (e, sz, by_)) : ∃ i z, P.underlying t = some (.slice e) ∧ P.info? e = some i ∧ i.zero = some z ∧ z.cells.size = i.size ∧ i.size = sz ∧ i.bytes = by_ := by
  unfold rowTy at h
  split at h
  · rename_i e' hu
    split at h
    · rename_i i hi
      split at h
      · rename_i z hz
        split at h
        · rename_i hb
          simp only [Option.some.injEq, Prod.mk.injEq] at h
          obtain ⟨rfl, rfl, rfl⟩ := h
          exact ⟨i, z, hu, hi, hz, Nat.eq_of_beq_eq_true hb, rfl, rfl⟩
        · cases h
      · cases h
    · cases h
  · cases h

/-- The own block of a row is written: by the row alone. -/
theorem Mem.rowStep {w0 w w' : World} {X Z : Nat → Prop} {m : List Ent} (h : Mem w0 X Z m w) {i e sz n n' : Nat} {v v' : Value} {xs xs' : List Value} (hi : entAt m i = some (.row e sz v n xs))
    (hp : Agr (fun k => v.ownBlock = some k) w w') (hr : w'.ownsRow 0 e sz v' n' xs') (hb : ∀ k, v'.ownBlock = some k → v.ownBlock = some k ∨ w.heap.size ≤ k) : Mem w0 X Z (putAt m i (.row e sz v' n' xs')) w' := by
  have hsub : ∀ {m : List Ent} {i : Nat} {e : Ent} {e' : Ent} {b : Nat}, entAt m i = some e → b ∈ muts (putAt m i e') → b ∈ e'.mut ∨ b ∈ muts m := by
    intro m
    induction m with
    | nil => intro i e e' b h _; simp [entAt] at h
    | cons x r ih =>
      intro i e e' b h hb
      cases i with
      | zero =>
        simp only [putAt, muts, List.mem_append] at hb ⊢
        rcases hb with hb | hb
        · exact .inl hb
        · exact .inr (.inr hb)
      | succ i =>
        simp only [putAt, muts, List.mem_append] at hb ⊢
        rcases hb with hb | hb
        · exact .inr (.inl hb)
        · rcases ih (e := e) h hb with hb | hb
          · exact .inl hb
          · exact .inr (.inr hb)
  have hnew : ∀ k ∈ (Ent.row e sz v' n' xs').mut, v.ownBlock = some k ∨ w.heap.size ≤ k := fun k hk => hb k (by simpa [Ent.mut] using hk)
  have hold : ∀ k, v.ownBlock = some k → k ∈ muts m := fun k hk => muts_mem (entAt_mem hi) (by simp [Ent.mut, hk])
  have hlt' : ∀ k ∈ (Ent.row e sz v' n' xs').mut, k < w'.heap.size := fun k hk => (hr.lt k (by simpa [Ent.mut] using hk)).2
  have hnd : ∀ {m : List Ent} {i : Nat}, (muts m).Nodup → entAt m i = some (.row e sz v n xs) → (∀ b ∈ muts m, b < w.heap.size) → (muts (putAt m i (.row e sz v' n' xs'))).Nodup := by
    intro m
    induction m with
    | nil => intro i _ h _; simp [entAt] at h
    | cons x r ih =>
      intro i hn h hl
      have one : (Ent.row e sz v' n' xs').mut.Nodup := by simp only [Ent.mut]; cases v'.ownBlock <;> simp
      cases i with
      | zero =>
        simp only [entAt, Option.some.injEq] at h
        subst h
        simp only [putAt, muts, List.nodup_append] at hn ⊢
        refine ⟨one, hn.2.1, ?_⟩
        intro a ha b hb' hab
        subst hab
        rcases hnew a ha with h1 | h1
        · exact hn.2.2 a (by simp [Ent.mut, h1]) a hb' rfl
        · have := hl a (by simp only [muts, List.mem_append]; exact .inr hb'); omega
      | succ i =>
        simp only [putAt, muts, List.nodup_append] at hn ⊢
        refine ⟨hn.1, ih hn.2.1 h (fun b hb' => hl b (by simp only [muts, List.mem_append]; exact .inr hb')), ?_⟩
        intro a ha b hb' hab
        subst hab
        rcases hsub (m := r) h hb' with h1 | h1
        · rcases hnew a h1 with h2 | h2
          · exact hn.2.2 a ha a (muts_mem (entAt_mem (m := r) h) (by simp [Ent.mut, h2])) rfl
          · have := hl a (by simp only [muts, List.mem_append]; exact .inl ha); omega
        · exact hn.2.2 a ha a h1 rfl
  refine ⟨h.agr.trans hp (fun _ _ x => x) (fun k hk hkb => (h.own k (hold k hkb)).2 hk), h.sub, hnd h.nodup hi (fun b hb' => (h.own b hb').1), ?_, ?_⟩
  · intro b hb'
    rcases hsub hi hb' with h1 | h1
    · refine ⟨hlt' b h1, fun hb0 => ?_⟩
      rcases hnew b h1 with h2 | h2
      · exact (h.own b (hold b h2)).2 hb0
      · exact absurd hb0 (Nat.not_lt.2 (Nat.le_trans h.agr.size h2))
    · exact ⟨Nat.lt_of_lt_of_le (h.own b h1).1 hp.size, (h.own b h1).2⟩
  · intro x hx
    rcases mem_putAt hx with rfl | ⟨j, hji, hj⟩
    · exact hr
    · have hxm := entAt_mem hj
      refine Ent.holds_move (fun k hk hyk => ⟨hp.block k hk (fun hkb => hyk (.inr (hold k hkb))), ?_⟩) (h.all x hxm) (fun k hk => ?_)
      · rintro (hz | hz)
        · exact hyk (.inl hz)
        · rcases hsub hi hz with h1 | h1
          · rcases hnew k h1 with h2 | h2
            · exact hyk (.inr (hold k h2))
            · omega
          · exact hyk (.inr h1)
      · exact hp.block k (h.own k (muts_mem hxm hk)).1 (fun hkb => muts_apart h.nodup (Ne.symm hji) hi hj k (by simp [Ent.mut, hkb]) hk)

section
variable {P : Program} {ops : Array Oper} {Q : Exit → Act → World → Prop} {rest : List Oper} {a : Act} {w w0 : World} {n : Nat} {l : List (Nat × Value)} {X Z : Nat → Prop} {m : List Ent}
variable {d : Nat} {ty : Nat} {ps : String} {af : Array Edge}

theorem o_append {s x : Operand} {t tx e sz by_ i k mm : Nat} {v xv : Value} {xs news : List Value} (hk : Kn n l a) (hm : Mem w0 X Z m w) (ht : rowTy P t = some (e, sz, by_)) (hs : ev l s = some v) (hrow : entAt m i = some (.row e sz v k xs))
    (hx : ev l x = some xv) (hsrc : Src P sz tx xv mm news w) (h63 : k + mm ≤ maxLen) (hb : (k + mm) * by_ ≤ 140737488355328) (hd : Nat.blt d n = true)
    (K : ∀ a' v' w', Kn n ((d, v') :: l) a' → Mem w0 X Z (putAt m i (.row e sz v' (k + mm) (xs ++ news))) w' → (v' = .slice none 0 0 ↔ v = .slice none 0 0 ∧ mm = 0) → wpList P ops Q rest a' w') :
    wpList P ops Q (⟨some d, .call ⟨.builtin .append, #[s, x], #[t, tx]⟩, ty, ps, af, none⟩ :: rest) a w := by
  obtain ⟨ii, z, h1, h2, h3, h4, rfl, rfl⟩ := rowTy_spec ht
  have hown := hm.all _ (entAt_mem hrow)
  obtain ⟨v', w', hr, hro, hag, hob, hnil⟩ := run_append_mk (ty := ty) h1 h2 h3 h4 hown hsrc h63 hb
  refine step_runs (v := v') (w' := w') hk rfl rfl hd ?_ fun a' hk' => K a' _ _ hk' (hm.rowStep hrow hag hro hob) hnil
  unfold Runs execOp
  simp [resolve, invoke, builtin, hk.eval hs, hk.eval hx, hr]

theorem src_cells {t e b off k c sz : Nat} {news : List Value} (ht : tyElem P t = some e) (hl : news.length = k * sz) (hc : ∀ j u, news[j]? = some u → w.cell? ⟨b, off + j, none⟩ = some u) (h1 : oneCells news = true) :
    Src P sz t (.slice (some ⟨b, off, none⟩) k c) k news w :=
  Src.ofSlice w (tyElem_run ht) ⟨b, off, none⟩ k c news hl (fun j u hj => by rw [Addr.add_lit]; exact hc j u hj) (oneCells_spec h1)
theorem src_nil {t e c sz : Nat} (ht : tyElem P t = some e) : Src P sz t (.slice none 0 c) 0 [] w := Src.ofNil w (tyElem_run ht) c
end
end Go.Mk
