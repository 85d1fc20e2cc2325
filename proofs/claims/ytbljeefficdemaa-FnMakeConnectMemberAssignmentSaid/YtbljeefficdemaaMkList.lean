/- Entries of memory turned: dropped, frozen, made. No statement of a seat stands here. -/
import Derived.Test.YtbljeefficdemaaMkMsg
namespace Go.Mk
open Go

section
variable {w0 w w' : World} {X Z : Nat → Prop} {m : List Ent}

theorem Mem.tail {e : Ent} (h : Mem w0 X Z (e :: m) w) : Mem w0 X Z m w := by
  have hin : ∀ b, b ∈ muts m → b ∈ muts (e :: m) := fun b hb => by simp only [muts, List.mem_append]; exact .inr hb
  refine ⟨h.agr, h.sub, ?_, fun b hb => h.own b (hin b hb), ?_⟩
  · have := h.nodup
    simp only [muts, List.nodup_append] at this
    exact this.2.1
  · intro x hx
    refine Ent.holds_move (fun k hk hy => ⟨rfl, ?_⟩) (h.all x (List.mem_cons_of_mem _ hx)) (fun _ _ => rfl)
    rintro (hz | hz)
    · exact hy (.inl hz)
    · exact hy (.inr (hin k hz))

/-- An entry that is not written is turned into another. -/
theorem Mem.putFrozen (h : Mem w0 X Z m w) {i : Nat} {e e' : Ent} (hi : entAt m i = some e) (he : e.mut = []) (he' : e'.mut = []) (hh : e'.holds w (Yof w0 Z m)) : Mem w0 X Z (putAt m i e') w := by
  have hmu : muts (putAt m i e') = muts m := muts_putAt hi (by rw [he, he'])
  have hy : Yof w0 Z (putAt m i e') = Yof w0 Z m := by funext x; simp [Yof, hmu]
  refine ⟨h.agr, h.sub, by rw [hmu]; exact h.nodup, by rw [hmu]; exact h.own, ?_⟩
  rw [hy]
  intro x hx
  rcases mem_putAt hx with rfl | ⟨j, _, hj⟩
  · exact hh
  · exact h.all x (entAt_mem hj)

/-- A row that is not appended to any more, as a slice. -/
theorem Mem.freezeRow (h : Mem w0 X Z m w) {i e sz n : Nat} {v : Value} {xs : List Value} {l : List DD} {st : Bool} (hi : entAt m i = some (.row e sz v n xs)) (hx : ∀ k, v.ownBlock = some k → ¬ X k)
    (he : RepE w (Yof w0 Z m) sz l xs) (hn : l.length = n) (hst : v = .slice none 0 0 → st = false) : Mem w0 X Z (putAt m i (.rep (.sl st sz l) [v])) w := by
  have hrow := h.row hi
  have hsub : ∀ {m : List Ent} {i : Nat} {b : Nat}, entAt m i = some (.row e sz v n xs) → b ∈ muts (putAt m i (.rep (.sl st sz l) [v])) → b ∈ muts m := by
    intro m
    induction m with
    | nil => intro i b h _; simp [entAt] at h
    | cons x r ih =>
      intro i b h hb
      cases i with
      | zero =>
        simp only [putAt, muts, Ent.mut, List.nil_append] at hb
        simp only [muts, List.mem_append]; exact .inr hb
      | succ i =>
        simp only [putAt, muts, List.mem_append] at hb ⊢
        rcases hb with hb | hb
        · exact .inl hb
        · exact .inr (ih h hb)
  have hnd : ∀ {m : List Ent} {i : Nat}, (muts m).Nodup → entAt m i = some (.row e sz v n xs) → (muts (putAt m i (.rep (.sl st sz l) [v]))).Nodup ∧ (∀ k, v.ownBlock = some k → k ∉ muts (putAt m i (.rep (.sl st sz l) [v]))) := by
    intro m
    induction m with
    | nil => intro i _ h; simp [entAt] at h
    | cons x r ih =>
      intro i hn h
      cases i with
      | zero =>
        simp only [entAt, Option.some.injEq] at h
        subst h
        simp only [putAt, muts, Ent.mut, List.nil_append, List.nodup_append] at hn ⊢
        exact ⟨hn.2.1, fun k hk hk' => hn.2.2 k (by simp [hk]) k hk' rfl⟩
      | succ i =>
        simp only [putAt, muts, List.nodup_append, List.mem_append, not_or] at hn ⊢
        have hr := ih hn.2.1 h
        refine ⟨⟨hn.1, hr.1, fun a ha b hb hab => hn.2.2 a ha b (hsub h hb) hab⟩, fun k hk => ⟨?_, hr.2 k hk⟩⟩
        exact fun hkx => hn.2.2 k hkx k (muts_mem (entAt_mem (m := r) h) (by simp [Ent.mut, hk])) rfl
  have hN := hnd h.nodup hi
  have hmv : ∀ k, k < w.heap.size → ¬ Yof w0 Z m k → w.heap[k]? = w.heap[k]? ∧ ¬ Yof w0 Z (putAt m i (.rep (.sl st sz l) [v])) k := fun k _ hy => ⟨rfl, by
    rintro (hz | hz)
    · exact hy (.inl hz)
    · exact hy (.inr (hsub hi hz))⟩
  refine ⟨h.agr, h.sub, hN.1, fun b hb => h.own b (hsub hi hb), ?_⟩
  intro x hx'
  rcases mem_putAt hx' with rfl | ⟨j, _, hj⟩
  · have hE := RepE.move hmv sz l xs he
    simp only [Ent.holds, Rep]
    rcases hrow.2 with ⟨rfl, hn0⟩ | ⟨g, cap, cur, rfl, _, hg, hnc, hcm, hcs, htake⟩
    · left
      exact ⟨List.eq_nil_of_length_eq_zero (by omega), none, rfl, fun h => by rw [hst rfl] at h; cases h⟩
    · right
      refine ⟨g, 0, cap, xs, by rw [hn], by omega, ?_, hE⟩
      intro j u hj
      refine ⟨?_, ?_⟩
      · rintro (hz | hz)
        · have hgx := (h.own g (muts_mem (entAt_mem hi) (by simp [Ent.mut, Value.ownBlock]))).2 hz.1
          exact hx g rfl hgx
        · exact hN.2 g rfl hz
      · rw [Nat.zero_add]
        have hlt : j < n * sz := by have := (List.getElem?_eq_some_iff.1 hj).1; rw [hrow.1] at this; exact this
        rw [← htake, List.getElem?_take, if_pos hlt] at hj
        simp only [World.cell?, hg]
        simpa using hj
  · exact Ent.holds_move hmv (h.all x (entAt_mem hj)) (fun _ _ => rfl)

/-- A made row. -/
theorem Mem.addRow (h : Mem w0 X Z m w) (cs : List Value) {e sz cap : Nat} (hc : cs.length = cap * sz) (hm : cap ≤ maxLen) :
    Mem w0 X Z (.row e sz (.slice (some ⟨w.heap.size, 0, none⟩) 0 cap) 0 [] :: m) (w.alloc (.cells cs.toArray e)) := by
  have hb := h.alloc cs e
  have hmu : muts (.row e sz (.slice (some ⟨w.heap.size, 0, none⟩) 0 cap) 0 [] :: m) = muts (.blk w.heap.size cs e :: m) := by simp [muts, Ent.mut, Value.ownBlock]
  have hy : Yof w0 Z (.row e sz (.slice (some ⟨w.heap.size, 0, none⟩) 0 cap) 0 [] :: m) = Yof w0 Z (.blk w.heap.size cs e :: m) := by funext x; simp only [Yof, hmu]
  refine ⟨hb.agr, hb.sub, by rw [hmu]; exact hb.nodup, by rw [hmu]; exact hb.own, ?_⟩
  rw [hy]
  intro x hx
  rcases List.mem_cons.1 hx with rfl | hx
  · exact World.ownsRow_made w cs.toArray cap (Nat.zero_le _) hm (by simpa using hc)
  · exact hb.all x (List.mem_cons_of_mem _ hx)
/-- A row of nothing. -/
theorem Mem.addNil (h : Mem w0 X Z m w) (e sz : Nat) : Mem w0 X Z (.row e sz (.slice none 0 0) 0 [] :: m) w := by
  have hmu : muts (.row e sz (.slice none 0 0) 0 [] :: m) = muts m := by simp [muts, Ent.mut, Value.ownBlock]
  have hy : Yof w0 Z (.row e sz (.slice none 0 0) 0 [] :: m) = Yof w0 Z m := by funext x; simp only [Yof, hmu]
  refine ⟨h.agr, h.sub, by rw [hmu]; exact h.nodup, by rw [hmu]; exact h.own, ?_⟩
  rw [hy]
  intro x hx
  rcases List.mem_cons.1 hx with rfl | hx
  · exact World.ownsRow_nil w 0 e sz
  · exact h.all x hx
end

section
variable {P : Program} {ops : Array Oper} {Q : Exit → Act → World → Prop} {rest : List Oper} {a : Act} {w w0 : World} {n : Nat} {l : List (Nat × Value)} {X Z : Nat → Prop} {m : List Ent}
variable {d : Nat} {ty : Nat} {ps : String} {af : Array Edge}

/-- make([]T, 0, cap) -/
theorem o_make0 {t e sz by_ cap : Nat} {z : Value} {c : Operand} (hk : Kn n l a) (hm : Mem w0 X Z m w) (ht : rowTy P t = some (e, sz, by_)) (hz : tyZero P e = some z) (hc : ev l c = some (.int .i64 (cap : Int))) (hcap : cap ≤ maxLen) (hb : cap * by_ ≤ 140737488355328) (hd : Nat.blt d n = true)
    (K : ∀ a' b w', w0.heap.size ≤ b → Kn n ((d, .slice (some ⟨b, 0, none⟩) 0 cap) :: l) a' → Mem w0 X Z (.row e sz (.slice (some ⟨b, 0, none⟩) 0 cap) 0 [] :: m) w' → wpList P ops Q rest a' w') :
    wpList P ops Q (⟨some d, .makeSlice t (.const (.int .i64 0)) c, ty, ps, af, none⟩ :: rest) a w := by
  obtain ⟨i, z', h1, h2, h3, h4, rfl, rfl⟩ := rowTy_spec ht
  have hz' : z' = z := by unfold tyZero at hz; rw [h2] at hz; simp [h3] at hz; exact hz
  subst hz'
  have hcap' : cap ≤ 9223372036854775807 := by simpa [maxLen] using hcap
  have hr := run_make (P := P) w t e i z' h1 h2 h3 .i64 .i64 0 (cap : Int) (by omega) (by omega) (by rw [← Int.natCast_mul, Nat.mul_comm]; omega) (by omega)
  have e1 : ((cap : Nat) : Int).toNat = cap := by omega
  rw [e1] at hr
  simp only [Int.toNat_zero] at hr
  refine step_runs (v := .slice (some ⟨w.heap.size, 0, none⟩) 0 cap) (w' := w.alloc (.cells (madeCells z'.cells (cap * i.size)).toList.toArray e)) hk rfl rfl hd ?_ fun a' hk' => K a' _ _ hm.agr.size hk' (hm.addRow _ ?_ hcap)
  · unfold Runs execOp
    have hy : a.eval (.const (.int .i64 0)) = .int .i64 0 := rfl
    simp only [Sem.run_bind, hk.eval hc, hy, hr, Result.andThen_ok, Sem.run_pure, Array.toArray_toList]
  · simp [madeCells]

theorem repE_bs {w : World} {Y : Nat → Prop} : ∀ {s : List UInt8} {cs : List Value}, RepE w Y 1 (s.map ddB) cs → cs = bv s
  | [], cs, h => by
    simp only [List.map_nil] at h
    unfold RepE at h
    simp [h, bv]
  | y :: r, cs, h => by
    simp only [List.map_cons] at h
    unfold RepE at h
    obtain ⟨c1, c2, rfl, _, h6, h7⟩ := h
    simp only [ddB, Rep] at h6
    subst h6
    rw [repE_bs h7]
    rfl
theorem repE_bv {w : World} {Y : Nat → Prop} : ∀ (s : List UInt8), RepE w Y 1 (s.map ddB) (bv s)
  | [] => by simp [RepE, bv]
  | y :: r => by
    simp only [List.map_cons, RepE, bv]
    exact ⟨[.int .u8 y.toNat], _, rfl, rfl, by simp [Rep, ddB], repE_bv r⟩
theorem pushes : ∀ (s : List UInt8) (acc : List UInt8), (s.map fun b => (b.toNat : Int)).foldl (fun r n => r.push (UInt8.ofNat n.toNat)) (bs acc) = bs (acc ++ s)
  | [], acc => by simp
  | b :: r, acc => by
    simp only [List.map_cons, List.foldl_cons]
    have : (bs acc).push (UInt8.ofNat ((b.toNat : Int)).toNat) = bs (acc ++ [b]) := by simp [bs, ByteArray.push]
    rw [this, pushes r (acc ++ [b])]
    simp
theorem bytes_run {P : Program} {w : World} {Y : Nat → Prop} {s : List UInt8} {x : Value} (hR : Rep w Y (ddBs s) [x]) : (Conv.bytesToString x).run P w = .ok (.string (bs s)) w := by
  rcases rep_sl hR with ⟨h1, p, rfl, _⟩ | ⟨b, off, cap, cs, rfl, h2, h3, h4⟩
  · have : s = [] := by simpa using h1
    subst this
    cases p with
    | none => rfl
    | some a => exact run_bytesToString (P := P) w a 0 0 [] rfl
  · have hcs := repE_bs h4
    subst hcs
    have hl := run_loadCells' (P := P) (w := w) (b := b) (off := off) (cs := bv s) (Cel.at_ h3)
    rw [bv_length] at hl
    rw [List.length_map]
    have := run_bytesToString (P := P) w ⟨b, off, none⟩ s.length cap (s.map fun b => (b.toNat : Int)) (by rw [hl]; simp [bv])
    rw [this]
    have e := pushes s []
    simp only [List.nil_append] at e
    exact congrArg (fun z => Result.ok (Value.string z) w) e

def isBytesTy (P : Program) (t : Nat) : Bool := match P.underlying t with
  | some (.slice e) => match P.underlying e with
    | some (.int .u8) => true
    | _ => false
  | _ => false
theorem isBytesTy_run {P : Program} {t : Nat} (h : isBytesTy P t = true) : ∃ e, P.underlying t = some (.slice e) ∧ P.underlying e = some (.int .u8) := by
  unfold isBytesTy at h
  split at h
  · rename_i e he
    split at h
    · rename_i hu; exact ⟨e, he, hu⟩
    · cases h
  · cases h
theorem o_bytesToStr {x : Operand} {st dt : Nat} {Y : Nat → Prop} {s : List UInt8} {v : Value} (hk : Kn n l a) (hs : isBytesTy P st = true) (ht : isStrTy P dt = true) (hx : ev l x = some v) (hR : Rep w Y (ddBs s) [v]) (hd : Nat.blt d n = true)
    (K : ∀ a', Kn n ((d, .string (bs s)) :: l) a' → wpList P ops Q rest a' w) :
    wpList P ops Q (⟨some d, .convert st dt x, ty, ps, af, none⟩ :: rest) a w := by
  refine step_runs hk rfl rfl hd ?_ K
  obtain ⟨e, h1, h2⟩ := isBytesTy_run hs
  have h3 := isStrTy_run ht
  obtain ⟨p, cap, rfl⟩ := rep_sl_len hR
  have hr := bytes_run (P := P) hR
  unfold Runs execOp
  simp only [Sem.run_bind, hk.eval hx, run_convert_bytes_string w st dt e _ _ _ h1 h2 h3, hr, Result.andThen_ok, Sem.run_pure]
/-- A slice of one thing. -/
theorem o_build1 {t e sz by_ : Nat} {x : Operand} {v : Value} {c : List Value} (hk : Kn n l a) (hm : Mem w0 X Z m w) (ht : rowTy P t = some (e, sz, by_)) (hx : ev l x = some v) (hc : cellsOf v = c) (hl : c.length = sz) (hpos : Nat.blt 0 sz = true) (hsmall : Nat.ble sz 16777216 = true) (hd : Nat.blt d n = true)
    (K : ∀ a' b w', Kn n ((d, .slice (some ⟨b, 0, none⟩) 1 1) :: l) a' → Mem w0 X Z (.blk b c e :: m) w' → wpList P ops Q rest a' w') :
    wpList P ops Q (⟨some d, .buildSlice t 1 #[(0, x)], ty, ps, af, none⟩ :: rest) a w := by
  obtain ⟨i, z, h1, h2, h3, h4, rfl, rfl⟩ := rowTy_spec ht
  have hpos' : 0 < i.size := by simpa [Nat.blt_eq] using hpos
  have hsm' := Nat.le_of_ble_eq_true hsmall
  have hz : tyZero P e = some z := by unfold tyZero; rw [h2]; exact h3
  refine step_runs (v := .slice (some ⟨w.heap.size, 0, none⟩) 1 1) (w' := w.alloc (.cells c.toArray e)) hk rfl rfl hd ?_ fun a' hk' => K a' _ _ hk' (hm.alloc c e)
  unfold Runs execOp
  have hsz : (sizeOf e).run P w = .ok i.size w := by unfold sizeOf; simp only [Sem.run_bind, run_typeInfo' h2, Result.andThen_ok, Sem.run_pure]
  have hn1 : ¬ 1 * i.size > 2 ^ 24 := by omega
  have hn2 : ¬ 1 * i.size = 0 := by omega
  have hfill : Instr.fill (fun j => some (j * i.size, i.size)) ((Array.range (1 * i.size)).map fun j => z.cells[j % z.cells.size]!) [(0, v)] = some c.toArray := by
    have e0 : ((Array.range (1 * i.size)).map fun j => z.cells[j % z.cells.size]!) = (((List.range i.size).map fun j => z.cells[j % z.cells.size]!)).toArray := by
      apply Array.ext'
      simp
    rw [e0, fill_step (off := 0) hc (by simp [hl]) (by simp [hl])]
    simp only [Instr.fill, Option.some.injEq]
    congr 1
    rw [spl_eq (by simp [hl])]
    simp [hl]
  have e2 : ((#[((0 : Nat), x)].map fun (i, x) => (i, a.eval x)).toList) = [(0, v)] := by simp [hk.eval hx]
  simp only [Sem.run_bind, Instr.buildSlice, run_underlying h1, Result.andThen_ok, hsz, if_neg hn1, if_neg hn2, zeroValue_run hz, Sem.run_pure, e2, hfill, newRow, run_newObj]
  rfl
end

theorem rep_T5 {w : World} {Y : Nat → Prop} {t : T} {c : List Value} (h : Rep w Y (ddT t) c) : ∃ cs p cap cu, c = [.int .i64 t.n, cs, .bool t.z, .slice p t.l.length cap, cu] := by
  obtain ⟨cs, cl, cu, rfl, _, h2, _⟩ := rep_T h
  obtain ⟨p, cap, rfl⟩ := rep_sl_len h2
  exact ⟨cs, p, cap, cu, by rw [List.length_map]⟩
theorem rep_T_s {w : World} {Y : Nat → Prop} {t : T} {x1 x2 x3 x4 x5 : Value} (h : Rep w Y (ddT t) [x1, x2, x3, x4, x5]) : Rep w Y (ddBs t.s) [x2] := (rep_T_parts h).2.1
theorem rep_T_l {w : World} {Y : Nat → Prop} {t : T} {x1 x2 x3 x4 x5 : Value} (h : Rep w Y (ddT t) [x1, x2, x3, x4, x5]) : Rep w Y (.sl false 5 (t.l.map ddT)) [x4] := (rep_T_parts h).2.2.2.1
theorem rep_T_u {w : World} {Y : Nat → Prop} {t : T} {x1 x2 x3 x4 x5 : Value} (h : Rep w Y (ddT t) [x1, x2, x3, x4, x5]) : Rep w Y (ddTags t.u) [x5] := (rep_T_parts h).2.2.2.2

theorem take_succ_map {α β : Type} (f : α → β) (l : List α) (k : Nat) (d : α) (h : k < l.length) : (l.take (k + 1)).map f = (l.take k).map f ++ [f (l.getD k d)] := by
  rw [List.take_succ_eq_append_getElem h, List.map_append]
  simp [h]

/-- parts of a struct -/
theorem RepL.cons1 {w : World} {Y : Nat → Prop} {d : DD} {r : List DD} {x : Value} {c : List Value} (h : Rep w Y d [x]) (hr : RepL w Y r c) : RepL w Y (d :: r) (x :: c) := by
  simp only [RepL]; exact ⟨[x], c, rfl, h, hr⟩
theorem RepL.consN {w : World} {Y : Nat → Prop} {d : DD} {r : List DD} {b c : List Value} (h : Rep w Y d b) (hr : RepL w Y r c) : RepL w Y (d :: r) (b ++ c) := by
  simp only [RepL]; exact ⟨b, c, rfl, h, hr⟩
theorem RepL.nil {w : World} {Y : Nat → Prop} : RepL w Y [] [] := by simp [RepL]
theorem rep_v {w : World} {Y : Nat → Prop} (x : Value) : Rep w Y (.v x) [x] := by simp [Rep]
theorem rep_agg {w : World} {Y : Nat → Prop} {l : List DD} {c : List Value} (h : RepL w Y l c) : Rep w Y (.agg l) c := by simp only [Rep]; exact h
theorem rep_agg_inv {w : World} {Y : Nat → Prop} {l : List DD} {c : List Value} (h : Rep w Y (.agg l) c) : RepL w Y l c := by simpa only [Rep] using h

/-- A round's thing is laid behind the others. -/
theorem Mem.elsPush {w0 w : World} {X Z : Nat → Prop} {m : List Ent} (hm : Mem w0 X Z m w) {i sz : Nat} {ds : List DD} {xs c : List Value} {d : DD} (hi : entAt m i = some (.els sz ds xs)) (hR : Rep w (Yof w0 Z m) d c) (hl : c.length = sz) :
    Mem w0 X Z (putAt m i (.els sz (ds ++ [d]) (xs ++ c))) w :=
  hm.putFrozen hi rfl rfl (RepE.append (hm.all _ (entAt_mem hi)) (RepE.one hR hl))
theorem Mem.els {w0 w : World} {X Z : Nat → Prop} {m : List Ent} (hm : Mem w0 X Z m w) {i sz : Nat} {ds : List DD} {xs : List Value} (hi : entAt m i = some (.els sz ds xs)) : RepE w (Yof w0 Z m) sz ds xs := hm.all _ (entAt_mem hi)

/-- The beginning of a region whose order is drawn. -/
theorem d_startM {P : Program} {Q : Exit → Act → World → Prop} {a : Act} {w0 w : World} {X Z : Nat → Prop} {m : List Ent} {id : Nat} {ops : List Oper} (K : Nat) (hf : P.follows .mixedOrders = true) (hm : Mem w0 X Z m w)
    (h : ∀ w, Mem w0 X Z m w → wpAnyS P ops.toArray Q (Mem w0 X Z m) K ops.length (Array.replicate ops.length false) a w) : (Code.region id ops.toArray true).wp P Q a w :=
  d_start (M := Mem w0 X Z m) (K := K) hf (h _ (hm.pure (Agr.drew _ _)))

/-- Nobody of the caller's old blocks owns a row that was made here. -/
theorem noX (v : Value) : ∀ k, v.ownBlock = some k → ¬ Nob k := fun _ _ h => h

/-- Some of the entries, in another order. -/
def pickE (m : List Ent) : List Nat → Option (List Ent)
  | [] => some []
  | i :: r => match entAt m i, pickE m r with
    | some e, some es => some (e :: es)
    | _, _ => none
def distinct : List Nat → Bool
  | [] => true
  | i :: r => (r.all fun j => !Nat.beq i j) && distinct r
theorem pickE_mem {m : List Ent} : ∀ {is : List Nat} {m' : List Ent}, pickE m is = some m' → ∀ {x : Ent}, x ∈ m' → ∃ i ∈ is, entAt m i = some x
  | [], m', h, x, hx => by simp only [pickE, Option.some.injEq] at h; subst h; cases hx
  | i :: r, m', h, x, hx => by
    simp only [pickE] at h
    split at h
    · rename_i e es h1 h2
      simp only [Option.some.injEq] at h
      subst h
      rcases List.mem_cons.1 hx with rfl | hx
      · exact ⟨i, List.mem_cons_self, h1⟩
      · obtain ⟨j, hj, hj'⟩ := pickE_mem h2 hx
        exact ⟨j, List.mem_cons_of_mem _ hj, hj'⟩
    · cases h
theorem muts_inv : ∀ {m : List Ent} {b : Nat}, b ∈ muts m → ∃ e ∈ m, b ∈ e.mut
  | [], b, h => by simp [muts] at h
  | x :: r, b, h => by
    simp only [muts, List.mem_append] at h
    rcases h with h | h
    · exact ⟨x, List.mem_cons_self, h⟩
    · obtain ⟨e, he, hb⟩ := muts_inv h
      exact ⟨e, List.mem_cons_of_mem _ he, hb⟩
theorem Mem.pick {w0 w : World} {X Z : Nat → Prop} {m m' : List Ent} (h : Mem w0 X Z m w) (is : List Nat) (hd : distinct is = true) (hp : pickE m is = some m') : Mem w0 X Z m' w := by
  have hin : ∀ b, b ∈ muts m' → b ∈ muts m := fun b hb => by
    obtain ⟨e, he, hb⟩ := muts_inv hb
    obtain ⟨i, _, hi⟩ := pickE_mem hp he
    exact muts_mem (entAt_mem hi) hb
  have hnd : ∀ {is : List Nat} {m' : List Ent}, distinct is = true → pickE m is = some m' → (muts m').Nodup := by
    intro is
    induction is with
    | nil => intro m' _ hp; simp only [pickE, Option.some.injEq] at hp; subst hp; simp [muts]
    | cons i r ih =>
      intro m' hd hp
      simp only [pickE] at hp
      split at hp
      · rename_i e es h1 h2
        simp only [Option.some.injEq] at hp
        subst hp
        simp only [distinct, Bool.and_eq_true, List.all_eq_true, Bool.not_eq_true'] at hd
        simp only [muts, List.nodup_append]
        refine ⟨?_, ih hd.2 h2, ?_⟩
        · cases e with
          | row _ _ v _ _ => simp only [Ent.mut]; cases v.ownBlock <;> simp
          | _ => simp [Ent.mut]
        · intro a ha b hb hab
          subst hab
          obtain ⟨e', he', hb'⟩ := muts_inv hb
          obtain ⟨j, hj, hj'⟩ := pickE_mem h2 he'
          have hne : i ≠ j := fun e => by have := hd.1 j hj; subst e; simp at this
          exact muts_apart h.nodup hne h1 hj' a ha hb'
      · cases hp
  refine ⟨h.agr, h.sub, hnd hd hp, fun b hb => h.own b (hin b hb), ?_⟩
  intro x hx
  obtain ⟨i, _, hi⟩ := pickE_mem hp hx
  refine Ent.holds_move (fun k _ hy => ⟨rfl, ?_⟩) (h.all x (entAt_mem hi)) (fun _ _ => rfl)
  rintro (hz | hz)
  · exact hy (.inl hz)
  · exact hy (.inr (hin k hz))

theorem Mem.out {w0 w : World} {X Z : Nat → Prop} {m : List Ent} (_ : Mem w0 X Z m w) {d : DD} {c : List Value} (hr : Rep w (Yof w0 Z m) d c) : Rep w (fun b => b < w0.heap.size ∧ Z b) d c := Mem.yof hr
theorem Mem.addEls {w0 w : World} {X Z : Nat → Prop} {m : List Ent} (hm : Mem w0 X Z m w) (sz : Nat) : Mem w0 X Z (.els sz [] [] :: m) w := hm.add (e := .els sz [] []) rfl (RepE.nil w (Yof w0 Z m) sz)
theorem cells1 {v : Value} (h : v.oneCell' = true) : cellsOf v = [v] := by cases v <;> first | rfl | cases h
theorem rep_sl_one1 {w : World} {Y : Nat → Prop} {st : Bool} {e : Nat} {l : List DD} {c : Value} (h : Rep w Y (.sl st e l) [c]) : c.oneCell' = true := by
  have := rep_sl_one h
  simpa [oneCells] using this
theorem Mem.addV {w0 w : World} {X Z : Nat → Prop} {m : List Ent} (hm : Mem w0 X Z m w) (x : Value) : Mem w0 X Z (.rep (.v x) [x] :: m) w := hm.add (e := .rep (.v x) [x]) rfl (rep_v (w := w) (Y := Yof w0 Z m) x)
theorem one_cons {v : Value} {r : List Value} (h : v.oneCell' = true) (hr : oneCells r = true) : oneCells (v :: r) = true := by simp [oneCells, h, hr]
theorem row_one {w : World} {e sz n : Nat} {v : Value} {xs : List Value} (h : w.ownsRow 0 e sz v n xs) : v.oneCell' = true := by
  rcases h.2 with ⟨rfl, _⟩ | ⟨g, cap, cur, rfl, _⟩ <;> rfl
theorem one1 {v : Value} (h : v.oneCell' = true) : oneCells [v] = true := by simp [oneCells, h]
theorem and1_i64 (n : Int) : ibits .and .i64 n 1 = some (n % 2) := by
  have h : (BitVec.ofInt 64 n &&& BitVec.ofInt 64 1).toNat = (n % 2).toNat := by
    have h1 : (BitVec.ofInt 64 1) = 1#64 := by decide
    rw [h1, BitVec.toNat_and]
    have h2 : (1#64).toNat = 1 := by decide
    rw [h2, Nat.and_one_is_mod]
    have h3 : (BitVec.ofInt 64 n).toNat = (n % 18446744073709551616).toNat := by rw [BitVec.toNat_ofInt]; rfl
    rw [h3]
    omega
  show some (IntKind.i64.wrap (((BitVec.ofInt 64 n &&& BitVec.ofInt 64 1).toNat : Nat) : Int)) = _
  rw [h, IntWalk.i64_in _ (by omega)]
  congr 1
  omega
theorem small_getD {t : T} (h : t.small = true) (k : Nat) : (t.l.getD k T.nil).small = true := small_at h k
end Go.Mk
