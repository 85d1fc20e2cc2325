/- The steps that change memory. No statement of a seat stands here. -/
import Derived.Test.YtbljeefficdemaaMkOps
namespace Go.Mk
open Go

def ovl : List Value → List Value → List Value
  | [], cs => cs
  | v :: vs, [] => v :: vs
  | v :: vs, _ :: cs => v :: ovl vs cs
def spl : List Value → Nat → List Value → List Value
  | cs, 0, vs => ovl vs cs
  | [], _ + 1, _ => []
  | c :: cs, k + 1, vs => c :: spl cs k vs
theorem ovl_eq : ∀ {vs cs : List Value}, vs.length ≤ cs.length → ovl vs cs = vs ++ cs.drop vs.length
  | [], cs, _ => by simp [ovl]
  | v :: vs, [], h => by simp at h
  | v :: vs, c :: cs, h => by
    have h' : vs.length ≤ cs.length := by simpa using h
    simp [ovl, ovl_eq h']
theorem spl_eq : ∀ {cs : List Value} {off : Nat} {vs : List Value}, off + vs.length ≤ cs.length → spl cs off vs = cs.take off ++ vs ++ cs.drop (off + vs.length)
  | cs, 0, vs, h => by
    have h' : vs.length ≤ cs.length := by omega
    cases cs <;> simp [spl, ovl_eq h']
  | [], k + 1, vs, h => by simp at h
  | c :: cs, k + 1, vs, h => by
    have h' : k + vs.length ≤ cs.length := by simp only [List.length_cons] at h; omega
    simp only [spl, spl_eq h', List.take_succ_cons, List.cons_append]
    rw [show k + 1 + vs.length = (k + vs.length) + 1 by omega, List.drop_succ_cons]
theorem spl_length {cs : List Value} {off : Nat} {vs : List Value} (h : off + vs.length ≤ cs.length) : (spl cs off vs).length = cs.length := by
  rw [spl_eq h]
  simp
  omega

/-- An entry in its place is turned. -/
def putAt : List Ent → Nat → Ent → List Ent
  | [], _, _ => []
  | _ :: r, 0, e => e :: r
  | x :: r, i + 1, e => x :: putAt r i e

def entAt : List Ent → Nat → Option Ent
  | [], _ => none
  | x :: _, 0 => some x
  | _ :: r, i + 1 => entAt r i

theorem entAt_mem : ∀ {m : List Ent} {i : Nat} {e : Ent}, entAt m i = some e → e ∈ m
  | [], i, e, h => by simp [entAt] at h
  | x :: r, 0, e, h => by simp only [entAt, Option.some.injEq] at h; subst h; exact List.mem_cons_self
  | x :: r, i + 1, e, h => List.mem_cons_of_mem _ (entAt_mem (m := r) h)

theorem muts_putAt : ∀ {m : List Ent} {i : Nat} {e e' : Ent}, entAt m i = some e → e'.mut = e.mut → muts (putAt m i e') = muts m
  | [], i, e, e', h, _ => by simp [entAt] at h
  | x :: r, 0, e, e', h, he => by simp only [entAt, Option.some.injEq] at h; subst h; simp [putAt, muts, he]
  | x :: r, i + 1, e, e', h, he => by simp [putAt, muts, muts_putAt (m := r) h he]

theorem mem_entAt : ∀ {m : List Ent} {x : Ent}, x ∈ m → ∃ j, entAt m j = some x
  | [], x, h => by cases h
  | z :: r, x, h => by
    rcases List.mem_cons.1 h with rfl | h
    · exact ⟨0, rfl⟩
    · obtain ⟨j, hj⟩ := mem_entAt (m := r) h
      exact ⟨j + 1, hj⟩

theorem mem_putAt : ∀ {m : List Ent} {i : Nat} {e' x : Ent}, x ∈ putAt m i e' → x = e' ∨ (∃ j, j ≠ i ∧ entAt m j = some x)
  | [], i, e', x, h => by simp [putAt] at h
  | y :: r, 0, e', x, h => by
    rcases List.mem_cons.1 h with h | h
    · exact .inl h
    · right
      obtain ⟨j, hj⟩ := mem_entAt h
      exact ⟨j + 1, by omega, hj⟩
  | y :: r, i + 1, e', x, h => by
    rcases List.mem_cons.1 h with rfl | h
    · exact .inr ⟨0, by omega, rfl⟩
    · rcases mem_putAt (m := r) h with h | ⟨j, h1, h2⟩
      · exact .inl h
      · exact .inr ⟨j + 1, by omega, h2⟩

theorem muts_apart : ∀ {m : List Ent} {i j : Nat} {x y : Ent}, (muts m).Nodup → i ≠ j → entAt m i = some x → entAt m j = some y → ∀ b, b ∈ x.mut → b ∉ y.mut
  | [], i, j, x, y, _, _, h, _, _, _ => by simp [entAt] at h
  | z :: r, 0, 0, x, y, _, hne, _, _, _, _ => absurd rfl hne
  | z :: r, 0, j + 1, x, y, hn, _, hx, hy, b, hb => by
    simp only [entAt, Option.some.injEq] at hx
    subst hx
    simp only [muts, List.nodup_append] at hn
    exact fun hb' => hn.2.2 b hb b (muts_mem (entAt_mem (m := r) hy) hb') rfl
  | z :: r, i + 1, 0, x, y, hn, _, hx, hy, b, hb => by
    simp only [entAt, Option.some.injEq] at hy
    subst hy
    simp only [muts, List.nodup_append] at hn
    exact fun hb' => hn.2.2 b hb' b (muts_mem (entAt_mem (m := r) hx) hb) rfl
  | z :: r, i + 1, j + 1, x, y, hn, hne, hx, hy, b, hb => by
    simp only [muts, List.nodup_append] at hn
    exact muts_apart (m := r) hn.2.1 (by omega) hx hy b hb

/-- A step that writes one block at hand. -/
theorem Mem.write {w0 w w' : World} {X Z : Nat → Prop} {m : List Ent} (h : Mem w0 X Z m w) {i : Nat} {b : Nat} {cs cs' : List Value} {e : TypeId}
    (hi : entAt m i = some (.blk b cs e)) (hp : Agr (fun x => x = b) w w') (hb : w'.heap[b]? = some (.cells cs'.toArray e (0, 0))) : Mem w0 X Z (putAt m i (.blk b cs' e)) w' := by
  have hmem : b ∈ muts m := muts_mem (entAt_mem hi) (by simp [Ent.mut])
  have hmu : muts (putAt m i (.blk b cs' e)) = muts m := muts_putAt hi rfl
  have hy : Yof w0 Z (putAt m i (.blk b cs' e)) = Yof w0 Z m := by funext x; simp [Yof, hmu]
  refine ⟨h.agr.trans hp (fun _ _ x => x) (fun k hk hkb => by subst hkb; exact (h.own _ hmem).2 hk), h.sub, by rw [hmu]; exact h.nodup, ?_, ?_⟩
  · rw [hmu]
    exact fun x hx => ⟨Nat.lt_of_lt_of_le (h.own x hx).1 hp.size, (h.own x hx).2⟩
  · rw [hy]
    intro x hx
    rcases mem_putAt hx with rfl | ⟨j, hji, hj⟩
    · exact hb
    · have hxm := entAt_mem hj
      refine Ent.holds_move (fun k hk hyk => ⟨hp.block k hk (fun hkb => hyk (.inr (hkb ▸ hmem))), hyk⟩) (h.all x hxm) (fun k hk => ?_)
      exact hp.block k (h.own k (muts_mem hxm hk)).1 (fun hkb => muts_apart h.nodup (Ne.symm hji) hi hj b (by simp [Ent.mut]) (hkb ▸ hk))

theorem Mem.cell_blk {w0 w : World} {X Z : Nat → Prop} {m : List Ent} (h : Mem w0 X Z m w) {i b off : Nat} {cs : List Value} {e : TypeId} {v : Value}
    (hi : entAt m i = some (.blk b cs e)) (hv : cs[off]? = some v) : w.cell? ⟨b, off, none⟩ = some v := by
  have := h.all _ (entAt_mem hi)
  simp only [Ent.holds] at this
  simp [World.cell?, this, hv]

theorem Mem.cells_blk {w0 w : World} {X Z : Nat → Prop} {m : List Ent} (h : Mem w0 X Z m w) {i b off : Nat} {cs vs : List Value} {e : TypeId}
    (hi : entAt m i = some (.blk b cs e)) (hv : (cs.drop off).take vs.length = vs) : ∀ j u, vs[j]? = some u → w.cell? ⟨b, off + j, none⟩ = some u := fun j u hj => by
  refine h.cell_blk hi ?_
  have hlt : j < vs.length := (List.getElem?_eq_some_iff.1 hj).1
  rw [← hv, List.getElem?_take, if_pos hlt, List.getElem?_drop] at hj
  exact hj

theorem Mem.cell_cel {w0 w : World} {X Z : Nat → Prop} {m : List Ent} (h : Mem w0 X Z m w) {i b off : Nat} {cs : List Value} {v : Value} {j : Nat}
    (hi : entAt m i = some (.cel b off cs)) (hv : cs[j]? = some v) : w.cell? ⟨b, off + j, none⟩ = some v :=
  ((h.all _ (entAt_mem hi)) j v hv).2

theorem Mem.cells_cel {w0 w : World} {X Z : Nat → Prop} {m : List Ent} (h : Mem w0 X Z m w) {i b off : Nat} {cs vs : List Value} {k : Nat}
    (hi : entAt m i = some (.cel b off cs)) (hv : (cs.drop k).take vs.length = vs) : ∀ j u, vs[j]? = some u → w.cell? ⟨b, off + k + j, none⟩ = some u := fun j u hj => by
  rw [Nat.add_assoc]
  refine h.cell_cel hi ?_
  have hlt : j < vs.length := (List.getElem?_eq_some_iff.1 hj).1
  rw [← hv, List.getElem?_take, if_pos hlt, List.getElem?_drop] at hj
  exact hj

theorem setRow_agr (w : World) (g : Nat) (cs : Array Value) : Agr (fun x => x = g) w (w.setRow g cs) :=
  ⟨rfl, rfl, rfl, by simp [World.setRow], fun k _ hk => setRow_other w g k cs hk⟩

section
variable {P : Program} {ops : Array Oper} {Q : Exit → Act → World → Prop} {rest : List Oper} {a : Act} {w w0 : World} {n : Nat} {l : List (Nat × Value)} {X Z : Nat → Prop} {m : List Ent}
variable {d : Nat} {ty : Nat} {ps : String} {af : Array Edge}

/-- A value's own cells. -/
def cellsOf : Value → List Value
  | .agg cs => cs.toList
  | v => [v]
theorem cellsOf_eq (v : Value) : v.cells = (cellsOf v).toArray := by cases v <;> simp [Value.cells, cellsOf]

theorem o_box {x : Operand} {v : Value} {e : Nat} {cs : List Value} (hk : Kn n l a) (hm : Mem w0 X Z m w) (hx : ev l x = some v) (hcs : cellsOf v = cs) (hd : Nat.blt d n = true)
    (K : ∀ a' b w', Kn n ((d, .pointer (some ⟨b, 0, none⟩)) :: l) a' → Mem w0 X Z (.blk b cs e :: m) w' → wpList P ops Q rest a' w') :
    wpList P ops Q (⟨some d, .box e x, ty, ps, af, none⟩ :: rest) a w := by
  subst hcs
  refine step_runs (v := .pointer (some ⟨w.heap.size, 0, none⟩)) (w' := w.alloc (.cells v.cells e)) hk rfl rfl hd ?_ fun a' hk' => K a' _ _ hk' ?_
  · unfold Runs execOp
    simp [hk.eval hx, Instr.box, newVar, newRow]
  · rw [cellsOf_eq]; exact hm.alloc _ e

theorem o_alloc {e : Nat} {z : Value} {cs : List Value} (hk : Kn n l a) (hm : Mem w0 X Z m w) (hz : tyZero P e = some z) (hcs : cellsOf z = cs) (hd : Nat.blt d n = true)
    (K : ∀ a' b w', Kn n ((d, .pointer (some ⟨b, 0, none⟩)) :: l) a' → Mem w0 X Z (.blk b cs e :: m) w' → wpList P ops Q rest a' w') :
    wpList P ops Q (⟨some d, .alloc e, ty, ps, af, none⟩ :: rest) a w := by
  subst hcs
  refine step_runs (v := .pointer (some ⟨w.heap.size, 0, none⟩)) (w' := w.alloc (.cells z.cells e)) hk rfl rfl hd ?_ fun a' hk' => K a' _ _ hk' ?_
  · unfold Runs execOp
    simp [Instr.alloc, newVar, newRow, zeroValue_run hz]
  · rw [cellsOf_eq]; exact hm.alloc _ e

theorem Mem.rep {i : Nat} {dd : DD} {cs : List Value} (hm : Mem w0 X Z m w) (hi : entAt m i = some (.rep dd cs)) : Rep w (Yof w0 Z m) dd cs := hm.all _ (entAt_mem hi)

def oneCells : List Value → Bool
  | [] => true
  | v :: r => v.oneCell' && oneCells r
theorem oneCells_spec : ∀ {vs : List Value}, oneCells vs = true → ∀ v ∈ vs, v.oneCell' = true
  | [], _, _, h => by cases h
  | x :: r, h, v, hv => by
    simp only [oneCells, Bool.and_eq_true] at h
    rcases List.mem_cons.1 hv with rfl | hv
    · exact h.1
    · exact oneCells_spec h.2 v hv

theorem o_store {x y : Operand} {t s : Nat} {bl : Bool} {b off i : Nat} {v : Value} {cs vs : List Value} {e : Nat} (hk : Kn n l a) (hm : Mem w0 X Z m w) (ht : tySz P t = some (bl, s))
    (hx : ev l x = some (.pointer (some ⟨b, off, none⟩))) (hy : ev l y = some v) (hvs : cellsOf v = vs) (hs : vs.length = s) (h1 : oneCells vs = true) (hi : entAt m i = some (.blk b cs e)) (ho : off + vs.length ≤ cs.length)
    (K : ∀ a' w', Kn n l a' → Mem w0 X Z (putAt m i (.blk b (spl cs off vs) e)) w' → wpList P ops Q rest a' w') :
    wpList P ops Q (⟨none, .store t x y, ty, ps, af, none⟩ :: rest) a w := by
  subst hvs
  have hb := hm.all _ (entAt_mem hi)
  simp only [Ent.holds] at hb
  have hst := run_storeCells_at P b off e (cellsOf v) 0 cs.toArray w hb (by simpa using ho) (oneCells_spec h1)
  rw [Nat.add_zero] at hst
  refine step_runsU (w' := w.setRow b (spl cs off (cellsOf v)).toArray) hk rfl rfl ?_ fun a' hk' => K a' _ hk' ?_
  · unfold RunsU execOp
    have hsz : v.cells.size = s := by rw [cellsOf_eq]; simpa using hs
    simp [hk.eval hx, hk.eval hy, Instr.storeAt, Instr.sureAddr, storeVar, sizeOf_run ht, hsz]
    rw [show v.cells.toList = cellsOf v by rw [cellsOf_eq], hst]
    rw [spl_eq ho]
    rfl
  · exact hm.write hi (setRow_agr w b _) (setRow_heap w b cs.toArray _ e (0, 0) hb)

/-- The function is there and has a body. -/
def callable (P : Program) (f : Nat) : Bool := match P.funcs[f]? with
  | some fn => fn.name != "runtime.NumGoroutine" && fn.body.isSome
  | none => false

theorem callFunc_run {f : Nat} (h : callable P f = true) (args : Array Value) (w : World) : (callFunc f args).run P w = .ok (.enter f args) w := by
  unfold callable at h
  split at h
  · rename_i fn hf
    simp only [Bool.and_eq_true, bne_iff_ne, ne_eq] at h
    unfold callFunc
    have h2 : fn.body ≠ none := fun e => by rw [e] at h; simp at h
    simp [hf, h.1, h2]
  · cases h

/-- It returns. -/
def Ret (P : Program) (f : FuncId) (args : List Value) (w : World) (R : Value → World → Prop) : Prop := Calls P f args.toArray w fun e w' => ∃ v, e = .returned v ∧ R v w'

theorem Ret.mono {f : FuncId} {args : List Value} {R R' : Value → World → Prop} (h : Ret P f args w R) (hr : ∀ v w', R v w' → R' v w') : Ret P f args w R' :=
  Calls.mono h fun _ _ ⟨v, he, hv⟩ => ⟨v, he, hr _ _ hv⟩

theorem enter_run {f : Nat} {xs : List Operand} {vs : List Value} {tys : Array Nat} {o : Option Nat} (hk : Kn n l a) (hf : callable P f = true) (hxs : evs l xs vs) :
    (execOp a.eval ⟨o, .call ⟨.value (.func f), xs.toArray, tys⟩, ty, ps, af, none⟩).run P w = .ok (.enter f vs.toArray) w := by
  unfold execOp
  simp [resolve, Deferred.ofValue, Act.eval, invoke, callFunc_run hf, hk.evals hxs]

theorem o_call {f : Nat} {xs : List Operand} {vs : List Value} {tys : Array Nat} {R : Value → World → Prop} (hk : Kn n l a) (hf : callable P f = true) (hc : Ret P f vs w R) (hxs : evs l xs vs) (hd : Nat.blt d n = true)
    (K : ∀ v w' a', R v w' → Kn n ((d, v) :: l) a' → wpList P ops Q rest a' w') :
    wpList P ops Q (⟨some d, .call ⟨.value (.func f), xs.toArray, tys⟩, ty, ps, af, none⟩ :: rest) a w :=
  step_calls hk rfl rfl hd (enter_run hk hf hxs) hc K

theorem o_callU {f : Nat} {xs : List Operand} {vs : List Value} {tys : Array Nat} {R : Value → World → Prop} (hk : Kn n l a) (hf : callable P f = true) (hc : Ret P f vs w R) (hxs : evs l xs vs)
    (K : ∀ v w' a', R v w' → Kn n l a' → wpList P ops Q rest a' w') :
    wpList P ops Q (⟨none, .call ⟨.value (.func f), xs.toArray, tys⟩, ty, ps, af, none⟩ :: rest) a w :=
  step_callsU hk rfl rfl (enter_run hk hf hxs) hc K
end

/-! ### Code -/
section
variable {P : Program} {Q : Exit → Act → World → Prop} {a : Act} {w : World}
theorem c_region {id : Nat} {ops : List Oper} {y : Code} (h : wpList P ops.toArray (Exit.then (y.wp P Q) Q) ops a w) : (Code.seq (.region id ops.toArray false) y).wp P Q a w := wp_seq (wp_region_lit h)
theorem c_end {ops : Array Oper} {y : Code} (h : y.wp P Q a w) : wpList P ops (Exit.then (y.wp P Q) Q) [] a w := h
theorem c_cut {x y : Code} (J : Act → World → Prop) (hx : x.wp P (Exit.then J Q) a w) (hy : ∀ a w, J a w → y.wp P Q a w) : (Code.seq x y).wp P Q a w :=
  wp_seq (Code.wp_mono (fun e a w h => by cases e <;> first | exact hy _ _ h | exact h) hx)
theorem c_call {f : Nat} {fn : Func} {c : Code} {args : List Value} {R : Value → World → Prop} (hf : P.funcs[f]? = some fn) (hb : fn.body = some c) (hn : Nat.ble args.length fn.ntmps = true)
    (h : ∀ a, Kn fn.ntmps (args.zipIdx.map fun p => (p.2, p.1)) a → c.wp P (bodyPost P fn fun e w' => ∃ v, e = .returned v ∧ R v w') a w) : Ret P f args w R :=
  calls_of_wp hf hb (h _ (Kn.enter fn.ntmps args hn))
/-- The result stands in a slot. -/
theorem c_retTmp {fn : Func} {t n : Nat} {l : List (Nat × Value)} {v : Value} {R : Value → World → Prop} (hr : fn.results = #[.tmp t]) (hk : Kn n l a) (hv : look l t = some v) (h : R v w) :
    Code.ret.wp P (bodyPost P fn fun e w' => ∃ v, e = .returned v ∧ R v w') a w :=
  wp_ret (bodyPost_ret (by rw [results_tmp hr, hk.at_ t v hv]) hk.defers ⟨v, rfl, h⟩)
theorem c_retTmpEnd {fn : Func} {t n : Nat} {l : List (Nat × Value)} {v : Value} {R : Value → World → Prop} (hr : fn.results = #[.tmp t]) (hk : Kn n l a) (hv : look l t = some v) (h : R v w) :
    bodyPost P fn (fun e w' => ∃ v, e = .returned v ∧ R v w') .normal a w :=
  bodyPost_end (by rw [results_tmp hr, hk.at_ t v hv]) hk.defers ⟨v, rfl, h⟩
theorem c_retNone {fn : Func} {n : Nat} {l : List (Nat × Value)} {R : Value → World → Prop} (hr : fn.results = #[]) (hk : Kn n l a) (h : R (.tuple #[]) w) :
    Code.ret.wp P (bodyPost P fn fun e w' => ∃ v, e = .returned v ∧ R v w') a w :=
  wp_ret (bodyPost_ret (results_none hr _ _ _) hk.defers ⟨_, rfl, h⟩)
theorem c_retNoneEnd {fn : Func} {n : Nat} {l : List (Nat × Value)} {R : Value → World → Prop} (hr : fn.results = #[]) (hk : Kn n l a) (h : R (.tuple #[]) w) :
    bodyPost P fn (fun e w' => ∃ v, e = .returned v ∧ R v w') .normal a w :=
  bodyPost_end (results_none hr _ _ _) hk.defers ⟨_, rfl, h⟩
/-- The result stands in a block at hand. -/
theorem c_retCell {w0 : World} {X Z : Nat → Prop} {m : List Ent} {fn : Func} {s t n i b e : Nat} {l : List (Nat × Value)} {cs : List Value} {R : Value → World → Prop} (hr : fn.results = #[.cell s t]) (ht : tySz P t = some (true, cs.length))
    (hk : Kn n l a) (hm : Mem w0 X Z m w) (hv : look l s = some (.pointer (some ⟨b, 0, none⟩))) (hi : entAt m i = some (.blk b cs e)) (h : R (.agg cs.toArray) w) :
    Code.ret.wp P (bodyPost P fn fun e w' => ∃ v, e = .returned v ∧ R v w') a w := by
  refine wp_ret (bodyPost_ret (v := .agg cs.toArray) ?_ hk.defers ⟨_, rfl, h⟩)
  have hc := run_loadCells' (P := P) (w := w) (b := b) (off := 0) (cs := cs) (fun j u hj => hm.cell_blk hi (by rw [Nat.zero_add]; exact hj))
  have hs : a.tmps[s]?.getD undef = .pointer (some ⟨b, 0, none⟩) := by rw [← Array.getD_eq_getD_getElem?]; exact hk.at_ s _ hv
  simp [results, hr, hs, asAddr, loadVar, isAgg_true ht, sizeOf_run ht, hc]
end

end Go.Mk
