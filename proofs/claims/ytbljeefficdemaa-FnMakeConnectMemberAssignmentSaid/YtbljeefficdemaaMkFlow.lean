/- Loops over a range, and small rules of control. No statement of a seat stands here. -/
import Derived.Test.YtbljeefficdemaaMkDraw
namespace Go.Mk
open Go

section
variable {P : Program} {ops : Array Oper} {Q : Exit → Act → World → Prop} {rest : List Oper} {a : Act} {w w0 : World} {n : Nat} {l : List (Nat × Value)} {X Z : Nat → Prop} {m : List Ent}
variable {d : Nat} {ty : Nat} {ps : String} {af : Array Edge}

theorem o_move {x : Operand} {v : Value} (hk : Kn n l a) (hx : ev l x = some v) (hd : Nat.blt d n = true) (K : ∀ a', Kn n ((d, v) :: l) a' → wpList P ops Q rest a' w) :
    wpList P ops Q (⟨some d, .move x, ty, ps, af, none⟩ :: rest) a w := step_runs hk rfl rfl hd (r_move hk hx) K
theorem o_assign {x : Operand} {v : Value} (hk : Kn n l a) (hx : ev l x = some v) (hd : Nat.blt d n = true) (K : ∀ a', Kn n ((d, v) :: l) a' → wpList P ops Q rest a' w) :
    wpList P ops Q (⟨some d, .assign x, ty, ps, af, none⟩ :: rest) a w := step_runs hk rfl rfl hd (r_assign hk hx) K
theorem o_nilCheck {x : Operand} {p : Addr} (hk : Kn n l a) (hx : ev l x = some (.pointer (some p))) (hd : Nat.blt d n = true) (K : ∀ a', Kn n ((d, .pointer (some p)) :: l) a' → wpList P ops Q rest a' w) :
    wpList P ops Q (⟨some d, .nilCheck x, ty, ps, af, none⟩ :: rest) a w := step_runs hk rfl rfl hd (r_nilCheck hk hx) K
theorem o_fieldAddr {x : Operand} {t k o b off : Nat} (hk : Kn n l a) (hf : fldOff P t k = some o) (hx : ev l x = some (.pointer (some ⟨b, off, none⟩))) (hd : Nat.blt d n = true)
    (K : ∀ a', Kn n ((d, .pointer (some ⟨b, off + o, none⟩)) :: l) a' → wpList P ops Q rest a' w) :
    wpList P ops Q (⟨some d, .fieldAddr t x k, ty, ps, af, none⟩ :: rest) a w := step_runs hk rfl rfl hd (r_fieldAddr hk hf hx) K
theorem o_load {x : Operand} {t s : Nat} {p : Addr} {v : Value} (hk : Kn n l a) (ht : tySz P t = some (false, s)) (hx : ev l x = some (.pointer (some p))) (hc : w.cell? p = some v) (hd : Nat.blt d n = true)
    (K : ∀ a', Kn n ((d, v) :: l) a' → wpList P ops Q rest a' w) :
    wpList P ops Q (⟨some d, .load t x, ty, ps, af, none⟩ :: rest) a w := step_runs hk rfl rfl hd (r_load1 hk ht hx hc) K
theorem o_loadN {x : Operand} {t b off : Nat} {cs : List Value} (hk : Kn n l a) (ht : tySz P t = some (true, cs.length)) (hx : ev l x = some (.pointer (some ⟨b, off, none⟩)))
    (hc : ∀ j u, cs[j]? = some u → w.cell? ⟨b, off + j, none⟩ = some u) (hd : Nat.blt d n = true) (K : ∀ a', Kn n ((d, .agg cs.toArray) :: l) a' → wpList P ops Q rest a' w) :
    wpList P ops Q (⟨some d, .load t x, ty, ps, af, none⟩ :: rest) a w := step_runs hk rfl rfl hd (r_loadN hk ht hx hc) K
theorem o_icmp {x y : Operand} {op : BinOp} {t t' : Nat} {k : IntKind} {i j : Int} {b : Bool} (hk : Kn n l a) (hx : ev l x = some (.int k i)) (hy : ev l y = some (.int k j)) (hb : icmp op i j = some b) (hd : Nat.blt d n = true)
    (K : ∀ a', Kn n ((d, .bool b) :: l) a' → wpList P ops Q rest a' w) :
    wpList P ops Q (⟨some d, .binOp op t x y t', ty, ps, af, none⟩ :: rest) a w := step_runs hk rfl rfl hd (r_icmp hk hx hy hb) K
theorem o_iarith {x y : Operand} {op : BinOp} {t t' : Nat} {k : IntKind} {i j z c : Int} (hk : Kn n l a) (hx : ev l x = some (.int k i)) (hy : ev l y = some (.int k j)) (hz : iarith op i j = some z) (hc : k.wrap z = c) (hd : Nat.blt d n = true)
    (K : ∀ a', Kn n ((d, .int k c) :: l) a' → wpList P ops Q rest a' w) :
    wpList P ops Q (⟨some d, .binOp op t x y t', ty, ps, af, none⟩ :: rest) a w := step_runs hk rfl rfl hd (r_iarith hk hx hy hz hc) K
theorem o_convInt {x : Operand} {s t : Nat} {k k' : IntKind} {i c : Int} (hk : Kn n l a) (hs : (P.underlying s).isSome = true) (ht : tyInt P t = some k') (hx : ev l x = some (.int k i)) (hc : k'.wrap i = c) (hd : Nat.blt d n = true)
    (K : ∀ a', Kn n ((d, .int k' c) :: l) a' → wpList P ops Q rest a' w) :
    wpList P ops Q (⟨some d, .convert s t x, ty, ps, af, none⟩ :: rest) a w := step_runs hk rfl rfl hd (r_convInt hk (Option.isSome_iff_exists.1 hs) ht hx hc) K
theorem o_not {x : Operand} {t : Nat} {b : Bool} (hk : Kn n l a) (hx : ev l x = some (.bool b)) (hd : Nat.blt d n = true) (K : ∀ a', Kn n ((d, .bool (!b)) :: l) a' → wpList P ops Q rest a' w) :
    wpList P ops Q (⟨some d, .unOp .not t x, ty, ps, af, none⟩ :: rest) a w := step_runs hk rfl rfl hd (r_not hk hx) K
theorem o_lenSlice {x : Operand} {t e k c : Nat} {p : Option Addr} (hk : Kn n l a) (ht : tyElem P t = some e) (hx : ev l x = some (.slice p k c)) (hd : Nat.blt d n = true) (K : ∀ a', Kn n ((d, .int .i64 k) :: l) a' → wpList P ops Q rest a' w) :
    wpList P ops Q (⟨some d, .call ⟨.builtin .len, #[x], #[t]⟩, ty, ps, af, none⟩ :: rest) a w := step_runs hk rfl rfl hd (r_lenSlice hk ht hx) K
theorem o_indexAddr {x i : Operand} {t e k c b off s : Nat} {bl : Bool} {j : Nat} {kk : IntKind} (hk : Kn n l a) (ht : tyElem P t = some e) (hs : tySz P e = some (bl, s)) (hx : ev l x = some (.slice (some ⟨b, off, none⟩) k c))
    (hi : ev l i = some (.int kk (j : Int))) (hj : j < k) (hd : Nat.blt d n = true) (K : ∀ a', Kn n ((d, .pointer (some ⟨b, off + j * s, none⟩)) :: l) a' → wpList P ops Q rest a' w) :
    wpList P ops Q (⟨some d, .indexAddr t x i, ty, ps, af, none⟩ :: rest) a w := step_runs hk rfl rfl hd (r_indexAddr hk ht hs hx hi hj) K
theorem o_build {t : Nat} {z : Value} {parts : List (Nat × Operand)} {zs r : List Value} (hk : Kn n l a) (hz : tyZero P t = some z) (hzs : cellsOf z = zs) (hok : fldsOk P t = true) (hb : bres (fldAt P t) l parts zs r) (hd : Nat.blt d n = true)
    (K : ∀ a', Kn n ((d, .agg r.toArray) :: l) a' → wpList P ops Q rest a' w) :
    wpList P ops Q (⟨some d, .build t parts.toArray, ty, ps, af, none⟩ :: rest) a w := step_runs hk rfl rfl hd (r_build hk hz hzs hok hb) K
def fld1 (P : Program) (t k : Nat) : Option Nat :=
  match P.underlying t with
  | some (.struct fs) => match fs[k]? with
    | some f => match tySz P f.type with
      | some (false, _) => some f.offset
      | _ => none
    | none => none
  | _ => none
theorem o_field {x : Operand} {t k o : Nat} {cs : Array Value} {v : Value} (hk : Kn n l a) (hf : fld1 P t k = some o) (hx : ev l x = some (.agg cs)) (hv : cs[o]? = some v) (hd : Nat.blt d n = true)
    (K : ∀ a', Kn n ((d, v) :: l) a' → wpList P ops Q rest a' w) : wpList P ops Q (⟨some d, .field t x k, ty, ps, af, none⟩ :: rest) a w := by
  unfold fld1 at hf
  split at hf
  · rename_i fs hfs
    split at hf
    · rename_i f hff
      split at hf
      · rename_i s hs
        exact step_runs hk rfl rfl hd (r_field1 hk ⟨fs, f, hfs, hff, hs, by simpa using hf⟩ hx hv) K
      · cases hf
    · cases hf
  · cases hf
/-- A guard that says no: the operation is passed over. -/
theorem o_skip {o : Oper} (hk : Kn n l a) (hg : ∃ j b dj u, o.guard = some (j, b) ∧ (ops[j]?).bind (·.dst) = some dj ∧ look l dj = some (.bool u) ∧ u ≠ b) (hd : o.dst = some d) (hdn : Nat.blt d n = true)
    (K : ∀ a', Kn n ((d, undef) :: l) a' → wpList P ops Q rest a' w) : wpList P ops Q (o :: rest) a w := by
  obtain ⟨j, b, dj, u, h1, h2, h3, h4⟩ := hg
  have hy : yielded ops a.tmps j = some u := by
    unfold yielded
    have := hk.at_ _ _ h3
    rw [Array.getD_eq_getD_getElem?] at this
    cases hq : a.tmps[dj]? with
    | none => rw [hq] at this; simp [undef] at this
    | some x => rw [hq] at this; simp at this; simp [h2, hq, this]
  have hw : Region.wanted o (yielded ops a.tmps) = false := by simp [Region.wanted, h1, hy, h4]
  unfold wpList
  rw [if_neg (by simp [hw])]
  rw [hd]
  exact K _ (hk.put d undef hdn)
theorem o_want {o : Oper} {o' : Oper} (hk : Kn n l a) (hg : ∃ j b dj, o.guard = some (j, b) ∧ (ops[j]?).bind (·.dst) = some dj ∧ look l dj = some (.bool b)) (ho : o' = { o with guard := none })
    (h : wpList P ops Q (o' :: rest) a w) : wpList P ops Q (o :: rest) a w := by
  obtain ⟨j, b, dj, h1, h2, h3⟩ := hg
  subst ho
  have hy : yielded ops a.tmps j = some b := by
    unfold yielded
    have := hk.at_ _ _ h3
    rw [Array.getD_eq_getD_getElem?] at this
    cases hq : a.tmps[dj]? with
    | none => rw [hq] at this; simp [undef] at this
    | some x => rw [hq] at this; simp at this; simp [h2, hq, this]
  unfold wpList at h ⊢
  rw [if_pos (by simp [Region.wanted])] at h
  rw [if_pos (by simp [Region.wanted, h1, hy])]
  exact h
theorem o_pick {c x y : Operand} {b : Bool} {v u r : Value} (hk : Kn n l a) (hc : ev l c = some (.bool b)) (hx : ev l x = some v) (hy : ev l y = some u) (hr : (if b then v else u) = r) (hd : Nat.blt d n = true)
    (K : ∀ a', Kn n ((d, r) :: l) a' → wpList P ops Q rest a' w) : wpList P ops Q (⟨some d, .pick c x y, ty, ps, af, none⟩ :: rest) a w := by
  subst hr; exact step_runs hk rfl rfl hd (r_pick hk hc hx hy) K
end

section
variable {P : Program} {Q : Exit → Act → World → Prop} {a : Act} {w : World} {n : Nat} {l : List (Nat × Value)}
theorem c_reg {id : Nat} {ops : List Oper} (h : wpList P ops.toArray Q ops a w) : (Code.region id ops.toArray false).wp P Q a w := wp_region_lit h
theorem c_endQ {ops : Array Oper} (h : Q .normal a w) : wpList P ops Q [] a w := h
theorem c_then {K : Act → World → Prop} (h : K a w) : Exit.then K Q .normal a w := h
theorem c_thenRet {K : Act → World → Prop} (h : Q .ret a w) : Exit.then K Q .ret a w := h
theorem c_thenExit {K : Act → World → Prop} {id : Nat} (h : Q (.exit id) a w) : Exit.then K Q (.exit id) a w := h
theorem c_inSame {id : Nat} (h : Q .normal a w) : Exit.inBlock id Q (.exit id) a w := by simpa [Exit.inBlock] using h
theorem c_inOther {id id' : Nat} (hne : Nat.beq id' id = false) (h : Q (.exit id') a w) : Exit.inBlock id Q (.exit id') a w := by
  have : id' ≠ id := fun e => by subst e; simp at hne
  simpa [Exit.inBlock, this] using h
theorem c_inNormal {id : Nat} (h : Q .normal a w) : Exit.inBlock id Q .normal a w := h
theorem c_inRet {id : Nat} (h : Q .ret a w) : Exit.inBlock id Q .ret a w := h
theorem c_skip {y : Code} (h : y.wp P Q a w) : Code.skip.wp P (Exit.then (y.wp P Q) Q) a w := wp_skip h
theorem c_condT {c : Operand} {x y : Code} (hk : Kn n l a) (hc : ev l c = some (.bool true)) (h : x.wp P Q a w) : (Code.cond c x y).wp P Q a w := wp_cond_true (hk.eval hc) h
theorem c_condF {c : Operand} {x y : Code} (hk : Kn n l a) (hc : ev l c = some (.bool false)) (h : y.wp P Q a w) : (Code.cond c x y).wp P Q a w := wp_cond_false (hk.eval hc) h
theorem c_cond {c : Operand} {x y : Code} {b : Bool} (hk : Kn n l a) (hc : ev l c = some (.bool b)) (ht : b = true → x.wp P Q a w) (hf : b = false → y.wp P Q a w) : (Code.cond c x y).wp P Q a w := wp_cond_split (hk.eval hc) ht hf
theorem c_weaken {c : Code} {l' : List (Nat × Value)} (hk : Kn n l a) (hs : looks l l') (h : Kn n l' a → c.wp P Q a w) : c.wp P Q a w := h (hk.sub hs)

theorem look_mem : ∀ {l : List (Nat × Value)} {s : Nat} {v : Value}, look l s = some v → (s, v) ∈ l
  | [], s, v, h => by simp [look] at h
  | (k, u) :: r, s, v, h => by
    simp only [look] at h
    cases hq : Nat.beq s k with
    | true =>
      rw [hq] at h
      have := Nat.eq_of_beq_eq_true hq
      subst this
      simp only [Option.some.injEq] at h
      subst h
      exact List.mem_cons_self
    | false => rw [hq] at h; exact List.mem_cons_of_mem _ (look_mem h)
theorem Kn.weakenL {l' : List (Nat × Value)} (h : Kn n l a) (hs : ∀ s v, look l' s = some v → look l s = some v) : Kn n l' a := ⟨h.defers, h.size, fun s v hv => h.at_ s v (hs s v hv)⟩
theorem look_cons_ne {k s : Nat} {u : Value} (h : s ≠ k) : look ((k, u) :: l) s = look l s := by
  have : Nat.beq s k = false := by
    cases hq : Nat.beq s k with
    | false => rfl
    | true => exact absurd (Nat.eq_of_beq_eq_true hq) h
  simp [look, this]
theorem look_cons_self {k : Nat} {u : Value} : look ((k, u) :: l) k = some u := by simp [look]
theorem Kn.tail {k : Nat} {u : Value} (h : Kn n ((k, u) :: l) a) (hne : look l k = none) : Kn n l a := h.weakenL fun s v hv => by
  rw [look_cons_ne]
  · exact hv
  · intro e; subst e; rw [hne] at hv; cases hv

/-- What a round of a loop over a range must hand on. -/
def RoundPost (n i ln t c N k id : Nat) (R : Nat → List (Nat × Value) → World → Prop) (Q : Exit → Act → World → Prop) : Exit → Act → World → Prop
  | .normal, a', w' => ∃ L', Kn n ((i, .int .i64 k) :: (ln, .int .i64 N) :: L') a' ∧ (∀ p ∈ L', Nat.beq p.1 t = false ∧ Nat.beq p.1 c = false ∧ Nat.beq p.1 i = false) ∧ R (k + 1) L' w'
  | e, a', w' => Exit.inBlock id Q e a' w'

def slotsBut (t c i : Nat) : List (Nat × Value) → Bool
  | [] => true
  | p :: r => (!Nat.beq p.1 t && !Nat.beq p.1 c && !Nat.beq p.1 i) && slotsBut t c i r
theorem slotsBut_spec {t c i : Nat} : ∀ {L : List (Nat × Value)}, slotsBut t c i L = true → ∀ p ∈ L, Nat.beq p.1 t = false ∧ Nat.beq p.1 c = false ∧ Nat.beq p.1 i = false
  | [], _, p, hp => by cases hp
  | q :: r, h, p, hp => by
    simp only [slotsBut, Bool.and_eq_true, Bool.not_eq_true'] at h
    rcases List.mem_cons.1 hp with rfl | hp
    · exact ⟨h.1.1.1, h.1.1.2, h.1.2⟩
    · exact slotsBut_spec h.2 p hp

theorem c_round {i ln t c N k id : Nat} {R : Nat → List (Nat × Value) → World → Prop} {L' : List (Nat × Value)} (hk : Kn n l a) (hs : looks l ((i, .int .i64 k) :: (ln, .int .i64 N) :: L')) (hb : slotsBut t c i L' = true) (h : R (k + 1) L' w) :
    RoundPost n i ln t c N k id R Q .normal a w := ⟨L', hk.sub hs, slotsBut_spec hb, h⟩
theorem c_roundExit {i ln t c N k id j : Nat} {R : Nat → List (Nat × Value) → World → Prop} (h : Exit.inBlock id Q (.exit j) a w) : RoundPost n i ln t c N k id R Q (.exit j) a w := h
theorem c_roundRet {i ln t c N k id : Nat} {R : Nat → List (Nat × Value) → World → Prop} (h : Q .ret a w) : RoundPost n i ln t c N k id R Q .ret a w := h

/-- A loop over a range: N rounds; R k L w is what holds of the other slots and the world behind k rounds. -/
theorem c_range {id idb c i ln t : Nat} {body : Code} {t1 t2 t3 t4 t5 t6 : Nat} {p1 p2 p3 : String} {af1 af2 af3 : Array Edge} {L0 : List (Nat × Value)} (N : Nat) (hN : N < 4611686018427387904) (R : Nat → List (Nat × Value) → World → Prop)
    (hk : Kn n ((i, .int .i64 0) :: (ln, .int .i64 N) :: L0) a) (h0 : R 0 L0 w)
    (hcn : Nat.blt c n = true) (hin : Nat.blt i n = true) (htn : Nat.blt t n = true) (h1 : Nat.beq i c = false) (h2 : Nat.beq ln c = false) (h3 : Nat.beq ln i = false) (h5 : Nat.beq ln t = false)
    (hbody : ∀ k L a w, k < N → R k L w → Kn n ((c, .bool true) :: (i, .int .i64 k) :: (ln, .int .i64 N) :: L) a →
      body.wp P (Exit.inBlock idb (RoundPost n i ln t c N k id R Q)) a w)
    (hL0' : slotsBut t c i L0 = true)
    (hend : ∀ L a w, R N L w → Kn n ((i, .int .i64 N) :: (ln, .int .i64 N) :: L) a → Q .normal a w) :
    (Code.block id (.loop (.seq (.region t1 [⟨some c, .binOp .lss t2 (.tmp i) (.tmp ln) t3, t4, p1, af1, none⟩].toArray false)
      (.seq (.cond (.tmp c) .skip (.exit id)) (.seq (.block idb body)
        (.region t5 [⟨some t, .binOp .add t2 (.tmp i) (.const (.int .i64 1)) t3, t6, p2, af2, none⟩, ⟨some i, .move (.tmp t), t6, p3, af3, none⟩].toArray false)))))).wp P Q a w := by
  have hL0 := slotsBut_spec hL0'
  have ne : ∀ {x y : Nat}, Nat.beq x y = false → x ≠ y := fun h e => by subst e; simp at h
  refine wp_block ?_
  refine wp_loop_ghost (fun g a w => ∃ k L, g = N - k ∧ k ≤ N ∧ R k L w ∧ Kn n ((i, .int .i64 k) :: (ln, .int .i64 N) :: L) a ∧ ∀ p ∈ L, Nat.beq p.1 t = false ∧ Nat.beq p.1 c = false ∧ Nat.beq p.1 i = false) N
    ⟨0, L0, by omega, Nat.zero_le _, h0, hk, hL0⟩ ?_
  rintro g a w ⟨k, L, rfl, hkN, hR, hk, hL⟩
  refine c_region ?_
  have li : look ((i, .int .i64 k) :: (ln, .int .i64 N) :: L) i = some (.int .i64 (k : Int)) := by simp [look]
  have ll : look ((i, .int .i64 k) :: (ln, .int .i64 N) :: L) ln = some (.int .i64 (N : Int)) := by simp [look, h3]
  refine o_icmp (b := decide ((k : Int) < (N : Int))) hk li ll rfl hcn fun a hk => ?_
  refine c_end ?_
  refine wp_seq ?_
  by_cases hlt : k < N
  · have hd : decide ((k : Int) < (N : Int)) = true := by simp; omega
    rw [hd] at hk
    refine c_condT hk (by simp [ev, look]) ?_
    refine wp_skip ?_
    refine wp_seq ?_
    refine wp_block ?_
    refine Code.wp_mono ?_ (hbody k L a w hlt hR hk)
    intro e a' w' h
    have fin : ∀ (L' : List (Nat × Value)), Kn n ((i, .int .i64 k) :: (ln, .int .i64 N) :: L') a' → (∀ p ∈ L', Nat.beq p.1 t = false ∧ Nat.beq p.1 c = false ∧ Nat.beq p.1 i = false) → R (k + 1) L' w' →
        (Code.region t5 [⟨some t, .binOp .add t2 (.tmp i) (.const (.int .i64 1)) t3, t6, p2, af2, none⟩, ⟨some i, .move (.tmp t), t6, p3, af3, none⟩].toArray false).wp P
          (Exit.then (fun a' w' => ∃ n', n' < N - k ∧ ∃ k L, n' = N - k ∧ k ≤ N ∧ R k L w' ∧ Kn n ((i, .int .i64 k) :: (ln, .int .i64 N) :: L) a' ∧ ∀ p ∈ L, Nat.beq p.1 t = false ∧ Nat.beq p.1 c = false ∧ Nat.beq p.1 i = false) (Exit.inBlock id Q)) a' w' := by
      intro L' hk' hL' hR'
      refine c_reg ?_
      refine o_iarith (i := (k : Int)) (j := 1) (z := (k : Int) + 1) (c := ((k + 1 : Nat) : Int)) hk' look_cons_self rfl rfl (by rw [IntWalk.i64_in _ (by omega)]; omega) htn fun a hk => ?_
      refine o_move (v := .int .i64 ((k + 1 : Nat) : Int)) hk look_cons_self hin fun a hk => ?_
      refine c_endQ ?_
      refine ⟨N - (k + 1), by omega, k + 1, L', rfl, by omega, hR', ?_, hL'⟩
      refine hk.weakenL fun s v hv => ?_
      by_cases hsi : s = i
      · subst hsi; rw [look_cons_self] at hv ⊢; exact hv
      · rw [look_cons_ne hsi] at hv ⊢
        by_cases hsl : s = ln
        · subst hsl; rw [look_cons_self] at hv; rw [look_cons_ne (ne h5), look_cons_ne hsi, look_cons_self]; exact hv
        · rw [look_cons_ne hsl] at hv
          have h6 := hL' _ (look_mem hv)
          rw [look_cons_ne (ne h6.1), look_cons_ne hsi, look_cons_ne hsl]
          exact hv
    cases e with
    | normal => obtain ⟨L', hk', hL', hR'⟩ := h; exact fin L' hk' hL' hR'
    | exit id' =>
      simp only [Exit.inBlock] at h ⊢
      split at h
      · rename_i he; subst he; rw [if_pos rfl]; obtain ⟨L', hk', hL', hR'⟩ := h; exact fin L' hk' hL' hR'
      · rename_i he; rw [if_neg he]; exact h
    | goto l => exact h
    | ret => exact h
    | panic ch => exact h
    | outgrown => exact h
  · have hkN' : k = N := by omega
    subst hkN'
    have hd : decide ((k : Int) < (k : Int)) = false := by simp
    rw [hd] at hk
    refine c_condF hk (by simp [ev, look]) ?_
    refine wp_exit ?_
    refine c_thenExit (c_thenExit (c_inSame (hend L a w hR (hk.tail ?_))))
    rw [look_cons_ne (Ne.symm (ne h1)), look_cons_ne (Ne.symm (ne h2))]
    cases hq : look L c with
    | none => rfl
    | some v => have := (hL _ (look_mem hq)).2.1; simp at this
theorem b_retTmp {fn : Func} {t : Nat} {v : Value} {R : Value → World → Prop} (hr : fn.results = #[.tmp t]) (hk : Kn n l a) (hv : look l t = some v) (h : R v w) :
    bodyPost P fn (fun e w' => ∃ v, e = .returned v ∧ R v w') .ret a w := bodyPost_ret (by rw [results_tmp hr, hk.at_ t v hv]) hk.defers ⟨v, rfl, h⟩
theorem b_retTmp2 {fn : Func} {t u : Nat} {v v' : Value} {R : Value → World → Prop} (hr : fn.results = #[.tmp t, .tmp u]) (hk : Kn n l a) (hv : look l t = some v) (hv' : look l u = some v') (h : R (.tuple #[v, v']) w) :
    bodyPost P fn (fun e w' => ∃ v, e = .returned v ∧ R v w') .ret a w := bodyPost_ret (by rw [results_tmp2 hr, hk.at_ t v hv, hk.at_ u v' hv']) hk.defers ⟨_, rfl, h⟩
theorem b_retNone {fn : Func} {R : Value → World → Prop} (hr : fn.results = #[]) (hk : Kn n l a) (h : R (.tuple #[]) w) :
    bodyPost P fn (fun e w' => ∃ v, e = .returned v ∧ R v w') .ret a w := bodyPost_ret (results_none hr _ _ _) hk.defers ⟨_, rfl, h⟩
theorem b_endNone {fn : Func} {R : Value → World → Prop} (hr : fn.results = #[]) (hk : Kn n l a) (h : R (.tuple #[]) w) :
    bodyPost P fn (fun e w' => ∃ v, e = .returned v ∧ R v w') .normal a w := bodyPost_end (results_none hr _ _ _) hk.defers ⟨_, rfl, h⟩
theorem b_retCell {w0 : World} {X Z : Nat → Prop} {m : List Ent} {fn : Func} {s t i b e : Nat} {cs : List Value} {R : Value → World → Prop} (hr : fn.results = #[.cell s t]) (ht : tySz P t = some (true, cs.length))
    (hk : Kn n l a) (hm : Mem w0 X Z m w) (hv : look l s = some (.pointer (some ⟨b, 0, none⟩))) (hi : entAt m i = some (.blk b cs e)) (h : R (.agg cs.toArray) w) :
    bodyPost P fn (fun e w' => ∃ v, e = .returned v ∧ R v w') .ret a w := by
  refine bodyPost_ret (v := .agg cs.toArray) ?_ hk.defers ⟨_, rfl, h⟩
  have hc := run_loadCells' (P := P) (w := w) (b := b) (off := 0) (cs := cs) (fun j u hj => hm.cell_blk hi (by rw [Nat.zero_add]; exact hj))
  have hs : a.tmps[s]?.getD undef = .pointer (some ⟨b, 0, none⟩) := by rw [← Array.getD_eq_getD_getElem?]; exact hk.at_ s _ hv
  simp [results, hr, hs, asAddr, loadVar, isAgg_true ht, sizeOf_run ht, hc]
end
end Go.Mk
