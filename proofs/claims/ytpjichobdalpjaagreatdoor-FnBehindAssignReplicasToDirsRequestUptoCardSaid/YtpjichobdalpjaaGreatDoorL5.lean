/- Walks of programs, step by step: what holds of memory behind each; the reference in plain words. No statement of a seat stands here. -/
import Derived.Test.YtpjichobdalpjaaGreatDoorL4
import Derived.ScopeJumps
import Derived.WideLaws
/- The reader's methods, as the check of reading asks for them. No statement of a seat stands here. -/
namespace Go.Mk.Er
open Go Go.Mk
open Go.Mk.Ea (ikOf)

theorem wrap_up {k k' : IntKind} (h : (k = .i8 ∨ k = .i16 ∨ k = .i32) ∧ k' = .i64) (n : Int) : k'.wrap (k.wrap n) = k.wrap n := by
  obtain ⟨h, rfl⟩ := h
  rcases h with rfl | rfl | rfl <;> (simp only [IntKind.wrap, IntKind.bits, IntKind.signed]; simp; omega)
theorem rdCnt_f (s : RS) : rdCnt false s = if ((((RS.num 4 s).2.src.getD []).length : Nat) : Int) < IntKind.i32.wrap ((RS.num 4 s).1 : Int) then (0, RS.fail) else (IntKind.i32.wrap ((RS.num 4 s).1 : Int), (RS.num 4 s).2) := by
  unfold rdCnt
  simp only [Bool.false_eq_true, if_false, wrapTwice]
  rfl
theorem rdCnt_t (s : RS) : rdCnt true s = if ((((RS.uv s).2.src.getD []).length : Nat) : Int) < IntKind.i32.wrap (IntKind.i32.wrap ((RS.uv s).1 : Int) - 1) then (0, RS.fail) else (IntKind.i32.wrap (IntKind.i32.wrap ((RS.uv s).1 : Int) - 1), (RS.uv s).2) := by
  unfold rdCnt
  simp only [if_true]
  rfl
theorem uvG_lt : ∀ (k : Nat) (l : List UInt8) {n : Nat} {r : List UInt8}, uvG k l = some (n, r) → n < 16 * 128 ^ k ∧ r.length < l.length
  | _, [], n, r, h => by simp [uvG] at h
  | 0, b :: l, n, r, h => by
    simp only [uvG] at h
    split at h
    · simp only [Option.some.injEq, Prod.mk.injEq] at h
      obtain ⟨rfl, rfl⟩ := h
      simp; omega
    · cases h
  | k + 1, b :: l, n, r, h => by
    simp only [uvG] at h
    split at h
    · rename_i hb
      simp only [Option.some.injEq, Prod.mk.injEq] at h
      obtain ⟨rfl, rfl⟩ := h
      have : 1 ≤ 128 ^ k := Nat.one_le_pow _ _ (by decide)
      rw [Nat.pow_succ]
      simp; omega
    · cases hq : uvG k l with
      | none => rw [hq] at h; simp at h
      | some p =>
        obtain ⟨n', r'⟩ := p
        rw [hq] at h
        simp only [Option.map_some, Option.some.injEq, Prod.mk.injEq] at h
        obtain ⟨rfl, rfl⟩ := h
        obtain ⟨h1, h2⟩ := uvG_lt k l hq
        have hb := b.toNat_lt
        rw [Nat.pow_succ]
        simp; omega
theorem uv_lt (s : RS) : (RS.uv s).1 < 4294967296 := by
  unfold RS.uv
  cases h : uvG 4 s.l with
  | none => simp
  | some p =>
    obtain ⟨n, r⟩ := p
    have := (uvG_lt 4 s.l h).1
    simp; omega
theorem uv_i64 (s : RS) : IntKind.i64.wrap ((RS.uv s).1 : Int) = ((RS.uv s).1 : Int) := by
  have := uv_lt s
  simp only [IntKind.wrap, IntKind.bits, IntKind.signed]; simp; omega
theorem uv_i64' (s : RS) : IntKind.i64.wrap (((RS.uv s).1 : Int) - 1) = ((RS.uv s).1 : Int) - 1 := by
  have := uv_lt s
  simp only [IntKind.wrap, IntKind.bits, IntKind.signed]; simp; omega

/-- a block of its own, that is given back: as a pointer -/
theorem _root_.Go.Mk.Mem.boxOut {w0 w : World} {Z : Nat → Prop} {m : List Ent} {rb i j b e e2 : Nat} {cs cs2 : List Value} {d : DD} (h : Mem w0 (fun k => k = rb) Z m w) (hi : entAt m i = some (.blk b cs e)) (hj : entAt m j = some (.blk rb cs2 e2)) (hij : Nat.beq i j = false) (hd : Rep w (fun k => k < w0.heap.size ∧ Z k) d cs) :
    Rep w (fun k => k < w0.heap.size ∧ Z k) (.ptr d) [.pointer (some ⟨b, 0, none⟩)] := by
  have hne : i ≠ j := fun e => by subst e; simp at hij
  have hbr : b ≠ rb := fun e => by
    subst e
    exact muts_apart h.nodup hne hi hj b (by simp [Ent.mut]) (by simp [Ent.mut])
  have hown := h.own b (muts_mem (entAt_mem hi) (by simp [Ent.mut]))
  simp only [Rep]
  refine ⟨b, 0, cs, rfl, fun k u hk => ⟨fun hz => hbr (hown.2 hz.1), ?_⟩, hd⟩
  exact h.cell_blk hi (by rw [Nat.zero_add]; exact hk)
section
variable {P : Program} {er f gb : Nat} {good gv : Value}
/-- a number -/
theorem rk_num {k : Nat} {ik : IntKind} {nul cp : Bool} (hk : ikOf k = some ik) (h : ∀ {w0 : World} {Y : Nat → Prop} {rb : Nat} {s : RS}, RdrAt w0 Y rb er s → Y rb → Ret P f [.pointer (some ⟨rb, 0, none⟩)] w0 fun v w' => Agr (fun k => k = rb) w0 w' ∧ v = .int ik (ik.wrap ((RS.num (width k) s).1 : Int)) ∧ RdrAt w' (fun b => b < w0.heap.size ∧ Y b) rb er (RS.num (width k) s).2) :
    RkOk P er good gb gv f (.val k nul cp) := by
  intro w0 Y rb s nu st _ hr hy
  refine Ret.mono (h hr hy) fun v w' hv => ?_
  obtain ⟨h1, rfl, h3⟩ := hv
  match k, hk with
  | 1, hk =>
    simp only [ikOf, Option.some.injEq] at hk
    subst hk
    exact ⟨h1, ⟨by show Rep _ _ (.v (.int .i8 (IntKind.i8.wrap (IntKind.i8.wrap _)))) _; rw [wrapTwice]; exact rep_v _, fun _ => rfl⟩, h3⟩
  | 2, hk =>
    simp only [ikOf, Option.some.injEq] at hk
    subst hk
    exact ⟨h1, ⟨by show Rep _ _ (.v (.int .i16 (IntKind.i16.wrap (IntKind.i16.wrap _)))) _; rw [wrapTwice]; exact rep_v _, fun _ => rfl⟩, h3⟩
  | 3, hk =>
    simp only [ikOf, Option.some.injEq] at hk
    subst hk
    exact ⟨h1, ⟨by show Rep _ _ (.v (.int .i32 (IntKind.i32.wrap (IntKind.i32.wrap _)))) _; rw [wrapTwice]; exact rep_v _, fun _ => rfl⟩, h3⟩
  | 4, hk =>
    simp only [ikOf, Option.some.injEq] at hk
    subst hk
    exact ⟨h1, ⟨rep_v _, fun _ => rfl⟩, h3⟩
  | 5, hk =>
    simp only [ikOf, Option.some.injEq] at hk
    subst hk
    exact ⟨h1, ⟨by show Rep _ _ (.v (.int .u16 (IntKind.u16.wrap (IntKind.u16.wrap _)))) _; rw [wrapTwice]; exact rep_v _, fun _ => rfl⟩, h3⟩
  | 0, hk => simp [ikOf] at hk
  | k + 6, hk => simp [ikOf] at hk
theorem wrap_u16_num (s : RS) : IntKind.u16.wrap ((RS.num 2 s).1 : Int) = ((RS.num 2 s).1 : Int) := by
  have h : (RS.num 2 s).1 < 65536 := by
    unfold RS.num
    split
    · simp
    · rename_i h
      have := be_lt (s.l.take 2)
      rw [List.length_take, Nat.min_eq_left (by omega)] at this
      simpa using this
  simp only [IntKind.wrap, IntKind.bits, IntKind.signed]; simp; omega
/-- yes or no -/
theorem rk_bool {nul cp : Bool} (h : ∀ {w0 : World} {Y : Nat → Prop} {rb : Nat} {s : RS}, RdrAt w0 Y rb er s → Y rb → Ret P f [.pointer (some ⟨rb, 0, none⟩)] w0 fun v w' => Agr (fun k => k = rb) w0 w' ∧ v = .bool (decide ((RS.num 1 s).1 ≠ 0)) ∧ RdrAt w' (fun b => b < w0.heap.size ∧ Y b) rb er (RS.num 1 s).2) :
    RkOk P er good gb gv f (.val 0 nul cp) := by
  intro w0 Y rb s nu st _ hr hy
  refine Ret.mono (h hr hy) fun v w' hv => ?_
  obtain ⟨h1, rfl, h3⟩ := hv
  refine ⟨h1, ⟨?_, fun _ => rfl⟩, h3⟩
  show Rep _ _ (.v (.bool ((if (RS.num 1 s).1 = 0 then (0 : Int) else 1) % 2 == 1))) _
  by_cases h0 : (RS.num 1 s).1 = 0
  · rw [if_pos h0]; simp only [h0]; exact rep_v _
  · rw [if_neg h0]; simp only [ne_eq, h0, not_false_eq_true, decide_true]; exact rep_v _
/-- a text -/
theorem rk_text {cp : Bool} (h : ∀ {w0 : World} {Y : Nat → Prop} {rb : Nat} {s : RS}, RdrAt w0 Y rb er s → Y rb → Ret P f [.pointer (some ⟨rb, 0, none⟩)] w0 fun v w' => Agr (fun k => k = rb) w0 w' ∧ v = .string (bs ((RS.span (rdLen cp 2 .i16 s).1 (rdLen cp 2 .i16 s).2).1.getD [])) ∧ RdrAt w' (fun b => b < w0.heap.size ∧ Y b) rb er (RS.span (rdLen cp 2 .i16 s).1 (rdLen cp 2 .i16 s).2).2) :
    RkOk P er good gb gv f (.val 8 false cp) := by
  intro w0 Y rb s nu st hn hr hy
  refine Ret.mono (h hr hy) fun v w' hv => ?_
  obtain ⟨h1, rfl, h3⟩ := hv
  have hnu : ¬ 0 ≤ nu := of_decide_eq_false (hn rfl).symm
  refine ⟨h1, ⟨?_, fun _ => rfl⟩, h3⟩
  show Rep _ _ (if 0 ≤ nu then _ else .v (.string (bs _))) _
  rw [if_neg hnu]
  exact rep_v _
theorem rk_textN {cp : Bool} (h : ∀ {w0 : World} {Y : Nat → Prop} {rb : Nat} {s : RS}, RdrAt w0 Y rb er s → Y rb → Ret P f [.pointer (some ⟨rb, 0, none⟩)] w0 fun v w' => Agr (fun k => k = rb) w0 w' ∧
      Rep w' (fun b => b < w0.heap.size ∧ Y b) (if (rdText true cp s).1.z then .v (.pointer none) else .ptr (.v (.string (bs (rdText true cp s).1.s)))) [v] ∧ RdrAt w' (fun b => b < w0.heap.size ∧ Y b) rb er (rdText true cp s).2) :
    RkOk P er good gb gv f (.val 8 true cp) := by
  intro w0 Y rb s nu st hn hr hy
  refine Ret.mono (h hr hy) fun v w' hv => ?_
  obtain ⟨h1, h2, h3⟩ := hv
  have hnu : 0 ≤ nu := of_decide_eq_true (hn rfl).symm
  have hone : v.oneCell' = true := by
    split at h2
    · rw [rep_v_inv h2]; rfl
    · simp only [Rep] at h2
      obtain ⟨b, off, cs, h4, _⟩ := h2
      simp only [List.cons.injEq, and_true] at h4
      rw [h4]; rfl
  refine ⟨h1, ⟨?_, fun _ => hone⟩, h3⟩
  rw [cells1 hone]
  show Rep _ _ (if 0 ≤ nu then (if (rdText true cp s).1.z then .v (.pointer none) else .ptr (.v (.string (bs (rdText true cp s).1.s)))) else _) _
  rw [if_pos hnu]
  exact h2
/-- octets -/
theorem rk_bytes {nul cp : Bool} (h : ∀ {w0 : World} {Y : Nat → Prop} {rb : Nat} {s : RS}, RdrAt w0 Y rb er s → Y rb → Ret P f [.pointer (some ⟨rb, 0, none⟩)] w0 fun v w' => Agr (fun k => k = rb) w0 w' ∧
      Rep w' (fun b => b < w0.heap.size ∧ Y b) (ddVal 9 0 (fun _ => .any 0) (rdBytes nul cp s).1) [v] ∧ RdrAt w' (fun b => b < w0.heap.size ∧ Y b) rb er (rdBytes nul cp s).2) :
    RkOk P er good gb gv f (.val 9 nul cp) := by
  intro w0 Y rb s nu st hn hr hy
  refine Ret.mono (h hr hy) fun v w' hv => ?_
  obtain ⟨h1, h2, h3⟩ := hv
  have hone : v.oneCell' = true := rep_val_one (by decide) (by decide) h2
  refine ⟨h1, ⟨?_, fun _ => hone⟩, h3⟩
  rw [cells1 hone]
  exact h2
/-- sixteen octets -/
theorem rk_uuid {nul cp : Bool} (h : ∀ {w0 : World} {Y : Nat → Prop} {rb : Nat} {s : RS}, RdrAt w0 Y rb er s → Y rb → Ret P f [.pointer (some ⟨rb, 0, none⟩)] w0 fun v w' => Agr (fun k => k = rb) w0 w' ∧ v = .agg (bv (sixteen ((RS.span 16 s).1.getD []))).toArray ∧ RdrAt w' (fun b => b < w0.heap.size ∧ Y b) rb er (RS.span 16 s).2) :
    RkOk P er good gb gv f (.val 7 nul cp) := by
  intro w0 Y rb s nu st _ hr hy
  refine Ret.mono (h hr hy) fun v w' hv => ?_
  obtain ⟨h1, rfl, h3⟩ := hv
  refine ⟨h1, ⟨?_, fun h7 => absurd rfl h7⟩, h3⟩
  show Rep _ _ (.agg ((sixteen (sixteen ((RS.span 16 s).1.getD []))).map ddB)) _
  have e : sixteen (sixteen ((RS.span 16 s).1.getD [])) = sixteen ((RS.span 16 s).1.getD []) := by
    have h := sixteen_length ((RS.span 16 s).1.getD [])
    generalize sixteen ((RS.span 16 s).1.getD []) = q at h
    unfold sixteen
    rw [List.take_append_of_le_length (by omega), List.take_of_length_le (by omega)]
  rw [e]
  exact rep_agg (by simpa [cellsOf] using rep_bytes _)
theorem rk_dflt0 {fn : Func} (hf : P.funcs[f]? = some fn) (hb : fn.body = some .skip) (hn : Nat.ble 1 fn.ntmps = true) (hr : fn.results = #[]) : RkOk P er good gb gv f (.dflt []) := by
  intro w0 b ty pre c post hbk _
  refine c_call hf hb hn fun a hk => wp_skip ?_
  exact b_endNone hr hk ⟨Agr.refl _ _, hbk⟩
end
end Go.Mk.Er
/- Numbers in groups of seven bits, read octet by octet. No statement of a seat stands here. -/
namespace Go.Mk.Er
open Go Go.Mk

/-- the lower seven bits; the eighth, as it stands -/
theorem and127 (b : UInt8) : ibits .and .u8 (b.toNat : Int) 127 = some (((b.toNat % 128 : Nat)) : Int) := by
  have h := b.toNat_lt
  have key : ∀ n : Fin 256, ibits .and .u8 ((n.val : Nat) : Int) 127 = some (((n.val % 128 : Nat)) : Int) := by decide +kernel
  exact key ⟨b.toNat, h⟩
theorem and128 (b : UInt8) : ibits .and .u8 (b.toNat : Int) 128 = some (((b.toNat / 128 * 128 : Nat)) : Int) := by
  have h := b.toNat_lt
  have key : ∀ n : Fin 256, ibits .and .u8 ((n.val : Nat) : Int) 128 = some (((n.val / 128 * 128 : Nat)) : Int) := by decide +kernel
  exact key ⟨b.toNat, h⟩
abbrev ot (l : List UInt8) (j : Nat) : Nat := (l.getD j 0).toNat
theorem uvG_y0 {l : List UInt8} (h : 1 ≤ l.length)  (h0 : (((ot l 0 / 128 * 128 : Nat) : Int) == 0) = true) : uvG 4 l = some ((ot l 0 % 128), l.drop 1) := by
  match l, h with
  | b0 :: r, _ =>
    simp only [ot, List.getD_cons_zero, beq_iff_eq] at *
    have k0 := b0.toNat_lt
    simp only [uvG]
    rw [if_pos (by omega)]
    simp only [List.drop_succ_cons, List.drop_zero, Option.some.injEq, Prod.mk.injEq, and_true]
    omega
theorem uvG_y1 {l : List UInt8} (h : 2 ≤ l.length) (h0 : ¬ (((ot l 0 / 128 * 128 : Nat) : Int) == 0) = true) (h1 : (((ot l 1 / 128 * 128 : Nat) : Int) == 0) = true) : uvG 4 l = some (((ot l 0 % 128) + (ot l 1 % 128) * 2 ^ 7), l.drop 2) := by
  match l, h with
  | b0 :: b1 :: r, _ =>
    simp only [ot, List.getD_cons_zero, List.getD_cons_succ, beq_iff_eq] at *
    have k0 := b0.toNat_lt
    have k1 := b1.toNat_lt
    simp only [uvG]
    rw [if_neg (by omega)]
    rw [if_pos (by omega)]
    simp only [Option.map_some, List.drop_succ_cons, List.drop_zero, Option.some.injEq, Prod.mk.injEq, and_true]
    omega
theorem uvG_y2 {l : List UInt8} (h : 3 ≤ l.length) (h0 : ¬ (((ot l 0 / 128 * 128 : Nat) : Int) == 0) = true) (h1 : ¬ (((ot l 1 / 128 * 128 : Nat) : Int) == 0) = true) (h2 : (((ot l 2 / 128 * 128 : Nat) : Int) == 0) = true) : uvG 4 l = some ((((ot l 0 % 128) + (ot l 1 % 128) * 2 ^ 7) + (ot l 2 % 128) * 2 ^ 14), l.drop 3) := by
  match l, h with
  | b0 :: b1 :: b2 :: r, _ =>
    simp only [ot, List.getD_cons_zero, List.getD_cons_succ, beq_iff_eq] at *
    have k0 := b0.toNat_lt
    have k1 := b1.toNat_lt
    have k2 := b2.toNat_lt
    simp only [uvG]
    rw [if_neg (by omega)]
    rw [if_neg (by omega)]
    rw [if_pos (by omega)]
    simp only [Option.map_some, List.drop_succ_cons, List.drop_zero, Option.some.injEq, Prod.mk.injEq, and_true]
    omega
theorem uvG_y3 {l : List UInt8} (h : 4 ≤ l.length) (h0 : ¬ (((ot l 0 / 128 * 128 : Nat) : Int) == 0) = true) (h1 : ¬ (((ot l 1 / 128 * 128 : Nat) : Int) == 0) = true) (h2 : ¬ (((ot l 2 / 128 * 128 : Nat) : Int) == 0) = true) (h3 : (((ot l 3 / 128 * 128 : Nat) : Int) == 0) = true) : uvG 4 l = some (((((ot l 0 % 128) + (ot l 1 % 128) * 2 ^ 7) + (ot l 2 % 128) * 2 ^ 14) + (ot l 3 % 128) * 2 ^ 21), l.drop 4) := by
  match l, h with
  | b0 :: b1 :: b2 :: b3 :: r, _ =>
    simp only [ot, List.getD_cons_zero, List.getD_cons_succ, beq_iff_eq] at *
    have k0 := b0.toNat_lt
    have k1 := b1.toNat_lt
    have k2 := b2.toNat_lt
    have k3 := b3.toNat_lt
    simp only [uvG]
    rw [if_neg (by omega)]
    rw [if_neg (by omega)]
    rw [if_neg (by omega)]
    rw [if_pos (by omega)]
    simp only [Option.map_some, List.drop_succ_cons, List.drop_zero, Option.some.injEq, Prod.mk.injEq, and_true]
    omega
theorem uvG_y4 {l : List UInt8} (h : 5 ≤ l.length) (h0 : ¬ (((ot l 0 / 128 * 128 : Nat) : Int) == 0) = true) (h1 : ¬ (((ot l 1 / 128 * 128 : Nat) : Int) == 0) = true) (h2 : ¬ (((ot l 2 / 128 * 128 : Nat) : Int) == 0) = true) (h3 : ¬ (((ot l 3 / 128 * 128 : Nat) : Int) == 0) = true) (h4 : ((ot l 4 : Nat) : Int) ≤ 15) : uvG 4 l = some ((((((ot l 0 % 128) + (ot l 1 % 128) * 2 ^ 7) + (ot l 2 % 128) * 2 ^ 14) + (ot l 3 % 128) * 2 ^ 21) + (ot l 4) * 2 ^ 28), l.drop 5) := by
  match l, h with
  | b0 :: b1 :: b2 :: b3 :: b4 :: r, _ =>
    simp only [ot, List.getD_cons_zero, List.getD_cons_succ, beq_iff_eq] at *
    have k0 := b0.toNat_lt
    have k1 := b1.toNat_lt
    have k2 := b2.toNat_lt
    have k3 := b3.toNat_lt
    have k4 := b4.toNat_lt
    simp only [uvG]
    rw [if_neg (by omega)]
    rw [if_neg (by omega)]
    rw [if_neg (by omega)]
    rw [if_neg (by omega)]
    rw [if_pos (by omega)]
    simp only [Option.map_some, List.drop_succ_cons, List.drop_zero, Option.some.injEq, Prod.mk.injEq, and_true]
    omega
theorem uvG_n0 {l : List UInt8} (h : l.length < 1) (hh : 0 ≤ l.length)  : uvG 4 l = none := by
  match l, h, hh with
  | [], _, _ =>
    simp only [uvG]
theorem uvG_n1 {l : List UInt8} (h : l.length < 2) (hh : 1 ≤ l.length) (h0 : ¬ (((ot l 0 / 128 * 128 : Nat) : Int) == 0) = true) : uvG 4 l = none := by
  match l, h, hh with
  | [b0], _, _ =>
    simp only [ot, List.getD_cons_zero, beq_iff_eq] at *
    have k0 := b0.toNat_lt
    simp only [uvG]
    rw [if_neg (by omega)]
    rfl
theorem uvG_n2 {l : List UInt8} (h : l.length < 3) (hh : 2 ≤ l.length) (h0 : ¬ (((ot l 0 / 128 * 128 : Nat) : Int) == 0) = true) (h1 : ¬ (((ot l 1 / 128 * 128 : Nat) : Int) == 0) = true) : uvG 4 l = none := by
  match l, h, hh with
  | [b0, b1], _, _ =>
    simp only [ot, List.getD_cons_zero, List.getD_cons_succ, beq_iff_eq] at *
    have k0 := b0.toNat_lt
    have k1 := b1.toNat_lt
    simp only [uvG]
    rw [if_neg (by omega)]
    rw [if_neg (by omega)]
    rfl
theorem uvG_n3 {l : List UInt8} (h : l.length < 4) (hh : 3 ≤ l.length) (h0 : ¬ (((ot l 0 / 128 * 128 : Nat) : Int) == 0) = true) (h1 : ¬ (((ot l 1 / 128 * 128 : Nat) : Int) == 0) = true) (h2 : ¬ (((ot l 2 / 128 * 128 : Nat) : Int) == 0) = true) : uvG 4 l = none := by
  match l, h, hh with
  | [b0, b1, b2], _, _ =>
    simp only [ot, List.getD_cons_zero, List.getD_cons_succ, beq_iff_eq] at *
    have k0 := b0.toNat_lt
    have k1 := b1.toNat_lt
    have k2 := b2.toNat_lt
    simp only [uvG]
    rw [if_neg (by omega)]
    rw [if_neg (by omega)]
    rw [if_neg (by omega)]
    rfl
theorem uvG_n4 {l : List UInt8} (h : l.length < 5) (hh : 4 ≤ l.length) (h0 : ¬ (((ot l 0 / 128 * 128 : Nat) : Int) == 0) = true) (h1 : ¬ (((ot l 1 / 128 * 128 : Nat) : Int) == 0) = true) (h2 : ¬ (((ot l 2 / 128 * 128 : Nat) : Int) == 0) = true) (h3 : ¬ (((ot l 3 / 128 * 128 : Nat) : Int) == 0) = true) : uvG 4 l = none := by
  match l, h, hh with
  | [b0, b1, b2, b3], _, _ =>
    simp only [ot, List.getD_cons_zero, List.getD_cons_succ, beq_iff_eq] at *
    have k0 := b0.toNat_lt
    have k1 := b1.toNat_lt
    have k2 := b2.toNat_lt
    have k3 := b3.toNat_lt
    simp only [uvG]
    rw [if_neg (by omega)]
    rw [if_neg (by omega)]
    rw [if_neg (by omega)]
    rw [if_neg (by omega)]
    rfl
theorem uvG_n5 {l : List UInt8} (h : 5 ≤ l.length) (h0 : ¬ (((ot l 0 / 128 * 128 : Nat) : Int) == 0) = true) (h1 : ¬ (((ot l 1 / 128 * 128 : Nat) : Int) == 0) = true) (h2 : ¬ (((ot l 2 / 128 * 128 : Nat) : Int) == 0) = true) (h3 : ¬ (((ot l 3 / 128 * 128 : Nat) : Int) == 0) = true) (h4 : ¬ ((ot l 4 : Nat) : Int) ≤ 15) : uvG 4 l = none := by
  match l, h with
  | b0 :: b1 :: b2 :: b3 :: b4 :: r, _ =>
    simp only [ot, List.getD_cons_zero, List.getD_cons_succ, beq_iff_eq] at *
    have k0 := b0.toNat_lt
    have k1 := b1.toNat_lt
    have k2 := b2.toNat_lt
    have k3 := b3.toNat_lt
    have k4 := b4.toNat_lt
    simp only [uvG]
    rw [if_neg (by omega)]
    rw [if_neg (by omega)]
    rw [if_neg (by omega)]
    rw [if_neg (by omega)]
    rw [if_neg (by omega)]
    rfl
theorem ne_bool (n : Nat) : ((n : Int) != 0) = decide (n ≠ 0) := by
  by_cases h : n = 0
  · subst h; rfl
  · have h2 : ¬ (n : Int) = 0 := by omega
    simp [h]
theorem be_take1 {l : List UInt8} (h : 1 ≤ l.length) : be (l.take 1) = (l.getD 0 0).toNat := by
  match l, h with
  | b :: r, _ => simp [be]
section
variable {P : Program} {Q : Exit → Act → World → Prop} {a : Act} {w : World}
theorem c_thenGoto {K : Act → World → Prop} {l : Nat} (h : Q (.goto l) a w) : Exit.then K Q (.goto l) a w := h
theorem c_jumpRet {J : Act → World → Prop} {l : Nat} (h : Q .ret a w) : Exit.jump l J Q .ret a w := h
theorem c_jump {J : Act → World → Prop} {l : Nat} (h : J a w) : Exit.jump l J Q (.goto l) a w := ⟨rfl, h⟩
theorem c_jumpNormal {J : Act → World → Prop} {l : Nat} (h : Q .normal a w) : Exit.jump l J Q .normal a w := h
end
theorem bv_get' {l : List UInt8} {j : Nat} (h : j < l.length) : (bv l)[j]? = some (.int .u8 ((ot l j : Nat) : Int)) := bv_get h
end Go.Mk.Er
/- A message's tags: a map that grows. No statement of a seat stands here. -/
namespace Go.Mk
open Go
section
variable {w0 w w' : World} {X Z : Nat → Prop} {m : List Ent}
/-- Other blocks at hand, some of them changed. -/
theorem Mem.rebuild (h : Mem w0 X Z m w) {m' : List Ent} {A : Nat → Prop} (hp : Agr A w w') (hA : ∀ b, A b → b ∈ muts m) (hnd : (muts m').Nodup)
    (hmm : ∀ b ∈ muts m', b ∈ muts m ∨ (w.heap.size ≤ b ∧ b < w'.heap.size)) (hall : ∀ e ∈ m', (e ∈ m ∧ ∀ b ∈ e.mut, ¬ A b) ∨ e.holds w' (Yof w0 Z m')) : Mem w0 X Z m' w' := by
  refine ⟨h.agr.trans hp (fun _ _ x => x) (fun k hk hkb => (h.own _ (hA k hkb)).2 hk), h.sub, hnd, ?_, ?_⟩
  · intro b hb
    rcases hmm b hb with hb | ⟨h1, h2⟩
    · exact ⟨Nat.lt_of_lt_of_le (h.own b hb).1 hp.size, (h.own b hb).2⟩
    · exact ⟨h2, fun hlt => absurd hlt (Nat.not_lt.2 (Nat.le_trans h.agr.size h1))⟩
  · intro e he
    rcases hall e he with ⟨h1, h2⟩ | h1
    · refine Ent.holds_move (fun i hi hy => ⟨hp.block i hi fun ha => hy (.inr (hA i ha)), ?_⟩) (h.all e h1) (fun b hb => hp.block b (h.own b (muts_mem h1 hb)).1 (h2 b hb))
      rintro (hz | hz)
      · exact hy (.inl hz)
      · rcases hmm i hz with hz | hz
        · exact hy (.inr hz)
        · exact absurd hi (Nat.not_lt.2 hz.1)
    · exact h1
theorem muts_putNew : ∀ {m : List Ent} {i r : Nat} {e e' : Ent}, entAt m i = some e → e.mut = [] → e'.mut = [r] → r ∉ muts m → (muts m).Nodup →
    (muts (putAt m i e')).Nodup ∧ ∀ b, b ∈ muts (putAt m i e') ↔ b = r ∨ b ∈ muts m
  | [], i, r, e, e', h, _, _, _, _ => by simp [entAt] at h
  | x :: q, 0, r, e, e', h, h1, h2, h3, h4 => by
    simp only [entAt, Option.some.injEq] at h
    subst h
    simp only [putAt, muts, h1, h2, List.nil_append, List.singleton_append] at h3 h4 ⊢
    exact ⟨List.nodup_cons.2 ⟨h3, h4⟩, fun b => by simp⟩
  | x :: q, i + 1, r, e, e', h, h1, h2, h3, h4 => by
    simp only [muts, List.mem_append, not_or] at h3
    simp only [muts, List.nodup_append] at h4
    obtain ⟨g1, g2⟩ := muts_putNew (m := q) (i := i) h h1 h2 h3.2 h4.2.1
    simp only [putAt, muts, List.nodup_append]
    refine ⟨⟨h4.1, g1, ?_⟩, fun b => by simp only [List.mem_append, g2]; constructor <;> (intro h; rcases h with h | h | h <;> simp_all)⟩
    intro a ha b hb hab
    subst hab
    rcases (g2 a).1 hb with rfl | hb
    · exact h3.1 ha
    · exact h4.2.2 a ha a hb rfl
theorem entAt_putSame : ∀ {m : List Ent} {i : Nat} {e e' : Ent}, entAt m i = some e → entAt (putAt m i e') i = some e'
  | [], i, e, e', h => by simp [entAt] at h
  | x :: q, 0, e, e', h => rfl
  | x :: q, i + 1, e, e', h => entAt_putSame (m := q) (i := i) h
theorem entAt_putOther : ∀ {m : List Ent} {i j : Nat} {e' : Ent}, i ≠ j → entAt (putAt m i e') j = entAt m j
  | [], i, j, e', _ => by cases i <;> rfl
  | x :: q, 0, 0, e', h => absurd rfl h
  | x :: q, 0, j + 1, e', h => rfl
  | x :: q, i + 1, 0, e', h => rfl
  | x :: q, i + 1, j + 1, e', h => entAt_putOther (m := q) (fun e => h (by omega))
/-- A message's tags are set: its cell, and the map. -/
theorem Mem.setTags (h : Mem w0 X Z m w) {i j g r e : Nat} {p : Option Nat} {ks ks' : List Nat} {vs vs' cs cs' : List Value} (hi : entAt m i = some (.blk g cs e)) (hj : entAt m j = some (.mapb p ks vs))
    (hp : Agr (fun k => k = g ∨ p = some k) w w') (hb : w'.heap[g]? = some (.cells cs'.toArray e (0, 0))) (hM : MapAt w' r ks' vs') (hr : p = some r ∨ (p = none ∧ w.heap.size ≤ r)) :
    Mem w0 X Z (putAt (putAt m i (.blk g cs' e)) j (.mapb (some r) ks' vs')) w' := by
  have hne : i ≠ j := by
    rintro rfl
    rw [hi] at hj
    cases hj
  have hmi : muts (putAt m i (.blk g cs' e)) = muts m := muts_putAt hi rfl
  have hgm : g ∈ muts m := muts_mem (entAt_mem hi) (by simp [Ent.mut])
  have hA : ∀ b, (b = g ∨ p = some b) → b ∈ muts m := by
    rintro b (rfl | hb)
    · exact hgm
    · exact muts_mem (entAt_mem hj) (by simp [Ent.mut, hb])
  have hj2 : entAt (putAt m i (.blk g cs' e)) j = some (.mapb p ks vs) := by rw [entAt_putOther hne]; exact hj
  have hall : ∀ Y : Nat → Prop, ∀ x ∈ putAt (putAt m i (.blk g cs' e)) j (.mapb (some r) ks' vs'), (x ∈ m ∧ ∀ b ∈ x.mut, ¬ (b = g ∨ p = some b)) ∨ x.holds w' Y := by
    intro Y x hx
    rcases mem_putAt hx with rfl | ⟨k, hkj, hk⟩
    · exact .inr hM
    · by_cases hki : k = i
      · subst hki
        have : x = .blk g cs' e := by
          have h3 := entAt_mem hk
          have h4 : entAt (putAt m k (.blk g cs' e)) k = some (.blk g cs' e) := entAt_putSame hi
          rw [hk] at h4
          exact Option.some.inj h4
        subst this
        exact .inr hb
      · rw [entAt_putOther (Ne.symm hki)] at hk
        refine .inl ⟨entAt_mem hk, ?_⟩
        rintro b hb' (rfl | hb2)
        · exact muts_apart h.nodup (Ne.symm hki) hi hk b (by simp [Ent.mut]) hb'
        · exact muts_apart h.nodup (Ne.symm hkj) hj hk b (by simp [Ent.mut, hb2]) hb'
  rcases hr with rfl | ⟨rfl, hr⟩
  · have hmj : muts (putAt (putAt m i (.blk g cs' e)) j (.mapb (some r) ks' vs')) = muts m := (muts_putAt (e' := .mapb (some r) ks' vs') hj2 rfl).trans hmi
    exact h.rebuild hp hA (by rw [hmj]; exact h.nodup) (fun b hb => .inl (hmj ▸ hb)) (hall _)
  · have hrn : r ∉ muts m := fun hx => absurd (h.own r hx).1 (Nat.not_lt.2 hr)
    obtain ⟨g1, g2⟩ := muts_putNew (r := r) (e' := .mapb (some r) ks' vs') hj2 rfl rfl (by rw [hmi]; exact hrn) (by rw [hmi]; exact h.nodup)
    refine h.rebuild hp hA g1 (fun b hb => ?_) (hall _)
    rcases (g2 b).1 hb with rfl | hb
    · exact .inr ⟨hr, hM.lt⟩
    · exact .inl (hmi ▸ hb)
theorem repL_of_repE {w : World} {Y : Nat → Prop} : ∀ {l : List DD} {c : List Value}, RepE w Y 1 l c → RepL w Y l c
  | [], c, h => by simpa [RepE, RepL] using h
  | d :: r, c, h => by
    simp only [RepE] at h
    obtain ⟨c1, c2, h1, _, h3, h4⟩ := h
    simp only [RepL]
    exact ⟨c1, c2, h1, h3, repL_of_repE h4⟩
/-- A map that is not written any more. -/
theorem Mem.freezeMap (h : Mem w0 X Z m w) {i : Nat} {p : Option Nat} {ks : List Nat} {vs : List Value} {ds : List DD} (hi : entAt m i = some (.mapb p ks vs)) (hx : ∀ k, p = some k → ¬ X k) (he : RepE w (Yof w0 Z m) 1 ds vs) :
    Mem w0 X Z (putAt m i (.rep (.mp ks ds) [.map p])) w := by
  have hmp := h.all _ (entAt_mem hi)
  simp only [Ent.holds] at hmp
  cases p with
  | none =>
    obtain ⟨rfl, rfl⟩ := hmp
    refine h.putFrozen hi rfl rfl ?_
    have hd : ds = [] := by
      have := he.length
      cases ds with
      | nil => rfl
      | cons _ _ => simp at this
    subst hd
    simp [Ent.holds, Rep]
  | some r =>
    have hsub : ∀ {m : List Ent} {i : Nat} {e' : Ent} {b : Nat}, e'.mut = [] → b ∈ muts (putAt m i e') → b ∈ muts m := by
      intro m
      induction m with
      | nil => intro i e' b _ hb; cases i <;> simp [putAt, muts] at hb
      | cons x q ih =>
        intro i e' b he' hb
        cases i with
        | zero =>
          simp only [putAt, muts, he', List.nil_append] at hb ⊢
          exact List.mem_append_right _ hb
        | succ i =>
          simp only [putAt, muts, List.mem_append] at hb ⊢
          exact hb.imp id fun hb => ih he' hb
    have hnd : ∀ {m : List Ent} {i : Nat} {e e' : Ent}, (muts m).Nodup → e'.mut = [] → entAt m i = some e → (muts (putAt m i e')).Nodup ∧ ∀ b ∈ e.mut, b ∉ muts (putAt m i e') := by
      intro m
      induction m with
      | nil => intro i e e' _ _ hb; simp [entAt] at hb
      | cons x q ih =>
        intro i e e' hn he' hb
        simp only [muts, List.nodup_append] at hn
        cases i with
        | zero =>
          simp only [entAt, Option.some.injEq] at hb
          subst hb
          simp only [putAt, muts, he', List.nil_append]
          exact ⟨hn.2.1, fun b hb hb2 => hn.2.2 b hb b hb2 rfl⟩
        | succ i =>
          obtain ⟨g1, g2⟩ := ih (i := i) hn.2.1 he' hb
          simp only [putAt, muts, List.nodup_append]
          refine ⟨⟨hn.1, g1, fun a ha b hb2 => hn.2.2 a ha b (hsub he' hb2)⟩, fun b hb2 hb3 => ?_⟩
          rcases List.mem_append.1 hb3 with hb3 | hb3
          · exact hn.2.2 b hb3 b (muts_mem (entAt_mem (m := q) (i := i) hb) hb2) rfl
          · exact g2 b hb2 hb3
    obtain ⟨g1, g2⟩ := hnd (e' := .rep (.mp ks ds) [.map (some r)]) h.nodup rfl hi
    have hy : ∀ b, Yof w0 Z (putAt m i (.rep (.mp ks ds) [.map (some r)])) b → Yof w0 Z m b := fun b hb => hb.imp id (hsub rfl)
    have hrm : r ∈ muts m := muts_mem (entAt_mem hi) (by simp [Ent.mut])
    refine h.rebuild (A := fun _ => False) (Agr.refl _ _) (fun _ hb => hb.elim) g1 (fun b hb => .inl (hsub rfl hb)) ?_
    intro x hxm
    rcases mem_putAt hxm with rfl | ⟨k, _, hk⟩
    · right
      simp only [Ent.holds, Rep]
      refine .inr ⟨r, vs, rfl, ?_, hmp, RepL.move (fun b _ hb => ⟨rfl, fun hz => hb (hy b hz)⟩) _ _ (repL_of_repE he)⟩
      rintro (hz | hz)
      · exact hx r rfl ((h.own r hrm).2 hz.1)
      · exact g2 r (by simp [Ent.mut]) hz
    · exact .inl ⟨entAt_mem hk, fun _ _ hb => hb⟩
end
theorem keyAt_new {x : Nat} : ∀ {ks : List Nat}, (∀ k ∈ ks, k ≠ x) → keyAt ks x = none
  | [], _ => rfl
  | k :: r, h => by
    simp only [keyAt]
    rw [if_neg (Ne.symm (h k List.mem_cons_self)), keyAt_new fun y hy => h y (List.mem_cons_of_mem _ hy)]
    rfl
theorem rising_take : ∀ {u : List (Nat × List UInt8)} {k : Nat}, rising u → k < u.length → ∀ q ∈ (u.take k).map (·.1), q < (u.getD k (0, [])).1
  | [], k, _, h, q, hq => by simp at hq
  | x :: r, 0, _, _, q, hq => by simp at hq
  | x :: r, k + 1, hr, hk, q, hq => by
    simp only [List.take_succ_cons, List.map_cons, List.mem_cons] at hq
    have hk' : k < r.length := by simpa using hk
    rcases hq with rfl | hq
    · simp only [List.getD_cons_succ]
      refine hr.1 _ ?_
      rw [List.getD_eq_getElem?_getD, List.getElem?_eq_getElem hk']
      exact List.getElem_mem hk'
    · simp only [List.getD_cons_succ]
      exact rising_take hr.2 hk' q hq
theorem setV_rising {u : List (Nat × List UInt8)} {k : Nat} (hr : rising u) (hk : k < u.length) (vs : List Value) (v : Value) :
    setV ((u.take k).map Prod.fst) vs (u.getD k (0, [])).1 v = ((u.take (k + 1)).map Prod.fst, vs ++ [v]) := by
  unfold setV
  rw [keyAt_new fun q hq => Nat.ne_of_lt (rising_take hr hk q hq)]
  simp only [Prod.mk.injEq, and_true]
  rw [List.take_add_one, List.map_append, List.getD_eq_getElem?_getD, List.getElem?_eq_getElem hk]
  simp
section
variable {w0 w w' : World} {X Z : Nat → Prop} {m : List Ent}
theorem Mem.addMap0 (h : Mem w0 X Z m w) : Mem w0 X Z (.mapb none [] [] :: m) w := h.add (e := .mapb none [] []) rfl ⟨rfl, rfl⟩
theorem Mem.mapOr (h : Mem w0 X Z m w) {i : Nat} {p : Option Nat} {ks : List Nat} {vs : List Value} (hi : entAt m i = some (.mapb p ks vs)) : MapOr w p ks vs := h.all _ (entAt_mem hi)
theorem Mem.blkAt (h : Mem w0 X Z m w) {i g e : Nat} {cs : List Value} (hi : entAt m i = some (.blk g cs e)) : w.heap[g]? = some (.cells cs.toArray e (0, 0)) := h.all _ (entAt_mem hi)
theorem Mem.mapNew (h : Mem w0 X Z m w) {i b : Nat} {ks ks' : List Nat} {vs vs' : List Value} (hi : entAt m i = some (.mapb none ks vs)) (hp : Agr Nob w w') (hb : b = w.heap.size) (hM : MapAt w' b ks' vs') : Mem w0 X Z (putAt m i (.mapb (some b) ks' vs')) w' := by
  have hrn : b ∉ muts m := fun hx => absurd (h.own b hx).1 (by omega)
  obtain ⟨g1, g2⟩ := muts_putNew (r := b) (e' := .mapb (some b) ks' vs') hi rfl rfl hrn h.nodup
  refine h.rebuild hp (fun _ hb => hb.elim) g1 (fun k hk => ?_) ?_
  · rcases (g2 k).1 hk with rfl | hk
    · exact .inr ⟨by omega, hM.lt⟩
    · exact .inl hk
  · intro x hx
    rcases mem_putAt hx with rfl | ⟨k, _, hk⟩
    · exact .inr hM
    · exact .inl ⟨entAt_mem hk, fun _ _ hb => hb⟩
theorem Mem.mapNe (h : Mem w0 X Z m w) {i j g e : Nat} {p : Option Nat} {ks : List Nat} {vs cs : List Value} (hi : entAt m i = some (.mapb p ks vs)) (hj : entAt m j = some (.blk g cs e)) : ∀ k, p = some k → ¬ k = g := by
  rintro k rfl rfl
  refine muts_apart h.nodup ?_ hi hj k (by simp [Ent.mut]) (by simp [Ent.mut])
  rintro rfl
  rw [hi] at hj
  cases hj
theorem Mem.startTags {g e : Nat} {cs : List Value} {p : Option Nat} {ks : List Nat} {vs : List Value} (hb : w0.heap[g]? = some (.cells cs.toArray e (0, 0))) (hM : MapOr w0 p ks vs) :
    Mem w0 (fun k => k = g ∨ p = some k) (fun k => k = g ∨ p = some k) [.blk g cs e, .mapb p ks vs] w0 := by
  have hgl : g < w0.heap.size := (Array.getElem?_eq_some_iff.1 hb).1
  refine Mem.startX (fun _ h => h) ?_ ?_ ?_
  · cases p with
    | none => simp [muts, Ent.mut]
    | some r =>
      simp only [muts, Ent.mut, List.append_nil, List.singleton_append, Option.toList_some, List.nodup_cons, List.mem_singleton, List.not_mem_nil, not_false_eq_true, List.nodup_nil, and_true]
      rintro rfl
      obtain ⟨es, clk, h1, _⟩ := hM
      rw [hb] at h1
      cases h1
  · intro b hb'
    simp only [muts, Ent.mut, List.append_nil, List.singleton_append, List.mem_cons] at hb'
    rcases hb' with rfl | hb'
    · exact ⟨hgl, .inl rfl⟩
    · cases p with
      | none => simp at hb'
      | some r =>
        simp only [Option.toList_some, List.mem_singleton] at hb'
        subst hb'
        exact ⟨MapAt.lt hM, .inr rfl⟩
  · simp only [List.forall_mem_cons, List.not_mem_nil, false_imp_iff, implies_true, and_true]
    exact ⟨hb, hM⟩
end
theorem spl_get1 {cs : List Value} {off : Nat} {v : Value} (h : off < cs.length) : (spl cs off [v])[off]? = some v := by
  rw [spl_eq (by simp only [List.length_cons, List.length_nil]; omega)]
  rw [List.append_assoc, List.getElem?_append_right (by simp; omega)]
  simp [Nat.min_eq_left (Nat.le_of_lt h)]
theorem spl_spl1 : ∀ {cs : List Value} {off : Nat} {u v : Value}, spl (spl cs off [u]) off [v] = spl cs off [v]
  | [], 0, u, v => rfl
  | [], off + 1, u, v => rfl
  | c :: cs, 0, u, v => rfl
  | c :: cs, off + 1, u, v => by simp only [spl, spl_spl1 (cs := cs)]
theorem spl_same : ∀ {cs : List Value} {off : Nat} {v : Value}, cs[off]? = some v → spl cs off [v] = cs
  | [], off, v, h => by simp at h
  | c :: cs, 0, v, h => by simp only [List.getElem?_cons_zero, Option.some.injEq] at h; subst h; rfl
  | c :: cs, off + 1, v, h => by simp only [List.getElem?_cons_succ] at h; simp only [spl, spl_same h]
def ddTagV (p : Nat × List UInt8) : DD := ddBs p.2
theorem rep_T6 {w : World} {Y : Nat → Prop} {t : T} {c : List Value} (h : Rep w Y (ddT t) c) : ∃ cs p cap pu capu, c = [.int .i64 t.n, cs, .bool t.z, .slice p t.l.length cap, .slice pu t.u.length capu] := by
  obtain ⟨ps, caps, p, cap, pu, capu, rfl⟩ := rep_T7 h
  exact ⟨_, p, cap, pu, capu, rfl⟩
theorem bv_sixteen (s : List UInt8) : bv (sixteen s) = [.int .u8 (((sixteen s).getD 0 0).toNat : Int), .int .u8 (((sixteen s).getD 1 0).toNat : Int), .int .u8 (((sixteen s).getD 2 0).toNat : Int), .int .u8 (((sixteen s).getD 3 0).toNat : Int), .int .u8 (((sixteen s).getD 4 0).toNat : Int), .int .u8 (((sixteen s).getD 5 0).toNat : Int), .int .u8 (((sixteen s).getD 6 0).toNat : Int), .int .u8 (((sixteen s).getD 7 0).toNat : Int), .int .u8 (((sixteen s).getD 8 0).toNat : Int), .int .u8 (((sixteen s).getD 9 0).toNat : Int), .int .u8 (((sixteen s).getD 10 0).toNat : Int), .int .u8 (((sixteen s).getD 11 0).toNat : Int), .int .u8 (((sixteen s).getD 12 0).toNat : Int), .int .u8 (((sixteen s).getD 13 0).toNat : Int), .int .u8 (((sixteen s).getD 14 0).toNat : Int), .int .u8 (((sixteen s).getD 15 0).toNat : Int)] := by
  have h : (sixteen s).length = 16 := sixteen_length s
  generalize sixteen s = l at h
  match l, h with
  | [a0, a1, a2, a3, a4, a5, a6, a7, a8, a9, a10, a11, a12, a13, a14, a15], _ => rfl
theorem rep_bv {w : World} {Y : Nat → Prop} : ∀ (s : List UInt8), RepL w Y (s.map ddB) (bv s)
  | [] => by simp [bv, RepL]
  | x :: r => RepL.cons1 (rep_v _) (rep_bv r)
theorem rep_six {w : World} {Y : Nat → Prop} (s : List UInt8) : Rep w Y (.agg ((sixteen s).map ddB)) [.int .u8 (((sixteen s).getD 0 0).toNat : Int), .int .u8 (((sixteen s).getD 1 0).toNat : Int), .int .u8 (((sixteen s).getD 2 0).toNat : Int), .int .u8 (((sixteen s).getD 3 0).toNat : Int), .int .u8 (((sixteen s).getD 4 0).toNat : Int), .int .u8 (((sixteen s).getD 5 0).toNat : Int), .int .u8 (((sixteen s).getD 6 0).toNat : Int), .int .u8 (((sixteen s).getD 7 0).toNat : Int), .int .u8 (((sixteen s).getD 8 0).toNat : Int), .int .u8 (((sixteen s).getD 9 0).toNat : Int), .int .u8 (((sixteen s).getD 10 0).toNat : Int), .int .u8 (((sixteen s).getD 11 0).toNat : Int), .int .u8 (((sixteen s).getD 12 0).toNat : Int), .int .u8 (((sixteen s).getD 13 0).toNat : Int), .int .u8 (((sixteen s).getD 14 0).toNat : Int), .int .u8 (((sixteen s).getD 15 0).toNat : Int)] := by
  rw [← bv_sixteen]
  exact rep_agg (rep_bv _)
theorem rep_str {w : World} {Y : Nat → Prop} {b : Nat} {x : Value} (h : Cel w Y b 0 [x]) : Rep w Y (.ptr (.v x)) [.pointer (some ⟨b, 0, none⟩)] := by
  simp only [Rep]
  exact ⟨b, 0, [x], rfl, h, rfl⟩
end Go.Mk
/- Tags that are read into a map. No statement of a seat stands here. -/
namespace Go.Mk.Er
open Go Go.Mk

theorem o_allocW {P : Program} {ops : Array Oper} {Q : Exit → Act → World → Prop} {rest : List Oper} {a : Act} {w : World} {n : Nat} {l : List (Nat × Value)} {d : Nat} {ty : Nat} {ps : String} {af : Array Edge} {e : Nat} {z : Value} {cs : List Value}
    (hk : Kn n l a) (hz : tyZero P e = some z) (hcs : cellsOf z = cs) (hd : Nat.blt d n = true)
    (K : ∀ a' w', Agr Nob w w' → w.heap.size < w'.heap.size → w'.heap[w.heap.size]? = some (.cells cs.toArray e (0, 0)) → Kn n ((d, .pointer (some ⟨w.heap.size, 0, none⟩)) :: l) a' → wpList P ops Q rest a' w') :
    wpList P ops Q (⟨some d, .alloc e, ty, ps, af, none⟩ :: rest) a w := by
  subst hcs
  refine step_runs (v := .pointer (some ⟨w.heap.size, 0, none⟩)) (w' := w.alloc (.cells z.cells e)) hk rfl rfl hd ?_ fun a' hk' => K a' _ (Agr.alloc _ _ _) (by simp) (by rw [← cellsOf_eq]; exact heap_alloc_new w _) hk'
  unfold Runs execOp
  simp [Instr.alloc, newVar, newRow, zeroValue_run hz]

theorem setV_setU {w : World} {Y : Nat → Prop} {k : Nat} {b : List UInt8} {x : Value} (hx : Rep w Y (ddBs b) [x]) : ∀ {u : List (Nat × List UInt8)} {vs : List Value}, RepL w Y (u.map fun q => ddBs q.2) vs →
    (setV (u.map Prod.fst) vs k x).1 = (setU k b u).map Prod.fst ∧ RepL w Y ((setU k b u).map fun q => ddBs q.2) (setV (u.map Prod.fst) vs k x).2
  | [], vs, h => by
    have hv : vs = [] := by simpa [RepL] using h
    subst hv
    refine ⟨rfl, ?_⟩
    show RepL w Y [ddBs b] [x]
    exact RepL.cons1 hx RepL.nil
  | q :: r, vs, h => by
    obtain ⟨v0, vs', rfl, h1, h2⟩ := h.un1 (one1_sl _ _ _)
    by_cases hq : q.1 = k
    · have e1 : keyAt ((q :: r).map Prod.fst) k = some 0 := by simp [keyAt, hq]
      unfold setV
      rw [e1]
      simp only [setU, if_pos hq, List.map_cons, List.set_cons_zero]
      exact ⟨by rw [hq], RepL.cons1 hx h2⟩
    · obtain ⟨i1, i2⟩ := setV_setU hx h2
      have e1 : keyAt ((q :: r).map Prod.fst) k = (keyAt (r.map Prod.fst) k).map (· + 1) := by
        simp only [List.map_cons, keyAt]
        rw [if_neg (fun e => hq e.symm)]
      unfold setV at i1 i2 ⊢
      rw [e1]
      cases hk : keyAt (r.map Prod.fst) k with
      | none =>
        rw [hk] at i1 i2
        simp only [Option.map_none, setU, if_neg hq, List.map_cons, List.cons_append] at i1 i2 ⊢
        exact ⟨by rw [i1], RepL.cons1 h1 i2⟩
      | some i =>
        rw [hk] at i1 i2
        simp only [Option.map_some, setU, if_neg hq, List.map_cons, List.set_cons_succ] at i1 i2 ⊢
        exact ⟨by rw [i1], RepL.cons1 h1 i2⟩

def Yt (w0 : World) (Y : Nat → Prop) (b2 b3 : Nat) (p : Option Nat) : Nat → Prop := fun k => (k < w0.heap.size ∧ Y k) ∨ k = b2 ∨ k = b3 ∨ p = some k
/-- the tags that have been read -/
structure TgAt (w0 : World) (Y : Nat → Prop) (rb er tT b2 b3 : Nat) (w : World) (u : List (Nat × List UInt8)) (sk : RS) (p : Option Nat) (vs : List Value) : Prop where
  agr : Agr (fun k => k = rb) w0 w
  rdr : RdrAt w (Yt w0 Y b2 b3 p) rb er sk
  h2 : w.heap[b2]? = some (.cells #[.map none] tT (0, 0))
  h3 : w.heap[b3]? = some (.cells #[.map p] tT (0, 0))
  mp : MapOr w p (u.map Prod.fst) vs
  rep : RepL w (Yt w0 Y b2 b3 p) (u.map fun q => ddBs q.2) vs
  own : ∀ r, p = some r → w0.heap.size ≤ r ∧ r ≠ b2 ∧ r ≠ b3 ∧ r < w.heap.size
section
variable {w0 w w' : World} {Y : Nat → Prop} {rb er tT b2 b3 : Nat} {u : List (Nat × List UInt8)} {sk sk' : RS} {p : Option Nat} {vs : List Value}
theorem TgAt.yrb (hY : Y rb) (hlt : rb < w0.heap.size) : Yt w0 Y b2 b3 p rb := .inl ⟨hlt, hY⟩
theorem TgAt.read (h : TgAt w0 Y rb er tT b2 b3 w u sk p vs) (hb : rb < w0.heap.size ∧ w0.heap.size ≤ b2 ∧ w0.heap.size ≤ b3) (hY : Y rb) (ag : Agr (fun k => k = rb) w w') (hr : RdrAt w' (fun k => k < w.heap.size ∧ Yt w0 Y b2 b3 p k) rb er sk') : TgAt w0 Y rb er tT b2 b3 w' u sk' p vs := by
  have hsz := h.agr.size
  have hlt2 := (Array.getElem?_eq_some_iff.1 h.h2).1
  have hlt3 := (Array.getElem?_eq_some_iff.1 h.h3).1
  have hyl : ∀ k, Yt w0 Y b2 b3 p k → k < w.heap.size := fun k hk => by
    rcases hk with hk | hk | hk | hk
    · omega
    · omega
    · omega
    · exact (h.own k hk).2.2.2
  refine ⟨h.agr.trans ag (fun _ _ x => x) (fun _ _ x => x), ?_, ?_, ?_, ?_, ?_, fun r hr => ?_⟩
  · obtain ⟨v, h1, h2⟩ := hr
    exact ⟨v, h1, Rep.move (fun i _ hn => ⟨rfl, fun hy => hn ⟨hyl i hy, hy⟩⟩) _ _ h2⟩
  · rw [ag.block b2 hlt2 (by omega)]; exact h.h2
  · rw [ag.block b3 hlt3 (by omega)]; exact h.h3
  · exact h.mp.move fun r hr => by
      have := h.own r hr
      exact ag.block r (by omega) (by omega)
  · exact RepL.move (fun i hi hn => ⟨ag.block i hi (fun e => hn (by rw [e]; exact .inl ⟨hb.1, hY⟩)), hn⟩) _ _ h.rep
  · have := h.own r hr
    have := ag.size
    omega
/-- one tag more -/
theorem TgAt.set (h : TgAt w0 Y rb er tT b2 b3 w u sk p vs) (hb : rb < w0.heap.size ∧ w0.heap.size ≤ b2 ∧ w0.heap.size ≤ b3 ∧ b2 ≠ b3) {k r : Nat} {b : List UInt8} {x : Value} (hx : Rep w (Yt w0 Y b2 b3 p) (ddBs b) [x])
    (ag : Agr (fun j => j = b3 ∨ p = some j) w w') (h3 : w'.heap[b3]? = some (.cells (spl [.map p] 0 [.map (some r)]).toArray tT (0, 0)))
    (hM : MapAt w' r (setV (u.map Prod.fst) vs k x).1 (setV (u.map Prod.fst) vs k x).2) (hr : p = some r ∨ (p = none ∧ w.heap.size ≤ r)) :
    ∃ vs', TgAt w0 Y rb er tT b2 b3 w' (setU k b u) sk (some r) vs' := by
  have hsz := h.agr.size
  have hsz2 := ag.size
  have hlt2 := (Array.getElem?_eq_some_iff.1 h.h2).1
  have hlt3 := (Array.getElem?_eq_some_iff.1 h.h3).1
  have hmv : ∀ i, i < w.heap.size → ¬ Yt w0 Y b2 b3 p i → w'.heap[i]? = w.heap[i]? ∧ ¬ Yt w0 Y b2 b3 (some r) i := fun i hi hn => ⟨ag.block i hi (fun hx => hn (hx.elim (fun e => .inr (.inr (.inl e))) fun e => .inr (.inr (.inr e)))), fun hy => by
    rcases hy with hy | hy | hy | hy
    · exact hn (.inl hy)
    · exact hn (.inr (.inl hy))
    · exact hn (.inr (.inr (.inl hy)))
    · rcases hr with hr | hr
      · exact hn (.inr (.inr (.inr (by rw [hr]; exact hy))))
      · have : r = i := by simpa using hy
        omega⟩
  obtain ⟨s1, s2⟩ := setV_setU (k := k) hx h.rep
  have hpown : ∀ j, p = some j → w0.heap.size ≤ j ∧ j ≠ b2 := fun j hj => ⟨(h.own j hj).1, (h.own j hj).2.1⟩
  refine ⟨(setV (u.map Prod.fst) vs k x).2, h.agr.trans ag (fun _ _ x => x) (fun i hi hx => ?_), ?_, ?_, ?_, ?_, RepL.move hmv _ _ s2, fun r' hr' => ?_⟩
  · rcases hx with hx | hx
    · omega
    · have := (hpown i hx).1
      omega
  · obtain ⟨v, h1, h4⟩ := h.rdr
    have hrl := (Array.getElem?_eq_some_iff.1 h1).1
    refine ⟨v, ?_, Rep.move hmv _ _ h4⟩
    rw [ag.block rb hrl (fun hx => by
      rcases hx with hx | hx
      · omega
      · have := (hpown rb hx).1
        omega)]
    exact h1
  · rw [ag.block b2 hlt2 (fun hx => by
      rcases hx with hx | hx
      · omega
      · exact (hpown b2 hx).2 rfl)]
    exact h.h2
  · simpa [spl, ovl] using h3
  · rw [← s1]; exact hM
  · obtain rfl : r = r' := by simpa using hr'
    have hlt := hM.lt
    rcases hr with hr | hr
    · have := h.own r hr
      omega
    · omega
/-- what is given back -/
theorem TgAt.fin (h : TgAt w0 Y rb er tT b2 b3 w u sk p vs) (hb : rb < w0.heap.size ∧ w0.heap.size ≤ b2 ∧ w0.heap.size ≤ b3) (_hY : Y rb) (ag : Agr (fun k => k = b2) w w') :
    Agr (fun k => k = rb) w0 w' ∧ Rep w' (fun k => k < w0.heap.size ∧ Y k) (ddTagMap u) [.map p] ∧ RdrAt w' (fun k => k < w0.heap.size ∧ Y k) rb er sk := by
  have hmv : ∀ i, i < w.heap.size → ¬ Yt w0 Y b2 b3 p i → w'.heap[i]? = w.heap[i]? ∧ ¬ (i < w0.heap.size ∧ Y i) := fun i hi hn => ⟨ag.block i hi (fun e => hn (.inr (.inl e))), fun hy => hn (.inl hy)⟩
  refine ⟨h.agr.trans ag (fun _ _ x => x) (fun i hi hx => by omega), ?_, ?_⟩
  · unfold ddTagMap
    simp only [Rep]
    have hmp := h.mp
    have hrep := RepL.move hmv _ _ h.rep
    cases p with
    | none =>
      obtain ⟨h1, h2⟩ := hmp
      have hu : u = [] := by simpa using h1
      subst hu
      exact .inl ⟨rfl, rfl, rfl⟩
    | some r =>
      have := h.own r rfl
      have hmp' : MapAt w r (u.map Prod.fst) vs := hmp
      exact .inr ⟨r, vs, rfl, by omega, hmp'.move (ag.block r (by omega) (by omega)), hrep⟩
  · obtain ⟨v, h1, h2⟩ := h.rdr
    have hl := (Array.getElem?_eq_some_iff.1 h1).1
    exact ⟨v, by rw [ag.block rb hl (by omega)]; exact h1, Rep.move hmv _ _ h2⟩
theorem b_retCellW {P : Program} {a : Act} {w : World} {n : Nat} {l : List (Nat × Value)} {fn : Func} {s t b : Nat} {cs : List Value} {R : Value → World → Prop} (hr : fn.results = #[.cell s t]) (ht : tySz P t = some (true, cs.length))
    (hk : Kn n l a) (hv : look l s = some (.pointer (some ⟨b, 0, none⟩))) (hc : ∀ j u, cs[j]? = some u → w.cell? ⟨b, 0 + j, none⟩ = some u) (h : R (.agg cs.toArray) w) :
    bodyPost P fn (fun e w' => ∃ v, e = .returned v ∧ R v w') .ret a w := by
  refine bodyPost_ret (v := .agg cs.toArray) ?_ hk.defers ⟨_, rfl, h⟩
  have hc := run_loadCells' (P := P) (w := w) (b := b) (off := 0) (cs := cs) hc
  have hs : a.tmps[s]?.getD undef = .pointer (some ⟨b, 0, none⟩) := by rw [← Array.getD_eq_getD_getElem?]; exact hk.at_ s _ hv
  simp [results, hr, hs, asAddr, loadVar, isAgg_true ht, sizeOf_run ht, hc]
theorem rdTagsN_succ (n : Nat) (u : List (Nat × List UInt8)) (s : RS) : rdTagsN (n + 1) u s = rdTagsN n (setU (RS.uv s).1 ((RS.span ((RS.uv (RS.uv s).2).1 : Int) (RS.uv (RS.uv s).2).2).1.getD []) u) (RS.span ((RS.uv (RS.uv s).2).1 : Int) (RS.uv (RS.uv s).2).2).2 := rfl
end
end Go.Mk.Er
/- Constants set in a struct that lies in a block. No statement of a seat stands here. -/
namespace Go.Mk
open Go
theorem spl_mid0 : ∀ {c post : List Value} {k : Nat} {v : Value}, k < c.length → spl (c ++ post) k [v] = c.set k v ++ post
  | [], _, _, _, h => absurd h (Nat.not_lt_zero _)
  | x :: c, post, 0, v, _ => by
    rw [spl_eq (by simp)]
    simp
  | x :: c, post, k + 1, v, h => by
    have h' : k < c.length := by simpa using h
    have ih := spl_mid0 (post := post) (v := v) h'
    rw [spl_eq (by simp; omega)] at ih ⊢
    simp only [List.cons_append, List.take_succ_cons, List.length_cons, List.length_nil, List.set_cons_succ] at ih ⊢
    rw [← ih, show k + 1 + (0 + 1) = (k + (0 + 1)) + 1 by omega, List.drop_succ_cons]
theorem spl_mid : ∀ {pre c post : List Value} {k : Nat} {v : Value}, k < c.length → spl (pre ++ c ++ post) (pre.length + k) [v] = pre ++ c.set k v ++ post
  | [], c, post, k, v, h => by simpa using spl_mid0 (post := post) h
  | x :: pre, c, post, k, v, h => by
    have ih := spl_mid (pre := pre) (post := post) (v := v) h
    rw [spl_eq (by simp; omega)] at ih ⊢
    simp only [List.cons_append, List.length_cons, List.length_nil] at ih ⊢
    rw [show pre.length + 1 + k = (pre.length + k) + 1 by omega, List.take_succ_cons, show pre.length + k + 1 + (0 + 1) = (pre.length + k + (0 + 1)) + 1 by omega, List.drop_succ_cons]
    rw [List.cons_append, List.cons_append, ih]
section
variable {P : Program} {a : Act} {w : World} {n : Nat} {l : List (Nat × Value)} {d : Option Nat} {ty : Nat} {ps : String} {af : Array Edge} {g : Option (Nat × Bool)}
theorem r_sliceArr {x : Operand} {t e k s b off : Nat} {bl : Bool} (hk : Kn n l a) (ht : tyArr P t = some (k, e)) (hs : tySz P e = some (bl, s)) (hx : ev l x = some (.pointer (some ⟨b, off, none⟩))) :
    Runs P ⟨d, .slice t x none none none, ty, ps, af, g⟩ a w (.slice (some ⟨b, off, none⟩) k k) w := by
  unfold Runs execOp
  simp only [Sem.run_bind, hk.eval hx, Instr.sliceAt, run_underlying (tyArr_run ht), Result.andThen_ok, Instr.sureAddr, Instr.sliceBounds, Sem.run_pure, sizeOf_run hs, Option.map_none, Nat.sub_zero, Nat.zero_mul]
  have h1 : (⟨b, off, none⟩ : Addr).add 0 = ⟨b, off, none⟩ := by simp [Addr.add]
  rw [h1]
  simp
end
/-- What is copied into sixteen cells. -/
theorem sixteen_copied (s : List UInt8) : (bv s).take 16 ++ (List.replicate 16 (Value.int .u8 0)).drop s.length = bv (sixteen s) := sixteen_cells s
theorem spl_whole {cs vs : List Value} (h : vs.length = cs.length) : spl cs 0 vs = vs := by
  rw [spl_eq (by omega), h]
  simp
section
variable {w0 w : World} {X Z : Nat → Prop} {m : List Ent}
theorem Mem.yofBlk (_h : Mem w0 X Z m w) {i b : Nat} {cs : List Value} {e : TypeId} (hi : entAt m i = some (.blk b cs e)) : Yof w0 Z m b := yof_blk hi
theorem Mem.yofRow (_h : Mem w0 X Z m w) {i e sz n k : Nat} {v : Value} {xs : List Value} (hi : entAt m i = some (.row e sz v n xs)) (hv : v.ownBlock = some k) : Yof w0 Z m k := .inr (muts_mem (entAt_mem hi) (by simp [Ent.mut, hv]))
end
end Go.Mk
/- What is told of what was read, and that it is what was written. No statement of a seat stands here. -/
namespace Go.Mk
open Go

/-! ### what is told -/
def insK (u : Nat × List UInt8) : List (Nat × List UInt8) → List (Nat × List UInt8)
  | [] => [u]
  | x :: r => if u.1 < x.1 then u :: x :: r else x :: insK u r
def sortU (u : List (Nat × List UInt8)) : List (Nat × List UInt8) := u.foldl (fun out x => insK x out) []
def telN (k : Nat) (n : Int) : Int := match k with
  | 4 => n
  | 6 => IntKind.i64.wrap n
  | k => wrapK k n
def telV (kind : Nat) (nu : Int) (pt : T → T) (q : T) : T :=
  match kind with
  | 0 => ofNum (q.n % 2)
  | 7 => ofOct (sixteen q.s)
  | 8 => if 0 ≤ nu ∧ q.z = true then ofNil else ofOct q.s
  | 9 => .mk 0 (if q.z then [] else q.s) q.z [] []
  | 10 => if 0 ≤ nu ∧ q.z = true then ofNil else pt q
  | k => ofNum (telN k q.n)
mutual
def telF : Fld → T → T
  | .mk kind _ _ nu _ _ of sub, q =>
    if kind = 11 then .mk 0 [] q.z (if q.z then [] else q.l.map (telV of (-1) (fun x => .mk 0 [] false (telFs sub x.l 0) (sortU x.u)))) []
    else telV kind nu (fun x => .mk 0 [] false (telFs sub x.l 0) (sortU x.u)) q
def telFs : List Fld → List T → Nat → List T
  | [], _, _ => []
  | f :: r, l, i => telF f (l.getD i T.nil) :: telFs r l (i + 1)
end
def telP (fs : List Fld) (q : T) : T := .mk 0 [] false (telFs fs q.l 0) (sortU q.u)
theorem telF_eq (f : Fld) (q : T) : telF f q = if f.kind = 11 then .mk 0 [] q.z (if q.z then [] else q.l.map (telV f.of (-1) (telP f.sub))) [] else telV f.kind f.nu (telP f.sub) q := by
  cases f; rfl

/-! ### the reference's judgement -/
def numberK (k : Nat) (n : Int) : Int := match k with
  | 0 => n % 2
  | 1 => IntKind.i8.wrap n
  | 2 => IntKind.i16.wrap n
  | 3 => IntKind.i32.wrap n
  | 5 => IntKind.u16.wrap n
  | _ => n
mutual
/-- all of it as by default -/
def usuF : Fld → T → Bool
  | .mk kind _ _ nu _ df _ sub, x =>
    if kind = 8 then (x.z == decide (0 ≤ nu)) && x.s.isEmpty
    else if kind = 7 then decide (x.s = List.replicate 16 0)
    else if kind = 9 ∨ kind = 11 then x.s.isEmpty && x.l.isEmpty
    else if kind = 10 then (if 0 ≤ nu then x.z else x.u.isEmpty && usuFs sub x.l 0)
    else decide (x.n = numberK kind df)
def usuFs : List Fld → List T → Nat → Bool
  | [], _, _ => true
  | f :: r, l, i => usuF f (l.getD i T.nil) && usuFs r l (i + 1)
end
def toldV (kind : Nat) (pt : T → T → Bool) (t g : T) : Bool :=
  match kind with
  | 7 => decide (g.s = sixteen t.s)
  | 8 => decide (g.s = whole t.s)
  | 9 => decide (g.s = whole t.s)
  | 10 => pt t g
  | k => decide (g.n = numberK k t.n)
/-- two lists, one by one -/
def all2 (p : T → T → Bool) : List T → List T → Bool
  | [], [] => true
  | a :: r, b :: s => p a b && all2 p r s
  | _, _ => false
def toldQ (f : Fld) (V : Int) (pt : T → T → Bool) (t g : T) : Bool :=
  if (decide (f.kind = 8) || decide (f.kind = 10) || f.may V) && (g.z != f.null V t) then false
  else if f.null V t then true
  else if f.kind = 11 then decide (g.l.length = (things t.l).length) && all2 (fun x y => if (decide (f.of = 8) || decide (f.of = 10)) && y.z then false else toldV f.of pt x y) (things t.l) g.l
  else toldV f.kind pt t g
mutual
def toldF : Fld → Int → Bool → T → T → Bool
  | .mk kind fr to nu tag df of sub, V, flex, t, g => toldQ (.mk kind fr to nu tag df of []) V (fun x y => decide (y.l.length = sub.length) && toldFs sub V flex x.l y.l 0 && decide (y.u = if flex then fitU sub x.u else [])) t g
def toldFs : List Fld → Int → Bool → List T → List T → Nat → Bool
  | [], _, _, _, _, _ => true
  | f :: r, V, flex, l, m, i => (if f.has V then toldF f V flex (l.getD i T.nil) (m.getD i T.nil) else usuF f (m.getD i T.nil)) && toldFs r V flex l m (i + 1)
end
def toldP (fs : List Fld) (V : Int) (flex : Bool) (t g : T) : Bool := decide (g.l.length = fs.length) && toldFs fs V flex t.l g.l 0 && decide (g.u = if flex then fitU fs t.u else [])
theorem toldF_eq (f : Fld) (V : Int) (flex : Bool) (t g : T) : toldF f V flex t g = toldQ f V (toldP f.sub V flex) t g := by cases f; rfl

/-! ### it is what was written -/
mutual
/-- all numbers are of 64 bits -/
def T.wide : T → Bool
  | .mk n _ _ l _ => decide (-9223372036854775808 ≤ n) && decide (n < 9223372036854775808) && T.wides l
def T.wides : List T → Bool
  | [] => true
  | t :: r => t.wide && T.wides r
end
theorem wides_mem : ∀ {l : List T}, T.wides l = true → ∀ x ∈ l, x.wide = true
  | [], _, _, h => by cases h
  | t :: r, h, x, hx => by
    simp only [T.wides, Bool.and_eq_true] at h
    cases hx with
    | head => exact h.1
    | tail _ hx => exact wides_mem h.2 x hx
theorem wide_spec {t : T} (h : t.wide = true) : (-9223372036854775808 ≤ t.n ∧ t.n < 9223372036854775808) ∧ ∀ x ∈ t.l, x.wide = true := by
  cases t with
  | mk n s z l u =>
    simp only [T.wide, Bool.and_eq_true, decide_eq_true_eq] at h
    exact ⟨h.1, wides_mem h.2⟩
theorem wide_getD {l : List T} (h : ∀ x ∈ l, x.wide = true) (k : Nat) : (l.getD k T.nil).wide = true := by
  rw [List.getD_eq_getElem?_getD]
  cases hk : l[k]? with
  | none => rfl
  | some x => exact h x (List.mem_of_getElem? hk)
theorem insK_last {u : Nat × List UInt8} : ∀ {l : List (Nat × List UInt8)}, (∀ x ∈ l, x.1 < u.1) → insK u l = l ++ [u]
  | [], _ => rfl
  | x :: r, h => by
    simp only [insK]
    rw [if_neg (by have := h x List.mem_cons_self; omega), insK_last fun y hy => h y (List.mem_cons_of_mem _ hy)]
    rfl
theorem sortU_rising {u : List (Nat × List UInt8)} (h : rising u) : sortU u = u := by
  have key : ∀ (u acc : List (Nat × List UInt8)), rising u → (∀ x ∈ acc, ∀ y ∈ u, x.1 < y.1) → u.foldl (fun out x => insK x out) acc = acc ++ u := by
    intro u
    induction u with
    | nil => intro acc _ _; simp
    | cons x r ih =>
      intro acc hr ha
      simp only [List.foldl_cons]
      rw [insK_last fun y hy => ha y hy x List.mem_cons_self, ih _ hr.2 ?_]
      · simp
      · intro y hy z hz
        rcases List.mem_append.1 hy with hy | hy
        · exact ha y hy z (List.mem_cons_of_mem _ hz)
        · simp only [List.mem_singleton] at hy
          subst hy
          exact hr.1 z hz
  exact key u [] h (fun x hx => by cases hx)
theorem telN_wrapK {k : Nat} {n : Int} (h0 : k ≠ 0) (h1 : -9223372036854775808 ≤ n ∧ n < 9223372036854775808) : telN k (wrapK k n) = numberK k n := by
  unfold telN wrapK numberK
  split <;> rename_i hk
  · simp only [IntKind.wrap, IntKind.bits, IntKind.signed]; simp; omega
  · simp only [IntKind.wrap, IntKind.bits, IntKind.signed]; simp; omega
  · split <;> first | contradiction | (simp only [IntKind.wrap, IntKind.bits, IntKind.signed]; simp; try omega)

mutual
/-- numbers are never null; defaults are of 64 bits -/
def okDF : Fld → Bool
  | .mk kind _ _ nu _ df _ sub => (decide (8 ≤ kind) || decide (nu < 0)) && decide (kind ≤ 11) && decide (-9223372036854775808 ≤ df) && decide (df < 9223372036854775808) && okDFs sub
def okDFs : List Fld → Bool
  | [] => true
  | f :: r => okDF f && okDFs r
end
theorem okD_mem : ∀ {fs : List Fld}, okDFs fs = true → ∀ f ∈ fs, okDF f = true
  | [], _, _, h => by cases h
  | g :: r, h, f, hf => by
    simp only [okDFs, Bool.and_eq_true] at h
    cases hf with
    | head => exact h.1
    | tail _ hf => exact okD_mem h.2 f hf
theorem okD_spec {f : Fld} (h : okDF f = true) : (8 ≤ f.kind ∨ f.nu < 0) ∧ f.kind ≤ 11 ∧ (-9223372036854775808 ≤ f.df ∧ f.df < 9223372036854775808) ∧ okDFs f.sub = true := by
  cases f
  simp only [okDF, Bool.and_eq_true, Bool.or_eq_true, decide_eq_true_eq] at h
  exact ⟨h.1.1.1.1, h.1.1.1.2, ⟨h.1.1.2, h.1.2⟩, h.2⟩
theorem telN_number {k : Nat} {n : Int} (h0 : k ≠ 0) (hk : k ≤ 6) (h1 : -9223372036854775808 ≤ n ∧ n < 9223372036854775808) : telN k n = numberK k n := by
  rcases (show k = 1 ∨ k = 2 ∨ k = 3 ∨ k = 4 ∨ k = 5 ∨ k = 6 by omega) with rfl | rfl | rfl | rfl | rfl | rfl
  · rfl
  · rfl
  · rfl
  · rfl
  · rfl
  · show IntKind.i64.wrap n = n
    simp only [IntKind.wrap, IntKind.bits, IntKind.signed]; simp; omega
theorem dfF_eq (f : Fld) : dfF f = if f.kind = 7 then ofOct (List.replicate 16 0) else if f.kind = 8 then .mk 0 [] (decide (0 ≤ f.nu)) [] [] else if f.kind = 9 ∨ f.kind = 11 then ofNil else if f.kind = 10 then (if 0 ≤ f.nu then ofNil else .mk 0 [] false (dfFs f.sub) []) else ofNum f.df := by
  cases f; unfold dfF; rfl
theorem usuF_eq (f : Fld) (x : T) : usuF f x = if f.kind = 8 then (x.z == decide (0 ≤ f.nu)) && x.s.isEmpty else if f.kind = 7 then decide (x.s = List.replicate 16 0) else if f.kind = 9 ∨ f.kind = 11 then x.s.isEmpty && x.l.isEmpty
    else if f.kind = 10 then (if 0 ≤ f.nu then x.z else x.u.isEmpty && usuFs f.sub x.l 0) else decide (x.n = numberK f.kind f.df) := by
  cases f; unfold usuF; rfl
theorem telV_num {k : Nat} {nu : Int} {pt : T → T} {q : T} (h0 : k ≠ 0) (hk : k ≤ 6) : telV k nu pt q = ofNum (telN k q.n) := by
  unfold telV
  split <;> first | rfl | (exfalso; omega)
theorem usuFs_df : ∀ (fs : List Fld), (∀ f ∈ fs, usuF f (telF f (dfF f)) = true) → ∀ (pre l : List T), l = pre ++ dfFs fs → ∀ (pre2 l2 : List T), l2 = pre2 ++ telFs fs l pre.length → usuFs fs l2 pre2.length = true
  | [], _, _, _, _, _, _, _ => rfl
  | f :: r, hf, pre, l, hl, pre2, l2, hl2 => by
    have e1 : l.getD pre.length T.nil = dfF f := by rw [hl]; simp [dfFs]
    have e2 : l2.getD pre2.length T.nil = telF f (dfF f) := by rw [hl2, ← e1]; simp [telFs]
    simp only [usuFs, e2, hf f List.mem_cons_self, Bool.true_and]
    have h := usuFs_df r (fun g hg => hf g (List.mem_cons_of_mem _ hg)) (pre ++ [dfF f]) l (by rw [hl]; simp [dfFs]) (pre2 ++ [telF f (dfF f)]) l2 (by rw [hl2]; simp only [telFs, e1]; simp)
    simpa using h
theorem usuF_df : ∀ f : Fld, okDF f = true → usuF f (telF f (dfF f)) = true := Fld_ind fun f ih h => by
  obtain ⟨h1, h2, h3, h4⟩ := okD_spec h
  rw [usuF_eq, telF_eq, dfF_eq]
  by_cases h8 : f.kind = 8
  · rw [if_pos h8, h8]
    by_cases hnu : 0 ≤ f.nu <;> simp [telV, hnu, ofNil, ofOct, T.z, T.s]
  by_cases h7 : f.kind = 7
  · rw [if_neg h8, if_pos h7, h7]
    simp [telV, ofOct, T.s]
    decide
  by_cases h9 : f.kind = 9
  · rw [if_neg h8, if_neg h7, h9]
    simp [telV, ofNil, T.s, T.z, T.l]
  by_cases h11 : f.kind = 11
  · rw [if_neg h8, if_neg h7, h11]
    simp [ofNil, T.s, T.z, T.l]
  by_cases h10 : f.kind = 10
  · rw [if_neg h8, if_neg h7, h10]
    by_cases hnu : 0 ≤ f.nu
    · simp [telV, hnu, ofNil, T.z]
    · have hs := usuFs_df f.sub (fun g hg => ih g hg (okD_mem h4 g hg)) [] (dfFs f.sub) rfl [] (telFs f.sub (dfFs f.sub) 0) rfl
      simp [telV, hnu, T.z, telP, T.u, T.l, sortU]
      exact hs
  · have hk : f.kind ≤ 6 := by omega
    rw [if_neg h8, if_neg h7, if_neg (by omega), if_neg h10, if_neg h11, if_neg h7, if_neg h8, if_neg (by omega), if_neg h10]
    by_cases h0 : f.kind = 0
    · rw [h0]; simp [telV, ofNum, T.n, numberK]
    · rw [telV_num h0 hk]
      exact decide_eq_true (telN_number h0 hk h3)

theorem mk_z {n : Int} {s : List UInt8} {z : Bool} {l : List T} {u : List (Nat × List UInt8)} : (T.mk n s z l u).z = z := rfl
theorem mk_l {n : Int} {s : List UInt8} {z : Bool} {l : List T} {u : List (Nat × List UInt8)} : (T.mk n s z l u).l = l := rfl
theorem toldV_got {kind : Nat} {nu : Int} {pt : T → T → Bool} {tp gp : T → T} {t : T} (hk : kind ≤ 10) (hw : t.wide = true) (hz : 0 ≤ nu → (gp t).z = false) (hp : kind = 10 → pt t (tp (gp t)) = true) :
    toldV kind pt t (telV kind nu tp (gotV kind false gp t)) = true := by
  rcases (show kind = 0 ∨ kind = 7 ∨ kind = 8 ∨ kind = 9 ∨ kind = 10 ∨ (kind ≠ 0 ∧ kind ≤ 6) by omega) with rfl | rfl | rfl | rfl | rfl | ⟨h0, h6⟩
  · show decide (t.n % 2 % 2 = t.n % 2) = true
    exact decide_eq_true (by omega)
  · show decide (sixteen (sixteen t.s) = sixteen t.s) = true
    refine decide_eq_true ?_
    have h := sixteen_length t.s
    generalize sixteen t.s = l at h
    unfold sixteen
    rw [List.take_append_of_le_length (by omega), List.take_of_length_le (by omega)]
  · have e : telV 8 nu tp (gotV 8 false gp t) = ofOct (whole t.s) := by
      show (if 0 ≤ nu ∧ false = true then ofNil else ofOct (whole t.s)) = _
      rw [if_neg (by simp)]
    rw [e]; exact decide_eq_true rfl
  · exact decide_eq_true rfl
  · have e : telV 10 nu tp (gotV 10 false gp t) = tp (gp t) := by
      show (if 0 ≤ nu ∧ (gp t).z = true then ofNil else tp (gp t)) = _
      rw [if_neg (fun h => by rw [hz h.1] at h; exact Bool.noConfusion h.2)]
    rw [e]; exact hp rfl
  · have e : telV kind nu tp (gotV kind false gp t) = ofNum (telN kind (wrapK kind t.n)) := by
      rw [telV_num h0 h6]
      have : gotV kind false gp t = ofNum (wrapK kind t.n) := by unfold gotV; split <;> first | rfl | (exfalso; omega)
      rw [this]; rfl
    rw [e]
    have e2 : toldV kind pt t (ofNum (telN kind (wrapK kind t.n))) = decide (telN kind (wrapK kind t.n) = numberK kind t.n) := by unfold toldV; split <;> first | rfl | (exfalso; omega)
    rw [e2]
    exact decide_eq_true (telN_wrapK h0 (wide_spec hw).1)
theorem all2_map {p : T → T → Bool} {g : T → T} : ∀ {l : List T}, (∀ x ∈ l, p x (g x) = true) → all2 p l (l.map g) = true
  | [], _ => rfl
  | x :: r, h => by
    simp only [List.map_cons, all2, h x List.mem_cons_self, Bool.true_and]
    exact all2_map fun y hy => h y (List.mem_cons_of_mem _ hy)
theorem telV_z {kind : Nat} {tp : T → T} {q : T} (h : kind = 10 → (tp q).z = false) (h8 : kind = 8 ∨ kind = 10) : (telV kind (-1) tp q).z = false := by
  rcases h8 with rfl | rfl
  · rfl
  · exact h rfl
theorem toldF_of {f : Fld} {V : Int} {flex : Bool} (hof : f.of ≤ 10) (hd : okDF f = true) (hp : ∀ x : T, x.wide = true → toldP f.sub V flex x (telP f.sub (gotP f.sub V flex x)) = true) (t : T) (hw : t.wide = true) :
    toldF f V flex t (telF f (gotF f V flex t)) = true := by
  obtain ⟨hnn, hk11, _, _⟩ := okD_spec hd
  have hz : ∀ x, (gotP f.sub V flex x).z = false := fun _ => rfl
  have htz : ∀ q, (telP f.sub q).z = false := fun _ => rfl
  rw [toldF_eq, telF_eq, gotF_eq]
  unfold toldQ gotQ
  by_cases h11 : f.kind = 11
  · simp only [if_pos h11]
    have hk : decide (f.kind = 8) || decide (f.kind = 10) = false := by rw [h11]; rfl
    cases hnl : f.null V t with
    | true =>
      have hm := null_may hnl
      have hnu : 0 ≤ f.nu := by
        simp only [Fld.may, Bool.and_eq_true, decide_eq_true_eq] at hm
        exact hm.1
      simp [hnu, T.z, h11, hm]
    | false =>
      have hall : ∀ x ∈ things t.l, x.wide = true := fun x hx => (wide_spec hw).2 x (List.mem_of_mem_take hx)
      have h2 : all2 (fun x y => if (decide (f.of = 8) || decide (f.of = 10)) && y.z then false else toldV f.of (toldP f.sub V flex) x y) (things t.l) ((things t.l).map fun x => telV f.of (-1) (telP f.sub) (gotV f.of false (gotP f.sub V flex) x)) = true := by
        refine all2_map fun x hx => ?_
        have e : ((decide (f.of = 8) || decide (f.of = 10)) && (telV f.of (-1) (telP f.sub) (gotV f.of false (gotP f.sub V flex) x)).z) = false := by
          by_cases h8 : f.of = 8 ∨ f.of = 10
          · rw [telV_z (fun _ => htz _) h8]; simp
          · have : (decide (f.of = 8) || decide (f.of = 10)) = false := by simp; omega
            rw [this]; rfl
        rw [e]
        exact toldV_got hof (hall x hx) (fun h => by omega) fun _ => hp x (hall x hx)
      by_cases hnu : 0 ≤ f.nu
      · simp only [if_pos hnu, mk_z, mk_l, Bool.false_eq_true, if_false, List.map_map]
        have : ((decide (f.kind = 8) || decide (f.kind = 10) || f.may V) && (false != false)) = false := by simp
        rw [this]
        simp only [Bool.false_eq_true, if_false, List.length_map, decide_true, Bool.true_and]
        exact h2
      · simp only [if_neg hnu, mk_z, mk_l, Bool.false_eq_true, if_false, List.map_map]
        have hm : f.may V = false := by unfold Fld.may; simp [hnu]
        have : ((decide (f.kind = 8) || decide (f.kind = 10) || f.may V) && ((things t.l).isEmpty != false)) = false := by rw [hm, h11]; rfl
        rw [this]
        simp only [Bool.false_eq_true, if_false]
        cases he : (things t.l).isEmpty with
        | true =>
          have : things t.l = [] := by simpa using he
          rw [this]; rfl
        | false =>
          simp only [Bool.false_eq_true, if_false, List.length_map, decide_true, Bool.true_and]
          exact h2
  · simp only [if_neg h11]
    by_cases h10 : f.kind = 10 ∧ 0 ≤ f.nu
    · simp only [if_pos h10]
      cases hnl : f.null V t with
      | true => simp [telV, h10.1, h10.2, ofNil, T.z]
      | false =>
        have e : telV 10 f.nu (telP f.sub) (gotP f.sub V flex t) = telP f.sub (gotP f.sub V flex t) := by
          show (if 0 ≤ f.nu ∧ (gotP f.sub V flex t).z = true then ofNil else telP f.sub (gotP f.sub V flex t)) = _
          rw [if_neg (by rw [hz]; simp)]
        have h := hp t hw
        have hc : ((decide ((10 : Nat) = 8) || decide ((10 : Nat) = 10) || f.may V) && (false != false)) = false := by simp
        simp only [Bool.false_eq_true, if_false]
        rw [h10.1, e, htz, hc]
        exact h
    · simp only [if_neg h10]
      cases hnl : f.null V t with
      | true =>
        have hm := null_may hnl
        have hnu : 0 ≤ f.nu := by
          simp only [Fld.may, Bool.and_eq_true, decide_eq_true_eq] at hm
          exact hm.1
        rcases (show f.kind = 8 ∨ f.kind = 9 by
          have : 8 ≤ f.kind := by omega
          have : f.kind ≠ 10 := fun e => h10 ⟨e, hnu⟩
          omega) with e | e
        · rw [e]; simp [telV, gotV, hnu, ofNil, T.z]
        · rw [e]; simp [telV, gotV, ofNil, T.z]
      | false =>
        have hv := toldV_got (kind := f.kind) (nu := f.nu) (pt := toldP f.sub V flex) (tp := telP f.sub) (gp := gotP f.sub V flex) (t := t) (by omega) hw (fun _ => hz t) (fun _ => hp t hw)
        have hzz : ((decide (f.kind = 8) || decide (f.kind = 10) || f.may V) && ((telV f.kind f.nu (telP f.sub) (gotV f.kind false (gotP f.sub V flex) t)).z != false)) = false := by
          rcases (show f.kind = 8 ∨ f.kind = 9 ∨ f.kind = 10 ∨ f.kind ≤ 7 by omega) with e | e | e | e
          · rw [e]
            have : (telV 8 f.nu (telP f.sub) (gotV 8 false (gotP f.sub V flex) t)).z = false := by
              show (if 0 ≤ f.nu ∧ false = true then ofNil else ofOct (whole t.s)).z = false
              rw [if_neg (by simp)]; rfl
            rw [this]; simp
          · rw [e]
            have : (telV 9 f.nu (telP f.sub) (gotV 9 false (gotP f.sub V flex) t)).z = false := rfl
            rw [this]; simp
          · rw [e]
            have : (telV 10 f.nu (telP f.sub) (gotV 10 false (gotP f.sub V flex) t)).z = false := by
              show (if 0 ≤ f.nu ∧ (gotP f.sub V flex t).z = true then ofNil else telP f.sub (gotP f.sub V flex t)).z = false
              rw [if_neg (by rw [hz]; simp)]; rfl
            rw [this]; simp
          · have hm : f.may V = false := by
              unfold Fld.may
              have : ¬ 0 ≤ f.nu := by omega
              simp [this]
            have h8 : decide (f.kind = 8) = false := decide_eq_false (by omega)
            have hx : decide (f.kind = 10) = false := decide_eq_false (by omega)
            rw [hm, h8, hx]; rfl
        rw [hzz]
        simpa using hv
theorem toldFs_got {V : Int} {flex : Bool} {t : T} (hw : t.wide = true) : ∀ (fs : List Fld) (i : Nat), (∀ f ∈ fs, ∀ t : T, t.wide = true → toldF f V flex t (telF f (gotF f V flex t)) = true) → (∀ f ∈ fs, okDF f = true) →
    ∀ (pre l : List T), l = pre ++ gotFs fs V flex t.l i → ∀ (pre2 l2 : List T), pre2.length = i → pre.length = i → l2 = pre2 ++ telFs fs l i → toldFs fs V flex t.l l2 i = true
  | [], i, _, _, _, _, _, _, _, _, _, _ => rfl
  | f :: r, i, hf, hd, pre, l, hl, pre2, l2, h2, h1, hl2 => by
    have e1 : l.getD i T.nil = (if f.has V then gotF f V flex (t.l.getD i T.nil) else dfF f) := by rw [hl, ← h1]; simp [gotFs]
    have e2 : l2.getD i T.nil = telF f (l.getD i T.nil) := by rw [hl2]; simp [telFs, ← h2]
    have hwi : (t.l.getD i T.nil).wide = true := wide_getD (wide_spec hw).2 i
    have ih := toldFs_got hw r (i + 1) (fun g hg => hf g (List.mem_cons_of_mem _ hg)) (fun g hg => hd g (List.mem_cons_of_mem _ hg)) (pre ++ [l.getD i T.nil]) l (by rw [e1, hl]; simp [gotFs]) (pre2 ++ [l2.getD i T.nil]) l2 (by simp [h2]) (by simp [h1]) (by rw [e2, hl2]; simp [telFs])
    simp only [toldFs]
    rw [ih, e2, e1, Bool.and_true]
    cases f.has V with
    | true => simpa using hf f List.mem_cons_self _ hwi
    | false => simpa using usuF_df f (hd f List.mem_cons_self)
theorem telFs_length : ∀ (fs : List Fld) (l : List T) (i : Nat), (telFs fs l i).length = fs.length
  | [], _, _ => rfl
  | f :: r, l, i => by simp only [telFs, List.length_cons, telFs_length r]
theorem fitU_rising (fs : List Fld) (u : List (Nat × List UInt8)) : rising (fitU fs u) := rising_map (g := fun p => (p.1, whole p.2)) (fun _ => rfl) (unk_rising fs u).1
theorem toldP_of {fs : List Fld} {V : Int} {flex : Bool} (hf : ∀ f ∈ fs, ∀ t : T, t.wide = true → toldF f V flex t (telF f (gotF f V flex t)) = true) (hd : ∀ f ∈ fs, okDF f = true) (t : T) (hw : t.wide = true) : toldP fs V flex t (telP fs (gotP fs V flex t)) = true := by
  unfold toldP
  have h1 := toldFs_got hw fs 0 hf hd [] (gotFs fs V flex t.l 0) rfl [] (telFs fs (gotFs fs V flex t.l 0) 0) rfl rfl rfl
  have h2 : (telP fs (gotP fs V flex t)).l = telFs fs (gotFs fs V flex t.l 0) 0 := rfl
  have h3 : (telP fs (gotP fs V flex t)).u = sortU (if flex then fitU fs t.u else []) := rfl
  rw [h2, h3, h1, telFs_length, decide_eq_true rfl]
  cases flex with
  | true => simp [sortU_rising (fitU_rising fs t.u)]
  | false => rfl
theorem toldF_field {flex : Bool} (V : Int) : ∀ f : Fld, tidyF f = true → okDF f = true → ∀ t : T, t.wide = true → toldF f V flex t (telF f (gotF f V flex t)) = true := Fld_ind fun f ih ht hd => by
  have hts := tidy_spec ht
  have hds := okD_spec hd
  exact toldF_of hts.2.1 hd (fun x hx => toldP_of (fun g hg => ih g hg (tidy_mem hts.2.2.2.2 g hg) (okD_mem hds.2.2.2 g hg)) (okD_mem hds.2.2.2) x hx)
/-- What is read of what the reference writes is told as it was. -/
theorem toldP_got {flex : Bool} {fs : List Fld} {V : Int} (ht : tidyFs fs = true) (hd : okDFs fs = true) (t : T) (hw : t.wide = true) : toldP fs V flex t (telP fs (gotP fs V flex t)) = true :=
  toldP_of (fun f hf => toldF_field V f (tidy_mem ht f hf) (okD_mem hd f hf)) (okD_mem hd) t hw
end Go.Mk
/- What is read of what was written is what is to be written. No statement of a seat stands here. -/
namespace Go.Mk
open Go

mutual
/-- no tags at all -/
def T.bare : T → Bool
  | .mk _ _ _ l u => u.isEmpty && T.bares l
def T.bares : List T → Bool
  | [] => true
  | t :: r => t.bare && T.bares r
end
theorem bares_mem : ∀ {l : List T}, T.bares l = true → ∀ x ∈ l, x.bare = true
  | [], _, _, h => by cases h
  | t :: r, h, x, hx => by
    simp only [T.bares, Bool.and_eq_true] at h
    cases hx with
    | head => exact h.1
    | tail _ hx => exact bares_mem h.2 x hx
theorem bare_spec {t : T} (h : t.bare = true) : t.u = [] ∧ ∀ x ∈ t.l, x.bare = true := by
  cases t with
  | mk n s z l u =>
    simp only [T.bare, Bool.and_eq_true, List.isEmpty_iff] at h
    exact ⟨h.1, bares_mem h.2⟩
theorem bare_getD {l : List T} (h : ∀ x ∈ l, x.bare = true) (k : Nat) : (l.getD k T.nil).bare = true := by
  rw [List.getD_eq_getElem?_getD]
  cases hk : l[k]? with
  | none => rfl
  | some x => exact h x (List.mem_of_getElem? hk)
/-- tags, where the version has them alone -/
def Fl (flex : Bool) (t : T) : Prop := flex = true ∨ t.bare = true
theorem Fl.at_ {flex : Bool} {t : T} (h : Fl flex t) (k : Nat) : Fl flex (t.l.getD k T.nil) := h.imp id fun h => bare_getD (bare_spec h).2 k
theorem Fl.mem {flex : Bool} {t x : T} (h : Fl flex t) (hx : x ∈ t.l) : Fl flex x := h.imp id fun h => (bare_spec h).2 x hx
theorem Fl.u {flex : Bool} {t : T} (h : Fl flex t) (fs : List Fld) : (if flex then fitU fs t.u else []) = fitU fs t.u := by
  rcases h with h | h
  · rw [h]; rfl
  · rw [(bare_spec h).1]
    have : fitU fs [] = [] := rfl
    rw [this]; split <;> rfl
theorem wide_at {t : T} (h : t.wide = true) (k : Nat) : (t.l.getD k T.nil).wide = true := wide_getD (wide_spec h).2 k

theorem wrap_i64 {n : Int} (h : -9223372036854775808 ≤ n ∧ n < 9223372036854775808) : IntKind.i64.wrap n = n := by
  simp only [IntKind.wrap, IntKind.bits, IntKind.signed]; simp; omega
theorem wrap_wrap (k : IntKind) (n : Int) : k.wrap (k.wrap n) = k.wrap n := by
  cases k <;> (simp only [IntKind.wrap, IntKind.bits, IntKind.signed]; simp <;> (try omega))

theorem imp_gotV {kind : Nat} {nu : Int} {null : Bool} {st st' : T → DD} {gp : T → T} {x : T} (hk : kind ≤ 10) (h6 : kind ≠ 6) (hn : null = true → 0 ≤ nu ∧ (kind = 8 ∨ kind = 9)) (hw : x.wide = true)
    (hs : kind = 10 → nu < 0 ∧ Imp (st (gp x)) (st' x)) : Imp (ddVal kind nu st (gotV kind null gp x)) (wrVal kind nu null st' x) := by
  have h64 := wrap_i64 (wide_spec hw).1
  match kind, hk, h6, hs, hn with
  | 0, _, _, _, _ =>
    show Imp (.v (.bool ((x.n % 2) % 2 == 1))) (.v (.bool (x.n % 2 == 1)))
    have : (x.n % 2) % 2 = x.n % 2 := by omega
    rw [this]; exact Imp.refl _
  | 1, _, _, _, _ =>
    show Imp (.v (.int .i8 (IntKind.i8.wrap (IntKind.i8.wrap x.n)))) (.v (.int .i8 (IntKind.i8.wrap x.n)))
    rw [wrap_wrap]; exact Imp.refl _
  | 2, _, _, _, _ =>
    show Imp (.v (.int .i16 (IntKind.i16.wrap (IntKind.i16.wrap x.n)))) (.v (.int .i16 (IntKind.i16.wrap x.n)))
    rw [wrap_wrap]; exact Imp.refl _
  | 3, _, _, _, _ =>
    show Imp (.v (.int .i32 (IntKind.i32.wrap (IntKind.i32.wrap x.n)))) (.v (.int .i32 (IntKind.i32.wrap x.n)))
    rw [wrap_wrap]; exact Imp.refl _
  | 4, _, _, _, _ =>
    show Imp (.v (.int .i64 (IntKind.i64.wrap x.n))) (.v (.int .i64 x.n))
    rw [h64]; exact Imp.refl _
  | 5, _, _, _, _ =>
    show Imp (.v (.int .u16 (IntKind.u16.wrap (IntKind.u16.wrap x.n)))) (.v (.int .u16 (IntKind.u16.wrap x.n)))
    rw [wrap_wrap]; exact Imp.refl _
  | 6, _, h6, _, _ => exact absurd rfl h6
  | 7, _, _, _, _ =>
    show Imp (.agg ((sixteen (sixteen x.s)).map ddB)) (.agg ((sixteen x.s).map ddB))
    have : sixteen (sixteen x.s) = sixteen x.s := by
      have h := sixteen_length x.s
      unfold sixteen at h ⊢
      rw [List.take_append_of_le_length (by omega), List.take_of_length_le (by omega)]
    rw [this]; exact Imp.refl _
  | 8, _, _, _, hn =>
    show Imp (if 0 ≤ nu then (if (if null then ofNil else ofOct (whole x.s)).z then .v (.pointer none) else .ptr (.v (.string (bs (if null then ofNil else ofOct (whole x.s)).s)))) else .v (.string (bs (if null then ofNil else ofOct (whole x.s)).s)))
      (if 0 ≤ nu then (if null then .v (.pointer none) else .ptr (.v (.string (bs (whole x.s))))) else .v (.string (bs (whole x.s))))
    cases null with
    | true =>
      rw [if_pos (hn rfl).1, if_pos (hn rfl).1]
      exact Imp.refl _
    | false => exact Imp.refl _
  | 9, _, _, _, hn =>
    show Imp (if (if null then ofNil else ofOct (whole x.s)).z then .v (.slice none 0 0) else .sl true 1 ((if null then ofNil else ofOct (whole x.s)).s.map ddB))
      (if 0 ≤ nu then (if null then .v (.slice none 0 0) else .sl true 1 ((whole x.s).map ddB)) else .sl false 1 ((whole x.s).map ddB))
    cases null with
    | true =>
      rw [if_pos (hn rfl).1]
      exact Imp.refl _
    | false =>
      by_cases h0 : 0 ≤ nu
      · rw [if_pos h0]; exact Imp.refl _
      · rw [if_neg h0]
        intro w Y c h
        have h' : Rep w Y (.sl true 1 ((whole x.s).map ddB)) c := h
        simp only [Rep] at h' ⊢
        rcases h' with ⟨h1, p, h2, _⟩ | h'
        · exact .inl ⟨h1, p, h2, fun e => by cases e⟩
        · exact .inr h'
  | 10, _, _, hs, _ =>
    obtain ⟨h1, h2⟩ := hs rfl
    show Imp (if 0 ≤ nu then (if (gp x).z then .v (.pointer none) else .ptr (st (gp x))) else st (gp x)) (if 0 ≤ nu then (if null then .v (.pointer none) else .ptr (st' x)) else st' x)
    rw [if_neg (by omega), if_neg (by omega)]
    exact h2

mutual
/-- the reference's fields, as they are read: no floats, null where texts, octets, lists, parts are -/
def okBF : Fld → Bool
  | .mk kind _ _ nu tag _ of sub => decide (kind ≤ 11) && decide (of ≤ 10) && !Nat.beq kind 6 && !Nat.beq of 6 && (decide (8 ≤ kind) || decide (nu < 0)) && decide (tag < 0) && okBFs sub
def okBFs : List Fld → Bool
  | [] => true
  | f :: r => okBF f && okBFs r
end
mutual
theorem okB_okF : ∀ {f : Fld}, okBF f = true → okF f = true
  | .mk kind fr to nu tag df of sub, h => by
    simp only [okBF, Bool.and_eq_true] at h
    simp only [okF, Bool.and_eq_true]
    exact ⟨h.1.1.1.1.1, okB_okFs h.2⟩
theorem okB_okFs : ∀ {fs : List Fld}, okBFs fs = true → okFs fs = true
  | [], _ => rfl
  | f :: r, h => by
    simp only [okBFs, Bool.and_eq_true] at h
    simp only [okFs, Bool.and_eq_true]
    exact ⟨okB_okF h.1, okB_okFs h.2⟩
end

theorem gotQ_11 {f : Fld} {V : Int} {gp : T → T} {t : T} (h : f.kind = 11) : gotQ f V gp t = .mk 0 [] (if 0 ≤ f.nu then f.null V t else (things t.l).isEmpty) (if f.null V t then [] else (things t.l).map (gotV f.of false gp)) [] := by
  unfold gotQ; rw [if_pos h]
theorem gotQ_n {f : Fld} {V : Int} {gp : T → T} {t : T} (h : f.kind ≠ 11) : gotQ f V gp t = if f.kind = 10 ∧ 0 ≤ f.nu then (if f.null V t then ofNil else gp t) else gotV f.kind (f.null V t) gp t := by
  unfold gotQ; rw [if_neg h]
theorem ddF_nil0 {fr to nu tag df : Int} {of : Nat} {sub : List Fld} {tg : Bool} {xs : List T} : ddF (.mk 11 fr to nu tag df of sub) tg (.mk 0 [] true xs []) = .v (.slice none 0 0) := by unfold ddF; rfl
theorem ddF_list0 {fr to nu tag df : Int} {of : Nat} {sub : List Fld} {tg : Bool} {xs : List T} : ddF (.mk 11 fr to nu tag df of sub) tg (.mk 0 [] false xs []) = .sl true (widVal of (-1) (widS sub tg)) (xs.map (ddVal of (-1) (ddS sub tg))) := by unfold ddF; rfl
mutual
theorem imp_got_F : ∀ (f : Fld), okBF f = true → ∀ (tg : Bool) (V : Int) (flex : Bool) (x : T), x.wide = true → Fl flex x → f.has V = true → Imp (ddF f tg (gotF f V flex x)) (wrF f tg V flex x)
  | .mk kind fr to nu tag df of sub, hok, tg, V, flex, x, hw, hfl, hh => by
    have hok' := hok
    simp only [okBF, Bool.and_eq_true, Bool.or_eq_true, Bool.not_eq_true', decide_eq_true_eq] at hok
    obtain ⟨⟨⟨⟨⟨⟨h1, h2⟩, k6⟩, o6⟩, hnk⟩, htag⟩, h3⟩ := hok
    have k6' : kind ≠ 6 := fun e => by subst e; simp at k6
    have o6' : of ≠ 6 := fun e => by subst e; simp at o6
    have part : ∀ y : T, y.wide = true → Fl flex y → Imp (.agg (ddFs sub tg (gotFs sub V flex y.l 0) 0 ++ (if tg then [ddTagMap (if flex then fitU sub y.u else [])] else []))) (wrS sub tg V flex y) := fun y hy hfy w Y c h => by
      rw [hfy.u sub] at h
      obtain ⟨c1, c2, rfl, h4, h5⟩ := RepL_append.1 (rep_agg_inv h)
      refine rep_agg (RepL_append.2 ⟨c1, c2, rfl, ?_, h5⟩)
      have := imp_got_Fs sub h3 tg V flex [] y.l (fun j => wide_at hy j) (fun j => hfy.at_ j) 0 w Y c1
      simp only [List.nil_append, List.length_nil] at this
      exact this h4
    rw [wrF_hasT htag hh]
    show Imp (ddF (.mk kind fr to nu tag df of sub) tg (gotQ (.mk kind fr to nu tag df of []) V (fun y => .mk 0 [] false (gotFs sub V flex y.l 0) (if flex then fitU sub y.u else [])) x)) _
    have hnull : ∀ t : T, (Fld.mk kind fr to nu tag df of []).null V t = (Fld.mk kind fr to nu tag df of sub).null V t := fun _ => rfl
    by_cases hk : kind = 11
    · subst hk
      rw [if_pos rfl]
      obtain ⟨zz, hzz⟩ : ∃ zz, zz = (if 0 ≤ nu then (Fld.mk 11 fr to nu tag df of sub).null V x else (things x.l).isEmpty) := ⟨_, rfl⟩
      have eg : ∀ gp : T → T, gotQ (.mk 11 fr to nu tag df of []) V gp x = .mk 0 [] zz (if (Fld.mk 11 fr to nu tag df of sub).null V x then [] else (things x.l).map (gotV of false gp)) [] := fun gp => by
        subst hzz; exact gotQ_11 rfl
      rw [eg]
      cases zz with
      | true =>
        rw [ddF_nil0]
        by_cases hn : (Fld.mk 11 fr to nu tag df of sub).null V x = true
        · rw [if_pos ⟨null_nu hn, hn⟩]; exact Imp.refl _
        · rw [if_neg (fun e => hn e.2)]
          have hn' : (Fld.mk 11 fr to nu tag df of sub).null V x = false := by simpa using hn
          rw [hn'] at hzz
          by_cases h0 : 0 ≤ nu
          · rw [if_pos h0] at hzz; cases hzz
          · rw [if_neg h0] at hzz
            have hst : (decide (0 ≤ nu) && decide (tag < 0)) = false := by simp [h0]
            rw [hst, List.isEmpty_iff.1 hzz.symm]
            intro w Y c h
            simp only [Rep] at h
            subst h
            simp [Rep]
      | false =>
        rw [ddF_list0]
        have hn' : (Fld.mk 11 fr to nu tag df of sub).null V x = false := by
          cases hn : (Fld.mk 11 fr to nu tag df of sub).null V x with
          | false => rfl
          | true => rw [if_pos (null_nu hn), hn] at hzz; exact hzz.symm
        rw [hn']
        simp only [Bool.false_eq_true, and_false, if_false]
        have things_ok : ∀ (w : World) (Y : Nat → Prop) (cs : List Value), RepE w Y (widVal of (-1) (widS sub tg)) (((things x.l).map (gotV of false (fun y => .mk 0 [] false (gotFs sub V flex y.l 0) (if flex then fitU sub y.u else [])))).map
            (ddVal of (-1) (ddS sub tg))) cs →
            RepE w Y (widVal of (-1) (widS sub tg)) ((things x.l).map fun x => wrVal of (-1) false (wrS sub tg V flex) x) cs := fun w Y cs h => by
          refine imp_RepE _ _ ((things x.l).map _) (things x.l) cs (by simp) ?_ h
          intro i y z hy hz
          rw [List.getElem?_map, hz] at hy
          simp only [Option.map_some, Option.some.injEq] at hy
          subst hy
          have hzm : z ∈ x.l := List.mem_of_mem_take (List.mem_of_getElem? hz)
          exact imp_gotV h2 o6' (fun e => by cases e) ((wide_spec hw).2 z hzm) (fun _ => ⟨by decide, part z ((wide_spec hw).2 z hzm) (hfl.mem hzm)⟩)
        intro w Y c h
        simp only [Rep] at h ⊢
        rcases h with ⟨h4, p, h5, h6⟩ | ⟨b, off, cap, cs, h4, h5, h6, h7⟩
        · refine .inl ⟨?_, p, h5, fun _ => h6 trivial⟩
          have h8 := congrArg List.length h4
          simp only [List.length_map, List.length_nil] at h8
          rw [List.eq_nil_of_length_eq_zero h8]; rfl
        · exact .inr ⟨b, off, cap, cs, by simpa using h4, by simpa using h5, h6, things_ok w Y cs h7⟩
    · rw [if_neg hk]
      have eg : ∀ gp : T → T, gotQ (.mk kind fr to nu tag df of []) V gp x = if kind = 10 ∧ 0 ≤ nu then (if (Fld.mk kind fr to nu tag df of sub).null V x then ofNil else gp x) else gotV kind ((Fld.mk kind fr to nu tag df of sub).null V x) gp x := fun gp => by
        exact gotQ_n hk
      rw [eg]
      unfold ddF
      rw [if_neg hk]
      by_cases h10 : kind = 10 ∧ 0 ≤ nu
      · obtain ⟨rfl, h0⟩ := h10
        rw [if_pos ⟨rfl, h0⟩]
        cases hn : (Fld.mk 10 fr to nu tag df of sub).null V x with
        | true =>
          simp only [if_true]
          show Imp (if 0 ≤ nu then (if ofNil.z then .v (.pointer none) else .ptr _) else _) (if 0 ≤ nu then (if true then .v (.pointer none) else .ptr _) else _)
          rw [if_pos h0, if_pos h0]
          exact Imp.refl _
        | false =>
          simp only [Bool.false_eq_true, if_false]
          show Imp (if 0 ≤ nu then (if false then .v (.pointer none) else .ptr _) else _) (if 0 ≤ nu then (if false then .v (.pointer none) else .ptr (wrS sub tg V flex x)) else _)
          rw [if_pos h0, if_pos h0]
          exact imp_ptr (part x hw hfl)
      · rw [if_neg h10]
        refine imp_gotV (by omega) k6' (fun e => ⟨null_nu e, ?_⟩) hw (fun e => ⟨by
          by_cases h0 : 0 ≤ nu
          · exact absurd ⟨e, h0⟩ h10
          · omega, part x hw hfl⟩)
        have h0 := null_nu e
        rcases hnk with h | h
        · have : kind ≠ 10 := fun e => h10 ⟨e, h0⟩
          omega
        · omega
theorem imp_got_Fs : ∀ (fs : List Fld), okBFs fs = true → ∀ (tg : Bool) (V : Int) (flex : Bool) (pre l : List T) (_ : ∀ j, (l.getD j T.nil).wide = true) (_ : ∀ j, Fl flex (l.getD j T.nil)) (j : Nat) (w : World) (Y : Nat → Prop) (c : List Value),
    RepL w Y (ddFs fs tg (pre ++ gotFs fs V flex l j) pre.length) c → RepL w Y (wrFs fs tg V flex l j) c
  | [], _, tg, V, flex, pre, l, _, _, j, w, Y, c, h => by simpa [ddFs, wrFs] using h
  | f :: r, hok, tg, V, flex, pre, l, hw, hfl, j, w, Y, c, h => by
    simp only [okBFs, Bool.and_eq_true] at hok
    simp only [ddFs, gotFs, RepL, wrFs] at h ⊢
    obtain ⟨c1, c2, rfl, h1, h2⟩ := h
    refine ⟨c1, c2, rfl, ?_, ?_⟩
    · have e : ∀ q : T, (pre ++ q :: gotFs r V flex l (j + 1)).getD pre.length T.nil = q := by simp
      rw [e] at h1
      cases hh : f.has V with
      | true =>
        rw [if_pos hh] at h1
        exact imp_got_F f hok.1 tg V flex _ (hw j) (hfl j) hh w Y c1 h1
      | false =>
        have hwid := wid_ddF f (okB_okF hok.1) tg _ w Y c1 h1
        cases f with
        | mk kind fr to nu tag df of sub =>
          have htag : tag < 0 := by
            have := hok.1
            simp only [okBF, Bool.and_eq_true, decide_eq_true_eq] at this
            exact this.1.2
          have hh' : (Fld.mk kind fr to nu tag df of []).has V = false := hh
          unfold wrF
          rw [if_neg (by rw [if_pos htag, hh']; exact Bool.false_ne_true)]
          unfold widF at hwid
          exact hwid
    · have := imp_got_Fs r hok.2 tg V flex (pre ++ [if f.has V then gotF f V flex (l.getD j T.nil) else dfF f]) l hw hfl (j + 1) w Y c2
      simp only [List.append_assoc, List.singleton_append, List.length_append, List.length_cons, List.length_nil] at this
      exact this h2
end
/-- What is read of what was written: its struct holds what is to be written again. -/
theorem imp_got (fs : List Fld) (hok : okBFs fs = true) (tg : Bool) (V : Int) (flex : Bool) (t : T) (hw : t.wide = true) (hfl : Fl flex t) : Imp (ddS fs tg (gotP fs V flex t)) (wrS fs tg V flex t) := fun w Y c h => by
  replace h : Rep w Y (.agg (ddFs fs tg (gotFs fs V flex t.l 0) 0 ++ (if tg then [ddTagMap (if flex then fitU fs t.u else [])] else []))) c := h
  rw [hfl.u fs] at h
  obtain ⟨c1, c2, rfl, h4, h5⟩ := RepL_append.1 (rep_agg_inv h)
  refine rep_agg (RepL_append.2 ⟨c1, c2, rfl, ?_, h5⟩)
  have := imp_got_Fs fs hok tg V flex [] t.l (fun j => wide_at hw j) (fun j => hfl.at_ j) 0 w Y c1
  simp only [List.nil_append, List.length_nil] at this
  exact this h4

/-! ### where the version has no tags -/
mutual
def T.strip : T → T
  | .mk n s z l _ => .mk n s z (T.strips l) []
def T.strips : List T → List T
  | [] => []
  | t :: r => t.strip :: T.strips r
end
theorem strips_map : ∀ l : List T, T.strips l = l.map T.strip
  | [] => rfl
  | t :: r => by simp [T.strips, strips_map r]
mutual
theorem strip_bare : ∀ t : T, t.strip.bare = true
  | .mk n s z l u => by simp [T.strip, T.bare, strips_bare l]
theorem strips_bare : ∀ l : List T, T.bares (T.strips l) = true
  | [] => rfl
  | t :: r => by simp [T.strips, T.bares, strip_bare t, strips_bare r]
end
mutual
theorem strip_wide : ∀ t : T, t.wide = true → t.strip.wide = true
  | .mk n s z l u, h => by
    simp only [T.wide, T.strip, Bool.and_eq_true] at h ⊢
    exact ⟨h.1, strips_wide l h.2⟩
theorem strips_wide : ∀ l : List T, T.wides l = true → T.wides (T.strips l) = true
  | [], _ => rfl
  | t :: r, h => by
    simp only [T.wides, T.strips, Bool.and_eq_true] at h ⊢
    exact ⟨strip_wide t h.1, strips_wide r h.2⟩
end
theorem strip_n (t : T) : t.strip.n = t.n := by cases t; rfl
theorem strip_s (t : T) : t.strip.s = t.s := by cases t; rfl
theorem strip_z (t : T) : t.strip.z = t.z := by cases t; rfl
theorem strip_l (t : T) : t.strip.l = t.l.map T.strip := by
  cases t with
  | mk n s z l u => exact strips_map l
theorem strip_get (l : List T) (k : Nat) : (l.map T.strip).getD k T.nil = (l.getD k T.nil).strip := by
  rw [List.getD_eq_getElem?_getD, List.getD_eq_getElem?_getD, List.getElem?_map]
  cases l[k]? <;> rfl
theorem valueP_strip {kind : Nat} {pt : T → List UInt8} {null : Bool} {t : T} (hp : pt t.strip = pt t) : valueP kind pt null false t.strip = valueP kind pt null false t := by
  unfold valueP
  rw [strip_n, strip_s, hp]
theorem fieldQ_strip {f : Fld} {V : Int} {pt : T → List UInt8} (hp : ∀ t : T, pt t.strip = pt t) (t : T) : fieldQ f V false pt t.strip = fieldQ f V false pt t := by
  have hn : f.null V t.strip = f.null V t := by unfold Fld.null; rw [strip_z]
  unfold fieldQ
  rw [hn, strip_l, hp]
  have ht : things (t.l.map T.strip) = (things t.l).map T.strip := by simp [things, List.map_take]
  rw [ht]
  split
  · congr 1
    · cases f.null V t <;> simp
    · cases f.null V t with
      | true => rfl
      | false =>
        simp only [Bool.false_eq_true, if_false, List.flatMap_map]
        exact flatMap_same fun x _ => valueP_strip (hp x)
  · split
    · rfl
    · exact valueP_strip (hp t)
mutual
theorem field_strip (V : Int) : ∀ (f : Fld) (t : T), fieldP f V false t.strip = fieldP f V false t
  | .mk kind fr to nu tag df of sub, t => by
    unfold fieldP
    refine fieldQ_strip (fun x => ?_) t
    unfold partQ
    simp only [Bool.false_eq_true, if_false]
    rw [strip_l, fields_strip V sub x.l 0]
theorem fields_strip (V : Int) : ∀ (fs : List Fld) (l : List T) (i : Nat), fieldsP fs V false (l.map T.strip) i = fieldsP fs V false l i
  | [], _, _ => rfl
  | f :: r, l, i => by
    simp only [fieldsP]
    rw [strip_get, field_strip V f, fields_strip V r l (i + 1)]
end
theorem part_strip (fs : List Fld) (V : Int) (t : T) : partP fs V false t.strip = partP fs V false t := by
  rw [partP_plain, partP_plain, strip_l, fields_strip]
end Go.Mk
/- What is written, read and written again: the steps of memory. No statement of a seat stands here. -/
namespace Go.Mk
open Go
section
variable {w0 w w' : World} {X Z : Nat → Prop} {m : List Ent}
/-- a block that a callee made -/
theorem Mem.newBlk (h : Mem w0 X Z m w) {cs : List Value} {e : TypeId} (hp : Agr Nob w w') (hl : w.heap.size < w'.heap.size) (hb : w'.heap[w.heap.size]? = some (.cells cs.toArray e (0, 0))) : Mem w0 X Z (.blk w.heap.size cs e :: m) w' := by
  have hm' := h.pure hp
  have hnot : w.heap.size ∉ muts m := fun hb => Nat.lt_irrefl _ (h.own _ hb).1
  refine ⟨hm'.agr, h.sub, by simp only [muts, Ent.mut, List.singleton_append, List.nodup_cons]; exact ⟨hnot, h.nodup⟩, ?_, ?_⟩
  · intro b hb
    simp only [muts, Ent.mut, List.singleton_append, List.mem_cons] at hb
    rcases hb with rfl | hb
    · exact ⟨hl, fun hlt => absurd hlt (Nat.not_lt.2 h.agr.size)⟩
    · exact hm'.own b hb
  · intro x hx
    rcases List.mem_cons.1 hx with rfl | hx
    · exact hb
    · refine Ent.holds_move (fun i hi hy => ⟨hp.block i hi id, ?_⟩) (h.all x hx) (fun b hb => hp.block b (h.own b (muts_mem hx hb)).1 id)
      rintro (hz | hz)
      · exact hy (.inl hz)
      · simp only [muts, Ent.mut, List.singleton_append, List.mem_cons] at hz
        rcases hz with rfl | hz
        · exact Nat.lt_irrefl _ hi
        · exact hy (.inr hz)
end
def isErrTy (P : Program) (t : Nat) : Bool := match P.underlying t with | some (.interface _) => true | _ => false
theorem isErrTy_at {P : Program} {t : Nat} (h : isErrTy P t = true) : P.underlying t = some (.interface (P.methodsAt t)) := by
  unfold isErrTy at h
  unfold Program.methodsAt
  split at h
  · rename_i ms hms; simp [hms]
  · cases h
theorem o_ifaceNe0 {P : Program} {ops : Array Oper} {Q : Exit → Act → World → Prop} {rest : List Oper} {a : Act} {w : World} {n : Nat} {l : List (Nat × Value)} {d : Nat} {ty : Nat} {ps : String} {af : Array Edge} {x : Operand} {t t' : Nat}
    (hk : Kn n l a) (ht : isErrTy P t = true) (hx : ev l x = some .nilIface) (hd : Nat.blt d n = true)
    (K : ∀ a', Kn n ((d, .bool false) :: l) a' → wpList P ops Q rest a' w) :
    wpList P ops Q (⟨some d, .binOp .neq t x (.const .nilIface) t', ty, ps, af, none⟩ :: rest) a w := by
  refine step_runs hk rfl rfl hd ?_ K
  have hy : a.eval (.const .nilIface) = .nilIface := rfl
  have hg : ∀ w, (eqGuard .neq t x (.const .nilIface) .nilIface .nilIface).run P w = .ok () w := fun w => by
    unfold eqGuard
    cases x <;> simp
  unfold Runs execOp
  simp only [Sem.run_bind, hk.eval hx, hy, hg, Result.andThen_ok, run_neq_nil_nil _ t (isErrTy_at ht), Sem.run_pure]
/-- octets, as what is read -/
theorem src_of_bs {w : World} {Y : Nat → Prop} {s : List UInt8} {v : Value} (h : Rep w Y (ddBs s) [v]) (hs : 1 ≤ s.length) : Rep w Y (ddSrc (some s)) [v] := by
  rcases rep_sl h with ⟨h1, p, rfl, _⟩ | ⟨b, off, cap, cs, rfl, h2, h3, h4⟩
  · have : s = [] := by simpa using h1
    subst this; simp at hs
  · have hcs := repE_bs h4
    subst hcs
    rw [List.length_map] at h2 ⊢
    exact src_mk h2 h3
/-- what is read of it: without tags where the version has none -/
def tagged (flex : Bool) (t : T) : T := if flex then t else t.strip
theorem tagged_part (fs : List Fld) (V : Int) (flex : Bool) (t : T) : partP fs V flex (tagged flex t) = partP fs V flex t := by
  cases flex with
  | true => rfl
  | false => exact part_strip fs V t
theorem tagged_wide {flex : Bool} {t : T} (h : t.wide = true) : (tagged flex t).wide = true := by
  cases flex with
  | true => exact h
  | false => exact strip_wide t h
mutual
theorem strip_sane : ∀ t : T, t.sane = true → t.strip.sane = true
  | .mk n s z l u, h => by
    simp only [T.sane, T.strip, Bool.and_eq_true, decide_eq_true_eq, List.all_nil, List.length_nil] at h ⊢
    refine ⟨⟨⟨⟨h.1.1.1.1, ?_⟩, by omega⟩, trivial⟩, strips_sane l h.2⟩
    rw [strips_map, List.length_map]; exact h.1.1.1.2
theorem strips_sane : ∀ l : List T, T.sanes l = true → T.sanes (T.strips l) = true
  | [], _ => rfl
  | t :: r, h => by
    simp only [T.sanes, T.strips, Bool.and_eq_true] at h ⊢
    exact ⟨strip_sane t h.1, strips_sane r h.2⟩
end
theorem tagged_sane {flex : Bool} {t : T} (h : t.sane = true) : (tagged flex t).sane = true := by
  cases flex with
  | true => exact h
  | false => exact strip_sane t h
theorem tagged_Fl (flex : Bool) (t : T) : Fl flex (tagged flex t) := by
  cases flex with
  | true => exact .inl rfl
  | false => exact .inr (strip_bare t)
/-- What was written is read, and nothing goes wrong; the struct holds what is to be written again. -/
theorem told_written {gv : Value} {fs : List Fld} {tg flex : Bool} {V : Nat} {t : T} {g ety : Nat} {Y : Nat → Prop} {w0 w' : World} {x : Value} (hn : noTagFs fs = true) (hk : okRFs fs V flex = true) (hb : okBFs fs = true) (hsn : t.sane = true) (hw : t.wide = true)
    (h : Er.Told .nilIface gv fs tg V flex (some (partP fs V flex t)) g ety Y w0 x w') :
    Agr (fun k => k = g) w0 w' ∧ x = .nilIface ∧ ∃ c', w'.heap[g]? = some (.cells (.int .i16 (V : Int) :: c').toArray ety (0, 0)) ∧ Rep w' (fun b => b < w0.heap.size ∧ Y b) (wrS fs tg V flex (tagged flex t)) c' := by
  obtain ⟨h1, h2, -⟩ := h
  have hp := rdP_part hn hk (tagged flex t) (tagged_sane hsn) []
  rw [List.append_nil, tagged_part] at hp
  obtain ⟨h3, c', h4, h5⟩ := h2 _ _ hp rfl
  exact ⟨h1, h3, c', h4, imp_got fs hb tg V flex (tagged flex t) (tagged_wide hw) (tagged_Fl flex t) _ _ _ h5⟩
end Go.Mk
/- A tree that is handed in: its numbers are of 64 bits. No statement of a seat stands here. -/
namespace Go.Mk
open Go
section
variable {H : Type} {enc : TypeId × Value → H} {P : Program} {w : World} {base : Nat} {spare : Nat → Bool} {held : Bool} {fuel t : Nat} {cs : List Value} {x : DataW H × List MemPlace}
theorem open_TW {tt tg tn ts t8 tb tl tu tk : Nat} (ty : TreeTy P tt tg tn ts t8 tb tl tu tk) (hsp : ∀ b, spare b = true) : ∀ (fuel : Nat) (cs : List Value) (x : DataW H × List MemPlace), DataW.trod enc P w base spare held fuel tt cs = some x →
    ∃ t : T, (Rep w Nob (ddT t) cs ∧ t.bulk ≤ bulkD x.1 ∧ (Light P tt x.1 → t.sane = true) ∧ t.wide = true) ∧ cs.length = 5 := by
  have key : ∀ (N fuel : Nat) (cs : List Value) (x : DataW H × List MemPlace), fuel ≤ N → DataW.trod enc P w base spare held fuel tt cs = some x →
      ∃ t : T, (Rep w Nob (ddT t) cs ∧ t.bulk ≤ bulkD x.1 ∧ (Light P tt x.1 → t.sane = true) ∧ t.wide = true) ∧ cs.length = 5 := by
    intro N
    induction N with
    | zero => intro fuel cs x hN h; obtain ⟨n, _, rfl, _⟩ := open_fields ty.st h; omega
    | succ N ih =>
      intro fuel cs x hN h
      obtain ⟨n, xs, rfl, hl, hx, hxl, hf⟩ := open_fields ty.st h
      match cs, hl, xs, hxl with
      | [c0, c1, c2, c3, c4], _, [z0, z1, z2, z3, z4], _ =>
        obtain ⟨y0, h0, e0⟩ := hf 0 _ _ _ rfl
        obtain ⟨y1, h1, e1⟩ := hf 1 _ _ _ rfl
        obtain ⟨y2, h2, e2⟩ := hf 2 _ _ _ rfl
        obtain ⟨y3, h3, e3⟩ := hf 3 _ _ _ rfl
        obtain ⟨y4, h4, e4⟩ := hf 4 _ _ _ rfl
        simp only [List.getElem?_cons_zero, List.getElem?_cons_succ, Option.some.injEq] at e0 e1 e2 e3 e4
        subst e0 e1 e2 e3 e4
        simp only [List.drop_zero, List.take_succ_cons, List.take_zero, List.drop_succ_cons] at h0 h1 h2 h3 h4
        obtain ⟨m, hm, _, hwf⟩ := DataW.trod_int (intOf_spec ty.n) h0
        obtain ⟨z, hz, _⟩ := DataW.trod_bool (boolOf_spec ty.b) h2
        simp only [List.cons.injEq, and_true] at hm hz
        subst hm hz
        obtain ⟨bs, el1, sp1, g1, k1, n1, _, x1⟩ := open_sl ddB (fun _ _ => True) (by decide) ty.s (fun f ce y _ hc => open_byte ty.b8 hc) h1 hsp
        obtain ⟨l, el3, sp3, g3, k3, n3, r3, x3⟩ := open_sl ddT (fun t d => t.bulk ≤ bulkD d ∧ (Light P tt d → t.sane = true) ∧ t.wide = true) (by decide) ty.l (fun f ce y hf hc => ih f ce y (by omega) hc) h3 hsp
        obtain ⟨u, el4, sp4, g4, k4, n4, r4, x4⟩ := open_sl ddTag (fun u d => u.1 < 4294967296 ∧ 1 + u.2.length ≤ bulkD d ∧ (Light P tg d → u.2.length ≤ 140737488355328)) (by decide) ty.u (fun f ce y _ hc => open_tag ty hsp hc) h4 hsp
        refine ⟨.mk m bs z l u, ⟨rep_T_mk (t := .mk m bs z l u) g1 g3 g4, ?_, ?_, ?_⟩, rfl⟩
        · rw [hx]
          have b1 := sl_bulk x1
          have b3 := sl_bulk x3
          have b4 := sl_bulk x4
          have c1 := bulk_count (el := el1)
          have c3 := bulks_le (g := T.bulk) n3 (fun i a d h1 h2 => (r3 i a d h1 h2).1)
          have c4 := bulks_le (g := fun p : Nat × List UInt8 => 1 + p.2.length) n4 (fun i a d h1 h2 => (r4 i a d h1 h2).2.1)
          have p0 := bulk_pos z0.1
          have p2 := bulk_pos z2.1
          rw [← bulks_sum] at c3
          rw [← bulkU_sum] at c4
          simp only [List.map_cons, List.map_nil, bulkD, bulkDs, T.bulk]
          omega
        · intro hw
          rw [hx] at hw
          obtain ⟨fs, hu, _, hl⟩ := structOf_spec ty.st
          have hty : fs.toList.map (·.type) = [tn, ts, tb, tl, tu] := by
            have h9 := congrArg (List.map (·.1)) hl
            rw [List.map_map] at h9
            exact h9
          unfold Light at hw
          simp only [DataW.weights, hu, hty, List.map_cons, List.map_nil, DataW.weightsEach, List.mem_append] at hw
          have w1 := sl_light ty.s ty.y8 x1 (fun n hn => hw n (.inr (.inl hn)))
          have w3 := sl_light ty.l ty.yt x3 (fun n hn => hw n (.inr (.inr (.inr (.inl hn)))))
          have w4 := sl_light ty.u ty.yg x4 (fun n hn => hw n (.inr (.inr (.inr (.inr (.inl hn))))))
          refine sane_mk (by omega) (by omega) (by omega) ?_ ?_
          · intro p hp
            obtain ⟨i, hi⟩ := List.mem_iff_getElem?.1 hp
            have hlt := (List.getElem?_eq_some_iff.1 hi).1
            exact (r4 i p el4[i] hi (List.getElem?_eq_getElem (by omega))).1
          · intro p hp
            obtain ⟨i, hi⟩ := List.mem_iff_getElem?.1 hp
            have hlt := (List.getElem?_eq_some_iff.1 hi).1
            exact (r3 i p el3[i] hi (List.getElem?_eq_getElem (by omega))).2.1 (w3.2 i _ (List.getElem?_eq_getElem (by omega)))
        · have hall : ∀ x ∈ l, x.wide = true := fun p hp => by
            obtain ⟨i, hi⟩ := List.mem_iff_getElem?.1 hp
            have hlt := (List.getElem?_eq_some_iff.1 hi).1
            exact (r3 i p el3[i] hi (List.getElem?_eq_getElem (by omega))).2.2
          have hws : T.wides l = true := by
            clear g3 k3 n3 r3 x3
            induction l with
            | nil => rfl
            | cons a r ih2 =>
              simp only [T.wides, Bool.and_eq_true]
              exact ⟨hall a List.mem_cons_self, ih2 fun x hx => hall x (List.mem_cons_of_mem _ hx)⟩
          simp only [Lit.wf, Bool.and_eq_true, decide_eq_true_eq] at hwf
          simp only [T.wide, Bool.and_eq_true, decide_eq_true_eq]
          have h1m := hwf.1
          have h2m := hwf.2
          simp [IntKind.min, IntKind.max, IntKind.signed, IntKind.bits] at h1m h2m
          exact ⟨⟨by omega, by omega⟩, hws⟩
  exact fun fuel cs x h => key fuel fuel cs x (Nat.le_refl _) h
/-- a tree that is handed in -/
theorem open_treeW {tt tg tn ts t8 tb tl tu tk : Nat} (ty : TreeTy P tt tg tn ts t8 tb tl tu tk) (hsp : ∀ b, spare b = true) {v : Value} {d : DataW H} {ps : List MemPlace} (hv : v.cells.toList.length = 5 → ∃ cs : Array Value, v = .agg cs) (h : DataW.Trod enc P w base spare held tt v d ps) :
    ∃ (t : T) (c : List Value), v = .agg c.toArray ∧ Rep w Nob (ddT t) c ∧ t.bulk ≤ bulkD d ∧ (Light P tt d → t.sane = true) ∧ t.wide = true := by
  obtain ⟨fuel, h⟩ := h
  obtain ⟨t, ⟨h1, h3, h4, h5⟩, h2⟩ := open_TW ty hsp fuel _ _ h
  obtain ⟨cs, rfl⟩ := hv h2
  exact ⟨t, cs.toList, by simp, by simpa [Value.cells] using h1, h3, h4, h5⟩
end
end Go.Mk
/- What the closings of cards need. No statement of a seat stands here. -/
namespace Go.Mk
open Go
theorem cel_one {w : World} {Y : Nat → Prop} {b : Nat} {v : Value} (hy : ¬ Y b) (h : w.cell? ⟨b, 0, none⟩ = some v) : Cel w Y b 0 [v] := fun j u hj => by
  cases j with
  | zero =>
    simp only [List.getElem?_cons_zero, Option.some.injEq] at hj
    subst hj
    exact ⟨hy, h⟩
  | succ j => simp at hj
end Go.Mk
/- Octets of a fitted tree are no longer than what a message bears. No statement of a seat stands here. -/
namespace Go.Mk
open Go
mutual
def octF : Fld → T → Bool
  | .mk kind _ _ _ _ _ of sub, t =>
    if kind = 11 then t.l.all (fun x => if of = 9 then decide (x.s.length ≤ 32767) else octFs sub x.l 0)
    else if kind = 9 then decide (t.s.length ≤ 32767) else octFs sub t.l 0
def octFs : List Fld → List T → Nat → Bool
  | [], _, _ => true
  | f :: r, l, i => octF f (l.getD i T.nil) && octFs r l (i + 1)
end
theorem octFs_iff : ∀ {fs : List Fld} {l : List T} {i : Nat}, octFs fs l i = true ↔ ∀ k, k < fs.length → octF (fs.getD k FNIL) (l.getD (i + k) T.nil) = true
  | [], l, i => by simp [octFs]
  | f :: r, l, i => by
    simp only [octFs, Bool.and_eq_true, octFs_iff (fs := r)]
    constructor
    · intro h k hk
      cases k with
      | zero => exact h.1
      | succ k =>
        have := h.2 k (by simpa using hk)
        rw [show i + 1 + k = i + (k + 1) by omega] at this
        simpa using this
    · intro h
      refine ⟨h 0 (by simp), fun k hk => ?_⟩
      have := h (k + 1) (by simpa using hk)
      rw [show i + (k + 1) = i + 1 + k by omega] at this
      simpa using this
theorem octF_nil : ∀ f : Fld, ∀ l : List T, l = [] → ∀ n z u, octF f (.mk n [] z l u) = true := Fld_ind fun f ih l hl n z u => by
  subst hl
  cases f with
  | mk kind fr to nu tag df of sub =>
    unfold octF
    by_cases h11 : kind = 11
    · rw [if_pos h11]; rfl
    · rw [if_neg h11]
      by_cases h9 : kind = 9
      · rw [if_pos h9]; rfl
      · rw [if_neg h9]
        refine octFs_iff.2 fun k hk => ?_
        exact ih (sub.getD k FNIL) (getD_mem hk) [] rfl _ _ _
theorem octFs_nil (fs : List Fld) (i : Nat) : octFs fs [] i = true := octFs_iff.2 fun k _ => octF_nil _ _ rfl _ _ _
theorem oct_at {fs : List Fld} {t : T} (h : octFs fs t.l 0 = true) (k : Nat) (hk : k < fs.length) : octF (fs.getD k FNIL) (t.at_ k) = true := by
  have := octFs_iff.1 h k hk
  rwa [Nat.zero_add] at this
theorem oct_9 {fr to nu tag df : Int} {of : Nat} {sub : List Fld} {t : T} (h : octF (.mk 9 fr to nu tag df of sub) t = true) : t.s.length ≤ 32767 := by
  unfold octF at h
  rw [if_neg (by decide), if_pos rfl] at h
  simpa using h
theorem oct_list {fr to nu tag df : Int} {sub : List Fld} {t : T} (h : octF (.mk 11 fr to nu tag df 10 sub) t = true) (k : Nat) : octFs sub (t.l.getD k T.nil).l 0 = true := by
  unfold octF at h
  rw [if_pos rfl] at h
  rw [List.getD_eq_getElem?_getD]
  cases hk : t.l[k]? with
  | none => exact octFs_nil _ _
  | some x =>
    have := List.all_eq_true.1 h x (List.mem_of_getElem? hk)
    rwa [if_neg (by decide)] at this
theorem oct_part {fr to nu tag df : Int} {of : Nat} {sub : List Fld} {t : T} (h : octF (.mk 10 fr to nu tag df of sub) t = true) : octFs sub t.l 0 = true := by
  unfold octF at h
  rwa [if_neg (by decide), if_neg (by decide)] at h
theorem oct_fitP_of {fs : List Fld} (v : Int) (hf : ∀ f ∈ fs, ∀ x, octF f (fitF f v x) = true) (t : T) : octFs fs (fitP fs v t).l 0 = true := by
  rw [fitP_range]
  refine octFs_iff.2 fun k hk => ?_
  have e : ((T.mk 0 [] false ((List.range fs.length).map (fitAt fs v t)) (fitU fs t.u)).l).getD (0 + k) T.nil = fitAt fs v t k := by
    rw [Nat.zero_add, List.getD_eq_getElem?_getD]
    simp [T.l, hk]
  rw [e]
  exact hf _ (getD_mem hk) _
theorem oct_fitF (v : Int) : ∀ f : Fld, tidyF f = true → ∀ x, octF f (fitF f v x) = true := Fld_ind fun f ih h => by
  have ht := tidy_spec h
  have hp : ∀ x, octFs f.sub (fitP f.sub v x).l 0 = true := fun x => oct_fitP_of v (fun g hg => ih g hg (tidy_mem ht.2.2.2.2 g hg)) x
  intro x
  by_cases h11 : f.kind = 11
  · rw [fitF_list h11 ht.2.1]
    cases f with
    | mk kind fr to nu tag df of sub =>
      have h11' : kind = 11 := h11
      unfold octF
      rw [if_pos h11']
      refine List.all_eq_true.2 fun y hy => ?_
      obtain ⟨z, _, rfl⟩ := List.mem_map.1 hy
      have hof : of ≤ 10 := ht.2.1
      rw [fitF_other (by simp [oneOf, Fld.kind, Fld.of]; omega)]
      show (if of = 9 then decide ((fitVal of _ _ z).s.length ≤ 32767) else octFs sub (fitVal of _ _ z).l 0) = true
      by_cases h8 : of = 8 ∨ of = 9
      · rw [fitVal_text h8]
        by_cases h9 : of = 9
        · rw [if_pos h9]; exact decide_eq_true (whole_len _)
        · rw [if_neg h9]; exact octFs_nil _ _
      · rw [if_neg (fun e => h8 (.inr e))]
        by_cases h10 : of = 10
        · rw [fitVal_part h10]; exact hp z
        · rw [fitVal_num (fun e => h8 (.inl e)) (fun e => h8 (.inr e)) h10]; exact octFs_nil _ _
  · rw [fitF_other h11]
    cases f with
    | mk kind fr to nu tag df of sub =>
      have h11' : ¬ kind = 11 := h11
      show octF _ (fitVal kind _ _ x) = true
      unfold octF
      rw [if_neg h11']
      by_cases h8 : kind = 8 ∨ kind = 9
      · rw [fitVal_text h8]
        by_cases h9 : kind = 9
        · rw [if_pos h9]; exact decide_eq_true (whole_len _)
        · rw [if_neg h9]; exact octFs_nil _ _
      · rw [if_neg (fun e => h8 (.inr e))]
        by_cases h10 : kind = 10
        · rw [fitVal_part h10]; exact hp x
        · rw [fitVal_num (fun e => h8 (.inl e)) (fun e => h8 (.inr e)) h10]; exact octFs_nil _ _
theorem oct_fitP {fs : List Fld} (h : tidyFs fs = true) (v : Int) (t : T) : octFs fs (fitP fs v t).l 0 = true := oct_fitP_of v (fun f hf => oct_fitF v f (tidy_mem h f hf)) t
section
variable {P : Program} {ops : Array Oper} {Q : Exit → Act → World → Prop} {rest : List Oper} {a : Act} {w w0 : World} {n : Nat} {l : List (Nat × Value)} {X Z : Nat → Prop} {m : List Ent}
variable {d : Nat} {ty : Nat} {ps : String} {af : Array Edge}
theorem o_buildEmpty {t e sz : Nat} {bl : Bool} (hk : Kn n l a) (hm : Mem w0 X Z m w) (ht : tyElem P t = some e) (hs : tySz P e = some (bl, sz)) (hd : Nat.blt d n = true)
    (K : ∀ a' b w', Kn n ((d, .slice (some ⟨b, 0, none⟩) 0 0) :: l) a' → Mem w0 X Z (.blk b [] e :: m) w' → wpList P ops Q rest a' w') :
    wpList P ops Q (⟨some d, .buildSlice t 0 #[], ty, ps, af, none⟩ :: rest) a w := by
  refine step_runs (v := .slice (some ⟨w.heap.size, 0, none⟩) 0 0) (w' := w.alloc (.cells #[] e)) hk rfl rfl hd ?_ fun a' hk' => K a' _ _ hk' (hm.alloc [] e)
  unfold Runs execOp
  simp [Instr.buildSlice, run_underlying (tyElem_run ht), sizeOf_run hs, Instr.fill, newRow]
  have e0 : Array.range 0 = #[] := by decide
  rw [e0, Array.map_empty]
end
end Go.Mk
