/- Rows of octets out of pieces; bits. No statement of a seat stands here. -/
import Derived.Test.YtbljeefficdemaaMkLaw
namespace Go.Mk
open Go

section
variable {w0 w w' : World} {X Z : Nat → Prop} {m : List Ent} {i e sz n n' : Nat} {v v' : Value} {xs xs' : List Value}

/-- a block, as a row that is full -/
theorem Mem.blkRow (h : Mem w0 X Z m w) {b : Nat} {cs : List Value} (hi : entAt m i = some (.blk b cs e)) (hl : cs.length = n * sz) (hn : n ≤ maxLen) : Mem w0 X Z (putAt m i (.row e sz (.slice (some ⟨b, 0, none⟩) n n) n cs)) w := by
  have hmu : muts (putAt m i (.row e sz (.slice (some ⟨b, 0, none⟩) n n) n cs)) = muts m := muts_putAt hi (by simp [Ent.mut, Value.ownBlock])
  have hy : Yof w0 Z (putAt m i (.row e sz (.slice (some ⟨b, 0, none⟩) n n) n cs)) = Yof w0 Z m := by funext x; simp [Yof, hmu]
  refine ⟨h.agr, h.sub, by rw [hmu]; exact h.nodup, by rw [hmu]; exact h.own, ?_⟩
  rw [hy]
  intro x hx
  rcases mem_putAt hx with rfl | ⟨j, _, hj⟩
  · have hb := h.all _ (entAt_mem hi)
    simp only [Ent.holds] at hb ⊢
    refine ⟨hl, .inr ⟨b, n, cs.toArray, rfl, Nat.zero_le _, hb, Nat.le_refl _, hn, by simpa using hl, ?_⟩⟩
    rw [← hl]
    exact List.take_length
  · exact h.all x (entAt_mem hj)

theorem src_bs {P : Program} {Y : Nat → Prop} {t : Nat} {s : List UInt8} (ht : tyElem P t = some e) (h : Rep w Y (ddBs s) [v]) : Src P 1 t v s.length (bv s) w := by
  rcases rep_sl h with ⟨h1, p, rfl, _⟩ | ⟨b, off, cap, cs, rfl, h2, h3, h4⟩
  · have : s = [] := by simpa using h1
    subst this
    cases p with
    | none => exact src_nil ht
    | some a => exact Src.ofSlice w (tyElem_run ht) a 0 0 [] rfl (fun j u hj => by simp at hj) (fun v hv => by cases hv)
  · have hcs := repE_bs h4
    subst hcs
    rw [List.length_map]
    exact src_cells ht (by simp [bv_length]) h3.at_ (bv_one s)
end

theorem and127_u64 (n : Nat) (h : n < 18446744073709551616) : ibits .and .u64 (n : Int) 127 = some ((n % 128 : Nat) : Int) := by
  have h2 : (BitVec.ofInt 64 (n : Int) &&& BitVec.ofInt 64 127).toNat = n % 128 := by
    have h1 : (BitVec.ofInt 64 127) = 127#64 := by decide
    rw [h1, BitVec.toNat_and]
    have h2 : (127#64).toNat = 2 ^ 7 - 1 := by decide
    rw [h2, Nat.and_two_pow_sub_one_eq_mod]
    have h3 : (BitVec.ofInt 64 (n : Int)).toNat = n := by rw [BitVec.toNat_ofInt]; omega
    rw [h3]
  show some (IntKind.u64.wrap (((BitVec.ofInt 64 (n : Int) &&& BitVec.ofInt 64 127).toNat : Nat) : Int)) = _
  rw [h2]
  congr 1
  simp only [IntKind.wrap, IntKind.bits, IntKind.signed]
  simp
  omega
theorem or128_u8 (n : Nat) (h : n < 128) : ibits .or .u8 (n : Int) 128 = some ((n + 128 : Nat) : Int) := by
  have h2 : ∀ k : Fin 128, (BitVec.ofInt 8 (k.val : Int) ||| BitVec.ofInt 8 128).toNat = k.val + 128 := by decide
  have h3 := h2 ⟨n, h⟩
  show some (IntKind.u8.wrap (((BitVec.ofInt 8 (n : Int) ||| BitVec.ofInt 8 128).toNat : Nat) : Int)) = _
  simp only at h3
  rw [h3, IntKind.wrap_u8]
  congr 1
  omega
theorem uvarint_length (n : Nat) : ∀ k, n < 128 ^ k → 0 < k → (uvarint n).length ≤ k := by
  intro k
  induction k generalizing n with
  | zero => intro _ h; omega
  | succ k ih =>
    intro h _
    unfold uvarint
    split
    · rename_i hn
      have hk : 0 < k := by
        rcases Nat.eq_zero_or_pos k with rfl | hk
        · simp at h; omega
        · exact hk
      have := ih (n / 128) (by rw [Nat.pow_succ] at h; omega) hk
      simp only [List.length_cons]
      omega
    · simp
theorem uvarint_len10 (n : Nat) (h : n < 18446744073709551616) : (uvarint n).length ≤ 10 := uvarint_length n 10 (by omega) (by omega)
theorem counted_len {flex null : Bool} {n size : Nat} (hs : size ≤ 8) (hn : n ≤ room) : (counted flex null n size).length ≤ 10 := by
  unfold room at hn
  unfold counted
  split
  · simp
  · split
    · exact uvarint_len10 _ (by omega)
    · split <;> rw [fixed_length] <;> omega
theorem bv_snoc (xs : List UInt8) (n : Int) : bv xs ++ [.int .u8 (IntKind.u8.wrap n)] = bv (xs ++ [u8 n]) := by rw [bv_append, bv_u8]; rfl
theorem fixed_succ (n : Int) (k : Nat) : fixed n (k + 1) = u8 (n / 2 ^ (8 * k)) :: fixed n k := rfl
theorem uvarint_big {n : Nat} (h : n > 127) : uvarint n = UInt8.ofNat (n % 128 + 128) :: uvarint (n / 128) := by rw [uvarint]; rw [dif_pos h]
theorem uvarint_small {n : Nat} (h : ¬ n > 127) : uvarint n = [UInt8.ofNat n] := by rw [uvarint]; rw [dif_neg h]
theorem bv_snocN (xs : List UInt8) (n : Nat) (h : n < 256) : bv xs ++ [.int .u8 (n : Int)] = bv (xs ++ [UInt8.ofNat n]) := by
  rw [bv_append]
  have : (UInt8.ofNat n).toNat = n := by simp [UInt8.toNat_ofNat']; omega
  simp only [bv, List.map_cons, List.map_nil, this]

section
variable {P : Program} {ops : Array Oper} {Q : Exit → Act → World → Prop} {rest : List Oper} {a : Act} {w : World} {n : Nat} {l : List (Nat × Value)}
variable {d : Nat} {ty : Nat} {ps : String} {af : Array Edge}
theorem o_shrV {x y : Operand} {t t' s : Nat} {k yk : IntKind} {i c : Int} (hk : Kn n l a) (hx : ev l x = some (.int k i)) (hy : ev l y = some (.int yk (s : Int))) (hs : s ≤ k.bits) (hc : i / 2 ^ s = c) (hd : Nat.blt d n = true)
    (K : ∀ a', Kn n ((d, .int k c) :: l) a' → wpList P ops Q rest a' w) :
    wpList P ops Q (⟨some d, .binOp .shr t x y t', ty, ps, af, none⟩ :: rest) a w := by
  refine step_runs hk rfl rfl hd ?_ K
  subst hc
  unfold Runs execOp
  have h1 : ¬ ((s : Int) < 0) := by omega
  have h2 : min (s : Int).toNat k.bits = s := by simp; omega
  simp only [Sem.run_bind, hk.eval hx, hk.eval hy, eqGuard_at_int, Sem.run_pure, Result.andThen_ok, binOp, Op.shift, if_neg h1, h2]
  rw [Int.fdiv_eq_ediv_of_nonneg _ (Int.pow_nonneg (by decide))]
end
end Go.Mk
namespace Go.Mk
open Go
theorem T_ind {p : T → Prop} (h : ∀ t, (∀ x ∈ t.l, p x) → p t) : ∀ t, p t := by
  have key : ∀ (n : Nat) (t : T), SizeOf.sizeOf t < n → p t := by
    intro n
    induction n with
    | zero => intro t ht; omega
    | succ n ih =>
      intro t ht
      refine h t fun x hx => ih x ?_
      cases t with
      | mk a s z l u =>
        have h1 : SizeOf.sizeOf x < SizeOf.sizeOf l := List.sizeOf_lt_of_mem hx
        simp only [T.mk.sizeOf_spec] at ht
        omega
  exact fun t => key _ t (Nat.lt_succ_self _)
theorem getD_mem {α : Type} {l : List α} {k : Nat} {d : α} (h : k < l.length) : l.getD k d ∈ l := by
  have : l.getD k d = l[k] := by simp [h]
  rw [this]; exact List.getElem_mem h
end Go.Mk
