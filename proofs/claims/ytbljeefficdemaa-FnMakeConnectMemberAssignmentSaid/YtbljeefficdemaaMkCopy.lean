/- make of octets, copy into them; schemas by induction. No statement of a seat stands here. -/
import Derived.Test.YtbljeefficdemaaMkRowSt
import Derived.Laws.CopyOwn
namespace Go.Mk
open Go

theorem putAt_self : ∀ {m : List Ent} {i : Nat} {e : Ent}, entAt m i = some e → putAt m i e = m
  | [], _, _, h => by simp [entAt] at h
  | x :: r, 0, e, h => by simp only [entAt, Option.some.injEq] at h; subst h; rfl
  | x :: r, i + 1, e, h => by simp only [putAt, putAt_self (m := r) h]

section
variable {P : Program} {ops : Array Oper} {Q : Exit → Act → World → Prop} {rest : List Oper} {a : Act} {w w0 : World} {n : Nat} {l : List (Nat × Value)} {X Z : Nat → Prop} {m : List Ent}
variable {d : Nat} {ty : Nat} {ps : String} {af : Array Edge}

theorem o_makeN {t e by_ N : Nat} {z z0 : Value} (hk : Kn n l a) (hm : Mem w0 X Z m w) (ht : rowTy P t = some (e, 1, by_)) (hz : tyZero P e = some z) (hz0 : cellsOf z = [z0]) (hN : Nat.ble N 1000 = true) (hby : Nat.ble by_ 16 = true) (hd : Nat.blt d n = true)
    (K : ∀ a' b w', Kn n ((d, .slice (some ⟨b, 0, none⟩) N N) :: l) a' → Mem w0 X Z (.blk b (List.replicate N z0) e :: m) w' → wpList P ops Q rest a' w') :
    wpList P ops Q (⟨some d, .makeSlice t (.const (.int .i64 (N : Int))) (.const (.int .i64 (N : Int))), ty, ps, af, none⟩ :: rest) a w := by
  obtain ⟨i, z', h1, h2, h3, h4, h5, rfl⟩ := rowTy_spec ht
  have hz' : z' = z := by unfold tyZero at hz; rw [h2] at hz; simp [h3] at hz; exact hz
  subst hz'
  have hN' := Nat.le_of_ble_eq_true hN
  have hby' := Nat.le_of_ble_eq_true hby
  have hzc : z'.cells = #[z0] := by rw [cellsOf_eq, hz0]
  have hb : (i.bytes : Int) * (N : Int) ≤ 281474976710656 := by
    have : i.bytes * N ≤ 16 * 1000 := Nat.mul_le_mul hby' hN'
    omega
  have hr := run_make (P := P) w t e i z' h1 h2 h3 .i64 .i64 (N : Int) (N : Int) (by omega) (by omega) hb (by omega)
  simp only [Int.toNat_natCast, h5, Nat.mul_one, hzc] at hr
  have e1 : madeCells #[z0] N = (List.replicate N z0).toArray := by
    apply Array.ext'
    simp only [madeCells, Array.toList_map, Array.toList_range]
    apply List.ext_getElem (by simp)
    intro j h1 h2
    simp [Nat.mod_one]
  rw [e1] at hr
  refine step_runs (v := .slice (some ⟨w.heap.size, 0, none⟩) N N) (w' := w.alloc (.cells (List.replicate N z0).toArray e)) hk rfl rfl hd ?_ fun a' hk' => K a' _ _ hk' (hm.alloc _ e)
  unfold Runs execOp
  have hy : a.eval (.const (.int .i64 (N : Int))) = .int .i64 (N : Int) := rfl
  simp only [Sem.run_bind, hy, hr, Result.andThen_ok, Sem.run_pure]

/-- copy of octets into a block of so many -/
theorem o_copyB {x y : Operand} {t tx e b i N : Nat} {v : Value} {s : List UInt8} {Y : Nat → Prop} {zs : List Value} (hk : Kn n l a) (hm : Mem w0 X Z m w) (ht : tyElem P t = some e) (hsz : (P.info? e).map (·.size) = some 1) (hx : ev l x = some (.slice (some ⟨b, 0, none⟩) N N)) (hi : entAt m i = some (.blk b zs e))
    (hl : zs.length = N) (hy : ev l y = some v) (hR : Rep w Y (ddBs s) [v]) (hd : Nat.blt d n = true)
    (K : ∀ a' w', Kn n ((d, .int .i64 ((min s.length N : Nat) : Int)) :: l) a' → Mem w0 X Z (putAt m i (.blk b ((bv s).take N ++ zs.drop s.length) e)) w' → wpList P ops Q rest a' w') :
    wpList P ops Q (⟨some d, .call ⟨.builtin .copy, #[x, y], #[t, tx]⟩, ty, ps, af, none⟩ :: rest) a w := by
  have hb := hm.all _ (entAt_mem hi)
  simp only [Ent.holds] at hb
  obtain ⟨p, cap, rfl⟩ := rep_sl_len hR
  rw [List.length_map] at hy hR
  by_cases h0 : min s.length N = 0
  · have hrun := run_copy_none (P := P) w t tx ty e (some ⟨b, 0, none⟩) p N N s.length cap (tyElem_run ht) hsz h0
    refine step_runs (v := .int .i64 ((min s.length N : Nat) : Int)) (w' := w) hk rfl rfl hd ?_ fun a' hk' => K a' _ hk' ?_
    · unfold Runs execOp
      simp [resolve, invoke, builtin, hk.eval hx, hk.eval hy, hrun, h0, goInt]
    · have e1 : (bv s).take N ++ zs.drop s.length = zs := by
        rcases Nat.eq_zero_or_pos s.length with h | h
        · have : s = [] := List.eq_nil_of_length_eq_zero h
          subst this; simp [bv]
        · have hN : N = 0 := by omega
          have : zs = [] := List.eq_nil_of_length_eq_zero (by omega)
          subst hN this; simp
      rw [e1, putAt_self hi]; exact hm
  · rcases rep_sl hR with ⟨h1, _⟩ | ⟨g, off, cap', cs, he, h2, h3, h4⟩
    · have : s = [] := by simpa using h1
      subst this; simp at h0
    · simp only [Value.slice.injEq, List.length_map, true_and] at he
      obtain ⟨rfl, rfl⟩ := he
      have hcs := repE_bs h4
      subst hcs
      have hrun := run_copy_row (P := P) w t tx ty e b 0 N N ⟨g, off, none⟩ s.length cap zs.toArray e ((bv s).take N) (tyElem_run ht) hsz hb (by simp [bv_length, Nat.min_comm])
        (fun j u hj => by
          rw [Addr.add_lit]
          rw [List.getElem?_take] at hj
          split at hj
          · exact (h3 j u hj).2
          · cases hj) (by simp [bv_length]; omega) (fun u hu => oneCells_spec (bv_one s) u (List.mem_of_mem_take hu))
      have hlen : ((bv s).take N).length = min s.length N := by simp [bv_length, Nat.min_comm]
      rw [hlen] at hrun
      refine step_runs (v := .int .i64 ((min s.length N : Nat) : Int)) (w' := w.setRow b (zs.toArray.toList.take 0 ++ (bv s).take N ++ zs.toArray.toList.drop (0 + min s.length N)).toArray) hk rfl rfl hd ?_ fun a' hk' => K a' _ hk' ?_
      · unfold Runs execOp
        simp [resolve, invoke, builtin, hk.eval hx, hk.eval hy, hrun, goInt]
      · have e2 : zs.drop s.length = zs.toArray.toList.drop (0 + min s.length N) := by
          simp only [Nat.zero_add]
          rcases Nat.le_total s.length N with h | h
          · rw [Nat.min_eq_left h]
          · rw [Nat.min_eq_right h, List.drop_eq_nil_of_le (by omega), List.drop_eq_nil_of_le (by first | omega | (simp; omega))]
        have := hm.write hi (setRow_agr w b _) (setRow_heap w b zs.toArray (zs.toArray.toList.take 0 ++ (bv s).take N ++ zs.toArray.toList.drop (0 + min s.length N)).toArray e (0, 0) hb)
        rw [e2]
        simpa using this
end

theorem sixteen_cells (s : List UInt8) : (bv s).take 16 ++ (List.replicate 16 (Value.int .u8 0)).drop s.length = bv (sixteen s) := by
  have h0 : List.replicate 16 (Value.int .u8 0) = bv (List.replicate 16 (0 : UInt8)) := by simp [bv]
  rw [h0]
  unfold bv sixteen
  rw [← List.map_take, ← List.map_drop, ← List.map_append]
  congr 1
  rw [List.take_append]
  congr 1
  rw [List.drop_replicate, List.take_replicate]
  congr 1
  omega

/-! ### schemas -/
mutual
/-- what the reference's fields are like -/
def tidyF : Fld → Bool
  | .mk kind _ _ _ tag _ of sub => decide (kind ≤ 11) && decide (of ≤ 10) && decide (tag < 1000000) && decide (sub.length ≤ 1000) && tidyFs sub
def tidyFs : List Fld → Bool
  | [] => true
  | f :: r => tidyF f && tidyFs r
end
theorem tidy_mem : ∀ {fs : List Fld}, tidyFs fs = true → ∀ f ∈ fs, tidyF f = true
  | [], _, f, h => by cases h
  | x :: r, h, f, hf => by
    simp only [tidyFs, Bool.and_eq_true] at h
    rcases List.mem_cons.1 hf with rfl | hf
    · exact h.1
    · exact tidy_mem h.2 f hf
theorem tidy_spec {f : Fld} (h : tidyF f = true) : f.kind ≤ 11 ∧ f.of ≤ 10 ∧ f.tag < 1000000 ∧ f.sub.length ≤ 1000 ∧ tidyFs f.sub = true := by
  cases f with
  | mk kind fr to nu tag df of sub =>
    simp only [tidyF, Bool.and_eq_true, decide_eq_true_eq] at h
    exact ⟨h.1.1.1.1, h.1.1.1.2, h.1.1.2, h.1.2, h.2⟩
theorem tidy_tags : ∀ {fs : List Fld}, tidyFs fs = true → tagsOk fs = true
  | [], _ => rfl
  | f :: r, h => by
    simp only [tidyFs, Bool.and_eq_true] at h
    simp only [tagsOk, List.all_cons, Bool.and_eq_true, decide_eq_true_eq]
    exact ⟨(tidy_spec h.1).2.2.1, tidy_tags h.2⟩
theorem Fld_ind {p : Fld → Prop} (h : ∀ f, (∀ g ∈ f.sub, p g) → p f) : ∀ f, p f := by
  have key : ∀ (n : Nat) (f : Fld), SizeOf.sizeOf f < n → p f := by
    intro n
    induction n with
    | zero => intro t ht; omega
    | succ n ih =>
      intro f hf
      refine h f fun x hx => ih x ?_
      cases f with
      | mk kind fr to nu tag df of sub =>
        have h1 : SizeOf.sizeOf x < SizeOf.sizeOf sub := List.sizeOf_lt_of_mem hx
        simp only [Fld.mk.sizeOf_spec] at hf
        omega
  exact fun f => key _ f (Nat.lt_succ_self _)
theorem fieldP_sub (f : Fld) (v : Int) (flex : Bool) (t : T) : fieldP f v flex t = fieldQ f v flex (partP f.sub v flex) t := fieldP_eq f
theorem width_le (k : Nat) : width k ≤ 8 := by rw [width_eq]; repeat' split
                                               all_goals omega
theorem valueP_num {kind : Nat} {pt : T → List UInt8} {null flex : Bool} {t : T} (h0 : kind ≠ 0) (h7 : kind ≠ 7) (h8 : kind ≠ 8) (h9 : kind ≠ 9) (h10 : kind ≠ 10) : valueP kind pt null flex t = fixed t.n (width kind) := by
  unfold valueP
  split <;> simp_all
end Go.Mk
