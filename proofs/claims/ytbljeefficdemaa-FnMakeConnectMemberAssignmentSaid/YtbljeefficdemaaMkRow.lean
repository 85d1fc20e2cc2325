/- Rows of octets: what appending to them leaves. No statement of a seat stands here. -/
import Derived.Test.YtbljeefficdemaaMkOps4
namespace Go.Mk
open Go

def room : Nat := 140737488355328

def bv (s : List UInt8) : List Value := s.map fun b => .int .u8 b.toNat
theorem bv_append (s t : List UInt8) : bv (s ++ t) = bv s ++ bv t := by simp [bv]
theorem bv_length (s : List UInt8) : (bv s).length = s.length := by simp [bv]
theorem bv_one (s : List UInt8) : oneCells (bv s) = true := by
  induction s with
  | nil => rfl
  | cons b r ih => simp only [bv, List.map_cons, oneCells, Bool.and_eq_true]; exact ⟨rfl, ih⟩

def u8 (n : Int) : UInt8 := UInt8.ofNat (n % 256).toNat
theorem u8_toNat (n : Int) : ((u8 n).toNat : Int) = n % 256 := by
  unfold u8
  rw [UInt8.toNat_ofNat']
  omega
theorem u8_wrap (n : Int) : Value.int .u8 (IntKind.u8.wrap n) = .int .u8 ((u8 n).toNat : Int) := by rw [u8_toNat, IntKind.wrap_u8]
theorem u8_congr {a b : Int} (h : a % 256 = b % 256) : u8 a = u8 b := by unfold u8; rw [h]
theorem bv_u8 (n : Int) (s : List UInt8) : bv (u8 n :: s) = .int .u8 (IntKind.u8.wrap n) :: bv s := by simp only [bv, List.map_cons]; rw [← u8_wrap]

/-- A number in so many octets, the highest one first. -/
def fixed (n : Int) : Nat → List UInt8
  | 0 => []
  | k + 1 => u8 (n / 2 ^ (8 * k)) :: fixed n k
theorem fixed_length (n : Int) : ∀ k, (fixed n k).length = k
  | 0 => rfl
  | k + 1 => by simp [fixed, fixed_length n k]

/-- A row goes on: v' owns what v owned, and more; old blocks but v's own stay. -/
def RowTo (w : World) (e sz : Nat) (v : Value) (n' : Nat) (xs' : List Value) (v' : Value) (w' : World) : Prop :=
  Agr (fun k => v.ownBlock = some k) w w' ∧ w'.ownsRow 0 e sz v' n' xs' ∧ (∀ k, v'.ownBlock = some k → v.ownBlock = some k ∨ w.heap.size ≤ k)

section
variable {w0 w w' : World} {X Z : Nat → Prop} {m : List Ent} {i e sz n n' : Nat} {v v' : Value} {xs xs' : List Value}

theorem Mem.row (h : Mem w0 X Z m w) (hi : entAt m i = some (.row e sz v n xs)) : w.ownsRow 0 e sz v n xs := h.all _ (entAt_mem hi)

theorem Mem.rowCall (h : Mem w0 X Z m w) (hi : entAt m i = some (.row e sz v n xs)) (hr : RowTo w e sz v n' xs' v' w') : Mem w0 X Z (putAt m i (.row e sz v' n' xs')) w' :=
  h.rowStep hi hr.1 hr.2.1 hr.2.2

theorem Mem.rowTo (h : Mem w0 (fun k => v.ownBlock = some k) Z m w) (hi : entAt m i = some (.row e sz v' n' xs')) : RowTo w0 e sz v n' xs' v' w := by
  refine ⟨h.agr, h.all _ (entAt_mem hi), fun k hk => ?_⟩
  have hb := h.own k (muts_mem (entAt_mem hi) (by simp [Ent.mut, hk]))
  by_cases hlt : k < w0.heap.size
  · exact .inl (hb.2 hlt)
  · exact .inr (by omega)

theorem Mem.startRow (hr : w0.ownsRow 0 e sz v n xs) (hZ : ∀ k, v.ownBlock = some k → Z k) {m : List Ent} (hm : muts m = []) (h : ∀ x ∈ m, x.holds w0 Z) : Mem w0 (fun k => v.ownBlock = some k) Z (.row e sz v n xs :: m) w0 := by
  have hmu : muts (.row e sz v n xs :: m) = v.ownBlock.toList := by simp [muts, Ent.mut, hm]
  have hin : ∀ b, b ∈ muts (.row e sz v n xs :: m) ↔ v.ownBlock = some b := by intro b; rw [hmu]; simp
  refine ⟨Agr.refl _ _, hZ, by rw [hmu]; cases v.ownBlock <;> simp, fun b hb => ⟨(hr.lt b ((hin b).1 hb)).2, fun _ => (hin b).1 hb⟩, ?_⟩
  have hmv : ∀ k, k < w0.heap.size → ¬ Z k → w0.heap[k]? = w0.heap[k]? ∧ ¬ Yof w0 Z (.row e sz v n xs :: m) k := fun k _ hz => ⟨rfl, by
    rintro (h1 | h1)
    · exact hz h1.2
    · exact hz (hZ k ((hin k).1 h1))⟩
  intro x hx
  rcases List.mem_cons.1 hx with rfl | hx
  · exact hr
  · exact Ent.holds_move hmv (h x hx) (fun _ _ => rfl)

theorem RowTo.refl (hr : w.ownsRow 0 e sz v n xs) : RowTo w e sz v n xs v w := ⟨Agr.refl _ _, hr, fun _ h => .inl h⟩
end

/-- the call appends these octets -/
def Puts (P : Program) (e : Nat) (f : FuncId) (args : List Value) (v : Value) (n : Nat) (xs : List Value) (out : List UInt8) (w : World) : Prop :=
  Ret P f args w fun v' w' => RowTo w e 1 v (n + out.length) (xs ++ bv out) v' w'

theorem room_ok {n : Nat} (h : n ≤ room) : n ≤ maxLen ∧ n * 1 ≤ 140737488355328 := by unfold room at h; unfold maxLen; omega
theorem room_len {n : Nat} (h : n ≤ room) : n ≤ maxLen := (room_ok h).1
theorem room_by {n : Nat} (h : n ≤ room) : n * 1 ≤ 140737488355328 := (room_ok h).2

theorem fixed_u16 (n : Int) : fixed (IntKind.u16.wrap n) 2 = fixed n 2 := by
  simp only [fixed, List.cons.injEq, and_true]
  have h : IntKind.u16.wrap n = n % 65536 := by simp [IntKind.wrap, IntKind.bits, IntKind.signed]
  rw [h]
  exact ⟨u8_congr (by omega), u8_congr (by omega)⟩
theorem fixed_i16 (n : Int) : fixed (IntKind.i16.wrap n) 2 = fixed n 2 := by
  simp only [fixed, List.cons.injEq, and_true]
  have h : IntKind.i16.wrap n % 65536 = n % 65536 := by
    simp only [IntKind.wrap, IntKind.bits, IntKind.signed]; simp; split <;> omega
  exact ⟨u8_congr (by omega), u8_congr (by omega)⟩
theorem fixed_u32 (n : Int) : fixed (IntKind.u32.wrap n) 4 = fixed n 4 := by
  simp only [fixed, List.cons.injEq, and_true]
  rw [IntKind.wrap_u32]
  exact ⟨u8_congr (by omega), u8_congr (by omega), u8_congr (by omega), u8_congr (by omega)⟩
theorem fixed_i32 (n : Int) : fixed (IntKind.i32.wrap n) 4 = fixed n 4 := by
  simp only [fixed, List.cons.injEq, and_true]
  rw [IntKind.wrap_i32]
  exact ⟨u8_congr (by omega), u8_congr (by omega), u8_congr (by omega), u8_congr (by omega)⟩
theorem fixed_u64 (n : Int) : fixed (IntKind.u64.wrap n) 8 = fixed n 8 := by
  simp only [fixed, List.cons.injEq, and_true]
  have h : IntKind.u64.wrap n = n % 18446744073709551616 := by simp [IntKind.wrap, IntKind.bits, IntKind.signed]
  rw [h]
  exact ⟨u8_congr (by omega), u8_congr (by omega), u8_congr (by omega), u8_congr (by omega), u8_congr (by omega), u8_congr (by omega), u8_congr (by omega), u8_congr (by omega)⟩
theorem fixed_i64 (n : Int) : fixed (IntKind.i64.wrap n) 8 = fixed n 8 := by
  simp only [fixed, List.cons.injEq, and_true]
  rw [IntKind.wrap_i64]
  exact ⟨u8_congr (by omega), u8_congr (by omega), u8_congr (by omega), u8_congr (by omega), u8_congr (by omega), u8_congr (by omega), u8_congr (by omega), u8_congr (by omega)⟩
theorem bv_fixed2 (n : Int) : bv (fixed n 2) = [.int .u8 (IntKind.u8.wrap (n / 2 ^ 8)), .int .u8 (IntKind.u8.wrap n)] := by
  simp only [fixed, bv_u8]; simp [bv]
theorem bv_fixed4 (n : Int) : bv (fixed n 4) = [.int .u8 (IntKind.u8.wrap (n / 2 ^ 24)), .int .u8 (IntKind.u8.wrap (n / 2 ^ 16)), .int .u8 (IntKind.u8.wrap (n / 2 ^ 8)), .int .u8 (IntKind.u8.wrap n)] := by
  simp only [fixed, bv_u8]; simp [bv]
theorem bv_fixed8 (n : Int) : bv (fixed n 8) = [.int .u8 (IntKind.u8.wrap (n / 2 ^ 56)), .int .u8 (IntKind.u8.wrap (n / 2 ^ 48)), .int .u8 (IntKind.u8.wrap (n / 2 ^ 40)), .int .u8 (IntKind.u8.wrap (n / 2 ^ 32)),
    .int .u8 (IntKind.u8.wrap (n / 2 ^ 24)), .int .u8 (IntKind.u8.wrap (n / 2 ^ 16)), .int .u8 (IntKind.u8.wrap (n / 2 ^ 8)), .int .u8 (IntKind.u8.wrap n)] := by
  simp only [fixed, bv_u8]; simp [bv]
theorem src_str {P : Program} {w : World} {t : Nat} (ht : isStrTy P t = true) (s : ByteArray) : Src P 1 t (.string s) s.size (byteCells s) w := Src.ofString w (isStrTy_run ht) s
theorem byteCells_bv (s : ByteArray) : byteCells s = bv s.data.toList := rfl
/-- a text of these octets -/
def bs (s : List UInt8) : ByteArray := ⟨s.toArray⟩
theorem bs_size (s : List UInt8) : (bs s).size = s.length := by simp [bs, ByteArray.size]
theorem byteCells_bs (s : List UInt8) : byteCells (bs s) = bv s := by simp [byteCells, bs, bv]
end Go.Mk
