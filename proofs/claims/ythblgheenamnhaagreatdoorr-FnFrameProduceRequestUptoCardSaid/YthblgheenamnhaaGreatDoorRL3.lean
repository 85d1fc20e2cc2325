/- Walks of programs, step by step: what holds of memory behind each; the reference in plain words. No statement of a seat stands here. -/
import Derived.Test.YthblgheenamnhaaGreatDoorRL2
namespace Go.Mk
open Go
def tabOk (s:ByteArray) (f:Nat → Nat):Bool:=(List.range 256).all fun j=>match s.data.toList[j]? with
 | some b=>Nat.beq b.toNat (f j)
 | none=>false
theorem tabOk_spec {s:ByteArray} {f:Nat → Nat} (h:tabOk s f = true) {j:Nat} (hj:j < 256):∃ b,s[j]? = some b ∧ b.toNat = f j:=by
 have h1:=List.all_eq_true.1 h j (List.mem_range.2 hj)
 cases hq:s.data.toList[j]? with
 | none=>rw [hq] at h1; simp at h1
 | some b =>
  rw [hq] at h1
  refine ⟨b,?_,Nat.eq_of_beq_eq_true h1⟩
  have hlt:j < s.data.size:=by
   have:=(List.getElem?_eq_some_iff.1 hq).1
   simpa using this
  have hs:j < s.size:=hlt
  have hget:s[j] = b:=by
   have h3:=(List.getElem?_eq_some_iff.1 hq).2
   rw [Array.getElem_toList] at h3
   exact h3
  rw [getElem?_pos s j hs,hget]
section
variable {P:Program} {ops:Array Oper} {Q:Exit → Act → World → Prop} {rest:List Oper} {a:Act} {w:World} {n:Nat} {l:List (Nat × Value)}
variable {d:Nat} {ty:Nat} {ps:String} {af:Array Edge}
theorem o_indexTab {x i:Operand} {t j:Nat} {kk:IntKind} {s:ByteArray} {f:Nat → Nat} (hk:Kn n l a) (ht:isStrTy P t = true) (hx:ev l x = some (.string s)) (hi:ev l i = some (.int kk (j:Int))) (hj:j < 256) (hs:tabOk s f = true) (hd:Nat.blt d n = true)
  (K:∀ a',Kn n ((d,.int .u8 (f j:Int)) :: l) a' → wpList P ops Q rest a' w) :
  wpList P ops Q (⟨some d,.index t x i,ty,ps,af,none⟩ :: rest) a w:=by
 obtain ⟨b,h1,h2⟩:=tabOk_spec hs hj
 refine step_runs hk rfl rfl hd ?_ K
 unfold Runs execOp
 have h3:(0:Int) ≤ (j:Int):=by omega
 simp only [Sem.run_bind,hk.eval hx,hk.eval hi,Instr.index,asIntOf,run_underlying (isStrTy_run ht),Result.andThen_ok,Sem.run_pure,if_pos h3,Int.toNat_natCast,h1,h2]
end
def tyArr (P:Program) (t:Nat):Option (Nat × Nat):=match P.underlying t with | some (.array n e)=>some (n,e) | _=>none
theorem tyArr_run {P:Program} {t n e:Nat} (h:tyArr P t = some (n,e)):P.underlying t = some (.array n e):=by
 unfold tyArr at h
 split at h
 ·rename_i n' e' hu
  simp only [Option.some.injEq,Prod.mk.injEq] at h
  obtain ⟨rfl,rfl⟩:=h
  exact hu
 ·cases h
theorem cellsOf_agg (l:List Value):cellsOf (.agg l.toArray) = l:=by simp [cellsOf]
section
variable {P:Program} {ops:Array Oper} {Q:Exit → Act → World → Prop} {rest:List Oper} {a:Act} {w:World} {n:Nat} {l:List (Nat × Value)}
variable {d:Nat} {ty:Nat} {ps:String} {af:Array Edge}
theorem o_sliceArr {x:Operand} {t e k s b off:Nat} {bl:Bool} (hk:Kn n l a) (ht:tyArr P t = some (k,e)) (hs:tySz P e = some (bl,s)) (hx:ev l x = some (.pointer (some ⟨b,off,none⟩))) (hd:Nat.blt d n = true)
  (K:∀ a',Kn n ((d,.slice (some ⟨b,off,none⟩) k k) :: l) a' → wpList P ops Q rest a' w) :
  wpList P ops Q (⟨some d,.slice t x none none none,ty,ps,af,none⟩ :: rest) a w:=by
 refine step_runs hk rfl rfl hd ?_ K
 unfold Runs execOp
 simp only [Sem.run_bind,hk.eval hx,Instr.sliceAt,run_underlying (tyArr_run ht),Result.andThen_ok,Instr.sureAddr,Instr.sliceBounds,Sem.run_pure,sizeOf_run hs,Option.map_none,Nat.sub_zero,Nat.zero_mul]
 have h1:(⟨b,off,none⟩ : Addr).add 0 = ⟨b,off,none⟩:=by simp [Addr.add]
 rw [h1]
 simp
end
def bl8 (i:Nat):Nat:=if i = 0 then 0 else if i < 2 then 1 else if i < 4 then 2 else if i < 8 then 3 else if i < 16 then 4 else if i < 32 then 5 else if i < 64 then 6 else if i < 128 then 7 else 8
def bl16 (u:Nat):Nat:=if u < 256 then bl8 u else 8 + bl8 (u / 256)
def bl32 (u:Nat):Nat:=if u < 65536 then bl16 u else 16 + bl16 (u / 65536)
def uvLen (u:Nat):Nat:=if u < 128 then 1 else if u < 16384 then 2 else if u < 2097152 then 3 else if u < 268435456 then 4 else 5
def grp (j:Nat):Nat:=if j ≤ 7 then 1 else if j ≤ 14 then 2 else if j ≤ 21 then 3 else if j ≤ 28 then 4 else if j ≤ 35 then 5 else if j ≤ 42 then 6 else if j ≤ 49 then 7 else if j ≤ 56 then 8 else if j ≤ 63 then 9 else if j = 64 then 10 else 0
theorem bl8_lt {i k:Nat} (h:i < 256):(i < 2 ^ k ↔ bl8 i ≤ k):=by
 unfold bl8
 match k with
 | 0=>simp; (repeat' split) <;> omega
 | 1=>simp; (repeat' split) <;> omega
 | 2=>simp; (repeat' split) <;> omega
 | 3=>simp; (repeat' split) <;> omega
 | 4=>simp; (repeat' split) <;> omega
 | 5=>simp; (repeat' split) <;> omega
 | 6=>simp; (repeat' split) <;> omega
 | 7=>simp; (repeat' split) <;> omega
 | k + 8 =>
  have h1 : 256 ≤ 2 ^ (k + 8):=by rw [Nat.pow_add]; have:=Nat.one_le_two_pow (n:=k); omega
  constructor
  ·intro _; (repeat' split) <;> omega
  ·intro _; omega
theorem bl8_le {i:Nat}:bl8 i ≤ 8:=by unfold bl8; (repeat' split) <;> omega
theorem bl16_lt {u k:Nat} (h:u < 65536) (hk : 8 ≤ k ∨ u < 256):(u < 2 ^ k ↔ bl16 u ≤ k):=by
 unfold bl16
 split
 ·rename_i h2; exact bl8_lt h2
 ·rename_i h2
  have hk : 8 ≤ k:=hk.resolve_right h2
  obtain ⟨j,rfl⟩ : ∃ j,k = 8 + j:=⟨k - 8,by omega⟩
  have:=bl8_lt (i:=u / 256) (k:=j) (by omega)
  rw [Nat.pow_add]
  have e:(2:Nat) ^ 8 = 256:=by decide
  rw [e]
  constructor
  ·intro hh; have:=this.1 (by exact Nat.div_lt_of_lt_mul hh); omega
  ·intro hh
   have h3:=this.2 (by omega)
   have:=(Nat.div_lt_iff_lt_mul (by decide : 0 < 256)).1 h3
   rw [Nat.mul_comm]; exact this
theorem bl16_ge {u:Nat} (h2 : ¬ u < 256) : 8 < bl16 u:=by
 unfold bl16
 rw [if_neg h2]
 unfold bl8
 (repeat' split) <;> omega
theorem bl16_le {u:Nat}:bl16 u ≤ 16:=by unfold bl16; split <;> (have:=bl8_le (i:=u); have:=bl8_le (i:=u / 256); omega)
theorem bl32_le {u:Nat}:bl32 u ≤ 32:=by unfold bl32; split <;> (have:=bl16_le (u:=u); have:=bl16_le (u:=u / 65536); omega)
theorem grp_uv {u:Nat} (h:u < 4294967296):grp (bl32 u) = uvLen u:=by
 have hle:=bl32_le (u:=u)
 have key:∀ k,k ≤ 32 → (u < 2 ^ k ↔ bl32 u ≤ k):=by
  intro k hk
  unfold bl32
  split
  ·rename_i h2
   by_cases h3:u < 256
   ·exact bl16_lt h2 (.inr h3)
   ·by_cases h8 : 8 ≤ k
    ·exact bl16_lt h2 (.inl h8)
    ·have h4:=bl16_ge h3
     have h5 : 2 ^ k ≤ 2 ^ 8:=Nat.pow_le_pow_right (by decide) (by omega)
     have e:(2:Nat) ^ 8 = 256:=by decide
     constructor
     ·intro _; omega
     ·intro _; omega
  ·rename_i h2
   by_cases h16 : 16 ≤ k
   ·obtain ⟨j,rfl⟩ : ∃ j,k = 16 + j:=⟨k - 16,by omega⟩
    have e:(2:Nat) ^ 16 = 65536:=by decide
    have hd:u < 2 ^ (16 + j) ↔ u / 65536 < 2 ^ j:=by
     rw [Nat.pow_add,e,Nat.div_lt_iff_lt_mul (by decide : 0 < 65536),Nat.mul_comm]
    rw [hd]
    have hdlt:u / 65536 < 65536:=by omega
    by_cases h3:u / 65536 < 256
    ·have:=bl16_lt (u:=u / 65536) (k:=j) hdlt (.inr h3); rw [this]; omega
    ·by_cases h8 : 8 ≤ j
     ·have:=bl16_lt (u:=u / 65536) (k:=j) hdlt (.inl h8); rw [this]; omega
     ·have h4:=bl16_ge h3
      have h5 : 2 ^ j ≤ 2 ^ 8:=Nat.pow_le_pow_right (by decide) (by omega)
      have e8:(2:Nat) ^ 8 = 256:=by decide
      constructor
      ·intro _; omega
      ·intro _; omega
   ·have h5 : 2 ^ k ≤ 2 ^ 16:=Nat.pow_le_pow_right (by decide) (by omega)
    have e:(2:Nat) ^ 16 = 65536:=by decide
    constructor
    ·intro _; omega
    ·intro _; omega
 have k7:=key 7 (by decide)
 have k14:=key 14 (by decide)
 have k21:=key 21 (by decide)
 have k28:=key 28 (by decide)
 have e7:(2:Nat) ^ 7 = 128:=by decide
 have e14:(2:Nat) ^ 14 = 16384:=by decide
 have e21:(2:Nat) ^ 21 = 2097152:=by decide
 have e28:(2:Nat) ^ 28 = 268435456:=by decide
 rw [e7] at k7
 rw [e14] at k14
 rw [e21] at k21
 rw [e28] at k28
 unfold grp uvLen
 by_cases h1:u < 128
 ·rw [if_pos (k7.1 h1),if_pos h1]
 ·rw [if_neg (fun h=>h1 (k7.2 h)),if_neg h1]
  by_cases h2:u < 16384
  ·rw [if_pos (k14.1 h2),if_pos h2]
  ·rw [if_neg (fun h=>h2 (k14.2 h)),if_neg h2]
   by_cases h3:u < 2097152
   ·rw [if_pos (k21.1 h3),if_pos h3]
   ·rw [if_neg (fun h=>h3 (k21.2 h)),if_neg h3]
    by_cases h4:u < 268435456
    ·rw [if_pos (k28.1 h4),if_pos h4]
    ·rw [if_neg (fun h=>h4 (k28.2 h)),if_neg h4,if_pos (by omega)]
theorem bv_nats (l:List Nat) (h:∀ k ∈ l,k < 256):bv (l.map UInt8.ofNat) = l.map fun k:Nat=>.int .u8 (k:Int):=by
 unfold bv
 rw [List.map_map]
 apply List.map_congr_left
 intro k hk
 have:=h k hk
 simp [UInt8.toNat_ofNat']
 omega
def uvB (u:Nat):List Nat:=if u < 128 then [u] else if u < 16384 then [u % 128 + 128,u / 128] else if u < 2097152 then [u % 128 + 128,u / 128 % 128 + 128,u / 16384] else
 if u < 268435456 then [u % 128 + 128,u / 128 % 128 + 128,u / 16384 % 128 + 128,u / 2097152] else [u % 128 + 128,u / 128 % 128 + 128,u / 16384 % 128 + 128,u / 2097152 % 128 + 128,u / 268435456]
theorem uvarint_uvB {u:Nat} (h:u < 4294967296):uvarint u = (uvB u).map UInt8.ofNat:=by
 have e1:u / 128 / 128 = u / 16384:=by omega
 have e2:u / 16384 / 128 = u / 2097152:=by omega
 have e3:u / 2097152 / 128 = u / 268435456:=by omega
 unfold uvB
 by_cases h1:u < 128
 ·rw [if_pos h1,uvarint_small (by omega)]; rfl
 ·rw [if_neg h1,uvarint_big (by omega)]
  by_cases h2:u < 16384
  ·rw [if_pos h2,uvarint_small (by omega)]; rfl
  ·rw [if_neg h2,uvarint_big (n:=u / 128) (by omega),e1]
   by_cases h3:u < 2097152
   ·rw [if_pos h3,uvarint_small (by omega)]; rfl
   ·rw [if_neg h3,uvarint_big (n:=u / 16384) (by omega),e2]
    by_cases h4:u < 268435456
    ·rw [if_pos h4,uvarint_small (by omega)]; rfl
    ·rw [if_neg h4,uvarint_big (n:=u / 2097152) (by omega),e3,uvarint_small (by omega)]; rfl
theorem uvB_lt {u:Nat} (h:u < 4294967296):∀ k ∈ uvB u,k < 256:=by
 unfold uvB
 intro k hk
 split at hk
 ·simp at hk; omega
 ·split at hk
  ·simp at hk; omega
  ·split at hk
   ·simp at hk; omega
   ·split at hk
    ·simp at hk; omega
    ·simp at hk; omega
theorem uvB_len {u:Nat}:(uvB u).length = uvLen u:=by unfold uvB uvLen; (repeat' split) <;> rfl
theorem uvarint_len32 {u:Nat} (h:u < 4294967296):(uvarint u).length = uvLen u:=by rw [uvarint_uvB h,List.length_map,uvB_len]
theorem bv_uvarint {u:Nat} (h:u < 4294967296):bv (uvarint u) = (uvB u).map fun k:Nat=>.int .u8 (k:Int):=by rw [uvarint_uvB h,bv_nats _ (uvB_lt h)]
theorem and127_u32 (n:Nat) (h:n < 4294967296):ibits .and .u32 (n:Int) 127 = some ((n % 128:Nat):Int):=by
 have h2:(BitVec.ofInt 32 (n:Int) &&& BitVec.ofInt 32 127).toNat = n % 128:=by
  have h1:(BitVec.ofInt 32 127) = 127#32:=by decide
  rw [h1,BitVec.toNat_and]
  have h2:(127#32).toNat = 2 ^ 7 - 1:=by decide
  rw [h2,Nat.and_two_pow_sub_one_eq_mod]
  have h3:(BitVec.ofInt 32 (n:Int)).toNat = n:=by rw [BitVec.toNat_ofInt]; omega
  rw [h3]
 show some (IntKind.u32.wrap (((BitVec.ofInt 32 (n:Int) &&& BitVec.ofInt 32 127).toNat:Nat):Int)) = _
 rw [h2,IntKind.wrap_u32]
 congr 1
 omega
theorem or128_u32 (n:Nat) (h:n < 128):ibits .or .u32 (n:Int) 128 = some ((n + 128:Nat):Int):=by
 have h2:∀ k:Fin 128,(BitVec.ofInt 32 (k.val:Int) ||| BitVec.ofInt 32 128).toNat = k.val + 128:=by decide
 have h3:=h2 ⟨n,h⟩
 show some (IntKind.u32.wrap (((BitVec.ofInt 32 (n:Int) ||| BitVec.ofInt 32 128).toNat:Nat):Int)) = _
 simp only at h3
 rw [h3,IntKind.wrap_u32]
 congr 1
 omega
theorem shr_nat (n k:Nat):(n:Int) / 2 ^ k = ((n / 2 ^ k:Nat):Int):=by
 rw [Int.natCast_ediv,Int.natCast_pow]; rfl
theorem shr_lit {n k m:Nat} (h : 2 ^ k = m):(n:Int) / 2 ^ k = ((n / m:Nat):Int):=by rw [← h]; exact shr_nat n k
end Go.Mk
namespace Go.Mk
open Go
section
variable {P:Program} {ops:Array Oper} {Q:Exit → Act → World → Prop} {rest:List Oper} {a:Act} {w w0:World} {n:Nat} {l:List (Nat × Value)} {X Z:Nat → Prop} {m:List Ent}
variable {d:Nat} {ty:Nat} {ps:String} {af:Array Edge}
theorem o_sliceFrom {x h:Operand} {t e s len cap k:Nat} {bl:Bool} {kk:IntKind} {p:Option Addr} (hk:Kn n l a) (ht:tyElem P t = some e) (hs:tySz P e = some (bl,s)) (hx:ev l x = some (.slice p len cap)) (hh:ev l h = some (.int kk (k:Int))) (hkl:k ≤ len) (hd:Nat.blt d n = true)
  (K:∀ a',Kn n ((d,.slice (if cap = k then p else p.map (·.add (k * s))) (len - k) (cap - k)) :: l) a' → wpList P ops Q rest a' w) :
  wpList P ops Q (⟨some d,.slice t x (some h) none none,ty,ps,af,none⟩ :: rest) a w:=by
 refine step_runs hk rfl rfl hd ?_ K
 unfold Runs execOp
 simp [hk.eval hx,hk.eval hh,Instr.sliceAt,Instr.slice,run_underlying (tyElem_run ht),Instr.sliceBounds,Instr.sliceBound,asIntOf,hkl,sizeOf_run hs]
theorem o_slice3 {x h g:Operand} {t e s len cap k:Nat} {bl:Bool} {kk kk2:IntKind} {p:Option Addr} (hk:Kn n l a) (ht:tyElem P t = some e) (hs:tySz P e = some (bl,s)) (hx:ev l x = some (.slice p len cap)) (hh:ev l h = some (.int kk (k:Int))) (hg:ev l g = some (.int kk2 (k:Int))) (hkc:k ≤ cap) (hd:Nat.blt d n = true)
  (K:∀ a',Kn n ((d,.slice p k k) :: l) a' → wpList P ops Q rest a' w) :
  wpList P ops Q (⟨some d,.slice t x none (some h) (some g),ty,ps,af,none⟩ :: rest) a w:=by
 refine step_runs hk rfl rfl hd ?_ K
 unfold Runs execOp
 have hp:(if k = 0 then p else p.map (·.add 0)) = p:=by
  split
  ·rfl
  ·cases p <;> simp [Addr.add]
 simp [hk.eval hx,hk.eval hh,hk.eval hg,Instr.sliceAt,Instr.slice,run_underlying (tyElem_run ht),Instr.sliceBounds,Instr.sliceBound,asIntOf,hkc,sizeOf_run hs,hp]
theorem o_buildSlice0 {t e sz:Nat} {bl:Bool} (hk:Kn n l a) (hm:Mem w0 X Z m w) (ht:tyElem P t = some e) (hs:tySz P e = some (bl,sz)) (hd:Nat.blt d n = true)
  (K:∀ a' b w',Kn n ((d,.slice (some ⟨b,0,none⟩) 0 0) :: l) a' → Mem w0 X Z (.blk b [] e :: m) w' → wpList P ops Q rest a' w') :
  wpList P ops Q (⟨some d,.buildSlice t 0 #[],ty,ps,af,none⟩ :: rest) a w:=by
 refine step_runs (v:=.slice (some ⟨w.heap.size,0,none⟩) 0 0) (w':=w.alloc (.cells #[] e)) hk rfl rfl hd ?_ fun a' hk'=>K a' _ _ hk' (hm.alloc [] e)
 unfold Runs execOp
 simp [Instr.buildSlice,run_underlying (tyElem_run ht),sizeOf_run hs,Instr.fill,newRow]
 have e0:Array.range 0 = #[]:=by decide
 rw [e0,Array.map_empty]
theorem r_shl {x:Operand} {t t' s:Nat} {k yk:IntKind} {i c:Int} (hk:Kn n l a) (hx:ev l x = some (.int k i)) (hs:Nat.ble s k.bits = true) (hc:k.wrap (i * 2 ^ s) = c) :
  Runs P ⟨some d,.binOp .shl t x (.const (.int yk (s:Int))) t',ty,ps,af,none⟩ a w (.int k c) w:=by
 subst hc
 have hs':=Nat.le_of_ble_eq_true hs
 unfold Runs execOp
 have h1 : ¬ ((s:Int) < 0):=by omega
 have h2:min (s:Int).toNat k.bits = s:=by simp; omega
 have hy:a.eval (.const (.int yk (s:Int))) = .int yk (s:Int):=rfl
 simp only [Sem.run_bind,hk.eval hx,hy,eqGuard_at_int,Sem.run_pure,Result.andThen_ok,binOp,Op.shift,if_neg h1,h2]
theorem r_ibits {x y:Operand} {op:BinOp} {t t':Nat} {k:IntKind} {i j c:Int} (hk:Kn n l a) (hx:ev l x = some (.int k i)) (hy:ev l y = some (.int k j)) (hc:ibits op k i j = some c) :
  Runs P ⟨some d,.binOp op t x y t',ty,ps,af,none⟩ a w (.int k c) w:=by
 unfold Runs execOp
 simp only [Sem.run_bind,hk.eval hx,hk.eval hy,eqGuard_at_int,Sem.run_pure,Result.andThen_ok]
 cases op <;> simp only [ibits,Option.some.injEq,reduceCtorEq] at hc <;> subst hc <;> simp [binOp,Op.intBits]
end
def ddSrc:Option (List UInt8) → DD
 | none=>.v (.slice none 0 0)
 | some l=>.sl true 1 (l.map ddB)
theorem bv_drop (l:List UInt8) (k:Nat):bv (l.drop k) = (bv l).drop k:=by simp [bv,List.map_drop]
theorem bv_take (l:List UInt8) (k:Nat):bv (l.take k) = (bv l).take k:=by simp [bv,List.map_take]
theorem src_none {w:World} {Y:Nat → Prop} {v:Value} (h:Rep w Y (ddSrc none) [v]):v = .slice none 0 0:=rep_v_inv h
theorem src_some {w:World} {Y:Nat → Prop} {l:List UInt8} {v:Value} (h:Rep w Y (ddSrc (some l)) [v]):(l = [] ∧ ∃ a,v = .slice (some a) 0 0) ∨ ∃ b off cap,v = .slice (some ⟨b,off,none⟩) l.length cap ∧ l.length ≤ cap ∧ Cel w Y b off (bv l):=by
 simp only [ddSrc,Rep,List.map_eq_nil_iff,List.length_map,List.cons.injEq,and_true] at h
 rcases h with ⟨h1,p,h2,h3⟩ | ⟨b,off,cap,cs,h1,h2,h3,h4⟩
 ·left
  cases p with
  | none=>exact absurd rfl (h3 trivial)
  | some a=>exact ⟨h1,a,h2⟩
 ·right
  have h5:=repE_bs h4
  subst h5
  exact ⟨b,off,cap,h1,h2,h3⟩
theorem src_mk {w:World} {Y:Nat → Prop} {l:List UInt8} {b off cap:Nat} (h2:l.length ≤ cap) (h3:Cel w Y b off (bv l)):Rep w Y (ddSrc (some l)) [.slice (some ⟨b,off,none⟩) l.length cap]:=by
 simp only [ddSrc,Rep]
 exact .inr ⟨b,off,cap,bv l,by rw [List.length_map],by rw [List.length_map]; exact h2,h3,repE_bv l⟩
theorem src_mk0 {w:World} {Y:Nat → Prop} (a:Addr):Rep w Y (ddSrc (some [])) [.slice (some a) 0 0]:=by
 simp only [ddSrc,Rep]
 exact .inl ⟨rfl,some a,rfl,fun _ h=>by cases h⟩
theorem src_form {w:World} {Y:Nat → Prop} {o:Option (List UInt8)} {v:Value} (h:Rep w Y (ddSrc o) [v]):∃ p cap,v = .slice p (o.getD []).length cap ∧ (o.getD []).length ≤ cap:=by
 cases o with
 | none=>exact ⟨none,0,src_none h,Nat.le_refl _⟩
 | some l =>
  rcases src_some h with ⟨rfl,a,rfl⟩ | ⟨b,off,cap,rfl,h2,_⟩
  ·exact ⟨some a,0,rfl,Nat.le_refl _⟩
  ·exact ⟨_,cap,rfl,h2⟩
theorem src_from {w:World} {Y:Nat → Prop} {o:Option (List UInt8)} {p:Option Addr} {len cap k:Nat} (h:Rep w Y (ddSrc o) [.slice p len cap]) (hk:k ≤ len):Rep w Y (ddSrc (o.map (List.drop k))) [.slice (if cap = k then p else p.map (·.add (k * 1))) (len - k) (cap - k)]:=by
 cases o with
 | none =>
  have h1:=src_none h
  simp only [Value.slice.injEq] at h1
  obtain ⟨rfl,rfl,rfl⟩:=h1
  obtain rfl:k = 0:=by omega
  exact rep_v _
 | some l =>
  rcases src_some h with ⟨rfl,a,h1⟩ | ⟨b,off,cap',h1,h2,h3⟩
  ·simp only [Value.slice.injEq] at h1
   obtain ⟨rfl,rfl,rfl⟩:=h1
   obtain rfl:k = 0:=by omega
   exact src_mk0 a
  ·simp only [Value.slice.injEq] at h1
   obtain ⟨rfl,rfl,rfl⟩:=h1
   have hl:(l.drop k).length = l.length - k:=List.length_drop
   simp only [Option.map_some]
   rw [← hl]
   by_cases hc:cap = k
   ·rw [if_pos hc]
    refine src_mk (by omega) ?_
    have:l.drop k = []:=List.drop_of_length_le (by omega)
    rw [this]
    intro j u hj
    simp [bv] at hj
   ·rw [if_neg hc]
    have e:(⟨b,off,none⟩ : Addr).add (k * 1) = ⟨b,off + k,none⟩:=by simp [Addr.add]
    simp only [e]
    refine src_mk (by omega) ?_
    rw [bv_drop]
    intro j u hj
    rw [List.getElem?_drop] at hj
    obtain ⟨h4,h5⟩:=h3 (k + j) u hj
    exact ⟨h4,by rw [Nat.add_assoc]; exact h5⟩
theorem src_span {w:World} {Y:Nat → Prop} {o:Option (List UInt8)} {p:Option Addr} {len cap k:Nat} (h:Rep w Y (ddSrc o) [.slice p len cap]) (hk:k ≤ len):Rep w Y (ddSrc (o.map (List.take k))) [.slice p k k]:=by
 cases o with
 | none =>
  have h1:=src_none h
  simp only [Value.slice.injEq] at h1
  obtain ⟨rfl,rfl,rfl⟩:=h1
  obtain rfl:k = 0:=by omega
  exact rep_v _
 | some l =>
  rcases src_some h with ⟨rfl,a,h1⟩ | ⟨b,off,cap',h1,h2,h3⟩
  ·simp only [Value.slice.injEq] at h1
   obtain ⟨rfl,rfl,rfl⟩:=h1
   obtain rfl:k = 0:=by omega
   exact src_mk0 a
  ·simp only [Value.slice.injEq] at h1
   obtain ⟨rfl,rfl,rfl⟩:=h1
   have hl:(l.take k).length = k:=by rw [List.length_take]; omega
   have:=src_mk (w:=w) (Y:=Y) (l:=l.take k) (b:=b) (off:=off) (cap:=k) (by omega) (by
    rw [bv_take]
    intro j u hj
    rw [List.getElem?_take] at hj
    split at hj
    ·exact h3 j u hj
    ·cases hj)
   rw [hl] at this
   exact this
theorem src_bytes {w:World} {Y:Nat → Prop} {o:Option (List UInt8)} {v:Value} (h:Rep w Y (ddSrc o) [v]):Rep w Y (ddBs (o.getD [])) [v]:=by
 cases o with
 | none =>
  have h':=src_none h
  subst h'
  simp [Rep,ddBs]
 | some l =>
  simp only [ddSrc,Rep,Option.getD_some,ddBs] at h ⊢
  rcases h with ⟨h1,p,h2,_⟩ | h
  ·exact .inl ⟨h1,p,h2,fun hf=>by cases hf⟩
  ·exact .inr h
theorem src_field {w:World} {Y:Nat → Prop} {o:Option (List UInt8)} {v:Value} (h:Rep w Y (ddSrc o) [v]) {nu:Int} {st:T → DD}:Rep w Y (ddVal 9 nu st (ofSpan o)) [v]:=by
 cases o with
 | none=>exact h
 | some l=>exact h
def RdrAt (w:World) (Y:Nat → Prop) (rb e:Nat) (s:RS):Prop:=∃ v,w.heap[rb]? = some (.cells #[v,.bool s.bad] e (0,0)) ∧ Rep w Y (ddSrc s.src) [v]
theorem wrap_nat {k:IntKind} (hs:k.signed = false) {n:Nat} (h:n < 2 ^ k.bits):k.wrap (n:Int) = (n:Int):=by
 have h2:((n:Int)) % (2 ^ k.bits:Nat) = n:=Int.emod_eq_of_lt (by omega) (by exact_mod_cast h)
 cases k <;> first | (simp [IntKind.signed] at hs; done) | (simp only [IntKind.wrap,IntKind.signed,IntKind.bits] at *; simp at *; omega)
theorem or_disj {k:IntKind} (hs:k.signed = false) (x y s:Nat) (hx:x < 2 ^ s) (h:x + y * 2 ^ s < 2 ^ k.bits):ibits .or k (x:Int) ((y * 2 ^ s:Nat):Int) = some ((x + y * 2 ^ s:Nat):Int):=by
 have h1:(BitVec.ofInt k.bits (x:Int) ||| BitVec.ofInt k.bits ((y * 2 ^ s:Nat):Int)).toNat = x + y * 2 ^ s:=by
  rw [BitVec.toNat_or,BitVec.toNat_ofInt,BitVec.toNat_ofInt]
  have e1:((x:Int) % ((2 ^ k.bits:Nat):Int)).toNat = x:=by
   rw [Int.emod_eq_of_lt (by omega) (by exact_mod_cast (by omega:x < 2 ^ k.bits))]; simp
  have e2:(((y * 2 ^ s:Nat):Int) % ((2 ^ k.bits:Nat):Int)).toNat = y * 2 ^ s:=by
   rw [Int.emod_eq_of_lt (by omega) (by exact_mod_cast (by omega:y * 2 ^ s < 2 ^ k.bits))]; exact Int.toNat_natCast _
  rw [e1,e2,Nat.or_comm,Nat.mul_comm,← Nat.two_pow_add_eq_or_of_lt hx,Nat.add_comm]
 show some (k.wrap ((BitVec.ofInt k.bits (x:Int) ||| BitVec.ofInt k.bits ((y * 2 ^ s:Nat):Int)).toNat:Int)) = _
 rw [h1,wrap_nat hs h]
theorem be_take2 {l:List UInt8} (h : 2 ≤ l.length):be (l.take 2) = (l.getD 1 0).toNat + (l.getD 0 0).toNat * 2 ^ 8:=by
 match l,h with
 | a0 :: a1 :: r,_=>simp only [List.take_succ_cons,List.take_zero,be,List.length_cons,List.length_nil,List.getD_cons_zero,List.getD_cons_succ]; omega
theorem be_take4 {l:List UInt8} (h : 4 ≤ l.length):be (l.take 4) = (l.getD 3 0).toNat + (l.getD 2 0).toNat * 2 ^ 8 + (l.getD 1 0).toNat * 2 ^ 16 + (l.getD 0 0).toNat * 2 ^ 24:=by
 match l,h with
 | a0 :: a1 :: a2 :: a3 :: r,_=>simp only [List.take_succ_cons,List.take_zero,be,List.length_cons,List.length_nil,List.getD_cons_zero,List.getD_cons_succ]; omega
theorem be_take8 {l:List UInt8} (h : 8 ≤ l.length):be (l.take 8) = (l.getD 7 0).toNat + (l.getD 6 0).toNat * 2 ^ 8 + (l.getD 5 0).toNat * 2 ^ 16 + (l.getD 4 0).toNat * 2 ^ 24 + (l.getD 3 0).toNat * 2 ^ 32 + (l.getD 2 0).toNat * 2 ^ 40 + (l.getD 1 0).toNat * 2 ^ 48 + (l.getD 0 0).toNat * 2 ^ 56:=by
 match l,h with
 | a0 :: a1 :: a2 :: a3 :: a4 :: a5 :: a6 :: a7 :: r,_=>simp only [List.take_succ_cons,List.take_zero,be,List.length_cons,List.length_nil,List.getD_cons_zero,List.getD_cons_succ]; omega
theorem bv_get {l:List UInt8} {j:Nat} (h:j < l.length):(bv l)[j]? = some (.int .u8 (((l.getD j 0).toNat:Nat):Int)):=by
 simp [bv,List.getElem?_map,List.getElem?_eq_getElem h,List.getD_eq_getElem?_getD]
theorem shl_cast {n s:Nat}:((n * 2 ^ s:Nat):Int) = (n:Int) * 2 ^ s:=by simp
theorem RdrAt.lt {w:World} {Y:Nat → Prop} {rb e:Nat} {s:RS} (h:RdrAt w Y rb e s):rb < w.heap.size:=by
 obtain ⟨v,h1,_⟩:=h
 exact (Array.getElem?_eq_some_iff.1 h1).1
section
variable {w0 w w':World} {X Z:Nat → Prop} {m:List Ent}
theorem Mem.blkCall2 (h:Mem w0 X Z m w) {i g e:Nat} {cs cs':List Value} (hi:entAt m i = some (.blk g cs e)) (hp:Agr (fun k=>k = g) w w') (hb:w'.heap[g]? = some (.cells cs'.toArray e (0,0))) {d d2:DD} {c c2:List Value}
  (hr:Rep w' (fun b=>b < w.heap.size ∧ Yof w0 Z m b) d c) (hr2:Rep w' (fun b=>b < w.heap.size ∧ Yof w0 Z m b) d2 c2):Mem w0 X Z (.rep d2 c2 :: .rep d c :: putAt m i (.blk g cs' e)) w':=by
 have h2:=h.blkCall hi hp hb hr
 have hmu:muts (putAt m i (.blk g cs' e)) = muts m:=muts_putAt hi rfl
 refine h2.add rfl (Rep.move (fun _ _ hy=>⟨rfl,fun hz=>hy ⟨Yof.lt h ?_,?_⟩⟩) d2 c2 hr2)
 ·simpa [Yof,hmu,muts,Ent.mut] using hz
 ·simpa [Yof,hmu,muts,Ent.mut] using hz
end
end Go.Mk
namespace Go.Mk.Er
open Go Go.Mk
inductive It
 | fld (i:Nat) | tags
def It.is:It → It → Bool
 | .fld i,.fld j=>Nat.beq i j
 | .tags,.tags=>true
 | _,_=>false
def itF (V:Int):List Fld → Nat → List It → List It
 | [],_,l=>l
 | f :: r,i,l=>match f.has V with
  | true=>.fld i :: itF V r (i + 1) l
  | false=>itF V r (i + 1) l
def its (fs:List Fld) (V:Int) (ft:Bool):List It:=itF V fs 0 (match ft with
 | true=>[.tags]
 | false=>[])
structure G where
 q:Nat → T
 u:List (Nat × List UInt8)
def G.set (g:G) (i:Nat) (t:T):G:=⟨fun j=>if j = i then t else g.q j,g.u⟩
def rdI (fs:List Fld) (V:Int) (flex:Bool) (g:G) (s:RS):It → Option (G × RS)
 | .fld i=>(rdF (fs.getD i FNIL) V flex s).map fun p=>(g.set i p.1,p.2)
 | .tags=>some (⟨g.q,(rdTags s).1⟩,(rdTags s).2)
def runI (fs:List Fld) (V:Int) (flex:Bool):List It → G → RS → Option (G × RS)
 | [],g,s=>some (g,s)
 | i :: r,g,s=>(rdI fs V flex g s i).bind fun p=>runI fs V flex r p.1 p.2
def qs (V:Int) (q:Nat → T):List Fld → Nat → List T
 | [],_=>[]
 | f :: r,i=>(if f.has V then q i else dfF f) :: qs V q r (i + 1)
section
variable {fs0:List Fld} {V:Int} {flex:Bool}
theorem runI_flds:∀ (fs:List Fld) (i:Nat) (l:List It) (g:G) (s:RS),(∀ j,fs[j]? = fs0[i + j]?) →
  (∀ l' s',rdFs fs V flex s = some (l',s') → ∃ g',runI fs0 V flex (itF V fs i l) g s = runI fs0 V flex l g' s' ∧ g'.u = g.u ∧ qs V g'.q fs i = l' ∧ ∀ j,j < i → g'.q j = g.q j) ∧
  (rdFs fs V flex s = none → runI fs0 V flex (itF V fs i l) g s = none)
 | [],i,l,g,s,_=>by
  refine ⟨fun l' s' h=>?_,fun h=>by simp [rdFs] at h⟩
  simp only [rdFs,Option.some.injEq,Prod.mk.injEq] at h
  obtain ⟨rfl,rfl⟩:=h
  exact ⟨g,rfl,rfl,rfl,fun _ _=>rfl⟩
 | f :: r,i,l,g,s,hj=>by
  have h0:=hj 0
  simp only [List.getElem?_cons_zero,Nat.add_zero] at h0
  have hg:fs0.getD i FNIL = f:=by rw [List.getD_eq_getElem?_getD,← h0]; rfl
  have hj':∀ j,r[j]? = fs0[i + 1 + j]?:=fun j=>by have:=hj (j + 1); simp only [List.getElem?_cons_succ] at this; rw [this]; congr 1; omega
  simp only [rdFs,itF]
  cases hh:f.has V with
  | false =>
   simp only [Bool.false_eq_true,if_false]
   obtain ⟨k1,k2⟩:=runI_flds r (i + 1) l g s hj'
   constructor
   ·intro l' s' h
    cases hr:rdFs r V flex s with
    | none=>rw [hr] at h; simp at h
    | some p =>
     rw [hr] at h
     simp only [Option.some.injEq,Prod.mk.injEq] at h
     obtain ⟨rfl,rfl⟩:=h
     obtain ⟨g',e1,e2,e3,e4⟩:=k1 p.1 p.2 (by rw [hr])
     exact ⟨g',e1,e2,by simp only [qs,hh,Bool.false_eq_true,if_false,e3],fun j hj=>e4 j (by omega)⟩
   ·intro h
    cases hr:rdFs r V flex s with
    | none=>exact k2 hr
    | some p=>rw [hr] at h; simp at h
  | true =>
   simp only [if_true,runI,rdI]
   rw [hg]
   cases hf:rdF f V flex s with
   | none=>exact ⟨fun l' s' h=>by simp at h,fun _=>rfl⟩
   | some p =>
    obtain ⟨t,s1⟩:=p
    simp only [Option.map_some,Option.bind_some]
    obtain ⟨k1,k2⟩:=runI_flds r (i + 1) l (g.set i t) s1 hj'
    constructor
    ·intro l' s' h
     cases hr:rdFs r V flex s1 with
     | none=>rw [hr] at h; simp at h
     | some p =>
      rw [hr] at h
      simp only [Option.some.injEq,Prod.mk.injEq] at h
      obtain ⟨rfl,rfl⟩:=h
      obtain ⟨g',e1,e2,e3,e4⟩:=k1 p.1 p.2 (by rw [hr])
      refine ⟨g',e1,e2,?_,fun j hj=>?_⟩
      ·simp only [qs,hh,if_true,e3]
       rw [e4 i (by omega)]
       simp [G.set]
      ·rw [e4 j (by omega)]
       show (if j = i then t else g.q j) = _
       rw [if_neg (by omega)]
    ·intro h
     cases hr:rdFs r V flex s1 with
     | none=>exact k2 hr
     | some p=>rw [hr] at h; simp at h
theorem runI_part (g:G) (s:RS) (fs:List Fld) :
  (∀ g' s',runI fs V flex (its fs V flex) g s = some (g',s') → rdP fs V flex s = some (.mk 0 [] false (qs V g'.q fs 0) (if flex then g'.u else []),s')) ∧
  (runI fs V flex (its fs V flex) g s = none → rdP fs V flex s = none):=by
 have key:=runI_flds (fs0:=fs) (V:=V) (flex:=flex) fs 0 (match flex with
  | true=>[.tags]
  | false=>[]) g s (fun j=>by simp)
 unfold its rdP rdPart
 cases hr:rdFs fs V flex s with
 | none=>exact ⟨fun g' s' h=>by rw [key.2 hr] at h; simp at h,fun _=>rfl⟩
 | some p =>
  obtain ⟨l,s1⟩:=p
  obtain ⟨g1,e1,e2,e3,_⟩:=key.1 l s1 hr
  rw [e1]
  subst e3
  cases flex with
  | true =>
   simp only [runI,rdI,Option.bind_some,if_true]
   exact ⟨fun g' s' h=>by
    simp only [Option.some.injEq,Prod.mk.injEq] at h
    obtain ⟨rfl,rfl⟩:=h
    rfl,fun h=>by simp at h⟩
  | false =>
   simp only [runI,Bool.false_eq_true,if_false]
   exact ⟨fun g' s' h=>by
    simp only [Option.some.injEq,Prod.mk.injEq] at h
    obtain ⟨rfl,rfl⟩:=h
    rfl,fun h=>by simp at h⟩
end
inductive AC
 | k (v:Value)
 | got (i:Nat)
 | gotu (i j:Nat)
 | tags
 | sub (i:Nat) (a:AC)
def vis:Value → Value → Bool
 | .bool a,.bool b=>a == b
 | .int p a,.int q b=>decide (p = q) && decide (a = b)
 | .string a,.string b=>decide (a = b)
 | .slice none 0 0,.slice none 0 0=>true
 | .pointer none,.pointer none=>true
 | .map none,.map none=>true
 | _,_=>false
theorem vis_eq {a b:Value} (h:vis a b = true):a = b:=by
 unfold vis at h
 split at h
 ·rw [eq_of_beq h]
 ·simp only [Bool.and_eq_true,decide_eq_true_eq] at h; rw [h.1,h.2]
 ·rw [of_decide_eq_true h]
 ·rfl
 ·rfl
 ·rfl
 ·cases h
def AC.is:AC → AC → Bool
 | .k a,.k b=>vis a b
 | .got i,.got j=>Nat.beq i j
 | .gotu i j,.gotu i' j'=>Nat.beq i i' && Nat.beq j j'
 | .tags,.tags=>true
 | .sub i a,.sub j b=>Nat.beq i j && AC.is a b
 | _,_=>false
theorem AC.is_eq:∀ {a b:AC},AC.is a b = true → a = b:=fun {a}=>by
 induction a with
 | k v =>
  intro b h
  cases b <;> first | (simp only [AC.is] at h; rw [vis_eq h]; done) | (simp [AC.is] at h; done)
 | got i =>
  intro b h
  cases b <;> first | (simp only [AC.is] at h; rw [Nat.eq_of_beq_eq_true h]; done) | (simp [AC.is] at h; done)
 | gotu i j =>
  intro b h
  cases b <;> first | (simp only [AC.is,Bool.and_eq_true] at h; rw [Nat.eq_of_beq_eq_true h.1,Nat.eq_of_beq_eq_true h.2]; done) | (simp [AC.is] at h; done)
 | tags =>
  intro b h
  cases b <;> first | rfl | (simp [AC.is] at h; done)
 | sub i a ih =>
  intro b h
  cases b <;> first | (simp only [AC.is,Bool.and_eq_true] at h; rw [Nat.eq_of_beq_eq_true h.1,ih h.2]; done) | (simp [AC.is] at h; done)
def sameA:List AC → List AC → Bool
 | [],[]=>true
 | a :: r,b :: s=>AC.is a b && sameA r s
 | _,_=>false
theorem sameA_eq:∀ {l m:List AC},sameA l m = true → l = m
 | [],[],_=>rfl
 | a :: r,b :: s,h=>by
  simp only [sameA,Bool.and_eq_true] at h
  rw [AC.is_eq h.1,sameA_eq h.2]
 | [],_ :: _,h=>by simp [sameA] at h
 | _ :: _,[],h=>by simp [sameA] at h
def defC (f:Fld):List Value:=match f.kind with
 | 0=>[.bool (f.df % 2 == 1)]
 | 1=>[.int .i8 (IntKind.i8.wrap f.df)]
 | 2=>[.int .i16 (IntKind.i16.wrap f.df)]
 | 3=>[.int .i32 (IntKind.i32.wrap f.df)]
 | 4=>[.int .i64 f.df]
 | 5=>[.int .u16 (IntKind.u16.wrap f.df)]
 | 7=>List.replicate 16 (.int .u8 0)
 | 8=>if 0 ≤ f.nu then [.pointer none] else [.string (bs [])]
 | 9=>[.slice none 0 0]
 | 10=>[.pointer none]
 | _=>[.slice none 0 0]
def defOk (f:Fld):Bool:=match f.kind with
 | 6=>false
 | 10=>decide (0 ≤ f.nu)
 | k=>Nat.ble k 11
def gus (i:Nat):Nat → List AC
 | 0=>[]
 | k + 1=>.gotu i (15 - k) :: gus i k
def acF0 (V:Int):List Fld → Nat → List AC → List AC
 | [],_,l=>l
 | f :: r,i,l=>match f.has V with
  | true=>match f.kind with
   | 7=>gus i 16 ++ acF0 V r (i + 1) l
   | _=>.got i :: acF0 V r (i + 1) l
  | false=>(defC f).map AC.k ++ acF0 V r (i + 1) l
def okAF0 (V:Int) (f:Fld):Bool:=match f.has V with
 | true=>match f.kind with
  | 10=>decide (0 ≤ f.nu)
  | k=>Nat.ble k 11
 | false=>defOk f
def acS0 (fs:List Fld) (tg:Bool) (V:Int) (flex:Bool):List AC:=acF0 V fs 0 (match tg,flex with
 | true,true=>[.tags]
 | true,false=>[.k (.map none)]
 | false,_=>[])
def gT (t:T):G:=⟨fun j=>t.l.getD j T.nil,t.u⟩
def ACR (w:World) (Y:Nat → Prop):List Fld → Bool → G → AC → Value → Prop
 | _,_,_,.k v,x=>x = v
 | fs,tg,g,.got i,x=>Rep w Y (ddF (fs.getD i FNIL) tg (g.q i)) [x]
 | _,_,g,.gotu i j,x=>(bv (sixteen (g.q i).s))[j]? = some x
 | _,_,g,.tags,x=>Rep w Y (ddTagMap g.u) [x]
 | fs,tg,g,.sub i a,x=>ACR w Y (fs.getD i FNIL).sub tg (gT (g.q i)) a x
def ACs (w:World) (Y:Nat → Prop) (fs:List Fld) (tg:Bool) (g:G):List AC → List Value → Prop
 | [],[]=>True
 | a :: r,x :: s=>ACR w Y fs tg g a x ∧ ACs w Y fs tg g r s
 | _,_=>False
section
variable {w w':World} {Y Y':Nat → Prop} {fs:List Fld} {tg:Bool} {g:G}
theorem ACR.move (hm:∀ i,i < w.heap.size → ¬ Y i → w'.heap[i]? = w.heap[i]? ∧ ¬ Y' i):∀ {a:AC} {fs:List Fld} {tg:Bool} {g:G} {x:Value},ACR w Y fs tg g a x → ACR w' Y' fs tg g a x
 | .k _v,_,_,_,_x,h=>h
 | .got _i,_,_,_,_x,h=>Rep.move hm _ _ h
 | .gotu _i _j,_,_,_,_x,h=>h
 | .tags,_,_,_,_x,h=>Rep.move hm _ _ h
 | .sub i a,fs,_,g,x,h=>ACR.move (a:=a) (fs:=(fs.getD i FNIL).sub) (g:=gT (g.q i)) (x:=x) hm h
theorem ACs.move (hm:∀ i,i < w.heap.size → ¬ Y i → w'.heap[i]? = w.heap[i]? ∧ ¬ Y' i):∀ {l:List AC} {c:List Value},ACs w Y fs tg g l c → ACs w' Y' fs tg g l c
 | [],[],_=>trivial
 | _a :: _r,_x :: _s,h=>⟨ACR.move hm h.1,ACs.move hm h.2⟩
 | [],_ :: _,h=>h.elim
 | _ :: _,[],h=>h.elim
theorem ACs.length:∀ {l:List AC} {c:List Value},ACs w Y fs tg g l c → l.length = c.length
 | [],[],_=>rfl
 | a :: r,x :: s,h=>by simp [ACs.length h.2]
 | [],_ :: _,h=>h.elim
 | _ :: _,[],h=>h.elim
theorem ACs.app:∀ {l l':List AC} {c:List Value},ACs w Y fs tg g (l ++ l') c → ∃ c1 c2,c = c1 ++ c2 ∧ ACs w Y fs tg g l c1 ∧ ACs w Y fs tg g l' c2
 | [],l',c,h=>⟨[],c,rfl,trivial,h⟩
 | a :: r,l',x :: s,h=>by
  obtain ⟨c1,c2,rfl,h1,h2⟩:=ACs.app h.2
  exact ⟨x :: c1,c2,rfl,⟨h.1,h1⟩,h2⟩
 | a :: r,l',[],h=>h.elim
theorem ACs.consts:∀ {l:List Value} {c:List Value},ACs w Y fs tg g (l.map AC.k) c → c = l
 | [],[],_=>rfl
 | a :: r,x :: s,h=>by rw [h.1,ACs.consts (l:=r) h.2]
 | [],_ :: _,h=>h.elim
 | _ :: _,[],h=>h.elim
theorem gus_spec {i:Nat}:∀ {k:Nat} {c:List Value},k ≤ 16 → ACs w Y fs tg g (gus i k) c → c = (bv (sixteen (g.q i).s)).drop (16 - k)
 | 0,[],_,_=>by
  have:(bv (sixteen (g.q i).s)).length = 16:=by rw [bv_length,sixteen_length]
  rw [List.drop_of_length_le (by omega)]
 | k + 1,x :: s,hk,h=>by
  have h2:=gus_spec (k:=k) (by omega) h.2
  have h1:(bv (sixteen (g.q i).s))[15 - k]? = some x:=h.1
  rw [h2]
  have e : 16 - (k + 1) = 15 - k:=by omega
  rw [e,List.drop_eq_getElem_cons (List.getElem?_eq_some_iff.1 h1).1,(List.getElem?_eq_some_iff.1 h1).2]
  congr 2
  omega
 | 0,_ :: _,_,h=>h.elim
 | k + 1,[],_,h=>h.elim
theorem rep_bytes (s:List UInt8):RepL w Y (s.map ddB) (bv s):=by
 induction s with
 | nil=>simp [bv,RepL]
 | cons b r ih=>exact RepL.cons1 (rep_v _) ih
theorem defC_rep {f:Fld} (h:defOk f = true):Rep w Y (ddF f tg (dfF f)) (defC f):=by
 cases f with
 | mk kind fr to nu tag df of sub =>
  unfold ddF
  match kind,h with
  | 0,_=>rw [if_neg (by decide)]; exact rep_v _
  | 1,_=>rw [if_neg (by decide)]; exact rep_v _
  | 2,_=>rw [if_neg (by decide)]; exact rep_v _
  | 3,_=>rw [if_neg (by decide)]; exact rep_v _
  | 4,_=>rw [if_neg (by decide)]; exact rep_v _
  | 5,_=>rw [if_neg (by decide)]; exact rep_v _
  | 6,h=>simp [defOk,Fld.kind] at h
  | 7,_ =>
   rw [if_neg (by decide)]
   exact rep_agg (rep_bytes (List.replicate 16 0))
  | 8,_ =>
   rw [if_neg (by decide)]
   show Rep w Y (if 0 ≤ nu then (if decide (0 ≤ nu) = true then .v (.pointer none) else _) else .v (.string (bs []))) (if 0 ≤ nu then [.pointer none] else [.string (bs [])])
   by_cases h0 : 0 ≤ nu
   ·rw [if_pos h0,if_pos h0,if_pos (by simpa using h0)]; exact rep_v _
   ·rw [if_neg h0,if_neg h0]; exact rep_v _
  | 9,_=>rw [if_neg (by decide)]; exact rep_v _
  | 10,h =>
   rw [if_neg (by decide)]
   have h0 : 0 ≤ nu:=of_decide_eq_true (show decide (0 ≤ nu) = true from h)
   have e:dfF (.mk 10 fr to nu tag df of sub) = ofNil:=by unfold dfF; simp [h0]
   rw [e]
   show Rep w Y (if 0 ≤ nu then (if ofNil.z = true then .v (.pointer none) else _) else _) [.pointer none]
   rw [if_pos h0]
   exact rep_v _
  | 11,_=>rw [if_pos rfl]; exact rep_v _
  | k + 12,h=>simp [defOk,Fld.kind] at h
end
theorem acF0_rep {w:World} {Y:Nat → Prop} {fs0:List Fld} {tg:Bool} {g:G} {V:Int} {tl:List AC} {dd:List DD}:∀ (fs:List Fld) (i:Nat) {c:List Value} (pre:List T),(∀ j,fs[j]? = fs0[i + j]?) → (fs.all (okAF0 V)) = true → pre.length = i → ACs w Y fs0 tg g (acF0 V fs i tl) c →
  (∀ {c},ACs w Y fs0 tg g tl c → RepL w Y dd c) → RepL w Y (ddFs fs tg (pre ++ qs V g.q fs i) i ++ dd) c
 | [],i,c,pre,_,_,_,h,ht=>by simpa [ddFs,acF0] using ht h
 | f :: r,i,c,pre,hj,hok,hi,h,ht=>by
  have h0:=hj 0
  simp only [List.getElem?_cons_zero,Nat.add_zero] at h0
  have hg:fs0.getD i FNIL = f:=by rw [List.getD_eq_getElem?_getD,← h0]; rfl
  have hj':∀ j,r[j]? = fs0[i + 1 + j]?:=fun j=>by have:=hj (j + 1); simp only [List.getElem?_cons_succ] at this; rw [this]; congr 1; omega
  simp only [List.all_cons,Bool.and_eq_true] at hok
  simp only [ddFs,qs,List.cons_append,RepL]
  have e:∀ t:T,(pre ++ t :: qs V g.q r (i + 1)).getD i T.nil = t:=by subst hi; intro t; simp
  rw [e]
  have step:∀ (t:T) {c1 c2:List Value},Rep w Y (ddF f tg t) c1 → ACs w Y fs0 tg g (acF0 V r (i + 1) tl) c2 → ∃ a b,c1 ++ c2 = a ++ b ∧ Rep w Y (ddF f tg t) a ∧ RepL w Y (ddFs r tg (pre ++ t :: qs V g.q r (i + 1)) (i + 1) ++ dd) b:=by
   intro t c1 c2 h1 h2
   have:=acF0_rep r (i + 1) (pre ++ [t]) hj' hok.2 (by simp [hi]) h2 ht
   simp only [List.append_assoc,List.singleton_append] at this
   exact ⟨c1,c2,rfl,h1,this⟩
  unfold acF0 at h
  cases hh:f.has V with
  | false =>
   rw [hh] at h
   simp only at h
   obtain ⟨c1,c2,rfl,h1,h2⟩:=ACs.app h
   rw [ACs.consts h1]
   simp only [Bool.false_eq_true,if_false]
   refine step _ (defC_rep ?_) h2
   have:=hok.1
   unfold okAF0 at this
   rw [hh] at this
   exact this
  | true =>
   rw [hh] at h
   simp only [if_true] at h ⊢
   split at h
   ·rename_i hk
    obtain ⟨c1,c2,rfl,h1,h2⟩:=ACs.app h
    have h3:=gus_spec (Nat.le_refl 16) h1
    rw [Nat.sub_self,List.drop_zero] at h3
    refine step _ ?_ h2
    rw [h3]
    cases f with
    | mk kind fr to nu tag df of sub =>
     have hk':kind = 7:=hk
     subst hk'
     unfold ddF
     rw [if_neg (by decide)]
     exact rep_agg (rep_bytes _)
   ·match c,h with
    | x :: c2,h =>
     refine step _ (c1:=[x]) ?_ h.2
     have h1:Rep w Y (ddF (fs0.getD i FNIL) tg (g.q i)) [x]:=h.1
     rw [hg] at h1
     exact h1
theorem acS0_rep {w:World} {Y:Nat → Prop} {fs:List Fld} {tg flex:Bool} {g:G} {V:Int} {c:List Value} (hok:fs.all (okAF0 V) = true) (hft:(!flex || tg) = true) (h:ACs w Y fs tg g (acS0 fs tg V flex) c) :
  Rep w Y (ddS fs tg (.mk 0 [] false (qs V g.q fs 0) (if flex then g.u else []))) c:=by
 unfold acS0 at h
 have key:∀ (tl:List AC),(∀ {c:List Value},ACs w Y fs tg g tl c → RepL w Y (if tg then [ddTagMap (if flex then g.u else [])] else []) c) → ACs w Y fs tg g (acF0 V fs 0 tl) c → Rep w Y (ddS fs tg (.mk 0 [] false (qs V g.q fs 0) (if flex then g.u else []))) c:=fun tl ht hc=>by
  have:=acF0_rep (fs0:=fs) (tl:=tl) (dd:=if tg then [ddTagMap (if flex then g.u else [])] else []) fs 0 (c:=c) [] (fun j=>by simp) hok rfl hc ht
  rw [List.nil_append] at this
  exact rep_agg this
 refine key _ (fun {c} hc=>?_) h
 clear h key
 revert hc
 cases tg with
 | false =>
  intro hc
  match c,hc with
  | [],_=>simp [RepL]
 | true =>
  cases flex with
  | true =>
   intro hc
   match c,hc with
   | [x],hc=>exact RepL.cons1 hc.1 RepL.nil
  | false =>
   intro hc
   match c,hc with
   | [x],hc =>
    have hx:x = .map none:=hc.1
    subst hx
    refine RepL.cons1 ?_ RepL.nil
    simp [ddTagMap,Rep]
section
variable {w:World} {Y:Nat → Prop} {fs:List Fld} {tg:Bool} {g g':G}
theorem ACs.appI0:∀ {l l':List AC} {c c':List Value},ACs w Y fs tg g l c → ACs w Y fs tg g l' c' → ACs w Y fs tg g (l ++ l') (c ++ c')
 | [],_,[],_,_,h=>h
 | _ :: _,_,_ :: _,_,h,h'=>⟨h.1,ACs.appI0 h.2 h'⟩
 | [],_,_ :: _,_,h,_=>h.elim
 | _ :: _,_,[],_,h,_=>h.elim
theorem ACs.constsI:∀ (l:List Value),ACs w Y fs tg g (l.map AC.k) l
 | []=>trivial
 | _ :: r=>⟨rfl,ACs.constsI r⟩
theorem gus_other {i:Nat} (h:g'.q i = g.q i):∀ {k:Nat} {c:List Value},ACs w Y fs tg g (gus i k) c → ACs w Y fs tg g' (gus i k) c
 | 0,[],_=>trivial
 | 0,_ :: _,h=>h.elim
 | _ + 1,[],h=>h.elim
 | k + 1,x :: c,hc=>by
  refine ⟨?_,gus_other h hc.2⟩
  have h1:(bv (sixteen (g.q i).s))[15 - k]? = some x:=hc.1
  show (bv (sixteen (g'.q i).s))[15 - k]? = some x
  rw [h]; exact h1
end
def subC (i:Nat) (l:List AC):List AC:=l.map (AC.sub i)
def acF (V:Int) (tg flex:Bool):List Fld → Nat → List AC → List AC
 | [],_,l=>l
 | f :: r,i,l=>match f.has V with
  | true=>match f.kind with
   | 7=>gus i 16 ++ acF V tg flex r (i + 1) l
   | 10=>match decide (f.nu < 0) && flex with
    | true=>subC i (acS0 f.sub tg V flex) ++ acF V tg flex r (i + 1) l
    | false=>.got i :: acF V tg flex r (i + 1) l
   | _=>.got i :: acF V tg flex r (i + 1) l
  | false=>(defC f).map AC.k ++ acF V tg flex r (i + 1) l
def okAF (V:Int) (f:Fld):Bool:=match f.has V with
 | true=>match f.kind with
  | 10=>decide (0 ≤ f.nu) || f.sub.all (fun h=>h.has V && okAF0 V h)
  | k=>Nat.ble k 11
 | false=>defOk f
def acS (fs:List Fld) (tg:Bool) (V:Int) (flex:Bool):List AC:=acF V tg flex fs 0 (match tg,flex with
 | true,true=>[.tags]
 | true,false=>[.k (.map none)]
 | false,_=>[])
section
variable {w w':World} {Y Y':Nat → Prop} {fs:List Fld} {tg:Bool} {g:G}
theorem ACs.sub {i:Nat}:∀ {l:List AC} {c:List Value},ACs w Y fs tg g (subC i l) c ↔ ACs w Y (fs.getD i FNIL).sub tg (gT (g.q i)) l c
 | [],[]=>Iff.rfl
 | [],_ :: _=>Iff.rfl
 | _ :: _,[]=>Iff.rfl
 | a :: r,x :: c=>by
  show (ACR w Y fs tg g (.sub i a) x ∧ ACs w Y fs tg g (subC i r) c) ↔ _
  rw [ACs.sub (l:=r) (c:=c)]
  rfl
theorem ddFs_same {tg:Bool}:∀ (fs:List Fld) (l l':List T) (i:Nat),(∀ j,i ≤ j → j < i + fs.length → l.getD j T.nil = l'.getD j T.nil) → ddFs fs tg l i = ddFs fs tg l' i
 | [],_,_,_,_=>rfl
 | f :: r,l,l',i,h=>by
  simp only [ddFs]
  rw [h i (Nat.le_refl _) (by simp only [List.length_cons]; omega),ddFs_same r l l' (i + 1) fun j h1 h2=>h j (by omega) (by simp only [List.length_cons]; omega)]
theorem qs_getD {V:Int} {q:Nat → T}:∀ (fs:List Fld) (i k:Nat),fs.all (fun h=>h.has V) = true → k < fs.length → (qs V q fs i).getD k T.nil = q (i + k)
 | [],_,_,_,hk=>by simp at hk
 | f :: r,i,0,h,_=>by
  simp only [List.all_cons,Bool.and_eq_true] at h
  simp [qs,h.1]
 | f :: r,i,k + 1,h,hk=>by
  simp only [List.all_cons,Bool.and_eq_true] at h
  simp only [qs,List.getD_cons_succ]
  rw [qs_getD r (i + 1) k h.2 (by simpa using hk)]
  congr 1
  omega
theorem has_of_all {V:Int} {l:List Fld} (h:l.all (fun h=>h.has V && okAF0 V h) = true):l.all (fun h=>h.has V) = true ∧ l.all (okAF0 V) = true:=by
 simp only [List.all_eq_true,Bool.and_eq_true] at h ⊢
 exact ⟨fun x hx=>(h x hx).1,fun x hx=>(h x hx).2⟩
theorem sub_rep {V:Int} {sub:List Fld} {t:T} {c:List Value} (h:sub.all (fun h=>h.has V && okAF0 V h) = true) (hc:ACs w Y sub true (gT t) (acS0 sub true V true) c):Rep w Y (ddS sub true t) c:=by
 obtain ⟨h1,h2⟩:=has_of_all h
 have h3:=acS0_rep h2 rfl hc
 have e:ddS sub true (.mk 0 [] false (qs V (gT t).q sub 0) (if true = true then (gT t).u else [])) = ddS sub true t:=by
  unfold ddS
  show DD.agg (ddFs sub true (qs V (gT t).q sub 0) 0 ++ [ddTagMap t.u]) = DD.agg (ddFs sub true t.l 0 ++ [ddTagMap t.u])
  rw [ddFs_same sub (qs V (gT t).q sub 0) t.l 0 fun j _ hj=>by
   rw [qs_getD sub 0 j h1 (by omega),Nat.zero_add]
   rfl]
 rw [← e]
 exact h3
theorem ACs.other {g':G} {tl:List AC} (ht:∀ {c},ACs w Y fs tg g tl c → ACs w Y fs tg g' tl c) {V:Int}:∀ (l:List Fld) (i:Nat) {c:List Value},(∀ j,i ≤ j → j < i + l.length → g'.q j = g.q j) → ACs w Y fs tg g (acF0 V l i tl) c → ACs w Y fs tg g' (acF0 V l i tl) c
 | [],_,_,_,h=>ht h
 | f :: r,i,c,hq,h=>by
  have hr:∀ {c},ACs w Y fs tg g (acF0 V r (i + 1) tl) c → ACs w Y fs tg g' (acF0 V r (i + 1) tl) c:=fun h=>ACs.other ht r (i + 1) (fun j h1 h2=>hq j (by omega) (by simp only [List.length_cons]; omega)) h
  have hi:=hq i (Nat.le_refl _) (by simp only [List.length_cons]; omega)
  unfold acF0 at h ⊢
  cases hh:f.has V with
  | false =>
   rw [hh] at h
   simp only at h ⊢
   obtain ⟨c1,c2,rfl,h1,h2⟩:=ACs.app h
   refine ACs.appI0 ?_ (hr h2)
   rw [ACs.consts h1]
   exact ACs.constsI _
  | true =>
   rw [hh] at h
   simp only at h ⊢
   split at h
   ·obtain ⟨c1,c2,rfl,h1,h2⟩:=ACs.app h
    exact ACs.appI0 (gus_other hi h1) (hr h2)
   ·match c,h with
    | x :: c2,h =>
     refine ⟨?_,hr h.2⟩
     have h1:Rep w Y (ddF (fs.getD i FNIL) tg (g.q i)) [x]:=h.1
     show Rep w Y (ddF (fs.getD i FNIL) tg (g'.q i)) [x]
     rw [hi]; exact h1
end
theorem ddF_part {f:Fld} {tg:Bool} {t:T} (h:f.kind = 10) (hn:f.nu < 0):ddF f tg t = ddS f.sub tg t:=by
 cases f with
 | mk kind fr to nu tag df of sub =>
  have h':kind = 10:=h
  have hn':nu < 0:=hn
  subst h'
  unfold ddF
  rw [if_neg (by decide)]
  show (if 0 ≤ nu then _ else _) = _
  rw [if_neg (by omega)]
  rfl
theorem acF_rep {w:World} {Y:Nat → Prop} {fs0:List Fld} {tg:Bool} {g:G} {V:Int} {flex:Bool} {tl:List AC} {dd:List DD} (hft:(!flex || tg) = true):∀ (fs:List Fld) (i:Nat) {c:List Value} (pre:List T),(∀ j,fs[j]? = fs0[i + j]?) → (fs.all (okAF V)) = true → pre.length = i → ACs w Y fs0 tg g (acF V tg flex fs i tl) c →
  (∀ {c},ACs w Y fs0 tg g tl c → RepL w Y dd c) → RepL w Y (ddFs fs tg (pre ++ qs V g.q fs i) i ++ dd) c
 | [],i,c,pre,_,_,_,h,ht=>by simpa [ddFs,acF] using ht h
 | f :: r,i,c,pre,hj,hok,hi,h,ht=>by
  have h0:=hj 0
  simp only [List.getElem?_cons_zero,Nat.add_zero] at h0
  have hg:fs0.getD i FNIL = f:=by rw [List.getD_eq_getElem?_getD,← h0]; rfl
  have hj':∀ j,r[j]? = fs0[i + 1 + j]?:=fun j=>by have:=hj (j + 1); simp only [List.getElem?_cons_succ] at this; rw [this]; congr 1; omega
  simp only [List.all_cons,Bool.and_eq_true] at hok
  simp only [ddFs,qs,List.cons_append,RepL]
  have e:∀ t:T,(pre ++ t :: qs V g.q r (i + 1)).getD i T.nil = t:=by subst hi; intro t; simp
  rw [e]
  have step:∀ (t:T) {c1 c2:List Value},Rep w Y (ddF f tg t) c1 → ACs w Y fs0 tg g (acF V tg flex r (i + 1) tl) c2 → ∃ a b,c1 ++ c2 = a ++ b ∧ Rep w Y (ddF f tg t) a ∧ RepL w Y (ddFs r tg (pre ++ t :: qs V g.q r (i + 1)) (i + 1) ++ dd) b:=by
   intro t c1 c2 h1 h2
   have:=acF_rep hft r (i + 1) (pre ++ [t]) hj' hok.2 (by simp [hi]) h2 ht
   simp only [List.append_assoc,List.singleton_append] at this
   exact ⟨c1,c2,rfl,h1,this⟩
  unfold acF at h
  cases hh:f.has V with
  | false =>
   rw [hh] at h
   simp only at h
   obtain ⟨c1,c2,rfl,h1,h2⟩:=ACs.app h
   rw [ACs.consts h1]
   simp only [Bool.false_eq_true,if_false]
   refine step _ (defC_rep ?_) h2
   have:=hok.1
   unfold okAF at this
   rw [hh] at this
   exact this
  | true =>
   rw [hh] at h
   simp only [if_true] at h ⊢
   split at h
   ·rename_i hk
    obtain ⟨c1,c2,rfl,h1,h2⟩:=ACs.app h
    have h3:=gus_spec (Nat.le_refl 16) h1
    rw [Nat.sub_self,List.drop_zero] at h3
    refine step _ ?_ h2
    rw [h3]
    cases f with
    | mk kind fr to nu tag df of sub =>
     have hk':kind = 7:=hk
     subst hk'
     unfold ddF
     rw [if_neg (by decide)]
     exact rep_agg (rep_bytes _)
   ·rename_i hk
    split at h
    ·rename_i hb
     simp only [Bool.and_eq_true,decide_eq_true_eq] at hb
     obtain ⟨hnu,hfl⟩:=hb
     have htg:tg = true:=by rw [hfl] at hft; simpa using hft
     obtain ⟨c1,c2,rfl,h1,h2⟩:=ACs.app h
     refine step _ ?_ h2
     have h3:=ACs.sub.1 h1
     rw [hg] at h3
     have hs:f.sub.all (fun h=>h.has V && okAF0 V h) = true:=by
      have:=hok.1
      unfold okAF at this
      rw [hh] at this
      simp only [hk] at this
      rw [Bool.or_eq_true] at this
      rcases this with h | h
      ·have:=of_decide_eq_true h; omega
      ·exact h
     subst hfl htg
     have h4:=sub_rep hs h3
     rw [ddF_part hk hnu]
     exact h4
    ·match c,h with
     | x :: c2,h =>
      refine step _ (c1:=[x]) ?_ h.2
      have h1:Rep w Y (ddF (fs0.getD i FNIL) tg (g.q i)) [x]:=h.1
      rw [hg] at h1
      exact h1
   ·match c,h with
    | x :: c2,h =>
     refine step _ (c1:=[x]) ?_ h.2
     have h1:Rep w Y (ddF (fs0.getD i FNIL) tg (g.q i)) [x]:=h.1
     rw [hg] at h1
     exact h1
theorem acS_rep {w:World} {Y:Nat → Prop} {fs:List Fld} {tg flex:Bool} {g:G} {V:Int} {c:List Value} (hok:fs.all (okAF V) = true) (hft:(!flex || tg) = true) (h:ACs w Y fs tg g (acS fs tg V flex) c) :
  Rep w Y (ddS fs tg (.mk 0 [] false (qs V g.q fs 0) (if flex then g.u else []))) c:=by
 unfold acS at h
 have key:∀ (tl:List AC),(∀ {c:List Value},ACs w Y fs tg g tl c → RepL w Y (if tg then [ddTagMap (if flex then g.u else [])] else []) c) → ACs w Y fs tg g (acF V tg flex fs 0 tl) c → Rep w Y (ddS fs tg (.mk 0 [] false (qs V g.q fs 0) (if flex then g.u else []))) c:=fun tl ht hc=>by
  have:=acF_rep (fs0:=fs) hft (tl:=tl) (dd:=if tg then [ddTagMap (if flex then g.u else [])] else []) fs 0 (c:=c) [] (fun j=>by simp) hok rfl hc ht
  rw [List.nil_append] at this
  exact rep_agg this
 refine key _ (fun {c} hc=>?_) h
 clear h key
 revert hc
 cases tg with
 | false =>
  intro hc
  match c,hc with
  | [],_=>simp [RepL]
 | true =>
  cases flex with
  | true =>
   intro hc
   match c,hc with
   | [x],hc=>exact RepL.cons1 hc.1 RepL.nil
  | false =>
   intro hc
   match c,hc with
   | [x],hc =>
    have hx:x = .map none:=hc.1
    subst hx
    refine RepL.cons1 ?_ RepL.nil
    simp [ddTagMap,Rep]
end Go.Mk.Er
namespace Go.Mk.Er
open Go Go.Mk
open Go.Mk.Ea (ikOf)
inductive RK
 | val (kind:Nat) (nul cp:Bool)
 | cnt (cp:Bool) | ok | done | tags | dflt (ds:List (Nat × Value))
def rdV (kind:Nat) (nul flex:Bool) (s:RS):T × RS:=(rdVal kind nul flex (fun _=>none) s).getD (ofNil,s)
theorem rdV_eq {kind:Nat} {nul flex:Bool} {pt:RS → Option (T × RS)} {s:RS} (h:kind ≠ 10):rdVal kind nul flex pt s = some (rdV kind nul flex s):=by
 unfold rdV
 match kind,h with
 | 0,_=>rfl
 | 1,_=>rfl
 | 2,_=>rfl
 | 3,_=>rfl
 | 4,_=>rfl
 | 5,_=>rfl
 | 6,_=>rfl
 | 7,_=>rfl
 | 8,_=>rfl
 | 9,_=>rfl
 | 10,h=>exact absurd rfl h
 | k + 11,_=>rfl
def setL:List (Nat × Value) → List Value → List Value
 | [],c=>c
 | d :: r,c=>setL r (c.set d.1 d.2)
structure Cx where
 P:Program
 n:Nat
 m:Nat
 rt:Nat
 er:Nat
 cfg:List (Nat × RK)
 V:Nat
 flex:Bool
 /-- nothing went wrong -/
 good:Value
 /-- where what is given back lies where something went wrong; itself -/
 gb:Nat
 gv:Value
def Cx.err (cx:Cx) (v:Value):Prop:=v = cx.gv
def RkOk (P:Program) (er:Nat) (good:Value) (gb:Nat) (gv:Value) (f:Nat):RK → Prop
 | .val kind nul cp=>∀ {w0:World} {Y:Nat → Prop} {rb:Nat} {s:RS} (nu:Int) (st:T → DD),(kind = 8 → nul = decide (0 ≤ nu)) → RdrAt w0 Y rb er s → Y rb →
   Ret P f [.pointer (some ⟨rb,0,none⟩)] w0 fun v w'=>Agr (fun k=>k = rb) w0 w' ∧ (Rep w' (fun b=>b < w0.heap.size ∧ Y b) (ddVal kind nu st (rdV kind nul cp s).1) (cellsOf v) ∧ (kind ≠ 7 → v.oneCell' = true)) ∧ RdrAt w' (fun b=>b < w0.heap.size ∧ Y b) rb er (rdV kind nul cp s).2
 | .cnt cp=>∀ {w0:World} {Y:Nat → Prop} {rb:Nat} {s:RS},RdrAt w0 Y rb er s → Y rb →
   Ret P f [.pointer (some ⟨rb,0,none⟩)] w0 fun v w'=>Agr (fun k=>k = rb) w0 w' ∧ v = .int .i32 (rdCnt cp s).1 ∧ RdrAt w' (fun b=>b < w0.heap.size ∧ Y b) rb er (rdCnt cp s).2
 | .ok=>∀ {w0:World} {Y:Nat → Prop} {rb:Nat} {s:RS},RdrAt w0 Y rb er s → Ret P f [.pointer (some ⟨rb,0,none⟩)] w0 fun v w'=>w' = w0 ∧ v = .bool (!s.bad)
 | .done=>∀ {w0:World} {Y:Nat → Prop} {rb:Nat} {s:RS},RdrAt w0 Y rb er s → w0.cell? ⟨gb,0,none⟩ = some gv → Ret P f [.pointer (some ⟨rb,0,none⟩)] w0 fun v w'=>w' = w0 ∧ (s.bad = false → v = good) ∧ (s.bad = true → v = gv)
 | .tags=>∀ {w0:World} {Y:Nat → Prop} {rb:Nat} {s:RS},RdrAt w0 Y rb er s → Y rb →
   Ret P f [.pointer (some ⟨rb,0,none⟩)] w0 fun v w'=>Agr (fun k=>k = rb) w0 w' ∧ Rep w' (fun b=>b < w0.heap.size ∧ Y b) (ddTagMap (rdTags s).1) (cellsOf v) ∧ RdrAt w' (fun b=>b < w0.heap.size ∧ Y b) rb er (rdTags s).2
 | .dflt ds=>∀ {w0:World} {b ty:Nat} {pre c post:List Value},w0.heap[b]? = some (.cells (pre ++ c ++ post).toArray ty (0,0)) → (∀ d ∈ ds,d.1 < c.length) →
   Ret P f [.pointer (some ⟨b,pre.length,none⟩)] w0 fun _ w'=>Agr (fun k=>k = b) w0 w' ∧ w'.heap[b]? = some (.cells (pre ++ setL ds c ++ post).toArray ty (0,0))
def CfgOk (cx:Cx):Prop:=∀ f ck,(f,ck) ∈ cx.cfg → RkOk cx.P cx.er cx.good cx.gb cx.gv f ck ∧ cb0 cx.P f = true
structure LS where
 fs:List Fld
 tg:Bool
 top:Bool
inductive Md
 | nn | nz | ne
inductive Sg
 | un | pos | npos | zero | nzero
structure Pd where
 bk:Option Bool
 sg:Sg
 z:Option (List Value)
 lp:Bool
inductive AV
 | junk
 | k (v:Value)
 | rdr
 | ptr (l o:Nat)
 | val (i:Nat)
 | tagv
 | cnt (l:Nat)
 | okb (p:Bool)
 | gt0 | eq0
 | base (l:Nat) (m:Md)
 | made
 | arr (l:Nat) (m:Md)
 | box (i:Nat)
 | idx (l:Nat)
 | res
structure St where
 sl:List (Nat × AV)
 cells:List AC
 todo:List It
 pd:Option Pd
 fr:Bool
def alook:List (Nat × AV) → Nat → Option AV
 | [],_=>none
 | (k,v) :: r,s=>match Nat.beq s k with
  | true=>some v
  | false=>alook r s
def aev (l:List (Nat × AV)):Operand → Option AV
 | .tmp t=>alook l t
 | .const v=>some (.k v)
 | _=>none
def aevs (l:List (Nat × AV)):List Operand → Option (List AV)
 | []=>some []
 | x :: r=>match aev l x,aevs l r with
  | some v,some vs=>some (v :: vs)
  | _,_=>none
def put (cx:Cx) (σ : St) (d:Nat) (v:AV):Option St:=match Nat.blt d cx.n with
 | true=>some { σ with sl:=(d,v) :: σ.sl }
 | false=>none
def AV.unl (cur:Nat):AV → AV
 | .cnt l=>if Nat.beq l cur then .junk else .cnt l
 | .arr l m=>if Nat.beq l cur then .junk else .arr l m
 | .base l .nz=>if Nat.beq l cur then .junk else .base l .nz
 | .gt0=>.junk
 | .eq0=>.junk
 | .made=>.junk
 | .okb _=>.junk
 | .res=>.junk
 | v=>v
def AV.unm (cur:Nat):AV → AV
 | .made=>.junk
 | .arr l m=>if Nat.beq l cur then .junk else .arr l m
 | v=>v
def AV.unf:AV → AV
 | .okb _=>.junk
 | .res=>.junk
 | v=>v
def AV.unr:It → AV → AV
 | _,.okb _=>.junk
 | _,.res=>.junk
 | .fld i,.val j=>if Nat.beq i j then .junk else .val j
 | .fld i,.box j=>if Nat.beq i j then .junk else .box j
 | .tags,.tagv=>.junk
 | _,v=>v
def AC.free:It → AC → Bool
 | .fld i,.got j=>!Nat.beq i j
 | .fld i,.gotu j _=>!Nat.beq i j
 | .fld i,.sub j _=>!Nat.beq i j
 | .tags,.tags=>false
 | _,_=>true
def mapV (f:AV → AV):List (Nat × AV) → List (Nat × AV)
 | []=>[]
 | p :: r=>(p.1,f p.2) :: mapV f r
def ckOf:List (Nat × RK) → Nat → Option RK
 | [],_=>none
 | (k,c) :: r,f=>match Nat.beq f k with
  | true=>some c
  | false=>ckOf r f
def setA:List (Nat × Value) → List AC → List AC
 | [],c=>c
 | d :: r,c=>setA r (c.set d.1 (.k d.2))
def isNil:Option Pd → Bool
 | none=>true
 | some _=>false
def stC (fs:List Fld):AV → Option (List AC)
 | .k v=>if v.oneCell' then some [.k v] else none
 | .val i=>match (fs.getD i FNIL).kind with
  | 7=>some (gus i 16)
  | 10=>none
  | k=>if Nat.blt k 10 then some [.got i] else none
 | .tagv=>some [.tags]
 | _=>none
def putC (c:List AC) (o:Nat) (v:List AC):Option (List AC) :=
 if Nat.ble (o + v.length) c.length then some (c.take o ++ v ++ c.drop (o + v.length)) else none
def mdOk (f:Fld) (V:Int):Md → Bool
 | .nn=>decide (f.nu < 0)
 | .nz=>f.may V
 | .ne=>decide (0 ≤ f.nu) && !f.may V
def isZero:Value → Bool
 | .int _ i=>decide (i = 0)
 | _=>false
def xcall (cx:Cx) (ls:List LS) (cur:Nat) (σ : St) (d:Option Nat):Option RK → List AV → Option St
 | some (.val kind nul cp),[.rdr]=>match d,σ.todo,ls[cur]?,isNil σ.pd with
  | some d,.fld i :: r,some s,true =>
   match Nat.beq (s.fs.getD i FNIL).kind kind && Nat.blt kind 10 && (nul == (s.fs.getD i FNIL).mayR cx.V) && (!Nat.beq kind 8 || (nul == decide (0 ≤ (s.fs.getD i FNIL).nu))) && (Nat.blt kind 8 || (cp == cx.flex)) with
   | true=>if σ.cells.all (AC.free (.fld i)) then put cx ⟨mapV (AV.unr (.fld i)) σ.sl,σ.cells,r,none,false⟩ d (.val i) else none
   | false=>none
  | _,_,_,_=>none
 | some (.cnt cp),[.rdr]=>match d,σ.todo,ls[cur]?,isNil σ.pd with
  | some d,.fld i :: _,some s,true =>
   match Nat.beq (s.fs.getD i FNIL).kind 11 && (cp == cx.flex) with
   | true=>put cx ⟨mapV (AV.unl cur) σ.sl,σ.cells,σ.todo,some ⟨none,.un,none,false⟩,false⟩ d (.cnt cur)
   | false=>none
  | _,_,_,_=>none
 | some .ok,[.rdr]=>match d with
  | some d=>put cx ⟨mapV AV.unf σ.sl,σ.cells,σ.todo,σ.pd,true⟩ d (.okb true)
  | none=>none
 | some .done,[.rdr]=>match d with
  | some d=>put cx ⟨mapV AV.unf σ.sl,σ.cells,σ.todo,σ.pd,true⟩ d .res
  | none=>none
 | some .tags,[.rdr]=>match d,σ.todo,isNil σ.pd with
  | some d,.tags :: r,true=>if σ.cells.all (AC.free .tags) then put cx ⟨mapV (AV.unr .tags) σ.sl,σ.cells,r,none,false⟩ d .tagv else none
  | _,_,_=>none
 | some (.dflt ds),[.ptr l 0]=>match d,Nat.beq l cur && ds.all (fun p=>Nat.blt p.1 σ.cells.length && p.2.oneCell') with
  | none,true=>some { σ with cells:=setA ds σ.cells }
  | some d,true=>put cx { σ with cells:=setA ds σ.cells } d .junk
  | _,_=>none
 | _,_=>none
def xop (cx:Cx) (ls:List LS) (cur:Nat) (σ : St):Oper → Option St
 | ⟨some d,.move x,_,_,_,none⟩=>match aev σ.sl x with
  | some v=>put cx σ d v
  | none=>none
 | ⟨some d,.assign x,_,_,_,none⟩=>match aev σ.sl x with
  | some v=>put cx σ d v
  | none=>none
 | ⟨some d,.pick c x y,_,_,_,none⟩=>match aev σ.sl c,aev σ.sl x,aev σ.sl y with
  | some (.k (.bool true)),some v,some _=>put cx σ d v
  | some (.k (.bool false)),some _,some v=>put cx σ d v
  | _,_,_=>none
 | ⟨some d,.nilCheck x,_,_,_,none⟩=>match aev σ.sl x with
  | some (.ptr l o)=>put cx σ d (.ptr l o)
  | some .rdr=>put cx σ d .rdr
  | _=>none
 | ⟨some d,.fieldAddr t x k,_,_,_,none⟩=>match aev σ.sl x,fldOff cx.P t k with
  | some (.ptr l o),some o'=>put cx σ d (.ptr l (o + o'))
  | _,_=>none
 | ⟨some d,.unOp .not _ x,_,_,_,none⟩=>match aev σ.sl x with
  | some (.k (.bool b))=>put cx σ d (.k (.bool (!b)))
  | some (.okb p)=>put cx σ d (.okb (!p))
  | _=>none
 | ⟨some d,.load t x,_,_,_,none⟩=>match aev σ.sl x,tySz cx.P t with
  | some (.ptr l o),some (false,_)=>match Nat.beq l cur,σ.cells[o]? with
   | true,some (.k (.slice none 0 0))=>put cx σ d (.base cur .nn)
   | true,some (.k v)=>put cx σ d (.k v)
   | _,_=>none
  | some (.box i),some (true,16)=>put cx σ d (.val i)
  | _,_=>none
 | ⟨none,.store t x y,_,_,_,none⟩=>match aev σ.sl x,aev σ.sl y,tySz cx.P t with
  | some (.ptr l o),some (.arr l2 m),some (false,1)=>match Nat.beq l cur && Nat.beq l2 cur,σ.todo,σ.pd,ls[cur]? with
   | true,.fld i :: r,some ⟨some false,_,some _,true⟩,some s=>match mdOk (s.fs.getD i FNIL) cx.V m,putC σ.cells o [.got i] with
    | true,some c=>if σ.cells.all (AC.free (.fld i)) then some ⟨mapV (AV.unr (.fld i)) σ.sl,c,r,none,false⟩ else none
    | _,_=>none
   | _,_,_,_=>none
  | some (.ptr l o),some v,some (_bl,sz)=>match Nat.beq l cur,ls[cur]? with
   | true,some s=>match stC s.fs v with
    | some vs=>match Nat.beq vs.length sz,putC σ.cells o vs with
     | true,some c=>some { σ with cells:=c }
     | _,_=>none
    | none=>none
   | _,_=>none
  | _,_,_=>none
 | ⟨some d,.slice t x none (some (.const h)) none,_,_,_,none⟩=>match aev σ.sl x,tyElem cx.P t,isZero h with
  | some (.base l m),some e,true=>match tySz cx.P e with
   | some _=>put cx σ d (.base l m)
   | none=>none
  | _,_,_=>none
 | ⟨some d,.buildSlice t 0 ps,_,_,_,none⟩=>match ps.toList,tyElem cx.P t with
  | [],some e=>match tySz cx.P e with
   | some _=>put cx σ d (.base cur .ne)
   | none=>none
  | _,_=>none
 | ⟨some d,.call ⟨.builtin .append,xs,ts⟩,_,_,_,none⟩=>match xs.toList,ts.toList,σ.pd,ls[cur]?,σ.todo with
  | [x,y],[t,t2],some ⟨bk,.pos,none,false⟩,some s,.fld i :: _=>match aev σ.sl x,aev σ.sl y,rowTy cx.P t,tyInt cx.P t2 with
   | some (.base _ _),some (.cnt l),some (e,sz,by_),some _=>match tyZero cx.P e with
    | some z=>match Nat.beq l cur && Nat.blt by_ 65536 && Nat.beq (cellsOf z).length sz && oneCells (cellsOf z) && Nat.beq sz (widVal (s.fs.getD i FNIL).of (-1) (widS (s.fs.getD i FNIL).sub s.tg)) with
     | true=>put cx ⟨mapV (AV.unm cur) σ.sl,σ.cells,σ.todo,some ⟨bk,.pos,some (cellsOf z),false⟩,σ.fr⟩ d .made
     | false=>none
    | none=>none
   | _,_,_,_=>none
  | _,_,_,_,_=>none
 | ⟨some d,.binOp .gtr _ x (.const (.int .i32 0)) _,_,_,_,none⟩=>match aev σ.sl x with
  | some (.cnt l)=>if Nat.beq l cur then put cx σ d .gt0 else none
  | _=>none
 | ⟨some d,.binOp .eql _t x (.const (.int .i32 0)) _,_,_,_,none⟩=>match aev σ.sl x with
  | some (.cnt l)=>if Nat.beq l cur then put cx σ d .eq0 else none
  | _=>none
 | ⟨some d,.binOp op _ x y _,_,_,_,none⟩=>match aev σ.sl x,aev σ.sl y with
  | some (.k (.int q i)),some (.k (.int q' j))=>match decide (q = q'),icmp op i j with
   | true,some b=>put cx σ d (.k (.bool b))
   | _,_=>none
  | _,_=>none
 | ⟨some d,.convert s t x,_,_,_,none⟩=>match aev σ.sl x,(cx.P.underlying s).isSome,tyInt cx.P t,ls[cur]? with
  | some (.val i),true,some ik,some s=>match ikOf (s.fs.getD i FNIL).kind with
   | some ik'=>if decide (ik = ik') && !Nat.beq (s.fs.getD i FNIL).kind 4 then put cx σ d (.val i) else none
   | none=>none
  | _,_,_,_=>none
 | ⟨some d,.indexAddr t x i,_,_,_,none⟩=>match aev σ.sl x,aev σ.sl i,ls[cur]? with
  | some (.arr l _),some (.idx l'),some s=>match Nat.beq l' cur && Nat.beq (l + 1) cur && !s.top,tyElem cx.P t with
   | true,some e=>match tySz cx.P e with
    | some (_,z)=>match Nat.beq z (widS s.fs s.tg) with
     | true=>put cx σ d (.ptr cur 0)
     | false=>none
    | none=>none
   | _,_=>none
  | _,_,_=>none
 | ⟨d,.call ⟨.value (.func f),xs,_⟩,_,_,_,none⟩=>match aevs σ.sl xs.toList with
  | some ars=>xcall cx ls cur σ d (ckOf cx.cfg f) ars
  | none=>none
 | _=>none
def xopg (cx:Cx) (ls:List LS) (cur:Nat) (all:List Oper) (σ : St) (o:Oper):Option St:=match o.guard with
 | none=>xop cx ls cur σ o
 | some (j,b)=>match (all[j]?).bind (·.dst),o.dst with
  | some dj,some d=>match alook σ.sl dj with
   | some (.k (.bool u))=>match u == b with
    | true=>xop cx ls cur σ { o with guard:=none }
    | false=>put cx σ d (.k undef)
   | _=>none
  | _,_=>none
def xbox (cx:Cx) (ls:List LS) (cur:Nat) (σ : St):Oper → Oper → Option St
 | ⟨some d,.alloc e,_,_,_,none⟩,⟨none,.store t (.tmp d') y,_,_,_,none⟩=>match Nat.beq d d' && isNil σ.pd,aev σ.sl y,ls[cur]?,tyZero cx.P e with
  | true,some (.val i),some s,some z=>match Nat.beq (s.fs.getD i FNIL).kind 7 && Nat.beq (cellsOf z).length 16,y,tySz cx.P t with
   | true,.tmp y',some (true,16)=>if Nat.beq y' d then none else put cx σ d (.box i)
   | _,_,_=>none
  | _,_,_,_=>none
 | _,_=>none
def xops (cx:Cx) (ls:List LS) (cur:Nat) (all:List Oper):List Oper → St → Option St
 | [],σ=>some σ
 | o :: r,σ=>match xopg cx ls cur all σ o with
  | some σ'=>xops cx ls cur all r σ'
  | none=>match r with
   | o2 :: r2=>match xbox cx ls cur σ o o2 with
    | some σ'=>xops cx ls cur all r2 σ'
    | none=>none
   | []=>none
def vway (n d:Nat):Nat → List (Nat × AV) → Code → Option (List (Nat × AV) × Oper × Oper)
 | 0,_,_=>none
 | g + 1,sl,c=>match c with
  | .seq (.region _ o1 false) (.cond (.tmp c) a b)=>match o1.toList with
   | [⟨some m,.move x,_,_,_,none⟩]=>match Nat.beq m c && Nat.blt m n && !Nat.beq m d,aev sl x with
    | true,some (.k (.bool true))=>vway n d g ((m,.k (.bool true)) :: sl) a
    | true,some (.k (.bool false))=>vway n d g ((m,.k (.bool false)) :: sl) b
    | _,_=>none
   | _=>none
  | .region _ ops false=>match ops.toList with
   | [o1,o2]=>some (sl,o1,o2)
   | _=>none
  | _=>none
def xvv (cx:Cx) (ls:List LS) (cur:Nat) (σ : St) (d e:Nat) (c:Code):Option St:=match vway cx.n d 9 ((d,.junk) :: σ.sl) c with
 | some (sl',⟨some t,.call ⟨.value (.func f),xs,_⟩,_,_,_,none⟩,⟨none,.store ty (.tmp d') (.tmp t'),_,_,_,none⟩) =>
  match ckOf cx.cfg f,aevs sl' xs.toList,σ.todo,ls[cur]?,tyZero cx.P e with
  | some (.val 8 false cp),some [.rdr],.fld i :: r,some s,some z =>
   match Nat.blt d cx.n && Nat.blt t cx.n && !Nat.beq t d && isNil σ.pd && Nat.beq d' d && Nat.beq t' t && Nat.beq (s.fs.getD i FNIL).kind 8 && decide (0 ≤ (s.fs.getD i FNIL).nu) && !(s.fs.getD i FNIL).mayR cx.V && (cp == cx.flex) && Nat.beq (cellsOf z).length 1 && σ.cells.all (AC.free (.fld i)),tySz cx.P ty with
   | true,some (_,1)=>some ⟨(d,.val i) :: (t,.junk) :: mapV (AV.unr (.fld i)) sl',σ.cells,r,none,false⟩
   | _,_=>none
  | _,_,_,_,_=>none
 | _=>none
def asVV:Code → Code → Option (Nat × Nat × Code × Code)
 | .region _ ops false,.seq c b=>match ops.toList with
  | [⟨some d,.alloc e,_,_,_,none⟩]=>some (d,e,c,b)
  | _=>none
 | _,_=>none
def kept (m:Nat) (keep:List Nat) (s:Nat):Bool:=Nat.blt s m || keep.any (Nat.beq s)
def prune (f:Nat → Bool):List (Nat × AV) → List (Nat × AV)
 | []=>[]
 | p :: r=>match f p.1 with
  | true=>p :: prune f r
  | false=>prune f r
def AV.low (cur:Nat):AV → Bool
 | .junk=>true
 | .k _=>true
 | .rdr=>true
 | .ptr l _=>Nat.ble l cur
 | .cnt l=>Nat.ble l cur
 | .arr l _=>Nat.ble l cur
 | .idx l=>Nat.ble l cur
 | _=>false
def AV.lowV (cur:Nat) (v:AV):AV:=if v.low cur then v else .junk
def AV.is:AV → AV → Bool
 | .k a,.k b=>vis a b
 | .rdr,.rdr=>true
 | .ptr l o,.ptr l' o'=>Nat.beq l l' && Nat.beq o o'
 | .cnt l,.cnt l'=>Nat.beq l l'
 | .base l .nn,.base l' .nn=>Nat.beq l l'
 | .base l .ne,.base l' .ne=>Nat.beq l l'
 | .base l .nz,.base l' .nz=>Nat.beq l l'
 | .arr l .nn,.arr l' .nn=>Nat.beq l l'
 | .arr l .ne,.arr l' .ne=>Nat.beq l l'
 | .arr l .nz,.arr l' .nz=>Nat.beq l l'
 | .idx l,.idx l'=>Nat.beq l l'
 | _,_=>false
def left (l:List (Nat × AV)):List (Nat × AV) → Bool
 | []=>true
 | p :: r=>(match alook l p.1,p.2 with
  | some _,.junk=>true
  | some v,u=>AV.is u v
  | none,_=>false) && left l r
def joinG (cur:Nat):AV → AV → AV
 | .made,.base l m=>if Nat.beq l cur then .arr l m else .junk
 | a,b=>if AV.is a b then a else .junk
def joinE (cur:Nat):AV → AV → AV
 | .base l .ne,.base l' .nn=>if Nat.beq l cur && Nat.beq l' cur then .base cur .nz else .junk
 | a,b=>if AV.is a b then a else .junk
def joinS (J:AV → AV → AV) (f:Nat → Bool) (sb:List (Nat × AV)):List (Nat × AV) → List (Nat × AV)
 | []=>[]
 | p :: r=>match f p.1,alook sb p.1 with
  | true,some v=>(p.1,J p.2 v) :: joinS J f sb r
  | _,_=>joinS J f sb r
def zOk (ls:List LS) (cur:Nat) (todo:List It):Option (List Value) → Bool
 | none=>true
 | some z=>match ls[cur]?,todo with
  | some s,.fld i :: _=>Nat.beq z.length (widVal (s.fs.getD i FNIL).of (-1) (widS (s.fs.getD i FNIL).sub s.tg)) && oneCells z
  | _,_=>false
def sameI:List It → List It → Bool
 | [],[]=>true
 | a :: r,b :: s=>It.is a b && sameI r s
 | _,_=>false
def joinZ:Option (List Value) → Option (List Value) → Option (Option (List Value))
 | some z,none=>some (some z)
 | none,none=>some none
 | _,_=>none
structure RP where
 id:Nat
 idb:Nat
 i:Nat
 ln:Nat
 ta:Nat
 tb:Nat
 c:Nat
 tc:Nat
 td:Nat
 body:Code
def asLoop:Code → Option RP
 | .block id (.loop (.seq (.seq (.region _ o1 false) (.cond (.tmp c) .skip (.exit id'))) (.seq (.block idb body) (.region _ o2 false)))) =>
  match o1.toList,o2.toList with
  | [⟨some ta,.move (.tmp i),_,_,_,none⟩,⟨some tb,.move (.tmp ln),_,_,_,none⟩,⟨some c1,.binOp .lss _ (.tmp ta') (.tmp tb') _,_,_,_,none⟩],
   [⟨some tc,.move (.tmp i'),_,_,_,none⟩,⟨some td,.binOp .add _ (.tmp tc') (.const (.int .i32 1)) _,_,_,_,none⟩,⟨some i2,.assign (.tmp td'),_,_,_,none⟩] =>
   match Nat.beq id id' && Nat.beq c c1 && Nat.beq ta ta' && Nat.beq tb tb' && Nat.beq i i' && Nat.beq tc tc' && Nat.beq i i2 && Nat.beq td td' with
   | true=>some ⟨id,idb,i,ln,ta,tb,c,tc,td,body⟩
   | false=>none
  | _,_=>none
 | _=>none
def RP.own (r:RP):List Nat:=[r.i,r.ln,r.ta,r.tb,r.c,r.tc,r.td]
def apart:List Nat → Bool
 | []=>true
 | x :: r=>!r.any (Nat.beq x) && apart r
def inner (s:LS) (f:Fld):LS:=match Nat.beq f.of 10 with
 | true=>⟨f.sub,s.tg,false⟩
 | false=>⟨[.mk f.of 0 (-1) (-1) (-1) 0 0 []],false,false⟩
def goodSub (cx:Cx) (s:LS) (f:Fld):Bool:=match Nat.beq f.of 10 with
 | true=>f.sub.all (okAF cx.V) && (!cx.flex || s.tg)
 | false=>Nat.blt f.of 10
def writes:Code → List Nat
 | .region _ ops _=>ops.toList.filterMap (·.dst)
 | .seq a b=>writes a ++ writes b
 | .cond _ a b=>writes a ++ writes b
 | .block _ b=>writes b
 | .loop b=>writes b
 | _=>[]
def stays (cx:Cx) (keep:List Nat) (r:RP) (s:Nat):Bool :=
 kept cx.m keep s && !r.own.any (Nat.beq s) && !(writes r.body).any (Nat.beq s)
structure NP where
 t1:Nat
 pr:Nat
 t2:Nat
 t3:Nat
 t4:Nat
 t5:Nat
 t6:Nat
 a:Nat
 al:Nat
 nc:Nat
 fa:Nat
 a2:Nat
 nc2:Nat
 fa2:Nat
 ld:Nat
 v:Nat
 f8:Nat
 q8:Operand
 fo:Nat
 qo:Operand
 so:Operand
 ety:Nat
 st:Nat
 k:Nat
 pty:Nat
 so2:Operand
 st2:Nat
 k2:Nat
 pty2:Nat
 body:Code
def NP.tm (p:NP):List Nat:=[p.t1,p.pr,p.t2,p.t3,p.t4,p.t5,p.t6,p.a,p.al,p.nc,p.fa,p.a2,p.nc2,p.fa2,p.ld,p.v]
def asNP:Code → Code → Option NP
 | .region _ o1 false,.seq (.region _ o2 false) (.cond (.tmp c) (.seq (.region _ o3 false) (.seq (.region _ o4 false) body)) .skip) =>
  match o1.toList,o2.toList with
  | [⟨some t1,.call ⟨.value (.func f8),x8,_⟩,_,_,_,none⟩,⟨some pr,.assign (.tmp y1),_,_,_,none⟩],
   [⟨some t2,.move (.tmp y2),_,_,_,none⟩,⟨some t3,.binOp .neq _ (.tmp y3) (.const (.int .i8 m)) _,_,_,_,none⟩,⟨some t4,.move (.tmp y4),_,_,_,none⟩,⟨some t5,.call ⟨.value (.func fo),xo,_⟩,_,_,_,some (2,true)⟩,⟨some t6,.pick (.tmp y5) (.tmp y6) (.const (.bool false)),_,_,_,none⟩] =>
   match o3.toList,o4.toList,x8.toList,xo.toList with
   | [⟨some a,.move so,_,_,_,none⟩,⟨some al,.alloc ety,_,_,_,none⟩,⟨some nc,.nilCheck (.tmp y7),_,_,_,none⟩,⟨some fa,.fieldAddr st (.tmp y8) k,_,_,_,none⟩,⟨none,.store pty (.tmp y9) (.tmp y10),_,_,_,none⟩],
    [⟨some a2,.move so2,_,_,_,none⟩,⟨some nc2,.nilCheck (.tmp z1),_,_,_,none⟩,⟨some fa2,.fieldAddr st2 (.tmp z2) k2,_,_,_,none⟩,⟨some ld,.load pty2 (.tmp z3),_,_,_,none⟩,⟨some v,.assign (.tmp z4),_,_,_,none⟩],[q8],[qo] =>
    match Nat.beq y1 t1 && Nat.beq y2 pr && Nat.beq y3 t2 && Nat.beq y4 t3 && Nat.beq y5 t4 && Nat.beq y6 t5 && Nat.beq c t6 && Nat.beq y7 a && Nat.beq y8 nc && Nat.beq y9 fa && Nat.beq y10 al && Nat.beq z1 a2 && Nat.beq z2 nc2 && Nat.beq z3 fa2 && Nat.beq z4 ld && decide (m = -1) with
    | true=>some ⟨t1,pr,t2,t3,t4,t5,t6,a,al,nc,fa,a2,nc2,fa2,ld,v,f8,q8,fo,qo,so,ety,st,k,pty,so2,st2,k2,pty2,body⟩
    | false=>none
   | _,_,_,_=>none
  | _,_=>none
 | _,_=>none
def uniq:List Nat → List (Nat × AV) → List (Nat × AV)
 | _,[]=>[]
 | seen,p :: r=>match seen.any (Nat.beq p.1) with
  | true=>uniq seen r
  | false=>p :: uniq (p.1 :: seen) r
def npHd (cx:Cx) (cur:Nat) (keep:List Nat) (np:NP) (sl:List (Nat × AV)):List (Nat × AV) :=
 uniq [] (mapV (AV.lowV cur) (prune (fun s=>kept cx.m keep s && !np.tm.any (Nat.beq s)) sl))
def npPre (cx:Cx) (ls:List LS) (cur:Nat) (hd:List (Nat × AV)) (σ : St) (np:NP):Option (Nat × Value × LS × Nat × List It) :=
 match σ.todo,ls[cur]? with
 | .fld i :: r,some s =>
  match ckOf cx.cfg np.f8,ckOf cx.cfg np.fo,aev hd np.q8,aev hd np.qo,aev hd np.so,aev hd np.so2 with
  | some (.val 1 _ _),some .ok,some .rdr,some .rdr,some (.ptr l o),some (.ptr l2 o2) =>
   match fldOff cx.P np.st np.k,fldOff cx.P np.st2 np.k2,tyZero cx.P np.ety,tySz cx.P np.pty,tySz cx.P np.pty2 with
   | some p,some p2,some z,some (_,1),some (false,_) =>
    match isNil σ.pd && Nat.beq l cur && Nat.beq l2 cur && Nat.beq (o + p) (o2 + p2) && Nat.beq (s.fs.getD i FNIL).kind 10 && decide (0 ≤ (s.fs.getD i FNIL).nu) && ((s.fs.getD i FNIL).sub.all (okAF cx.V) && (!cx.flex || s.tg)) && σ.cells.all (AC.free (.fld i)) && apart np.tm && np.tm.all (fun s=>Nat.blt s cx.n) && Nat.beq (cur + 1) ls.length,σ.cells[o + p]? with
    | true,some (.k (.pointer none))=>some (o + p,z,⟨(s.fs.getD i FNIL).sub,s.tg,true⟩,i,r)
    | _,_=>none
   | _,_,_,_,_=>none
  | _,_,_,_,_,_=>none
 | _,_=>none
structure IP where
 a:Nat
 nc:Nat
 fa:Nat
 v:Nat
 so:Operand
 st:Nat
 k:Nat
def IP.tm (p:IP):List Nat:=[p.a,p.nc,p.fa,p.v]
def asIP:Code → Option IP
 | .region _ ops false=>match ops.toList with
  | [⟨some a,.move so,_,_,_,none⟩,⟨some nc,.nilCheck (.tmp y1),_,_,_,none⟩,⟨some fa,.fieldAddr st (.tmp y2) k,_,_,_,none⟩,⟨some v,.assign (.tmp y3),_,_,_,none⟩] =>
   match Nat.beq y1 a && Nat.beq y2 nc && Nat.beq y3 fa with
   | true=>some ⟨a,nc,fa,v,so,st,k⟩
   | false=>none
  | _=>none
 | _=>none
def ipHd (cx:Cx) (cur:Nat) (keep:List Nat) (p:IP) (sl:List (Nat × AV)):List (Nat × AV) :=
 uniq [] (mapV (AV.lowV cur) (prune (fun s=>kept cx.m keep s && !p.tm.any (Nat.beq s)) sl))
def AC.isK:AC → Bool
 | .k _=>true
 | _=>false
def ipPre (cx:Cx) (ls:List LS) (cur:Nat) (hd:List (Nat × AV)) (σ : St) (p:IP):Option (Nat × Nat × LS × Nat × List It) :=
 match σ.todo,ls[cur]? with
 | .fld i :: r,some s =>
  match aev hd p.so,fldOff cx.P p.st p.k with
  | some (.ptr l o),some q =>
   match isNil σ.pd && Nat.beq l cur && Nat.beq (s.fs.getD i FNIL).kind 10 && decide ((s.fs.getD i FNIL).nu < 0) && cx.flex && s.tg && (s.fs.getD i FNIL).sub.all (fun h=>h.has cx.V && okAF0 cx.V h) && σ.cells.all (AC.free (.fld i)) && apart p.tm && p.tm.all (fun s=>Nat.blt s cx.n) && Nat.beq (cur + 1) ls.length && Nat.ble (o + q + widS (s.fs.getD i FNIL).sub s.tg) σ.cells.length && ((σ.cells.drop (o + q)).take (widS (s.fs.getD i FNIL).sub s.tg)).all AC.isK with
   | true=>some (o + q,widS (s.fs.getD i FNIL).sub s.tg,⟨(s.fs.getD i FNIL).sub,s.tg,true⟩,i,r)
   | false=>none
  | _,_=>none
 | _,_=>none
def ipAll (cx:Cx) (ls:List LS) (cur:Nat) (keep:List Nat) (σ : St) (a:Code):Option (IP × Nat × Nat × LS × Nat × List It):=match asIP a with
 | some p=>match ipPre cx ls cur (ipHd cx cur keep p σ.sl) σ p with
  | some t=>some (p,t)
  | none=>none
 | none=>none
mutual
def xc (cx:Cx):Nat → List LS → Nat → List Nat → Code → St → Option St
 | 0,_,_,_,_,_=>none
 | g + 1,ls,cur,keep,c,σ=>match c with
  | .skip=>some σ
  | .region _ ops false=>xops cx ls cur ops.toList ops.toList { σ with sl:=prune (kept cx.m keep) σ.sl }
  | .seq a b=>match ipAll cx ls cur keep σ a with
   | some (p,o,len,s',i,r)=>match xc cx g (ls ++ [s']) (cur + 1) keep b ⟨(p.v,.ptr (cur + 1) 0) :: ipHd cx cur keep p σ.sl,(σ.cells.drop o).take len,its s'.fs cx.V (cx.flex && s'.tg),none,false⟩ with
    | some τ=>match τ.todo,τ.pd,left τ.sl (ipHd cx cur keep p σ.sl) && sameA τ.cells (acS0 s'.fs s'.tg cx.V cx.flex) && Nat.beq τ.cells.length len with
     | [],none,true=>some ⟨mapV (AV.unr (.fld i)) (ipHd cx cur keep p σ.sl),σ.cells.take o ++ subC i τ.cells ++ σ.cells.drop (o + len),r,none,false⟩
     | _,_,_=>none
    | none=>none
   | none=>match xc cx g ls cur keep a σ with
    | some σ'=>xc cx g ls cur keep b σ'
    | none=>match asVV a b with
     | some (d,e,c,b')=>match xvv cx ls cur { σ with sl:=prune (kept cx.m keep) σ.sl } d e c with
      | some σ'=>xc cx g ls cur keep b' σ'
      | none=>none
     | none=>match asNP a b with
      | some np=>match npPre cx ls cur (npHd cx cur keep np σ.sl) σ np with
       | some (o,z,s',i,r)=>match xc cx g (ls ++ [s']) (cur + 1) keep np.body ⟨(np.v,.ptr (cur + 1) 0) :: npHd cx cur keep np σ.sl,(cellsOf z).map AC.k,its s'.fs cx.V (cx.flex && s'.tg),none,false⟩ with
        | some τ=>match τ.todo,τ.pd,left τ.sl (npHd cx cur keep np σ.sl) && sameA τ.cells (acS s'.fs s'.tg cx.V cx.flex) with
         | [],none,true=>some ⟨mapV (AV.unr (.fld i)) (npHd cx cur keep np σ.sl),σ.cells.set o (.got i),r,none,false⟩
         | _,_,_=>none
        | none=>none
       | none=>none
      | none=>none
  | .cond x a b=>match aev σ.sl x with
   | some (.k (.bool true))=>xc cx g ls cur keep a σ
   | some (.k (.bool false))=>xc cx g ls cur keep b σ
   | some (.okb false)=>match σ.pd,σ.fr with
    | some ⟨none,sg,z,false⟩,true=>match xr cx g ls cur keep a { σ with pd:=some ⟨some true,sg,z,false⟩ } with
     | true=>xc cx g ls cur keep b { σ with pd:=some ⟨some false,sg,z,false⟩ }
     | false=>none
    | _,_=>none
   | some .gt0=>match σ.pd with
    | some ⟨bk,.un,z,false⟩=>match xc cx g ls cur keep a { σ with pd:=some ⟨bk,.pos,z,false⟩ },xc cx g ls cur keep b { σ with pd:=some ⟨bk,.npos,z,false⟩ } with
     | some ⟨sa,ca,ta,some ⟨ba,.pos,za,false⟩,_⟩,some ⟨sb,cb,tb,some ⟨bb,.npos,zb,false⟩,_⟩=>match sameA ca cb && sameI ta tb && decide (ba = bb) && zOk ls cur ta za,joinZ za zb with
      | true,some zz=>some ⟨joinS (joinG cur) (kept cx.m keep) sb sa,ca,ta,some ⟨ba,.un,zz,false⟩,false⟩
      | _,_=>none
     | _,_=>none
    | _=>none
   | some .eq0=>match σ.pd with
    | some ⟨bk,.un,z,false⟩=>match xc cx g ls cur keep a { σ with pd:=some ⟨bk,.zero,z,false⟩ },xc cx g ls cur keep b { σ with pd:=some ⟨bk,.nzero,z,false⟩ } with
     | some ⟨sa,ca,ta,some ⟨ba,.zero,none,false⟩,_⟩,some ⟨sb,cb,tb,some ⟨bb,.nzero,none,false⟩,_⟩=>match sameA ca cb && sameI ta tb && decide (ba = bb) with
      | true=>some ⟨joinS (joinE cur) (kept cx.m keep) sb sa,ca,ta,some ⟨ba,.un,none,false⟩,false⟩
      | _=>none
     | _,_=>none
    | _=>none
   | _=>none
  | .block _ _=>match asLoop c with
   | some r=>match alook σ.sl r.i,alook σ.sl r.ln,ls[cur]?,σ.todo,σ.pd with
    | some (.k (.int .i32 0)),some (.cnt l),some s,.fld i :: _,some ⟨some false,.un,some z,false⟩ =>
     let f:=s.fs.getD i FNIL
     let hd:=mapV (AV.lowV cur) (prune (stays cx keep r) σ.sl)
     let s':=inner s f
     match Nat.beq l cur && Nat.beq f.kind 11 && goodSub cx s f && r.own.all (fun s=>Nat.blt s cx.n) && apart r.own && Nat.beq (cur + 1) ls.length with
     | true=>match xc cx g (ls ++ [s']) (cur + 1) (r.i :: r.ln :: keep) r.body ⟨(r.i,.idx (cur + 1)) :: (r.ln,.cnt cur) :: hd,z.map AC.k,its s'.fs cx.V (cx.flex && s'.tg),none,false⟩ with
      | some τ=>match τ.todo,τ.pd,left τ.sl ((r.i,.idx (cur + 1)) :: (r.ln,.cnt cur) :: hd) && sameA τ.cells (acS s'.fs s'.tg cx.V cx.flex) && Nat.beq τ.cells.length z.length with
       | [],none,true=>some ⟨(r.i,.junk) :: (r.ln,.cnt cur) :: hd,σ.cells,σ.todo,some ⟨some false,.un,some z,true⟩,false⟩
       | _,_,_=>none
      | none=>none
     | false=>none
    | _,_,_,_,_=>none
   | none=>none
  | _=>none
def xr (cx:Cx):Nat → List LS → Nat → List Nat → Code → St → Bool
 | 0,_,_,_,_,_=>false
 | g + 1,ls,cur,keep,c,σ=>match c with
  | .seq a b=>match xc cx g ls cur keep a σ with
   | some σ'=>xr cx g ls cur keep b σ'
   | none=>false
  | .ret=>match alook σ.sl cx.rt,σ.fr,σ.pd with
   | some .res,true,some ⟨some true,_,_,false⟩=>true
   | _,_,_=>false
  | _=>false
end
end Go.Mk.Er
namespace Go.Mk.Er
open Go Go.Mk
structure Lv where
 b:Nat
 off:Nat
 ty:Nat
 ix:Nat
 pre:List Value
 post:List Value
 g:G
 cnt:Int
 lb:Nat
 bad:Bool
def BaseOk (n:Int):Md → Value → Prop
 | .nn,x=>x = .slice none 0 0
 | .ne,x=>∃ a,x = .slice (some a) 0 0
 | .nz,x=>(n = 0 → ∃ a,x = .slice (some a) 0 0) ∧ (n ≠ 0 → x = .slice none 0 0)
def Made (e:Lv) (x:Value):Prop:=∃ cap,x = .slice (some ⟨e.lb,0,none⟩) e.cnt.toNat cap ∧ e.cnt.toNat ≤ cap
def many (n:Nat) (z:List Value):List Value:=(List.replicate n z).flatten
structure En where
 cx:Cx
 ls:List LS
 cur:Nat
 rb:Nat
def VR (E:En) (w:World) (Y:Nat → Prop) (e:Nat → Lv):AV → Value → Prop
 | .junk,_=>True
 | .k v,x=>x = v
 | .rdr,x=>x = .pointer (some ⟨E.rb,0,none⟩)
 | .ptr l o,x=>x = .pointer (some ⟨(e l).b,(e l).off + o,none⟩)
 | .val i,x=>∃ s,E.ls[E.cur]? = some s ∧ Rep w Y (ddF (s.fs.getD i FNIL) s.tg ((e E.cur).g.q i)) (cellsOf x) ∧ ((s.fs.getD i FNIL).kind ≠ 7 → x.oneCell' = true)
 | .tagv,x=>Rep w Y (ddTagMap (e E.cur).g.u) (cellsOf x)
 | .cnt l,x=>x = .int .i32 (e l).cnt
 | .okb p,x=>x = .bool (if p then !(e E.cur).bad else (e E.cur).bad)
 | .gt0,x=>x = .bool (decide (0 < (e E.cur).cnt))
 | .eq0,x=>x = .bool (decide ((e E.cur).cnt = 0))
 | .base l m,x=>BaseOk (e l).cnt m x
 | .made,x=>0 < (e E.cur).cnt ∧ Made (e E.cur) x
 | .arr l m,x=>(0 < (e l).cnt → Made (e l) x) ∧ ((e l).cnt ≤ 0 → BaseOk (e l).cnt m x)
 | .box i,x=>∃ s b,E.ls[E.cur]? = some s ∧ (s.fs.getD i FNIL).kind = 7 ∧ x = .pointer (some ⟨b,0,none⟩) ∧ Cel w Y b 0 (bv (sixteen ((e E.cur).g.q i).s))
 | .idx l,x=>x = .int .i32 ((e l).ix:Int)
 | .res,x=>((e E.cur).bad = false → x = E.cx.good) ∧ ((e E.cur).bad = true → E.cx.err x)
def SR (E:En) (w:World) (Y:Nat → Prop) (e:Nat → Lv):List (Nat × AV) → List (Nat × Value) → Prop
 | [],[]=>True
 | p :: r,q :: s=>p.1 = q.1 ∧ VR E w Y e p.2 q.2 ∧ SR E w Y e r s
 | _,_=>False
section
variable {E E':En} {w w':World} {Y Y':Nat → Prop} {e e':Nat → Lv}
theorem SR.look:∀ {sl:List (Nat × AV)} {l:List (Nat × Value)} {s:Nat} {v:AV},SR E w Y e sl l → alook sl s = some v → ∃ x,look l s = some x ∧ VR E w Y e v x
 | [],_,s,v,_,h=>by simp [alook] at h
 | (k,a) :: r,[],s,v,h,_=>by simp [SR] at h
 | (k,a) :: r,(k',x) :: l,s,v,h,hl=>by
  simp only [SR] at h
  obtain ⟨rfl,h1,h2⟩:=h
  simp only [alook] at hl
  simp only [Mk.look]
  split at hl
  ·rename_i hb
   simp only [Option.some.injEq] at hl
   subst hl
   rw [hb]
   exact ⟨x,rfl,h1⟩
  ·rename_i hb
   rw [hb]
   exact h2.look hl
theorem SR.ev {sl:List (Nat × AV)} {l:List (Nat × Value)} {x:Operand} {v:AV} (h:SR E w Y e sl l) (hx:aev sl x = some v):∃ u,Mk.ev l x = some u ∧ VR E w Y e v u:=by
 cases x with
 | tmp t=>exact h.look hx
 | const u=>simp only [aev,Option.some.injEq] at hx; subst hx; exact ⟨u,rfl,rfl⟩
 | global g=>simp [aev] at hx
 | func f=>simp [aev] at hx
theorem SR.map {F:AV → AV} (hc:∀ v x,VR E w Y e v x → VR E' w' Y' e' (F v) x):∀ {sl:List (Nat × AV)} {l:List (Nat × Value)},SR E w Y e sl l → SR E' w' Y' e' (mapV F sl) l
 | [],[],_=>trivial
 | [],_ :: _,h=>by simp [SR] at h
 | _ :: _,[],h=>by simp [SR] at h
 | p :: r,q :: s,h=>by
  simp only [SR,mapV] at h ⊢
  exact ⟨h.1,hc _ _ h.2.1,SR.map hc h.2.2⟩
theorem mapV_id:∀ sl:List (Nat × AV),mapV id sl = sl
 | []=>rfl
 | p :: r=>by simp [mapV,mapV_id r]
theorem SR.same (hc:∀ v x,VR E w Y e v x → VR E' w' Y' e' v x) {sl:List (Nat × AV)} {l:List (Nat × Value)} (h:SR E w Y e sl l):SR E' w' Y' e' sl l:=by
 have:=SR.map (F:=id) hc h
 rwa [mapV_id] at this
theorem VR.move (hm:∀ i,i < w.heap.size → ¬ Y i → w'.heap[i]? = w.heap[i]? ∧ ¬ Y' i):∀ {v:AV} {x:Value},VR E w Y e v x → VR E w' Y' e v x
 | .junk,_,_=>trivial
 | .k _,_,h=>h
 | .rdr,_,h=>h
 | .ptr _ _,_,h=>h
 | .val _i,_x,⟨s,h1,h2,h3⟩=>⟨s,h1,Rep.move hm _ _ h2,h3⟩
 | .tagv,_x,h=>Rep.move hm _ _ h
 | .cnt _,_,h=>h
 | .okb _,_,h=>h
 | .gt0,_,h=>h
 | .eq0,_,h=>h
 | .base _ _,_,h=>h
 | .made,_,h=>h
 | .arr _ _,_,h=>h
 | .box _i,_x,⟨s,b,h1,h2,h3,h4⟩=>⟨s,b,h1,h2,h3,h4.move hm⟩
 | .idx _,_,h=>h
 | .res,_,h=>h
theorem SR.move (hm:∀ i,i < w.heap.size → ¬ Y i → w'.heap[i]? = w.heap[i]? ∧ ¬ Y' i) {sl:List (Nat × AV)} {l:List (Nat × Value)} (h:SR E w Y e sl l):SR E w' Y' e sl l:=h.same fun _ _=>VR.move hm
theorem prune_sr {f:Nat → Bool}:∀ {sl:List (Nat × AV)} {l:List (Nat × Value)},SR E w Y e sl l → ∃ l',SR E w Y e (prune f sl) l' ∧ (∀ s v,Mk.look l' s = some v → Mk.look l s = some v ∧ f s = true) ∧ ∀ p ∈ l',f p.1 = true
 | [],[],_=>⟨[],trivial,(fun s v h=>by simp [Mk.look] at h),fun p hp=>by cases hp⟩
 | [],_ :: _,h=>by simp [SR] at h
 | _ :: _,[],h=>by simp [SR] at h
 | p :: r,q :: s,h=>by
  simp only [SR] at h
  obtain ⟨h1,h2,h3⟩:=h
  obtain ⟨l',g1,g2,g3⟩:=prune_sr (f:=f) h3
  obtain ⟨k,u⟩:=q
  simp only at h1
  unfold prune
  split
  ·rename_i hk
   refine ⟨(k,u) :: l',⟨h1,h2,g1⟩,fun s v hv=>?_,fun p' hp=>?_⟩
   ·subst h1
    simp only [Mk.look] at hv ⊢
    split at hv
    ·rename_i hb
     exact ⟨hv,by rw [Nat.eq_of_beq_eq_true hb]; exact hk⟩
    ·exact g2 _ v hv
   ·rcases List.mem_cons.1 hp with rfl | hp
    ·rw [← h1]; exact hk
    ·exact g3 p' hp
  ·rename_i hk
   refine ⟨l',g1,fun s v hv=>?_,g3⟩
   obtain ⟨g4,g5⟩:=g2 s v hv
   refine ⟨?_,g5⟩
   subst h1
   rw [lkN (by rintro rfl; rw [g5] at hk; cases hk)]
   exact g4
end
def SgOk (n:Int):Sg → Prop
 | .un=>True
 | .pos=>0 < n
 | .npos=>n ≤ 0
 | .zero=>n = 0
 | .nzero=>n ≠ 0
def rdOne (cx:Cx) (f:Fld):RS → Option (T × RS):=rdVal f.of false cx.flex (rdP f.sub cx.V cx.flex)
def RowAt (w:World) (Y:Nat → Prop) (f:Fld) (tg:Bool) (z:List Value) (e:Lv) (xs:List T):Prop:=∃ D slack ety,w.heap[e.lb]? = some (.cells (D ++ many (e.cnt.toNat - xs.length) z ++ slack).toArray ety (0,0)) ∧
 RepE w Y (widVal f.of (-1) (widS f.sub tg)) (xs.map (ddVal f.of (-1) (ddS f.sub tg))) D
def ZOk (f:Fld) (tg:Bool) (z:List Value):Prop:=z.length = widVal f.of (-1) (widS f.sub tg) ∧ oneCells z = true
def PdOk (cx:Cx) (w0 w:World) (Y:Nat → Prop) (f:Fld) (tg:Bool) (e:Lv) (s1 s:RS) (p:Pd):Prop :=
 e.cnt = (rdCnt cx.flex s1).1 ∧ (∀ b,p.bk = some b → (rdCnt cx.flex s1).2.bad = b) ∧ SgOk e.cnt p.sg ∧
 (p.lp = false → s = (rdCnt cx.flex s1).2) ∧
 (p.lp = true → ∃ xs,xs.length = e.cnt.toNat ∧ rdEach (rdOne cx f) e.cnt.toNat (rdCnt cx.flex s1).2 = some (xs,s) ∧ ∀ z,p.z = some z → ZOk f tg z ∧ (0 < e.cnt → w0.heap.size ≤ e.lb ∧ RowAt w Y f tg z e xs)) ∧
 (p.lp = false → ∀ z,p.z = some z → ZOk f tg z ∧ (0 < e.cnt → w0.heap.size ≤ e.lb ∧ RowAt w Y f tg z e []))
def Yl (Y:Nat → Prop) (σ : St) (e:Lv):Nat → Prop:=fun k=>Y k ∨ (∃ p z,σ.pd = some p ∧ p.z = some z ∧ 0 < e.cnt ∧ k = e.lb)
def Same (cur:Nat) (e0 e:Nat → Lv):Prop:=(∀ l,l ≠ cur → e l = e0 l) ∧ (e cur).b = (e0 cur).b ∧ (e cur).off = (e0 cur).off ∧ (e cur).ty = (e0 cur).ty ∧ (e cur).ix = (e0 cur).ix ∧ (e cur).pre = (e0 cur).pre ∧ (e cur).post = (e0 cur).post
theorem Same.refl (cur:Nat) (e:Nat → Lv):Same cur e e:=⟨fun _ _=>rfl,rfl,rfl,rfl,rfl,rfl,rfl⟩
def spec (E:En) (s:LS) (σ : St) (items:List It) (g0:G) (s0:RS) (e:Lv) (sb:RS):Prop :=
 runI s.fs E.cx.V E.cx.flex items g0 s0 = runI s.fs E.cx.V E.cx.flex σ.todo e.g sb
structure Inv (E:En) (e0:Nat → Lv) (w0:World) (Y:Nat → Prop) (items:List It) (g0:G) (s0:RS) (σ : St) (a:Act) (w:World) (e:Nat → Lv) (l:List (Nat × Value)) (s:RS) (cs:List Value) (S:LS):Prop where
 ls:E.ls[E.cur]? = some S
 same:Same E.cur e0 e
 kn:Kn E.cx.n l a
 sr:SR E w (Yl Y σ (e E.cur)) e σ.sl l
 agr:Agr (fun k=>k = E.rb ∨ k = (e0 E.cur).b) w0 w
 rdr:RdrAt w (Yl Y σ (e E.cur)) E.rb E.cx.er s
 blk:w.heap[(e0 E.cur).b]? = some (.cells ((e0 E.cur).pre ++ cs ++ (e0 E.cur).post).toArray (e0 E.cur).ty (0,0))
 cel:ACs w (Yl Y σ (e E.cur)) S.fs S.tg (e E.cur).g σ.cells cs
 none_ : σ.pd = none → spec E S σ items g0 s0 (e E.cur) s
 pend:∀ p,σ.pd = some p → ∃ i r s1,σ.todo = .fld i :: r ∧ (S.fs.getD i FNIL).kind = 11 ∧ spec E S σ items g0 s0 (e E.cur) s1 ∧ PdOk E.cx w0 w (Yl Y σ (e E.cur)) (S.fs.getD i FNIL) S.tg (e E.cur) s1 s p
 fr : σ.fr = true → (e E.cur).bad = s.bad
structure Base (E:En) (e0:Nat → Lv) (w0:World) (Y:Nat → Prop):Prop where
 cfg:CfgOk E.cx
 old:∀ k,Y k → k < w0.heap.size
 yr:Y E.rb
 yb:Y (e0 E.cur).b
 ne:E.rb ≠ (e0 E.cur).b
 off:(e0 E.cur).off = (e0 E.cur).pre.length
 gl : ¬ Y E.cx.gb ∧ w0.cell? ⟨E.cx.gb,0,none⟩ = some E.cx.gv
theorem Base.glob {E:En} {e0:Nat → Lv} {w0 w:World} {Y:Nat → Prop} (B:Base E e0 w0 Y) (ag:Agr (fun k=>k = E.rb ∨ k = (e0 E.cur).b) w0 w):w.cell? ⟨E.cx.gb,0,none⟩ = some E.cx.gv:=by
 have hlt:=cell_lt B.gl.2
 rw [World.cell?_of_block (w:=w0) (w':=w) (a:=⟨E.cx.gb,0,none⟩) (ag.block _ hlt fun hx=>by
  rcases hx with hx | hx
  ·have hx':E.cx.gb = E.rb:=hx
   exact B.gl.1 (by rw [hx']; exact B.yr)
  ·have hx':E.cx.gb = (e0 E.cur).b:=hx
   exact B.gl.1 (by rw [hx']; exact B.yb))]
 exact B.gl.2
def ThingOf (E:En) (e0:Nat → Lv):Prop:=∀ s,E.ls[E.cur]? = some s → 0 < E.cur → s.top = false → (e0 E.cur).b = (e0 (E.cur - 1)).lb ∧ (e0 E.cur).off = (e0 E.cur).ix * widS s.fs s.tg ∧ ((e0 E.cur).ix:Int) < (e0 (E.cur - 1)).cnt
end Go.Mk.Er
namespace Go.Mk.Er
open Go Go.Mk
def IV (E:En) (e0:Nat → Lv) (w0:World) (Y:Nat → Prop) (items:List It) (g0:G) (s0:RS) (σ : St) (a:Act) (w:World):Prop:=∃ e l s cs S,Inv E e0 w0 Y items g0 s0 σ a w e l s cs S
theorem Yl_none {Y:Nat → Prop} {σ : St} {e:Lv} (h : σ.pd = none):Yl Y σ e = Y:=by
 funext k
 unfold Yl
 rw [h]
 simp
theorem Yl_sub {Y:Nat → Prop} {σ : St} {e:Lv} {k:Nat} (h:Y k):Yl Y σ e k:=.inl h
theorem put_spec {cx:Cx} {σ σ':St} {d:Nat} {v:AV} (h:put cx σ d v = some σ'):Nat.blt d cx.n = true ∧ σ' = { σ with sl:=(d,v) :: σ.sl }:=by
 unfold put at h
 split at h
 ·rename_i hb
  exact ⟨hb,(Option.some.inj h).symm⟩
 ·cases h
theorem toArr {α : Type} {xs:Array α} {l:List α} (h:xs.toList = l):xs = l.toArray:=by subst h; simp
theorem ckOf_mem:∀ {cfg:List (Nat × RK)} {f:Nat} {c:RK},ckOf cfg f = some c → (f,c) ∈ cfg
 | [],f,c,h=>by simp [ckOf] at h
 | (k,c') :: r,f,c,h=>by
  simp only [ckOf] at h
  split at h
  ·rename_i hb
   obtain rfl:=Nat.eq_of_beq_eq_true hb
   obtain rfl:=Option.some.inj h
   exact List.mem_cons_self
  ·exact List.mem_cons_of_mem _ (ckOf_mem h)
def AR (E:En) (w:World) (Y:Nat → Prop) (e:Nat → Lv):List AV → List Value → Prop
 | [],[]=>True
 | p :: r,q :: s=>VR E w Y e p q ∧ AR E w Y e r s
 | _,_=>False
theorem SR.evs {E:En} {w:World} {Y:Nat → Prop} {e:Nat → Lv} {sl:List (Nat × AV)} {l:List (Nat × Value)} (h:SR E w Y e sl l):∀ {xs:List Operand} {ars:List AV},aevs sl xs = some ars → ∃ vs,Mk.evs l xs vs ∧ AR E w Y e ars vs
 | [],ars,hx=>by simp only [aevs,Option.some.injEq] at hx; subst hx; exact ⟨[],trivial,trivial⟩
 | x :: r,ars,hx=>by
  simp only [aevs] at hx
  split at hx
  ·rename_i v vs hv hvs
   simp only [Option.some.injEq] at hx
   subst hx
   obtain ⟨u,h1,h2⟩:=h.ev hv
   obtain ⟨us,h3,h4⟩:=h.evs hvs
   exact ⟨u :: us,⟨h1,h3⟩,h2,h4⟩
  ·cases hx
theorem AR.one {E:En} {w:World} {Y:Nat → Prop} {e:Nat → Lv} {a:AV} {vs:List Value} (h:AR E w Y e [a] vs):∃ x,vs = [x] ∧ VR E w Y e a x:=by
 match vs,h with
 | [x],h=>exact ⟨x,rfl,h.1⟩
theorem sixteen_cells (s:List UInt8):(bv (sixteen s)).length = 16:=by rw [bv_length,sixteen_length]
section
variable {E:En} {e0 e:Nat → Lv} {w0 w w':World} {Y:Nat → Prop} {items:List It} {g0:G} {s0 s:RS} {σ σ':St} {a a':Act} {l:List (Nat × Value)} {cs:List Value} {S:LS}
theorem Inv.put (h:Inv E e0 w0 Y items g0 s0 σ a w e l s cs S) {d:Nat} {v:AV} {x:Value} (hk:Kn E.cx.n ((d,x) :: l) a') (hv:VR E w (Yl Y σ (e E.cur)) e v x):Inv E e0 w0 Y items g0 s0 { σ with sl:=(d,v) :: σ.sl } a' w e ((d,x) :: l) s cs S :=
 ⟨h.ls,h.same,hk,⟨rfl,hv,h.sr⟩,h.agr,h.rdr,h.blk,h.cel,h.none_,h.pend,h.fr⟩
def withG (e:Nat → Lv) (cur:Nat) (g:G):Nat → Lv:=fun l=>if l = cur then { e l with g:=g } else e l
def withC (e:Nat → Lv) (cur:Nat) (n:Int):Nat → Lv:=fun l=>if l = cur then { e l with cnt:=n } else e l
def withB (e:Nat → Lv) (cur:Nat) (b:Bool):Nat → Lv:=fun l=>if l = cur then { e l with bad:=b } else e l
def withL (e:Nat → Lv) (cur:Nat) (b:Nat):Nat → Lv:=fun l=>if l = cur then { e l with lb:=b } else e l
theorem withG_ne {cur l:Nat} {g:G} (h:l ≠ cur):withG e cur g l = e l:=by unfold withG; rw [if_neg h]
theorem withG_eq {cur:Nat} {g:G}:withG e cur g cur = { e cur with g:=g }:=by unfold withG; rw [if_pos rfl]
theorem withC_ne {cur l:Nat} {n:Int} (h:l ≠ cur):withC e cur n l = e l:=by unfold withC; rw [if_neg h]
theorem withC_eq {cur:Nat} {n:Int}:withC e cur n cur = { e cur with cnt:=n }:=by unfold withC; rw [if_pos rfl]
theorem withB_ne {cur l:Nat} {b:Bool} (h:l ≠ cur):withB e cur b l = e l:=by unfold withB; rw [if_neg h]
theorem withB_eq {cur:Nat} {b:Bool}:withB e cur b cur = { e cur with bad:=b }:=by unfold withB; rw [if_pos rfl]
theorem withL_ne {cur l b:Nat} (h:l ≠ cur):withL e cur b l = e l:=by unfold withL; rw [if_neg h]
theorem withL_eq {cur b:Nat}:withL e cur b cur = { e cur with lb:=b }:=by unfold withL; rw [if_pos rfl]
theorem Same.wG {cur:Nat} (h:Same cur e0 e) (g:G):Same cur e0 (withG e cur g):=by
 obtain ⟨h1,h2⟩:=h
 refine ⟨fun l hl=>by rw [withG_ne hl]; exact h1 l hl,?_⟩
 rw [withG_eq]; exact h2
theorem Same.wC {cur:Nat} (h:Same cur e0 e) (n:Int):Same cur e0 (withC e cur n):=by
 obtain ⟨h1,h2⟩:=h
 refine ⟨fun l hl=>by rw [withC_ne hl]; exact h1 l hl,?_⟩
 rw [withC_eq]; exact h2
theorem Same.wB {cur:Nat} (h:Same cur e0 e) (b:Bool):Same cur e0 (withB e cur b):=by
 obtain ⟨h1,h2⟩:=h
 refine ⟨fun l hl=>by rw [withB_ne hl]; exact h1 l hl,?_⟩
 rw [withB_eq]; exact h2
theorem Same.wL {cur:Nat} (h:Same cur e0 e) (b:Nat):Same cur e0 (withL e cur b):=by
 obtain ⟨h1,h2⟩:=h
 refine ⟨fun l hl=>by rw [withL_ne hl]; exact h1 l hl,?_⟩
 rw [withL_eq]; exact h2
def GOk:It → G → G → Prop
 | .fld i,g,g'=>(∀ j,j ≠ i → g'.q j = g.q j) ∧ g'.u = g.u
 | .tags,g,g'=>g'.q = g.q
theorem VR.unr {it:It} {g:G} (hg:GOk it (e E.cur).g g):∀ (v:AV) (x:Value),VR E w Y e v x → VR E w Y (withG e E.cur g) (AV.unr it v) x:=by
 have hb:∀ l,(withG e E.cur g l).b = (e l).b:=fun l=>by unfold withG; split <;> rfl
 have ho:∀ l,(withG e E.cur g l).off = (e l).off:=fun l=>by unfold withG; split <;> rfl
 have hc:∀ l,(withG e E.cur g l).cnt = (e l).cnt:=fun l=>by unfold withG; split <;> rfl
 have hl:∀ l,(withG e E.cur g l).lb = (e l).lb:=fun l=>by unfold withG; split <;> rfl
 have hi:∀ l,(withG e E.cur g l).ix = (e l).ix:=fun l=>by unfold withG; split <;> rfl
 have hm:∀ l x,Made (withG e E.cur g l) x ↔ Made (e l) x:=fun l x=>by unfold Made; rw [hc,hl]
 intro v x h
 cases v with
 | okb p=>cases it <;> trivial
 | res=>cases it <;> trivial
 | val j =>
  cases it with
  | fld i =>
   show VR E w Y _ (if Nat.beq i j then .junk else .val j) x
   split
   ·trivial
   ·rename_i hne
    obtain ⟨s,h1,h2,h3⟩:=h
    refine ⟨s,h1,?_,h3⟩
    rw [withG_eq]
    have:j ≠ i:=fun e=>hne (by rw [e]; simp)
    show Rep w Y (ddF _ _ (g.q j)) _
    rw [hg.1 j this]
    exact h2
  | tags =>
   obtain ⟨s,h1,h2,h3⟩:=h
   refine ⟨s,h1,?_,h3⟩
   rw [withG_eq]
   show Rep w Y (ddF _ _ (g.q j)) _
   rw [hg]
   exact h2
 | tagv =>
  cases it with
  | fld i =>
   show Rep w Y (ddTagMap (withG e E.cur g E.cur).g.u) _
   rw [withG_eq]
   show Rep w Y (ddTagMap g.u) _
   rw [hg.2]
   exact h
  | tags=>trivial
 | junk=>cases it <;> trivial
 | k u=>cases it <;> exact h
 | rdr=>cases it <;> exact h
 | ptr l o=>cases it <;> (show x = _; rw [hb,ho]; exact h)
 | cnt l=>cases it <;> (show x = _; rw [hc]; exact h)
 | gt0=>cases it <;> (show x = _; rw [hc]; exact h)
 | eq0=>cases it <;> (show x = _; rw [hc]; exact h)
 | base l m=>cases it <;> (show BaseOk _ m x; rw [hc]; exact h)
 | made=>cases it <;> (show 0 < _ ∧ Made _ x; rw [hc,hm]; exact h)
 | arr l m=>cases it <;> (show (0 < _ → Made _ x) ∧ (_ ≤ 0 → BaseOk _ m x); rw [hc,hm]; exact h)
 | box j =>
  cases it with
  | fld i =>
   show VR E w Y _ (if Nat.beq i j then .junk else .box j) x
   split
   ·trivial
   ·rename_i hne
    obtain ⟨s,b,h1,h2,h3,h4⟩:=h
    refine ⟨s,b,h1,h2,h3,?_⟩
    rw [withG_eq]
    have:j ≠ i:=fun e=>hne (by rw [e]; simp)
    show Cel w Y b 0 (bv (sixteen (g.q j).s))
    rw [hg.1 j this]
    exact h4
  | tags =>
   obtain ⟨s,b,h1,h2,h3,h4⟩:=h
   refine ⟨s,b,h1,h2,h3,?_⟩
   rw [withG_eq]
   show Cel w Y b 0 (bv (sixteen (g.q j).s))
   rw [hg]
   exact h4
 | idx l=>cases it <;> (show x = _; rw [hi]; exact h)
theorem ACs.free {fs:List Fld} {tg:Bool} {it:It} {g g':G} (hg:GOk it g g'):∀ {l:List AC} {c:List Value},l.all (AC.free it) = true → ACs w Y fs tg g l c → ACs w Y fs tg g' l c
 | [],[],_,_=>trivial
 | [],_ :: _,_,h=>h.elim
 | _ :: _,[],_,h=>h.elim
 | p :: r,x :: c,hf,h=>by
  simp only [List.all_cons,Bool.and_eq_true] at hf
  refine ⟨?_,ACs.free hg hf.2 h.2⟩
  have h1:=h.1
  have hf1:=hf.1
  cases p with
  | k v=>exact h1
  | got j =>
   show Rep w Y (ddF _ _ (g'.q j)) [x]
   cases it with
   | fld i =>
    have:j ≠ i:=fun e=>by subst e; simp [AC.free] at hf1
    rw [hg.1 j this]; exact h1
   | tags=>rw [hg]; exact h1
  | gotu j k =>
   show (bv (sixteen (g'.q j).s))[k]? = some x
   cases it with
   | fld i =>
    have:j ≠ i:=fun e=>by subst e; simp [AC.free] at hf1
    rw [hg.1 j this]; exact h1
   | tags=>rw [hg]; exact h1
  | sub j a =>
   show ACR w Y (fs.getD j FNIL).sub tg (gT (g'.q j)) a x
   cases it with
   | fld i =>
    have:j ≠ i:=fun e=>by subst e; simp [AC.free] at hf1
    rw [hg.1 j this]; exact h1
   | tags=>rw [hg]; exact h1
  | tags =>
   cases it with
   | fld i =>
    show Rep w Y (ddTagMap g'.u) [x]
    rw [hg.2]; exact h1
   | tags=>simp [AC.free] at hf1
theorem Inv.read (B:Base E e0 w0 Y) (h:Inv E e0 w0 Y items g0 s0 σ a w e l s cs S) (hpd : σ.pd = none) {it:It} {r:List It} (htodo : σ.todo = it :: r) (hfree : σ.cells.all (AC.free it) = true) {g:G} {s':RS} (hrd:rdI S.fs E.cx.V E.cx.flex (e E.cur).g s it = some (g,s'))
  (hg:GOk it (e E.cur).g g)
  (hag:Agr (fun k=>k = E.rb) w w') (hr:RdrAt w' (fun b=>b < w.heap.size ∧ Y b) E.rb E.cx.er s') {d:Nat} {v:AV} {x:Value} (hk:Kn E.cx.n ((d,x) :: l) a') (hv:VR E w' Y (withG e E.cur g) v x) :
  Inv E e0 w0 Y items g0 s0 ⟨(d,v) :: mapV (AV.unr it) σ.sl,σ.cells,r,none,false⟩ a' w' (withG e E.cur g) ((d,x) :: l) s' cs S:=by
 have hY:=Yl_none (Y:=Y) (e:=e E.cur) hpd
 have hsz:=h.agr.size
 have hmv:∀ i,i < w.heap.size → ¬ Y i → w'.heap[i]? = w.heap[i]? ∧ ¬ Y i:=fun i hi hy=>⟨hag.block i hi (fun e=>hy (by rw [e]; exact B.yr)),hy⟩
 have hsr:=h.sr
 have hcel:=h.cel
 have hrdr:=h.rdr
 rw [hY] at hsr hcel hrdr
 have hYn:∀ (σ : St) (e:Lv),σ.pd = none → Yl Y σ e = Y:=fun σ e h=>Yl_none h
 refine ⟨h.ls,h.same.wG g,hk,?_,h.agr.trans hag (fun _ _ x=>x) (fun _ _ x=>.inl x),?_,?_,?_,fun _=>?_,fun p hp=>(by cases hp),fun hp=>(by cases hp)⟩
 ·rw [hYn _ _ rfl]
  exact ⟨rfl,hv,(hsr.move hmv).map (VR.unr hg)⟩
 ·rw [hYn _ _ rfl]
  obtain ⟨u,h1,h2⟩:=hr
  exact ⟨u,h1,Rep.move (fun i hi hn=>⟨rfl,fun hy=>hn ⟨Nat.lt_of_lt_of_le (B.old i hy) hsz,hy⟩⟩) _ _ h2⟩
 ·rw [hag.block _ (Array.getElem?_eq_some_iff.1 h.blk).1 (Ne.symm B.ne)]
  exact h.blk
 ·rw [hYn _ _ rfl,withG_eq]
  exact (hcel.move hmv).free hg hfree
 ·have hsp:=h.none_ hpd
  unfold spec at hsp ⊢
  rw [hsp,htodo]
  show (rdI S.fs E.cx.V E.cx.flex (e E.cur).g s it).bind _ = _
  rw [hrd,withG_eq]
  rfl
theorem Yl_z {σ : St} {e:Lv} (h:∀ p,σ.pd = some p → p.z = none):Yl Y σ e = Y:=by
 funext k
 unfold Yl
 refine propext ⟨fun hk=>hk.elim id ?_,.inl⟩
 rintro ⟨p,z,h1,h2,_⟩
 rw [h p h1] at h2
 cases h2
theorem VR.unl {n:Int}:∀ (v:AV) (x:Value),VR E w Y e v x → VR E w Y (withC e E.cur n) (AV.unl E.cur v) x:=by
 have hb:∀ l,(withC e E.cur n l).b = (e l).b:=fun l=>by unfold withC; split <;> rfl
 have ho:∀ l,(withC e E.cur n l).off = (e l).off:=fun l=>by unfold withC; split <;> rfl
 have hi:∀ l,(withC e E.cur n l).ix = (e l).ix:=fun l=>by unfold withC; split <;> rfl
 have hg:(withC e E.cur n E.cur).g = (e E.cur).g:=by rw [withC_eq]
 intro v x h
 cases v with
 | okb p=>trivial
 | res=>trivial
 | val j =>
  obtain ⟨s,h1,h2,h3⟩:=h
  exact ⟨s,h1,by rw [hg]; exact h2,h3⟩
 | tagv=>show Rep w Y (ddTagMap (withC e E.cur n E.cur).g.u) _; rw [hg]; exact h
 | junk=>trivial
 | k u=>exact h
 | rdr=>exact h
 | ptr l o=>show x = _; rw [hb,ho]; exact h
 | cnt l =>
  show VR E w Y _ (if Nat.beq l E.cur then .junk else .cnt l) x
  split
  ·trivial
  ·rename_i hne
   show x = _
   rw [withC_ne (fun e=>hne (by rw [e]; simp))]
   exact h
 | gt0=>trivial
 | eq0=>trivial
 | made=>trivial
 | box j =>
  obtain ⟨s,b,h1,h2,h3,h4⟩:=h
  exact ⟨s,b,h1,h2,h3,by rw [hg]; exact h4⟩
 | base l m =>
  cases m with
  | nn=>exact h
  | ne=>exact h
  | nz =>
   show VR E w Y _ (if Nat.beq l E.cur then .junk else .base l .nz) x
   split
   ·trivial
   ·rename_i hne
    show BaseOk (withC e E.cur n l).cnt Md.nz x
    rw [withC_ne (fun e=>hne (by rw [e]; simp))]
    exact h
 | arr l m =>
  show VR E w Y _ (if Nat.beq l E.cur then .junk else .arr l m) x
  split
  ·trivial
  ·rename_i hne
   show (0 < _ → Made _ x) ∧ (_ ≤ 0 → BaseOk _ m x)
   rw [withC_ne (fun e=>hne (by rw [e]; simp))]
   exact h
 | idx l=>show x = _; rw [hi]; exact h
theorem VR.unf {b:Bool}:∀ (v:AV) (x:Value),VR E w Y e v x → VR E w Y (withB e E.cur b) (AV.unf v) x:=by
 have hl:∀ l,∃ b',withB e E.cur b l = { e l with bad:=b' }:=fun l=>by unfold withB; split; exact ⟨b,rfl⟩; exact ⟨(e l).bad,rfl⟩
 intro v x h
 cases v with
 | okb p=>trivial
 | res=>trivial
 | val j =>
  obtain ⟨s,h1,h2,h3⟩:=h
  obtain ⟨b',hb⟩:=hl E.cur
  exact ⟨s,h1,by rw [hb]; exact h2,h3⟩
 | tagv=>obtain ⟨b',hb⟩:=hl E.cur; show Rep w Y (ddTagMap (withB e E.cur b E.cur).g.u) _; rw [hb]; exact h
 | junk=>trivial
 | k u=>exact h
 | rdr=>exact h
 | ptr l o=>obtain ⟨b',hb⟩:=hl l; show x = _; rw [hb]; exact h
 | cnt l=>obtain ⟨b',hb⟩:=hl l; show x = _; rw [hb]; exact h
 | gt0=>obtain ⟨b',hb⟩:=hl E.cur; show x = _; rw [hb]; exact h
 | eq0=>obtain ⟨b',hb⟩:=hl E.cur; show x = _; rw [hb]; exact h
 | made=>obtain ⟨b',hb⟩:=hl E.cur; show 0 < (withB e E.cur b E.cur).cnt ∧ Made _ x; rw [hb]; exact h
 | box j =>
  obtain ⟨s,b1,h1,h2,h3,h4⟩:=h
  obtain ⟨b',hb⟩:=hl E.cur
  exact ⟨s,b1,h1,h2,h3,by rw [hb]; exact h4⟩
 | base l m=>obtain ⟨b',hb⟩:=hl l; show BaseOk _ m x; rw [hb]; exact h
 | arr l m=>obtain ⟨b',hb⟩:=hl l; show (0 < _ → Made _ x) ∧ (_ ≤ 0 → BaseOk _ m x); rw [hb]; exact h
 | idx l=>obtain ⟨b',hb⟩:=hl l; show x = _; rw [hb]; exact h
theorem RowAt.move {f:Fld} {tg:Bool} {z:List Value} {lv:Lv} {xs:List T} {Y':Nat → Prop} (hm:∀ i,i < w.heap.size → ¬ Y i → w'.heap[i]? = w.heap[i]? ∧ ¬ Y' i) (hb:w'.heap[lv.lb]? = w.heap[lv.lb]?) (h:RowAt w Y f tg z lv xs):RowAt w' Y' f tg z lv xs:=by
 obtain ⟨D,sl,ety,h1,h2⟩:=h
 exact ⟨D,sl,ety,hb.trans h1,RepE.move hm _ _ _ h2⟩
theorem PdOk.move {cx:Cx} {f:Fld} {tg:Bool} {lv:Lv} {s1 s:RS} {p:Pd} {Y':Nat → Prop} (hm:∀ i,i < w.heap.size → ¬ Y i → w'.heap[i]? = w.heap[i]? ∧ ¬ Y' i) (hb:w0.heap.size ≤ lv.lb → lv.lb < w.heap.size → w'.heap[lv.lb]? = w.heap[lv.lb]?) (h:PdOk cx w0 w Y f tg lv s1 s p):PdOk cx w0 w' Y' f tg lv s1 s p:=by
 obtain ⟨h1,h2,h3,h4,h5,h6⟩:=h
 have hlt:∀ {z:List Value} {xs:List T},RowAt w Y f tg z lv xs → lv.lb < w.heap.size:=fun h=>by
  obtain ⟨_,_,_,h,_⟩:=h
  exact (Array.getElem?_eq_some_iff.1 h).1
 refine ⟨h1,h2,h3,h4,fun hp=>?_,fun hp z hz=>?_⟩
 ·obtain ⟨xs,k1,k2,k3⟩:=h5 hp
  refine ⟨xs,k1,k2,fun z hz=>⟨(k3 z hz).1,fun hc=>?_⟩⟩
  obtain ⟨k4,k5⟩:=(k3 z hz).2 hc
  exact ⟨k4,k5.move hm (hb k4 (hlt k5))⟩
 ·refine ⟨(h6 hp z hz).1,fun hc=>?_⟩
  obtain ⟨k4,k5⟩:=(h6 hp z hz).2 hc
  exact ⟨k4,k5.move hm (hb k4 (hlt k5))⟩
theorem ACs.set1 {fs:List Fld} {tg:Bool} {g:G} {v:Value}:∀ {l:List AC} {c:List Value} (i:Nat),ACs w Y fs tg g l c → ACs w Y fs tg g (l.set i (.k v)) (c.set i v)
 | [],[],_,_=>trivial
 | _ :: _,_ :: _,0,h=>⟨rfl,h.2⟩
 | _ :: _,_ :: _,i + 1,h=>⟨h.1,ACs.set1 i h.2⟩
 | [],_ :: _,_,h=>h.elim
 | _ :: _,[],_,h=>h.elim
theorem setA_spec {fs:List Fld} {tg:Bool} {g:G}:∀ {ds:List (Nat × Value)} {l:List AC} {c:List Value},ACs w Y fs tg g l c → ACs w Y fs tg g (setA ds l) (setL ds c)
 | [],_,_,h=>h
 | d :: r,_l,_c,h=>setA_spec (ds:=r) (ACs.set1 d.1 h)
theorem Inv.write (B:Base E e0 w0 Y) (h:Inv E e0 w0 Y items g0 s0 σ a w e l s cs S) {cells:List AC} {cs':List Value} (hag:Agr (fun k=>k = (e0 E.cur).b) w w') (hb:w'.heap[(e0 E.cur).b]? = some (.cells ((e0 E.cur).pre ++ cs' ++ (e0 E.cur).post).toArray (e0 E.cur).ty (0,0)))
  (hc:ACs w (Yl Y σ (e E.cur)) S.fs S.tg (e E.cur).g cells cs') (hk:Kn E.cx.n l a'):Inv E e0 w0 Y items g0 s0 { σ with cells:=cells } a' w' e l s cs' S:=by
 have hmv:∀ i,i < w.heap.size → ¬ Yl Y σ (e E.cur) i → w'.heap[i]? = w.heap[i]? ∧ ¬ Yl Y σ (e E.cur) i:=fun i hi hy=>⟨hag.block i hi (fun e=>hy (.inl (by rw [e]; exact B.yb))),hy⟩
 refine ⟨h.ls,h.same,hk,h.sr.move hmv,h.agr.trans hag (fun _ _ x=>x) (fun _ _ x=>.inr x),?_,hb,hc.move hmv,h.none_,fun p hp=>?_,h.fr⟩
 ·obtain ⟨u,h1,h2⟩:=h.rdr
  have hlt:=(Array.getElem?_eq_some_iff.1 h1).1
  exact ⟨u,by rw [hag.block _ hlt B.ne]; exact h1,Rep.move hmv _ _ h2⟩
 ·obtain ⟨i,r,s1,k1,k2,k3,k4⟩:=h.pend p hp
  refine ⟨i,r,s1,k1,k2,k3,k4.move hmv fun q1 q2=>hag.block _ q2 (fun e=>?_)⟩
  have:=B.old _ B.yb
  omega
end
theorem rdV_cp {kind:Nat} {nul cp flex:Bool} {s:RS} (h:kind < 8 ∨ cp = flex):rdV kind nul cp s = rdV kind nul flex s:=by
 rcases h with h | h
 ·match kind,h with
  | 0,_=>rfl
  | 1,_=>rfl
  | 2,_=>rfl
  | 3,_=>rfl
  | 4,_=>rfl
  | 5,_=>rfl
  | 6,_=>rfl
  | 7,_=>rfl
 ·rw [h]
theorem rdF_val {f:Fld} {V:Int} {flex:Bool} {s:RS} (h:f.kind < 10):rdF f V flex s = some (rdV f.kind (f.mayR V) flex s):=by
 rw [rdF_eq]
 unfold rdQ
 rw [if_neg (by omega),if_neg (by omega)]
 exact rdV_eq (by omega)
theorem ddF_val {f:Fld} {tg:Bool} {t:T} (h:f.kind ≠ 11):ddF f tg t = ddVal f.kind f.nu (ddS f.sub tg) t:=by
 cases f with
 | mk kind fr to nu tag df of sub =>
  unfold ddF
  rw [if_neg (show ¬ kind = 11 from h)]
  rfl
section
variable {E:En} {e0 e:Nat → Lv} {w0 w w':World} {Y:Nat → Prop} {items:List It} {g0:G} {s0 s:RS} {σ σ':St} {a a':Act} {l:List (Nat × Value)} {cs:List Value} {S:LS}
variable {ops:Array Oper} {Q:Exit → Act → World → Prop} {rest:List Oper} {d:Option Nat} {ty:Nat} {ps:String} {af:Array Edge} {f:Nat} {xs:List Operand} {tys:Array Nat} {vs:List Value} {ars:List AV}
theorem xcall_sound (B:Base E e0 w0 Y) (hI:Inv E e0 w0 Y items g0 s0 σ a w e l s cs S) (hx:Mk.evs l xs vs) (ha:AR E w (Yl Y σ (e E.cur)) e ars vs) (h:xcall E.cx E.ls E.cur σ d (ckOf E.cx.cfg f) ars = some σ')
    (K:∀ a' w',IV E e0 w0 Y items g0 s0 σ' a' w' → wpList E.cx.P ops Q rest a' w'):wpList E.cx.P ops Q (⟨d,.call ⟨.value (.func f),xs.toArray,tys⟩,ty,ps,af,none⟩ :: rest) a w:=by
  cases hck:ckOf E.cx.cfg f with
  | none=>rw [hck] at h; simp [xcall] at h
  | some ck =>
    obtain ⟨hc,hcal⟩:=B.cfg f ck (ckOf_mem hck)
    rw [hck] at h
    have hsz:=hI.agr.size
    have back:∀ {w':World} {d:DD} {c:List Value},Rep w' (fun b=>b < w.heap.size ∧ Y b) d c → Rep w' Y d c:=fun hr =>
      Rep.move (fun i _ hn=>⟨rfl,fun hy=>hn ⟨Nat.lt_of_lt_of_le (B.old i hy) hsz,hy⟩⟩) _ _ hr
    unfold xcall at h
    split at h
    · -- a value
      rename_i kind nul cp hck'
      obtain rfl:=Option.some.inj hck'
      split at h
      · rename_i d1 i r s1 hto hls hpd
        split at h
        · rename_i hb
          simp only [Bool.and_eq_true,Bool.or_eq_true,Bool.not_eq_true',beq_iff_eq] at hb
          obtain ⟨⟨⟨⟨b1,b2⟩,b3⟩,b4⟩,b5⟩:=hb
          split at h
          · rename_i hfree
            obtain ⟨hdn,rfl⟩:=put_spec h
            have hls':=hI.ls
            rw [hls] at hls'
            obtain rfl:=Option.some.inj hls'
            have hpd' : σ.pd = none:=by
              cases hp : σ.pd with
              | none=>rfl
              | some p=>rw [hp] at hpd; cases hpd
            have hk:=Nat.eq_of_beq_eq_true b1
            have hk10:kind < 10:=by simpa [Nat.blt_eq] using b2
            obtain ⟨x,rfl,rfl⟩:=ha.one
            have hY:=Yl_none (Y:=Y) (e:=e E.cur) hpd'
            have hrdr:=hI.rdr
            rw [hY] at hrdr
            refine o_call hI.kn hcal (hc (s1.fs.getD i FNIL).nu (ddS (s1.fs.getD i FNIL).sub s1.tg) (fun h8=>?_) hrdr B.yr) hx hdn fun v w' a' hv hk'=>?_
            · rcases b4 with b4 | b4
              · rw [h8] at b4; simp at b4
              · exact b4
            · obtain ⟨v1,v2,v3⟩:=hv
              have hrd:rdF (s1.fs.getD i FNIL) E.cx.V E.cx.flex s = some (rdV kind nul cp s):=by
                rw [rdF_val (by omega),hk,← b3]
                congr 1
                refine (rdV_cp ?_).symm
                rcases b5 with b5 | b5
                · exact .inl (by simpa [Nat.blt_eq] using b5)
                · exact .inr b5
              refine K a' w' ⟨_,_,_,_,_,hI.read B hpd' hto hfree (g:=(e E.cur).g.set i (rdV kind nul cp s).1) (s':=(rdV kind nul cp s).2) (by
                show (rdF (s1.fs.getD i FNIL) E.cx.V E.cx.flex s).map _ = _
                rw [hrd]; rfl) ⟨fun j hj=>by simp [G.set,hj],rfl⟩ v1 v3 hk' (v:=.val i) ⟨s1,hls,?_,fun h7=>v2.2 (by rw [← hk]; exact h7)⟩⟩
              rw [withG_eq]
              have:((e E.cur).g.set i (rdV kind nul cp s).1).q i = (rdV kind nul cp s).1:=by simp [G.set]
              show Rep w' Y (ddF _ _ (((e E.cur).g.set i (rdV kind nul cp s).1).q i)) _
              rw [this,ddF_val (by omega),hk]
              exact back v2.1
          · cases h
        · cases h
      · cases h
    · -- a count
      rename_i cp hck'
      obtain rfl:=Option.some.inj hck'
      split at h
      · rename_i d1 i r s1 hto hls hpd
        split at h
        · rename_i hb
          simp only [Bool.and_eq_true,beq_iff_eq] at hb
          obtain ⟨b1,rfl⟩:=hb
          obtain ⟨hdn,rfl⟩:=put_spec h
          have hls':=hI.ls
          rw [hls] at hls'
          obtain rfl:=Option.some.inj hls'
          have hpd' : σ.pd = none:=by
            cases hp : σ.pd with
            | none=>rfl
            | some p=>rw [hp] at hpd; cases hpd
          have hk:=Nat.eq_of_beq_eq_true b1
          obtain ⟨x,rfl,rfl⟩:=ha.one
          have hY:=Yl_none (Y:=Y) (e:=e E.cur) hpd'
          have hrdr:=hI.rdr
          have hsr:=hI.sr
          have hcel:=hI.cel
          rw [hY] at hrdr hsr hcel
          refine o_call hI.kn hcal (hc hrdr B.yr) hx hdn fun v w' a' hv hk'=>?_
          obtain ⟨v1,rfl,v3⟩:=hv
          have hmv:∀ i,i < w.heap.size → ¬ Y i → w'.heap[i]? = w.heap[i]? ∧ ¬ Y i:=fun i hi hy=>⟨v1.block i hi (fun e=>hy (by rw [e]; exact B.yr)),hy⟩
          have hYn:∀ (σ : St) (lv:Lv),σ.pd = some ⟨none,.un,none,false⟩ → Yl Y σ lv = Y:=fun σ lv h=>Yl_z fun p hp=>by
            rw [h] at hp
            obtain rfl:=Option.some.inj hp
            rfl
          refine K a' w' ⟨withC e E.cur (rdCnt E.cx.flex s).1,(d1,.int .i32 (rdCnt E.cx.flex s).1) :: l,(rdCnt E.cx.flex s).2,cs,s1,?_⟩
          refine ⟨hls,hI.same.wC _,hk',?_,hI.agr.trans v1 (fun _ _ x=>x) (fun _ _ x=>.inl x),?_,?_,?_,fun hp=>(by cases hp),fun p hp=>?_,fun hp=>(by cases hp)⟩
          · rw [hYn _ _ rfl]
            exact ⟨rfl,by show _ = Value.int .i32 (withC e E.cur (rdCnt E.cx.flex s).1 E.cur).cnt; rw [withC_eq],(hsr.move hmv).map VR.unl⟩
          · rw [hYn _ _ rfl]
            obtain ⟨u,h1,h2⟩:=v3
            exact ⟨u,h1,back h2⟩
          · rw [v1.block _ (Array.getElem?_eq_some_iff.1 hI.blk).1 (Ne.symm B.ne)]
            exact hI.blk
          · rw [hYn _ _ rfl,withC_eq]
            exact hcel.move hmv
          · obtain rfl:=Option.some.inj hp
            refine ⟨i,r,s,hto,hk,?_,?_⟩
            · have hsp:=hI.none_ hpd'
              unfold spec at hsp ⊢
              rw [hsp,withC_eq]
            · rw [withC_eq]
              exact ⟨rfl,fun b hb=>(by cases hb),trivial,fun _=>rfl,fun hb=>(by cases hb),fun _ z hz=>(by cases hz)⟩
        · cases h
      · cases h
    · -- ok?
      rename_i hck'
      obtain rfl:=Option.some.inj hck'
      split at h
      · rename_i d1
        obtain ⟨hdn,rfl⟩:=put_spec h
        obtain ⟨x,rfl,rfl⟩:=ha.one
        refine o_call hI.kn hcal (hc hI.rdr) hx hdn fun v w' a' hv hk'=>?_
        obtain ⟨rfl,rfl⟩:=hv
        refine K a' w' ⟨withB e E.cur s.bad,(d1,.bool (!s.bad)) :: l,s,cs,S,?_⟩
        have hY:∀ sl fr,Yl Y ⟨sl,σ.cells,σ.todo,σ.pd,fr⟩ (withB e E.cur s.bad E.cur) = Yl Y σ (e E.cur):=fun sl fr=>by rw [withB_eq]; rfl
        refine ⟨hI.ls,hI.same.wB _,hk',?_,hI.agr,?_,hI.blk,?_,fun hp=>?_,fun p hp=>?_,fun _=>by rw [withB_eq]⟩
        · rw [hY]
          exact ⟨rfl,by show _ = Value.bool (if true then !(withB e E.cur s.bad E.cur).bad else _); rw [withB_eq]; rfl,hI.sr.map VR.unf⟩
        · rw [hY]; exact hI.rdr
        · rw [hY,withB_eq]; exact hI.cel
        · have:=hI.none_ hp; rw [withB_eq]; exact this
        · obtain ⟨i,r,s1,k1,k2,k3,k4⟩:=hI.pend p hp
          rw [hY,withB_eq]
          exact ⟨i,r,s1,k1,k2,k3,k4⟩
      · cases h
    · -- the end
      rename_i hck'
      obtain rfl:=Option.some.inj hck'
      split at h
      · rename_i d1
        obtain ⟨hdn,rfl⟩:=put_spec h
        obtain ⟨x,rfl,rfl⟩:=ha.one
        refine o_call hI.kn hcal (hc hI.rdr (B.glob hI.agr)) hx hdn fun v w' a' hv hk'=>?_
        obtain ⟨rfl,hv1,hv2⟩:=hv
        refine K a' w' ⟨withB e E.cur s.bad,(d1,v) :: l,s,cs,S,?_⟩
        have hY:∀ sl fr,Yl Y ⟨sl,σ.cells,σ.todo,σ.pd,fr⟩ (withB e E.cur s.bad E.cur) = Yl Y σ (e E.cur):=fun sl fr=>by rw [withB_eq]; rfl
        refine ⟨hI.ls,hI.same.wB _,hk',?_,hI.agr,?_,hI.blk,?_,fun hp=>?_,fun p hp=>?_,fun _=>by rw [withB_eq]⟩
        · rw [hY]
          exact ⟨rfl,by
            show ((withB e E.cur s.bad E.cur).bad = false → _) ∧ ((withB e E.cur s.bad E.cur).bad = true → _)
            rw [withB_eq]; exact ⟨hv1,hv2⟩,hI.sr.map VR.unf⟩
        · rw [hY]; exact hI.rdr
        · rw [hY,withB_eq]; exact hI.cel
        · have:=hI.none_ hp; rw [withB_eq]; exact this
        · obtain ⟨i,r,s1,k1,k2,k3,k4⟩:=hI.pend p hp
          rw [hY,withB_eq]
          exact ⟨i,r,s1,k1,k2,k3,k4⟩
      · cases h
    · -- tags
      rename_i hck'
      obtain rfl:=Option.some.inj hck'
      split at h
      · rename_i d1 r hto hpd
        split at h
        · rename_i hfree
          obtain ⟨hdn,rfl⟩:=put_spec h
          have hpd' : σ.pd = none:=by
            cases hp : σ.pd with
            | none=>rfl
            | some p=>rw [hp] at hpd; cases hpd
          obtain ⟨x,rfl,rfl⟩:=ha.one
          have hY:=Yl_none (Y:=Y) (e:=e E.cur) hpd'
          have hrdr:=hI.rdr
          rw [hY] at hrdr
          refine o_call hI.kn hcal (hc hrdr B.yr) hx hdn fun v w' a' hv hk'=>?_
          obtain ⟨v1,v2,v3⟩:=hv
          refine K a' w' ⟨_,_,_,_,_,hI.read B hpd' hto hfree (g:=⟨(e E.cur).g.q,(rdTags s).1⟩) (s':=(rdTags s).2) rfl rfl v1 v3 hk' (v:=.tagv) ?_⟩
          show Rep w' Y (ddTagMap (withG e E.cur _ E.cur).g.u) _
          rw [withG_eq]
          exact back v2
        · cases h
      · cases h
    · -- defaults
      rename_i ds l1 hck'
      obtain rfl:=Option.some.inj hck'
      split at h
      all_goals first
        | (rename_i hb
           simp only [Bool.and_eq_true,List.all_eq_true] at hb
           obtain ⟨hl,hds⟩:=hb
           obtain rfl:=Nat.eq_of_beq_eq_true hl
           obtain ⟨x,rfl,rfl⟩:=ha.one
           have hlen:=hI.cel.length
           have hoff:(e E.cur).off + 0 = (e0 E.cur).pre.length:=by rw [Nat.add_zero,hI.same.2.2.1,B.off]
           have hbb:=hI.same.2.1
           have hdl:∀ p ∈ ds,p.1 < cs.length:=fun p hp=>by have:=(hds p hp).1; rw [← hlen]; simpa [Nat.blt_eq] using this
           have hc':=hc hI.blk hdl
           rw [← hoff,← hbb] at hc'
           first
             | (obtain rfl:=Option.some.inj h
                refine o_callU hI.kn hcal hc' hx fun v w' a' hv hk'=>?_
                rw [hbb] at hv
                exact K a' w' ⟨e,l,s,_,S,hI.write B hv.1 hv.2 (setA_spec hI.cel) hk'⟩)
             | (obtain ⟨hdn,rfl⟩:=put_spec h
                refine o_call hI.kn hcal hc' hx hdn fun v w' a' hv hk'=>?_
                rw [hbb] at hv
                have hW:=hI.write B hv.1 hv.2 (setA_spec hI.cel) hI.kn
                exact K a' w' ⟨e,_,s,_,S,hW.put hk' trivial⟩))
        | cases h
    · cases h
end
end Go.Mk.Er
namespace Go.Mk.Er
open Go Go.Mk
theorem many_length {n:Nat} {z:List Value}:(many n z).length = n * z.length:=by
 induction n with
 | zero=>simp [many]
 | succ n ih=>simp only [many,List.replicate_succ,List.flatten_cons,List.length_append] at ih ⊢; rw [ih,Nat.add_mul]; omega
theorem many_get {n:Nat} {z:List Value}:∀ {j:Nat},j < n * z.length → (many n z)[j]? = z[j % z.length]?:=by
 induction n with
 | zero=>intro j h; simp at h
 | succ n ih =>
  intro j h
  have e:many (n + 1) z = z ++ many n z:=by simp [many,List.replicate_succ]
  rw [e]
  by_cases hj:j < z.length
  ·rw [List.getElem?_append_left hj,Nat.mod_eq_of_lt hj]
  ·rw [List.getElem?_append_right (by omega),ih (by rw [Nat.add_mul] at h; omega),Nat.mod_eq_sub_mod (a:=j) (by omega)]
theorem made_many {n:Nat} {z:Value}:(madeCells z.cells (n * (cellsOf z).length)).toList = many n (cellsOf z):=by
 apply List.ext_getElem?
 intro j
 by_cases hj:j < n * (cellsOf z).length
 ·rw [many_get hj]
  have hz:z.cells = (cellsOf z).toArray:=cellsOf_eq z
  have hpos : 0 < (cellsOf z).length:=by
   rcases Nat.eq_zero_or_pos (cellsOf z).length with h | h
   ·rw [h] at hj; omega
   ·exact h
  have hm:j % (cellsOf z).length < (cellsOf z).length:=Nat.mod_lt _ hpos
  simp [madeCells,hz,hj,hm]
 ·have h1:(many n (cellsOf z)).length ≤ j:=by rw [many_length]; omega
  rw [List.getElem?_eq_none h1]
  simp [madeCells]
  omega
section
variable {P:Program} {ops:Array Oper} {Q:Exit → Act → World → Prop} {rest:List Oper} {a:Act} {w:World} {n:Nat} {l:List (Nat × Value)}
variable {d:Nat} {ty:Nat} {ps:String} {af:Array Edge}
theorem zeros_eq {z:Value} {N sz:Nat} (h:z.cells.size = sz):(if N = 0 ∨ sz = 0 then (#[]:Array Value) else Builtin.zeroCells z.cells N) = Builtin.zeroCells z.cells N:=by
 split
 ·rename_i h0
  apply Array.ext'
  have:N * z.cells.size = 0:=by rw [h]; rcases h0 with h0 | h0 <;> simp [h0]
  simp [Builtin.zeroCells,this]
 ·rfl
theorem zeroCells_many {z:Value} {N:Nat}:(Builtin.zeroCells z.cells N).toList = many N (cellsOf z):=by
 have:Builtin.zeroCells z.cells N = madeCells z.cells (N * (cellsOf z).length):=by
  have hz:z.cells.size = (cellsOf z).length:=by rw [cellsOf_eq]; simp
  unfold Builtin.zeroCells madeCells
  rw [hz]
 rw [this,made_many]
theorem o_appendZ {s x:Operand} {t tx e sz by_ N:Nat} {z:Value} {kx k:IntKind} {base:Option Addr} (hk:Kn n l a) (ht:rowTy P t = some (e,sz,by_)) (hz:tyZero P e = some z) (htx:tyInt P tx = some kx) (hs:ev l s = some (.slice base 0 0))
  (hx:ev l x = some (.int k (N:Int))) (hpos : 0 < N) (hmm:N ≤ 2147483648) (hb:by_ ≤ 65536) (hd:Nat.blt d n = true)
  (K:∀ a' w' cap slack,N ≤ cap → Agr Nob w w' → w'.heap[w.heap.size]? = some (.cells (many N (cellsOf z) ++ slack).toArray e (0,0)) → Kn n ((d,.slice (some ⟨w.heap.size,0,none⟩) N cap) :: l) a' → wpList P ops Q rest a' w') :
  wpList P ops Q (⟨some d,.call ⟨.builtin .append,#[s,x],#[t,tx]⟩,ty,ps,af,none⟩ :: rest) a w:=by
 obtain ⟨ii,z',h1,h2,h3,h4,h5,rfl⟩:=rowTy_spec ht
 have hz':z' = z:=by unfold tyZero at hz; rw [h2] at hz; simp [h3] at hz; exact hz
 subst hz'
 have hu:=tyInt_run htx
 have hold:(Builtin.firstCells ii.size 0 (.slice base 0 0)).run P w.drew = .ok ([]:List Value).toArray w.drew:=by
  cases base with
  | none=>exact run_firstCells_none w.drew ii.size 0 0 0
  | some ad=>exact run_firstCells_some (P:=P) w.drew ii.size 0 ad 0 0 [] (by simp) (by intro j u hj; simp at hj)
 have hbytes:N * ii.bytes ≤ 140737488355328:=by
  have:N * ii.bytes ≤ 2147483648 * 65536:=Nat.mul_le_mul hmm hb
  omega
 have hfit:=growslice_fits (need:=N) (old:=0) hpos hbytes
 have hge:=grownCap_ge w N 0 e
 refine step_runs (v:=.slice (some ⟨w.heap.size,0,none⟩) N (grownCap w N 0 e)) (w':=w.drew.alloc (.cells ((many N (cellsOf z')).toArray ++ Builtin.zeroCells z'.cells (grownCap w N 0 e - N)) e)) hk rfl rfl hd ?_
  fun a' hk'=>K a' _ (grownCap w N 0 e) (Builtin.zeroCells z'.cells (grownCap w N 0 e - N)).toList hge ((Agr.drew _ w).trans (Agr.alloc _ w.drew _) (fun _ _ h=>h) (fun _ _ h=>h)) ?_ hk'
 ·unfold Runs execOp
  have hw:IntKind.i64.wrap (N:Int) = (N:Int):=by simp only [IntKind.wrap,IntKind.bits,IntKind.signed]; simp; omega
  have hn0 : ¬ N = 0:=by omega
  have hb2 : ¬ (281474976710656 < (N:Int) * (ii.bytes:Int)):=by
   have:((N * ii.bytes:Nat):Int) = (N:Int) * (ii.bytes:Int):=by simp
   omega
  have h63' : ¬ (9223372036854775807 < (N:Int)):=by omega
  have h48' : ¬ (281474976710656 < Builtin.nextslicecap N 0 * ii.bytes):=by omega
  have hzz:=zeros_eq (z:=z') (N:=N) h4
  have hzm:Builtin.zeroCells z'.cells N = (many N (cellsOf z')).toArray:=by
   apply Array.ext'
   rw [zeroCells_many]
  rw [hzm] at hzz
  have hN0 : ¬ (N:Int) < 0:=by omega
  have hzz2:∀ (p:Prop) [Decidable p],(p → ii.size = 0) → (if p then (#[]:Array Value) else (many N (cellsOf z')).toArray) = (many N (cellsOf z')).toArray:=fun p _ hp=>by
   split
   ·rename_i h0
    rw [← hzm,← zeros_eq (z:=z') (N:=N) h4,if_pos (.inr (hp h0))]
   ·rfl
  by_cases hs0:ii.size = 0
  ·have hz0:many N (cellsOf z') = []:=by
    apply List.eq_nil_of_length_eq_zero
    have:(cellsOf z').length = 0:=by rw [← hs0,← h4,cellsOf_eq]; simp
    rw [many_length,this,Nat.mul_zero]
   have hold0:=hold
   rw [hs0] at hold0
   simp [hs0,resolve,invoke,builtin,hk.eval hs,hk.eval hx,Builtin.append_,run_underlying h1,run_underlying hu,asInt,asIntOf,hw,hn0,hb2,sizeOf,typeInfo,zeroValue,h2,h3,h63',h48',Question.forced,newRow,grownCap,hzm]
   rw [if_neg hN0]
   simp [hold0,hz0]
  ·simp [resolve,invoke,builtin,hk.eval hs,hk.eval hx,Builtin.append_,run_underlying h1,run_underlying hu,asInt,asIntOf,hw,hn0,hb2,sizeOf,typeInfo,zeroValue,h2,h3,h63',h48',Question.forced,hold,newRow,grownCap,hzm]
   rw [if_neg hN0,if_neg (Nat.ne_of_gt (Nat.mul_pos hpos (Nat.pos_of_ne_zero hs0)))]
 ·have:=heap_alloc_new w.drew (.cells ((many N (cellsOf z')).toArray ++ Builtin.zeroCells z'.cells (grownCap w N 0 e - N)) e)
  rw [show w.drew.heap.size = w.heap.size from rfl] at this
  rw [this]
  congr 2
  apply Array.ext'
  simp
end
theorem sameI_eq:∀ {l m:List It},sameI l m = true → l = m
 | [],[],_=>rfl
 | a :: r,b :: s,h=>by
  simp only [sameI,Bool.and_eq_true] at h
  have:a = b:=by
   have h1:=h.1
   cases a <;> cases b <;> simp only [It.is,Bool.false_eq_true] at h1 <;> first | rfl | rw [Nat.eq_of_beq_eq_true h1]
  rw [this,sameI_eq h.2]
 | [],_ :: _,h=>by simp [sameI] at h
 | _ :: _,[],h=>by simp [sameI] at h
section
variable {E:En} {w:World} {Y:Nat → Prop} {e:Nat → Lv}
theorem AV.is_vr {u v:AV} {x:Value} (h:AV.is u v = true) (hv:VR E w Y e v x):VR E w Y e u x:=by
  unfold AV.is at h
  split at h
  all_goals first
    | (rw [vis_eq h]; exact hv)
    | (simp only [Bool.and_eq_true] at h
       rw [Nat.eq_of_beq_eq_true h.1,Nat.eq_of_beq_eq_true h.2]
       exact hv)
    | (rw [Nat.eq_of_beq_eq_true h]; exact hv)
    | exact hv
    | cases h
def pick (l:List (Nat × Value)):List (Nat × AV) → List (Nat × Value)
 | []=>[]
 | p :: r=>(p.1,(Mk.look l p.1).getD undef) :: pick l r
theorem pick_look {l:List (Nat × Value)}:∀ {hd:List (Nat × AV)},(∀ p ∈ hd,∃ x,Mk.look l p.1 = some x) → ∀ {s v},Mk.look (pick l hd) s = some v → Mk.look l s = some v
 | [],_,s,v,h=>by simp [pick,Mk.look] at h
 | p :: r,hp,s,v,h=>by
  simp only [pick,Mk.look] at h
  split at h
  ·rename_i hb
   obtain ⟨x,hx⟩:=hp p List.mem_cons_self
   rw [Nat.eq_of_beq_eq_true hb]
   rw [hx] at h ⊢
   simpa using h
  ·exact pick_look (fun p hq=>hp p (List.mem_cons_of_mem _ hq)) h
theorem left_sr {sl:List (Nat × AV)} {l:List (Nat × Value)} (hs:SR E w Y e sl l):∀ {hd:List (Nat × AV)},left sl hd = true → SR E w Y e hd (pick l hd) ∧ ∀ p ∈ hd,∃ x,Mk.look l p.1 = some x
 | [],_=>⟨trivial,fun p hp=>by cases hp⟩
 | p :: r,h=>by
  simp only [left,Bool.and_eq_true] at h
  obtain ⟨h1,h2⟩:=h
  obtain ⟨g1,g2⟩:=left_sr hs h2
  have hx:∃ x,Mk.look l p.1 = some x ∧ VR E w Y e p.2 x:=by
   cases hq:alook sl p.1 with
   | none=>rw [hq] at h1; simp at h1
   | some v =>
    rw [hq] at h1
    obtain ⟨x,hx,hvr⟩:=hs.look hq
    refine ⟨x,hx,?_⟩
    split at h1
    ·rename_i hj; rw [hj]; trivial
    ·rename_i hu _
     obtain rfl:=Option.some.inj hu
     exact AV.is_vr h1 hvr
    ·cases h1
  obtain ⟨x,hx,hvr⟩:=hx
  refine ⟨⟨rfl,by rw [hx]; exact hvr,g1⟩,fun q hq=>?_⟩
  rcases List.mem_cons.1 hq with rfl | hq
  ·exact ⟨x,hx⟩
  ·exact g2 q hq
theorem pick_keys {l:List (Nat × Value)} {hd:List (Nat × AV)} {p:Nat × Value} (h:p ∈ pick l hd):∃ q ∈ hd,q.1 = p.1:=by
 induction hd with
 | nil=>simp [pick] at h
 | cons q r ih =>
  simp only [pick,List.mem_cons] at h
  rcases h with rfl | h
  ·exact ⟨q,List.mem_cons_self,rfl⟩
  ·obtain ⟨q',h1,h2⟩:=ih h
   exact ⟨q',List.mem_cons_of_mem _ h1,h2⟩
theorem prune_keys {f:Nat → Bool}:∀ {sl:List (Nat × AV)} {p:Nat × AV},p ∈ prune f sl → f p.1 = true
 | [],p,h=>by simp [prune] at h
 | q :: r,p,h=>by
  unfold prune at h
  split at h
  ·rename_i hf
   rcases List.mem_cons.1 h with rfl | h
   ·exact hf
   ·exact prune_keys h
  ·exact prune_keys h
theorem mapV_keys {F:AV → AV}:∀ {sl:List (Nat × AV)} {p:Nat × AV},p ∈ mapV F sl → ∃ q ∈ sl,q.1 = p.1
 | [],p,h=>by simp [mapV] at h
 | q :: r,p,h=>by
  simp only [mapV,List.mem_cons] at h
  rcases h with rfl | h
  ·exact ⟨q,List.mem_cons_self,rfl⟩
  ·obtain ⟨q',h1,h2⟩:=mapV_keys h
   exact ⟨q',List.mem_cons_of_mem _ h1,h2⟩
theorem join_a {J:AV → AV → AV} {f:Nat → Bool} {sb:List (Nat × AV)} (hJ:∀ u v x,VR E w Y e u x → VR E w Y e (J u v) x):∀ {sa:List (Nat × AV)} {l:List (Nat × Value)},SR E w Y e sa l → ∃ l',SR E w Y e (joinS J f sb sa) l' ∧ ∀ s v,Mk.look l' s = some v → Mk.look l s = some v
 | [],[],_=>⟨[],trivial,fun s v h=>by simp [Mk.look] at h⟩
 | [],_ :: _,h=>by simp [SR] at h
 | _ :: _,[],h=>by simp [SR] at h
 | p :: r,q :: t,h=>by
  simp only [SR] at h
  obtain ⟨h1,h2,h3⟩:=h
  obtain ⟨l',g1,g2⟩:=join_a (f:=f) (sb:=sb) hJ h3
  obtain ⟨k,u⟩:=q
  simp only at h1
  -- which slots are joined is told by the slot's number alone
  have hkeys:∀ {sl:List (Nat × AV)} {z:Nat × AV},z ∈ joinS J f sb sl → f z.1 = true ∧ (alook sb z.1).isSome = true:=by
   intro sl
   induction sl with
   | nil=>intro z hz; simp [joinS] at hz
   | cons y r ih =>
    intro z hz
    unfold joinS at hz
    split at hz
    ·rename_i e1 e2
     rcases List.mem_cons.1 hz with rfl | hz
     ·exact ⟨e1,by rw [e2]; rfl⟩
     ·exact ih hz
    ·exact ih hz
  have hk2:∀ {sl:List (Nat × AV)} {l:List (Nat × Value)},SR E w Y e sl l → ∀ s v,Mk.look l s = some v → ∃ z ∈ sl,z.1 = s:=by
   intro sl
   induction sl with
   | nil =>
    intro l hl s v hv
    match l,hl with
    | [],_=>simp [Mk.look] at hv
   | cons y r ih =>
    intro l hl s v hv
    match l,hl with
    | (k,u) :: l,hl =>
     simp only [Mk.look] at hv
     split at hv
     ·rename_i hb
      exact ⟨y,List.mem_cons_self,by rw [hl.1]; exact (Nat.eq_of_beq_eq_true hb).symm⟩
     ·obtain ⟨z,h1,h2⟩:=ih hl.2.2 s v hv
      exact ⟨z,List.mem_cons_of_mem _ h1,h2⟩
  unfold joinS
  split
  ·refine ⟨(k,u) :: l',⟨h1,hJ _ _ _ h2,g1⟩,fun s v hv=>?_⟩
   simp only [Mk.look] at hv ⊢
   split at hv
   ·exact hv
   ·exact g2 s v hv
  ·rename_i hn
   refine ⟨l',g1,fun s v hv=>?_⟩
   have hne:s ≠ k:=by
    rintro rfl
    obtain ⟨z,hz,hzs⟩:=hk2 g1 s v hv
    obtain ⟨e1,e2⟩:=hkeys hz
    obtain ⟨y,hy⟩:=Option.isSome_iff_exists.1 e2
    rw [hzs] at e1 hy
    rw [h1] at hn
    exact hn _ e1 hy
   rw [lkN hne]
   exact g2 s v hv
theorem join_b {J:AV → AV → AV} {f:Nat → Bool} {sb:List (Nat × AV)} {l:List (Nat × Value)} (hJ:∀ u v x,VR E w Y e v x → VR E w Y e (J u v) x) (hs:SR E w Y e sb l):∀ (sa:List (Nat × AV)),SR E w Y e (joinS J f sb sa) (pick l (joinS J f sb sa)) ∧ ∀ p ∈ joinS J f sb sa,∃ x,Mk.look l p.1 = some x
 | []=>⟨trivial,fun p hp=>by cases hp⟩
 | p :: r=>by
  obtain ⟨g1,g2⟩:=join_b (f:=f) hJ hs r
  unfold joinS
  split
  ·rename_i v _ hv
   obtain ⟨x,hx,hvr⟩:=hs.look hv
   refine ⟨⟨rfl,by simp only [hx,Option.getD_some]; exact hJ _ _ _ hvr,g1⟩,fun q hq=>?_⟩
   rcases List.mem_cons.1 hq with rfl | hq
   ·exact ⟨x,hx⟩
   ·exact g2 q hq
  ·exact ⟨g1,g2⟩
end
end Go.Mk.Er
namespace Go.Mk.Er
open Go Go.Mk
open Go.Mk.Ea (ikOf)
section
variable {w:World} {Y:Nat → Prop} {fs:List Fld} {tg:Bool} {g:G}
theorem ACs.get:∀ {l:List AC} {c:List Value} {o:Nat} {a:AC},ACs w Y fs tg g l c → l[o]? = some a → ∃ x,c[o]? = some x ∧ ACR w Y fs tg g a x
 | [],_,o,a,_,h=>by simp at h
 | p :: r,[],o,a,h,_=>h.elim
 | p :: r,x :: c,0,a,h,ho=>by
  simp only [List.getElem?_cons_zero,Option.some.injEq] at ho
  subst ho
  exact ⟨x,rfl,h.1⟩
 | p :: r,x :: c,o + 1,a,h,ho=>by
  simp only [List.getElem?_cons_succ] at ho ⊢
  exact ACs.get h.2 ho
theorem ACs.appI:∀ {l l':List AC} {c c':List Value},ACs w Y fs tg g l c → ACs w Y fs tg g l' c' → ACs w Y fs tg g (l ++ l') (c ++ c')
 | [],_l',[],_c',_,h=>h
 | _a :: _r,_l',_x :: _s,_c',h,h'=>⟨h.1,ACs.appI h.2 h'⟩
 | [],_,_ :: _,_,h,_=>h.elim
 | _ :: _,_,[],_,h,_=>h.elim
theorem ACs.take:∀ {l:List AC} {c:List Value} (k:Nat),ACs w Y fs tg g l c → ACs w Y fs tg g (l.take k) (c.take k)
 | _,_,0,_=>by simp [ACs]
 | [],[],k + 1,_=>trivial
 | a :: r,x :: s,k + 1,h=>⟨h.1,ACs.take k h.2⟩
 | [],_ :: _,_ + 1,h=>h.elim
 | _ :: _,[],_ + 1,h=>h.elim
theorem ACs.drop:∀ {l:List AC} {c:List Value} (k:Nat),ACs w Y fs tg g l c → ACs w Y fs tg g (l.drop k) (c.drop k)
 | _,_,0,h=>by simpa using h
 | [],[],k + 1,_=>trivial
 | a :: r,x :: s,k + 1,h=>by simpa using ACs.drop k h.2
 | [],_ :: _,_ + 1,h=>h.elim
 | _ :: _,[],_ + 1,h=>h.elim
theorem gus_mk {i:Nat}:∀ {k:Nat},k ≤ 16 → ACs w Y fs tg g (gus i k) ((bv (sixteen (g.q i).s)).drop (16 - k))
 | 0,_=>by
  have:=sixteen_cells (g.q i).s
  rw [List.drop_of_length_le (by omega)]
  trivial
 | k + 1,hk=>by
  have h16:=sixteen_cells (g.q i).s
  have e : 16 - (k + 1) = 15 - k:=by omega
  have h2:=gus_mk (i:=i) (k:=k) (by omega)
  rw [e,List.drop_eq_getElem_cons (by omega)]
  refine ⟨?_,?_⟩
  ·show (bv _)[15 - k]? = some _
   exact List.getElem?_eq_getElem _
  ·rw [show 15 - k + 1 = 16 - k by omega]; exact h2
theorem rep_val_one {kind:Nat} {nu:Int} {st:T → DD} {t:T} {x:Value} (hk:kind < 10) (h7:kind ≠ 7) (h:Rep w Y (ddVal kind nu st t) [x]):x.oneCell' = true:=by
 have v1:∀ u:Value,u.oneCell' = true → Rep w Y (.v u) [x] → x.oneCell' = true:=fun u hu hr=>by rw [rep_v_inv hr]; exact hu
 have p1:∀ d:DD,Rep w Y (.ptr d) [x] → x.oneCell' = true:=fun d hr=>by
  simp only [Rep] at hr
  obtain ⟨b,off,cs,h1,_⟩:=hr
  simp only [List.cons.injEq,and_true] at h1
  rw [h1]; rfl
 match kind,hk,h7,h with
 | 0,_,_,h=>exact v1 _ rfl h
 | 1,_,_,h=>exact v1 _ rfl h
 | 2,_,_,h=>exact v1 _ rfl h
 | 3,_,_,h=>exact v1 _ rfl h
 | 4,_,_,h=>exact v1 _ rfl h
 | 5,_,_,h=>exact v1 _ rfl h
 | 6,_,_,h=>exact v1 _ rfl h
 | 7,_,h7,_=>exact absurd rfl h7
 | 8,_,_,h =>
  have h':Rep w Y (if 0 ≤ nu then (if t.z then .v (.pointer none) else .ptr (.v (.string (bs t.s)))) else .v (.string (bs t.s))) [x]:=h
  split at h'
  ·split at h'
   ·exact v1 _ rfl h'
   ·exact p1 _ h'
  ·exact v1 _ rfl h'
 | 9,_,_,h =>
  have h':Rep w Y (if t.z then .v (.slice none 0 0) else .sl true 1 (t.s.map ddB)) [x]:=h
  split at h'
  ·exact v1 _ rfl h'
  ·exact rep_sl_one1 h'
end
section
variable {E:En} {e0 e:Nat → Lv} {w0 w w':World} {Y:Nat → Prop} {items:List It} {g0:G} {s0 s:RS} {σ σ':St} {a a':Act} {l:List (Nat × Value)} {cs:List Value} {S:LS}
variable {ops:Array Oper} {Q:Exit → Act → World → Prop} {rest:List Oper}
theorem stC_sound {v:AV} {u:Value} {vs:List AC} (hls:E.ls[E.cur]? = some S) (hv:VR E w Y e v u) (h:stC S.fs v = some vs):ACs w Y S.fs S.tg (e E.cur).g vs (cellsOf u) ∧ oneCells (cellsOf u) = true:=by
 unfold stC at h
 split at h
 ·split at h
  ·rename_i h1
   obtain rfl:=Option.some.inj h
   have:u = _:=hv
   subst this
   rw [cells1 h1]
   exact ⟨⟨rfl,trivial⟩,one1 h1⟩
  ·cases h
 ·rename_i i
  obtain ⟨s,h1,h2,h3⟩:=hv
  rw [hls] at h1
  obtain rfl:=Option.some.inj h1
  split at h
  ·rename_i hk
   obtain rfl:=Option.some.inj h
   rw [ddF_val (by omega),hk] at h2
   have h4:cellsOf u = bv (sixteen ((e E.cur).g.q i).s):=by
    have h5:=rep_agg_inv (show Rep w Y (.agg ((sixteen ((e E.cur).g.q i).s).map ddB)) (cellsOf u) from h2)
    generalize cellsOf u = c at h5
    generalize sixteen ((e E.cur).g.q i).s = b at h5
    clear h2
    induction b generalizing c with
    | nil=>simp [h5.unNil,bv]
    | cons x r ih =>
     simp only [List.map_cons,ddB] at h5
     obtain ⟨c2,rfl,h6⟩:=h5.unV
     rw [ih _ h6]; rfl
   rw [h4]
   have:=gus_mk (w:=w) (Y:=Y) (fs:=S.fs) (tg:=S.tg) (g:=(e E.cur).g) (i:=i) (Nat.le_refl 16)
   rw [Nat.sub_self,List.drop_zero] at this
   exact ⟨this,bv_one _⟩
  ·cases h
  ·rename_i h7 h10
   split at h
   ·rename_i hb
    obtain rfl:=Option.some.inj h
    have hlt:(S.fs.getD i FNIL).kind < 10:=by simpa [Nat.blt_eq] using hb
    have h1:=h3 h7
    rw [cells1 h1] at h2 ⊢
    exact ⟨⟨h2,trivial⟩,one1 h1⟩
   ·cases h
 ·obtain rfl:=Option.some.inj h
  have hv':Rep w Y (ddTagMap (e E.cur).g.u) (cellsOf u):=hv
  have hl:=one1_mp _ _ w Y _ hv'
  match hq:cellsOf u,hl with
  | [x],_ =>
   rw [hq] at hv'
   refine ⟨⟨hv',trivial⟩,?_⟩
   have:∃ p,x = .map p:=by
    simp only [ddTagMap,Rep] at hv'
    rcases hv' with ⟨_,_,h⟩ | ⟨r,vs,h,_⟩
    ·exact ⟨none,by simpa using h⟩
    ·exact ⟨some r,by simpa using h⟩
   obtain ⟨p,rfl⟩:=this
   rfl
 ·cases h
theorem o_storeB {P:Program} {a:Act} {n:Nat} {l:List (Nat × Value)} {ty:Nat} {ps:String} {af:Array Edge} {x y:Operand} {t sz b o ety:Nat} {bl:Bool} {u:Value} {pre cs post:List Value} (hk:Kn n l a) (ht:tySz P t = some (bl,sz)) (hx:ev l x = some (.pointer (some ⟨b,pre.length + o,none⟩))) (hy:ev l y = some u)
  (hs:(cellsOf u).length = sz) (h1:oneCells (cellsOf u) = true) (hb:w.heap[b]? = some (.cells (pre ++ cs ++ post).toArray ety (0,0))) (ho:o + (cellsOf u).length ≤ cs.length)
  (K:∀ a' w',Agr (fun k=>k = b) w w' → w'.heap[b]? = some (.cells (pre ++ (cs.take o ++ cellsOf u ++ cs.drop (o + (cellsOf u).length)) ++ post).toArray ety (0,0)) → Kn n l a' → wpList P ops Q rest a' w') :
  wpList P ops Q (⟨none,.store t x y,ty,ps,af,none⟩ :: rest) a w:=by
 have hst:=run_storeCells_at P b (pre.length + o) ety (cellsOf u) 0 (pre ++ cs ++ post).toArray w hb (by simp only [List.size_toArray,List.length_append]; omega) (oneCells_spec h1)
 rw [Nat.add_zero] at hst
 have e1:(pre ++ cs ++ post).take (pre.length + o) ++ cellsOf u ++ (pre ++ cs ++ post).drop (pre.length + o + (cellsOf u).length) = pre ++ (cs.take o ++ cellsOf u ++ cs.drop (o + (cellsOf u).length)) ++ post:=by
  rw [List.append_assoc pre cs post,List.take_length_add_append,Nat.add_assoc,List.drop_length_add_append,List.take_append_of_le_length (by omega),List.drop_append_of_le_length (by omega)]
  simp only [List.append_assoc]
 rw [show (pre ++ cs ++ post).toArray.toList = pre ++ cs ++ post by simp,e1] at hst
 refine step_runsU (w':=w.setRow b (pre ++ (cs.take o ++ cellsOf u ++ cs.drop (o + (cellsOf u).length)) ++ post).toArray) hk rfl rfl ?_ fun a' hk'=>K a' _ (setRow_agr w b _) (setRow_heap w b _ _ ety (0,0) hb) hk'
 unfold RunsU execOp
 have hsz:u.cells.size = sz:=by rw [cellsOf_eq]; simpa using hs
 simp [hk.eval hx,hk.eval hy,Instr.storeAt,Instr.sureAddr,storeVar,sizeOf_run ht,hsz]
 rw [show u.cells.toList = cellsOf u by rw [cellsOf_eq],hst]
 simp only [List.append_assoc]
 rfl
theorem Inv.pure (_B:Base E e0 w0 Y) (h:Inv E e0 w0 Y items g0 s0 σ a w e l s cs S) (hag:Agr Nob w w'):Inv E e0 w0 Y items g0 s0 σ a w' e l s cs S:=by
 have hmv:∀ i,i < w.heap.size → ¬ Yl Y σ (e E.cur) i → w'.heap[i]? = w.heap[i]? ∧ ¬ Yl Y σ (e E.cur) i:=fun i hi hy=>⟨hag.block i hi id,hy⟩
 refine ⟨h.ls,h.same,h.kn,h.sr.move hmv,h.agr.trans hag (fun _ _ x=>x) (fun _ _ x=>x.elim),?_,?_,h.cel.move hmv,h.none_,fun p hp=>?_,h.fr⟩
 ·obtain ⟨u,h1,h2⟩:=h.rdr
  exact ⟨u,by rw [hag.block _ (Array.getElem?_eq_some_iff.1 h1).1 id]; exact h1,Rep.move hmv _ _ h2⟩
 ·rw [hag.block _ (Array.getElem?_eq_some_iff.1 h.blk).1 id]; exact h.blk
 ·obtain ⟨i,r,s1,k1,k2,k3,k4⟩:=h.pend p hp
  exact ⟨i,r,s1,k1,k2,k3,k4.move hmv fun _ q2=>hag.block _ q2 id⟩
theorem rdCnt_le (flex:Bool) (s:RS):(rdCnt flex s).1 ≤ 2147483647:=by
 have h:∀ n:Int,IntKind.i32.wrap n ≤ 2147483647:=fun n=>by simp only [IntKind.wrap,IntKind.bits,IntKind.signed]; simp; omega
 have key:∀ (p:Int × RS),(if (p.2.l.length:Int) < IntKind.i32.wrap p.1 then ((0:Int),RS.fail) else (IntKind.i32.wrap p.1,p.2)).1 ≤ 2147483647:=fun p=>by
  split
  ·show (0:Int) ≤ 2147483647
   decide
  ·exact h _
 exact key _
theorem step_put {o:Oper} {d:Nat} {v:AV} {x:Value} (h:put E.cx σ d v = some σ') (hI:Inv E e0 w0 Y items g0 s0 σ a w e l s cs S) (hv:VR E w (Yl Y σ (e E.cur)) e v x)
  (ho:Nat.blt d E.cx.n = true → (∀ a',Kn E.cx.n ((d,x) :: l) a' → wpList E.cx.P ops Q rest a' w) → wpList E.cx.P ops Q (o :: rest) a w)
  (K:∀ a' w',IV E e0 w0 Y items g0 s0 σ' a' w' → wpList E.cx.P ops Q rest a' w'):wpList E.cx.P ops Q (o :: rest) a w:=by
 obtain ⟨hd,rfl⟩:=put_spec h
 exact ho hd fun a' hk'=>K a' w ⟨_,_,_,_,_,hI.put hk' hv⟩
theorem base_form {n:Int} {m:Md} {x:Value} (h:BaseOk n m x):∃ p,x = .slice p 0 0:=by
 cases m with
 | nn=>exact ⟨none,h⟩
 | ne=>obtain ⟨a,h⟩:=h; exact ⟨some a,h⟩
 | nz =>
  by_cases h0:n = 0
  ·obtain ⟨a,h⟩:=h.1 h0; exact ⟨some a,h⟩
  ·exact ⟨none,h.2 h0⟩
theorem VR.unm {b:Nat}:∀ (v:AV) (x:Value),VR E w Y e v x → VR E w Y (withL e E.cur b) (AV.unm E.cur v) x:=by
 have hl:∀ l,∃ b',withL e E.cur b l = { e l with lb:=b' }:=fun l=>by unfold withL; split; exact ⟨b,rfl⟩; exact ⟨(e l).lb,rfl⟩
 intro v x h
 cases v with
 | okb p=>obtain ⟨b',hb⟩:=hl E.cur; show x = Value.bool (if p then !(withL e E.cur b E.cur).bad else (withL e E.cur b E.cur).bad); rw [hb]; exact h
 | res=>obtain ⟨b',hb⟩:=hl E.cur; show ((withL e E.cur b E.cur).bad = false → _) ∧ _; rw [hb]; exact h
 | val j =>
  obtain ⟨s,h1,h2,h3⟩:=h
  obtain ⟨b',hb⟩:=hl E.cur
  exact ⟨s,h1,by rw [hb]; exact h2,h3⟩
 | tagv=>obtain ⟨b',hb⟩:=hl E.cur; show Rep w Y (ddTagMap (withL e E.cur b E.cur).g.u) _; rw [hb]; exact h
 | junk=>trivial
 | k u=>exact h
 | rdr=>exact h
 | ptr l o=>obtain ⟨b',hb⟩:=hl l; show x = _; rw [hb]; exact h
 | cnt l=>obtain ⟨b',hb⟩:=hl l; show x = _; rw [hb]; exact h
 | gt0=>obtain ⟨b',hb⟩:=hl E.cur; show x = _; rw [hb]; exact h
 | eq0=>obtain ⟨b',hb⟩:=hl E.cur; show x = _; rw [hb]; exact h
 | made=>trivial
 | box j =>
  obtain ⟨s,b1,h1,h2,h3,h4⟩:=h
  obtain ⟨b',hb⟩:=hl E.cur
  exact ⟨s,b1,h1,h2,h3,by rw [hb]; exact h4⟩
 | base l m=>obtain ⟨b',hb⟩:=hl l; show BaseOk _ m x; rw [hb]; exact h
 | arr l m =>
  show VR E w Y _ (if Nat.beq l E.cur then .junk else .arr l m) x
  split
  ·trivial
  ·rename_i hne
   show (0 < _ → Made _ x) ∧ (_ ≤ 0 → BaseOk _ m x)
   rw [withL_ne (fun e=>hne (by rw [e]; simp))]
   exact h
 | idx l=>obtain ⟨b',hb⟩:=hl l; show x = _; rw [hb]; exact h
theorem wrapTwice (k:IntKind) (n:Int):k.wrap (k.wrap n) = k.wrap n:=by
 cases k <;> (simp only [IntKind.wrap,IntKind.bits,IntKind.signed]; simp <;> (try omega))
theorem putC_spec {c c':List AC} {o:Nat} {v:List AC} (h:putC c o v = some c'):o + v.length ≤ c.length ∧ c' = c.take o ++ v ++ c.drop (o + v.length):=by
 unfold putC at h
 by_cases hb:Nat.ble (o + v.length) c.length = true
 ·rw [if_pos hb] at h
  exact ⟨Nat.le_of_ble_eq_true hb,(Option.some.inj h).symm⟩
 ·rw [if_neg hb] at h; cases h
theorem ddF_nil {fr to nu tag df:Int} {of:Nat} {sub:List Fld} {tg:Bool} {xs:List T}:ddF (.mk 11 fr to nu tag df of sub) tg (.mk 0 [] true xs []) = .v (.slice none 0 0):=by unfold ddF; rfl
theorem ddF_list {fr to nu tag df:Int} {of:Nat} {sub:List Fld} {tg:Bool} {xs:List T}:ddF (.mk 11 fr to nu tag df of sub) tg (.mk 0 [] false xs []) = .sl true (widVal of (-1) (widS sub tg)) (xs.map (ddVal of (-1) (ddS sub tg))):=by unfold ddF; rfl
theorem list_rep {f:Fld} {tg:Bool} {lv:Lv} {xs:List T} {m:Md} {x:Value} {V:Int} {z:List Value} {Yy:Nat → Prop} {zz:Bool} (hzz:zz = if 0 ≤ f.nu then f.may V && decide (lv.cnt < 0) else decide (lv.cnt ≤ 0)) (hk:f.kind = 11) (hm:mdOk f V m = true) (hl:xs.length = lv.cnt.toNat) (hY : 0 < lv.cnt → ¬ Y lv.lb) (hYy:∀ k,Y k → Yy k)
  (hx:(0 < lv.cnt → Made lv x) ∧ (lv.cnt ≤ 0 → BaseOk lv.cnt m x)) (hr : 0 < lv.cnt → RowAt w Yy f tg z lv xs) :
  Rep w Y (ddF f tg (.mk 0 [] zz xs [])) [x]:=by
 have z1 : 0 < lv.cnt → zz = false:=fun hc=>by
  rw [hzz]
  split
  ·rw [decide_eq_false (by omega),Bool.and_false]
  ·exact decide_eq_false (by omega)
 have z2:lv.cnt ≤ 0 → m = .nn → zz = true:=fun hc e=>by
  subst e
  have hn:f.nu < 0:=of_decide_eq_true hm
  rw [hzz,if_neg (by omega)]
  exact decide_eq_true hc
 have z3:m = .nz → zz = decide (lv.cnt < 0):=fun e=>by
  subst e
  have hmay:f.may V = true:=hm
  have hn : 0 ≤ f.nu:=by
   have:=hmay
   simp only [Fld.may,Bool.and_eq_true,decide_eq_true_eq] at this
   exact this.1
  rw [hzz,if_pos hn,hmay,Bool.true_and]
 have z4:m = .ne → zz = false:=fun e=>by
  subst e
  simp only [mdOk,Bool.and_eq_true,decide_eq_true_eq,Bool.not_eq_true'] at hm
  rw [hzz,if_pos hm.1,hm.2,Bool.false_and]
 clear hzz
 cases f with
 | mk kind fr to nu tag df of sub =>
  have hk':kind = 11:=hk
  subst hk'
  by_cases hc : 0 < lv.cnt
  ·rw [z1 hc,ddF_list]
   obtain ⟨cap,rfl,hcap⟩:=hx.1 hc
   obtain ⟨D,sl,ety,h1,h2⟩:=hr hc
   have e2:lv.cnt.toNat - xs.length = 0:=by omega
   rw [e2] at h1
   simp only [many,List.replicate_zero,List.flatten_nil,List.append_nil] at h1
   simp only [Rep]
   refine .inr ⟨lv.lb,0,cap,D,by rw [List.length_map,hl],by rw [List.length_map]; omega,fun j u hj=>⟨hY hc,?_⟩,RepE.move (fun i _ hn=>⟨rfl,fun h=>hn (hYy i h)⟩) _ _ _ h2⟩
   have hlt:=(List.getElem?_eq_some_iff.1 hj).1
   simp [World.cell?,h1,List.getElem?_append_left hlt,hj]
  ·have hc':lv.cnt ≤ 0:=by omega
   have hxs:xs = []:=List.eq_nil_of_length_eq_zero (by omega)
   subst hxs
   have hb:=hx.2 hc'
   cases m with
   | nn =>
    rw [z2 hc' rfl,ddF_nil]
    obtain rfl:x = .slice none 0 0:=hb
    exact rep_v _
   | nz =>
    by_cases h0:lv.cnt = 0
    ·obtain ⟨ad,rfl⟩:=hb.1 h0
     rw [z3 rfl,decide_eq_false (by omega),ddF_list]
     simp only [Rep,List.map_nil]
     exact .inl ⟨trivial,some ad,rfl,fun _ h=>by cases h⟩
    ·obtain rfl:=hb.2 h0
     rw [z3 rfl,decide_eq_true (by omega),ddF_nil]
     exact rep_v _
   | ne =>
    rw [z4 rfl,ddF_list]
    obtain ⟨ad,rfl⟩:=hb
    simp only [Rep,List.map_nil]
    exact .inl ⟨trivial,some ad,rfl,fun _ h=>by cases h⟩
end
end Go.Mk.Er
namespace Go.Mk.Er
open Go Go.Mk
open Go.Mk.Ea (ikOf)
section
variable {E:En} {e0:Nat → Lv} {w0:World} {Y:Nat → Prop} {items:List It} {g0:G} {s0:RS} {σ σ':St} {a:Act} {w:World}
variable {ops:Array Oper} {Q:Exit → Act → World → Prop} {rest:List Oper}
theorem isZero_spec {h:Value} (hz:isZero h = true):∃ k,h = .int k 0:=by
 unfold isZero at hz
 split at hz
 ·rename_i k i
  exact ⟨k,by rw [of_decide_eq_true hz]⟩
 ·cases hz
theorem xop_sound (B:Base E e0 w0 Y) (hT:ThingOf E e0) {o:Oper} (h:xop E.cx E.ls E.cur σ o = some σ') (hI:IV E e0 w0 Y items g0 s0 σ a w)
  (K:∀ a' w',IV E e0 w0 Y items g0 s0 σ' a' w' → wpList E.cx.P ops Q rest a' w'):wpList E.cx.P ops Q (o :: rest) a w:=by
 obtain ⟨e,l,s,cs,S,hI⟩:=hI
 have hs:=hI.sr
 have hk:=hI.kn
 have hbb:=hI.same.2.1
 have hoff:(e E.cur).off = (e0 E.cur).pre.length:=by rw [hI.same.2.2.1,B.off]
 unfold xop at h
 split at h
 ·-- move
  split at h
  ·rename_i v hv
   obtain ⟨u,h1,h2⟩:=hs.ev hv
   exact step_put h hI h2 (fun hd K=>oM0 hk h1 hd K) K
  ·cases h
 ·-- assign
  split at h
  ·rename_i v hv
   obtain ⟨u,h1,h2⟩:=hs.ev hv
   exact step_put h hI h2 (fun hd K=>oA0 hk h1 hd K) K
  ·cases h
 ·-- pick
  split at h
  ·rename_i v u hc hx hy
   obtain ⟨c1,h1,rfl⟩:=hs.ev hc
   obtain ⟨x1,h2,h2'⟩:=hs.ev hx
   obtain ⟨y1,h3,_⟩:=hs.ev hy
   exact step_put h hI h2' (fun hd K=>o_pick hk h1 h2 h3 rfl hd K) K
  ·rename_i u v hc hx hy
   obtain ⟨c1,h1,rfl⟩:=hs.ev hc
   obtain ⟨x1,h2,_⟩:=hs.ev hx
   obtain ⟨y1,h3,h3'⟩:=hs.ev hy
   exact step_put h hI h3' (fun hd K=>o_pick hk h1 h2 h3 rfl hd K) K
  ·cases h
 ·-- nilCheck
  split at h
  ·rename_i l' o' hv
   obtain ⟨u,h1,rfl⟩:=hs.ev hv
   exact step_put h hI rfl (fun hd K=>oN0 hk h1 hd K) K
  ·rename_i hv
   obtain ⟨u,h1,rfl⟩:=hs.ev hv
   exact step_put h hI rfl (fun hd K=>oN0 hk h1 hd K) K
  ·cases h
 ·-- fieldAddr
  split at h
  ·rename_i l' o' o2 hv hf
   obtain ⟨u,h1,rfl⟩:=hs.ev hv
   exact step_put h hI (x:=.pointer (some ⟨(e l').b,(e l').off + o' + o2,none⟩)) (by show _ = _; rw [Nat.add_assoc]) (fun hd K=>oF0 hk hf h1 hd K) K
  ·cases h
 ·-- not
  split at h
  ·rename_i b hv
   obtain ⟨u,h1,rfl⟩:=hs.ev hv
   exact step_put h hI rfl (fun hd K=>o_not hk h1 hd K) K
  ·rename_i p hv
   obtain ⟨u,h1,rfl⟩:=hs.ev hv
   refine step_put h hI (x:=.bool (!(if p then !(e E.cur).bad else (e E.cur).bad))) ?_ (fun hd K=>o_not hk h1 hd K) K
   show _ = Value.bool _
   cases p <;> simp
  ·cases h
 ·-- load
  split at h
  ·rename_i l' o' z hv ht
   obtain ⟨u,h1,rfl⟩:=hs.ev hv
   have key:∀ v:Value,l' = E.cur → σ.cells[o']? = some (.k v) → w.cell? ⟨(e l').b,(e l').off + o',none⟩ = some v:=fun v he hc=>by
    obtain ⟨x,hx,hxx⟩:=hI.cel.get hc
    obtain rfl:x = v:=hxx
    have hlt:=(List.getElem?_eq_some_iff.1 hx).1
    subst he
    rw [hbb,hoff]
    have hb:=hI.blk
    simp [World.cell?,hb,List.getElem?_append_right,List.getElem?_append_left hlt,hx]
   split at h
   ·rename_i hl hc
    exact step_put h hI (x:=.slice none 0 0) rfl (fun hd K=>o_load hk ht h1 (key _ (Nat.eq_of_beq_eq_true hl) hc) hd K) K
   ·rename_i v _ hl hc
    exact step_put h hI (x:=v) rfl (fun hd K=>o_load hk ht h1 (key _ (Nat.eq_of_beq_eq_true hl) hc) hd K) K
   ·cases h
  ·rename_i i hv ht
   obtain ⟨u,h1,s2,b,g1,g2,rfl,g4⟩:=hs.ev hv
   have h16:=sixteen_cells ((e E.cur).g.q i).s
   refine step_put h hI (v:=.val i) (x:=.agg (bv (sixteen ((e E.cur).g.q i).s)).toArray) ⟨s2,g1,?_,fun h7=>absurd g2 h7⟩ (fun hd K=>o_loadN hk (by rw [h16]; exact ht) h1 (fun j u hj=>(g4 j u hj).2) hd K) K
   rw [ddF_val (by omega),g2]
   exact rep_agg (by simpa [cellsOf] using rep_bytes _)
  ·cases h
 ·-- store
  split at h
  ·-- a list
   rename_i l' o' l2 m hx hy ht
   split at h
   ·rename_i i r sg z s1 hll hto hpd hls
    split at h
    ·rename_i c hm hc
     split at h
     ·rename_i hfree
      obtain rfl:=Option.some.inj h
      simp only [Bool.and_eq_true] at hll
      obtain rfl:=Nat.eq_of_beq_eq_true hll.1
      obtain rfl:=Nat.eq_of_beq_eq_true hll.2
      obtain ⟨u1,h1,rfl⟩:=hs.ev hx
      obtain ⟨u2,h2,h2'⟩:=hs.ev hy
      have hls':=hI.ls
      rw [hls] at hls'
      obtain rfl:=Option.some.inj hls'
      obtain ⟨i2,r2,sb,k1,k2,k3,k4⟩:=hI.pend _ hpd
      rw [hto] at k1
      simp only [List.cons.injEq,It.fld.injEq] at k1
      obtain ⟨rfl,rfl⟩:=k1
      obtain ⟨p1,p2,p3,p4,p5,p6⟩:=k4
      obtain ⟨xs,q1,q2,q3⟩:=p5 rfl
      obtain ⟨q4,q5⟩:=q3 z rfl
      have hlb : 0 < (e E.cur).cnt → ¬ Y (e E.cur).lb:=fun hc hy=>by
       have:=B.old _ hy
       have:=(q5 hc).1
       omega
      generalize hTT:(T.mk 0 [] (if 0 ≤ (s1.fs.getD i FNIL).nu then (s1.fs.getD i FNIL).may E.cx.V && decide ((e E.cur).cnt < 0) else decide ((e E.cur).cnt ≤ 0)) xs []) = TT
      have hrep:Rep w Y (ddF (s1.fs.getD i FNIL) s1.tg TT) [u2]:=by
       rw [← hTT]
       exact list_rep rfl k2 hm q1 hlb (fun k hk=>Yl_sub hk) h2' fun hc=>(q5 hc).2
      have hrd:rdF (s1.fs.getD i FNIL) E.cx.V E.cx.flex sb = some (TT,s):=by
       rw [rdF_eq]
       unfold rdQ
       rw [if_pos k2,if_neg (by rw [p2 false rfl]; exact Bool.false_ne_true),← p1]
       have q2':rdEach (rdVal (s1.fs.getD i FNIL).of false E.cx.flex (rdP (s1.fs.getD i FNIL).sub E.cx.V E.cx.flex)) (e E.cur).cnt.toNat (rdCnt E.cx.flex sb).2 = some (xs,s):=q2
       rw [q2',← hTT]
      have hone:u2.oneCell' = true:=by
       by_cases hc : 0 < (e E.cur).cnt
       ·obtain ⟨cap,rfl,_⟩:=h2'.1 hc; rfl
       ·obtain ⟨p,rfl⟩:=base_form (h2'.2 (by omega)); rfl
      have hYw:∀ i,i < w.heap.size → ¬ Yl Y σ (e E.cur) i → w.heap[i]? = w.heap[i]? ∧ ¬ Y i:=fun i _ hn=>⟨rfl,fun hy=>hn (.inl hy)⟩
      have hgq:GOk (.fld i) (e E.cur).g ((e E.cur).g.set i TT):=⟨fun j hj=>by simp [G.set,hj],rfl⟩
      -- the list is had
      have hI2:Inv E e0 w0 Y items g0 s0 ⟨mapV (AV.unr (.fld i)) σ.sl,σ.cells,r,none,false⟩ a w (withG e E.cur ((e E.cur).g.set i TT)) l s cs s1:=by
       have hYn:∀ (σ : St) (lv:Lv),σ.pd = none → Yl Y σ lv = Y:=fun σ lv h=>Yl_none h
       refine ⟨hls,hI.same.wG _,hk,?_,hI.agr,?_,hI.blk,?_,fun _=>?_,fun p hp=>(by cases hp),fun hp=>(by cases hp)⟩
       ·rw [hYn _ _ rfl]
        exact (hs.move hYw).map (VR.unr hgq)
       ·rw [hYn _ _ rfl]
        obtain ⟨v,v1,v2⟩:=hI.rdr
        exact ⟨v,v1,Rep.move hYw _ _ v2⟩
       ·rw [hYn _ _ rfl,withG_eq]
        exact (hI.cel.move hYw).free hgq hfree
       ·unfold spec at k3 ⊢
        rw [k3,hto,withG_eq]
        show (Option.map _ (rdF (s1.fs.getD i FNIL) E.cx.V E.cx.flex sb)).bind _ = _
        rw [hrd]
        rfl
      obtain ⟨hle',rfl⟩:=putC_spec hc
      have hlen:=hI.cel.length
      have hcu:cellsOf u2 = [u2]:=cells1 hone
      simp only [List.length_cons,List.length_nil] at hle'
      refine o_storeB (cs:=cs) hk ht (by rw [hoff] at h1; exact h1) h2 (by rw [hcu]; rfl) (by rw [hcu]; exact one1 hone) (by rw [hbb]; exact hI.blk) (by rw [hcu]; simp only [List.length_cons,List.length_nil]; omega) fun a' w' ag hb hk'=>?_
      rw [hcu] at hb
      rw [hbb] at ag hb
      refine K a' w' ⟨_,_,_,_,_,hI2.write B ag hb ?_ hk'⟩
      have hc2:=hI2.cel
      rw [Yl_none (σ:=⟨mapV (AV.unr (.fld i)) σ.sl,σ.cells,r,none,false⟩) rfl] at hc2 ⊢
      refine ((hc2.take o').appI (show ACs w Y s1.fs s1.tg (withG e E.cur ((e E.cur).g.set i TT) E.cur).g [AC.got i] [u2] from ⟨?_,trivial⟩)).appI (hc2.drop _)
      show Rep w Y (ddF (s1.fs.getD i FNIL) s1.tg ((withG e E.cur ((e E.cur).g.set i TT) E.cur).g.q i)) [u2]
      rw [withG_eq]
      have:((e E.cur).g.set i TT).q i = TT:=by simp [G.set]
      show Rep w Y (ddF (s1.fs.getD i FNIL) s1.tg (((e E.cur).g.set i TT).q i)) [u2]
      rw [this]
      exact hrep
     ·cases h
    ·cases h
   ·cases h
  ·-- a value
   rename_i l' o' v bl sz _ hx hy ht
   split at h
   ·rename_i s1 hl hls
    obtain rfl:=Nat.eq_of_beq_eq_true hl
    split at h
    ·rename_i vs hst
     split at h
     ·rename_i c hsz hc
      obtain rfl:=Option.some.inj h
      have hls':=hI.ls
      rw [hls] at hls'
      obtain rfl:=Option.some.inj hls'
      obtain ⟨u1,h1,rfl⟩:=hs.ev hx
      obtain ⟨u2,h2,h2'⟩:=hs.ev hy
      obtain ⟨g1,g2⟩:=stC_sound hls h2' hst
      have hl2:=g1.length
      have hsz':=Nat.eq_of_beq_eq_true hsz
      obtain ⟨hle',rfl⟩:=putC_spec hc
      have hlen:=hI.cel.length
      refine o_storeB (cs:=cs) hk ht (by rw [hoff] at h1; exact h1) h2 (by omega) g2 (by rw [hbb]; exact hI.blk) (by omega) fun a' w' ag hb hk'=>?_
      rw [hbb] at ag hb
      refine K a' w' ⟨_,_,_,_,_,hI.write B ag hb ?_ hk'⟩
      rw [← hl2]
      exact ((hI.cel.take o').appI g1).appI (hI.cel.drop _)
     ·cases h
    ·cases h
   ·cases h
  ·cases h
 ·-- a[:0]
  split at h
  ·rename_i l' m e' hx ht hz
   split at h
   ·rename_i q hq
    obtain ⟨k,rfl⟩:=isZero_spec hz
    obtain ⟨u,h1,h2⟩:=hs.ev hx
    obtain ⟨p,rfl⟩:=base_form h2
    obtain ⟨bl,z⟩:=q
    exact step_put h hI (v:=.base l' m) (x:=.slice p 0 0) h2 (fun hd K=>o_sliceTo (k:=0) hk ht hq h1 rfl (Nat.le_refl _) hd K) K
   ·cases h
  ·cases h
 ·-- a slice of nothing
  rename_i t ps _ _ _
  split at h
  ·rename_i e' hps ht
   split at h
   ·rename_i q hq
    obtain ⟨bl,z⟩:=q
    obtain ⟨hdn,rfl⟩:=put_spec h
    obtain rfl:ps = #[]:=by rw [toArr hps]
    refine step_runs (v:=.slice (some ⟨w.heap.size,0,none⟩) 0 0) (w':=w.alloc (.cells #[] e')) hk rfl rfl hdn ?_ fun a' hk'=>K a' _ ⟨_,_,_,_,_,(hI.pure B (Agr.alloc _ _ _)).put hk' (v:=.base E.cur .ne) ⟨_,rfl⟩⟩
    unfold Runs execOp
    simp [Instr.buildSlice,run_underlying (tyElem_run ht),sizeOf_run hq,Instr.fill,newRow]
    have e0:Array.range 0 = #[]:=by decide
    rw [e0,Array.map_empty]
   ·cases h
  ·cases h
 ·-- append
  rename_i xs' ts' _ _ _
  split at h
  ·rename_i x y t t2 bk s1 i r hxs hts hpd hls hto
   split at h
   ·rename_i l0 m l' e' sz by_ ik2 hx hy ht ht2
    split at h
    ·rename_i z hz
     split at h
     ·rename_i hb
      simp only [Bool.and_eq_true] at hb
      obtain ⟨⟨⟨⟨b0,b1⟩,b2⟩,b3⟩,b4⟩:=hb
      obtain rfl:=Nat.eq_of_beq_eq_true b0
      obtain ⟨hdn,rfl⟩:=put_spec h
      have hls':=hI.ls
      rw [hls] at hls'
      obtain rfl:=Option.some.inj hls'
      obtain ⟨u1,h1,h1'⟩:=hs.ev hx
      obtain ⟨p,rfl⟩:=base_form h1'
      obtain ⟨u2,h2,rfl⟩:=hs.ev hy
      obtain ⟨i2,r2,sb,k1,k2,k3,k4⟩:=hI.pend _ hpd
      rw [hto] at k1
      simp only [List.cons.injEq,It.fld.injEq] at k1
      obtain ⟨rfl,rfl⟩:=k1
      have hpos : 0 < (e E.cur).cnt:=k4.2.2.1
      have hle:=rdCnt_le E.cx.flex sb
      rw [← k4.1] at hle
      have hzl:=Nat.eq_of_beq_eq_true b2
      have hwd:=Nat.eq_of_beq_eq_true b4
      obtain rfl:=toArr hxs
      obtain rfl:=toArr hts
      have hsz:=hI.agr.size
      have hYy:Yl Y σ (e E.cur) = Y:=Yl_z fun p hp=>by rw [hpd] at hp; obtain rfl:=Option.some.inj hp; rfl
      have hN:(((e E.cur).cnt.toNat:Nat):Int) = (e E.cur).cnt:=Int.toNat_of_nonneg (by omega)
      refine o_appendZ (N:=(e E.cur).cnt.toNat) hk ht hz ht2 h1 (by rw [hN]; exact h2) (by omega) (by omega) (Nat.le_of_lt (by simpa [Nat.blt_eq] using b1)) hdn fun a' w' cap sl hcap ag hb hk'=>?_
      have hI2:=hI.pure B ag
      have hYn:∀ (sl:List (Nat × AV)) (fr:Bool) (lv:Lv) (k:Nat),Yl Y ⟨sl,σ.cells,σ.todo,some ⟨bk,.pos,some (cellsOf z),false⟩,fr⟩ lv k → Y k ∨ k = lv.lb:=fun sl fr lv k hk=>by
       rcases hk with hk | ⟨p,z,_,_,_,hk⟩
       ·exact .inl hk
       ·exact .inr hk
      have hmv:∀ (sl:List (Nat × AV)) (fr:Bool) (i:Nat),i < w.heap.size → ¬ Y i → w'.heap[i]? = w.heap[i]? ∧ ¬ Yl Y ⟨sl,σ.cells,σ.todo,some ⟨bk,.pos,some (cellsOf z),false⟩,fr⟩ (withL e E.cur w.heap.size E.cur) i:=fun sl fr i hi hy=>⟨ag.block i hi id,fun hh=>by
       rw [withL_eq] at hh
       rcases hYn _ _ _ _ hh with hh | hh
       ·exact hy hh
       ·have:i = w.heap.size:=hh
        omega⟩
      have hsr:=hI.sr
      have hcel:=hI.cel
      have hrdr:=hI.rdr
      rw [hYy] at hsr hcel hrdr
      refine K a' w' ⟨withL e E.cur w.heap.size,_,s,cs,s1,⟨hls,hI.same.wL _,hk',⟨rfl,?_,(hsr.move (hmv _ _)).map VR.unm⟩,hI2.agr,?_,hI2.blk,?_,fun hp=>(by cases hp),fun p hp=>?_,fun hp=>?_⟩⟩
      ·show 0 < _ ∧ Made _ _
       rw [withL_eq]
       exact ⟨hpos,cap,rfl,hcap⟩
      ·obtain ⟨v,v1,v2⟩:=hrdr
       exact ⟨v,by rw [ag.block _ (Array.getElem?_eq_some_iff.1 v1).1 id]; exact v1,Rep.move (hmv _ _) _ _ v2⟩
      ·rw [withL_eq]
       have:=hcel.move (hmv (mapV (AV.unm E.cur) σ.sl) σ.fr)
       rw [withL_eq] at this
       exact this
      ·obtain rfl:=Option.some.inj hp
       obtain ⟨p1,p2,p3,p4,p5,p6⟩:=k4
       refine ⟨i,r,sb,hto,k2,by rw [withL_eq]; exact k3,?_⟩
       rw [withL_eq]
       refine ⟨p1,p2,p3,fun _=>p4 rfl,fun hb=>(by cases hb),fun _ z' hz'=>?_⟩
       obtain rfl:=Option.some.inj hz'
       refine ⟨⟨by rw [hzl,hwd],b3⟩,fun _=>⟨hsz,[],sl,e',?_,RepE.nil _ _ _⟩⟩
       simpa using hb
      ·rw [withL_eq]
       exact hI.fr hp
     ·cases h
    ·cases h
   ·cases h
  ·cases h
 ·-- more than nothing?
  split at h
  ·rename_i l' hx
   split at h
   ·rename_i hl
    obtain rfl:=Nat.eq_of_beq_eq_true hl
    obtain ⟨u,h1,rfl⟩:=hs.ev hx
    exact step_put h hI (v:=.gt0) rfl (fun hd K=>o_icmp hk h1 rfl rfl hd K) K
   ·cases h
  ·cases h
 ·-- nothing?
  split at h
  ·rename_i l' hx
   split at h
   ·rename_i hl
    obtain rfl:=Nat.eq_of_beq_eq_true hl
    obtain ⟨u,h1,rfl⟩:=hs.ev hx
    refine step_put h hI (v:=.eq0) (x:=.bool ((e E.cur).cnt == 0)) ?_ (fun hd K=>o_icmp hk h1 rfl rfl hd K) K
    show Value.bool _ = Value.bool _
    congr 1
   ·cases h
  ·cases h
 ·-- numbers
  split at h
  ·rename_i q i q' j hx hy
   split at h
   ·rename_i b hq hb
    obtain rfl:=of_decide_eq_true hq
    obtain ⟨u,h1,rfl⟩:=hs.ev hx
    obtain ⟨u2,h2,rfl⟩:=hs.ev hy
    exact step_put h hI rfl (fun hd K=>o_icmp hk h1 h2 hb hd K) K
   ·cases h
  ·cases h
 ·-- conversion
  split at h
  ·rename_i i ik s1 hx hu ht hls
   split at h
   ·rename_i ik' hik
    split at h
    ·rename_i hb
     simp only [Bool.and_eq_true,decide_eq_true_eq,Bool.not_eq_true'] at hb
     obtain ⟨rfl,h4⟩:=hb
     obtain ⟨u,h1,h2⟩:=hs.ev hx
     have h2':=h2
     obtain ⟨s2,g1,g2,g3⟩:=h2
     rw [hls] at g1
     obtain rfl:=Option.some.inj g1
     have h4':(s1.fs.getD i FNIL).kind ≠ 4:=fun e=>by rw [e] at h4; simp at h4
     have key:∃ n,u = .int ik n ∧ ik.wrap n = n:=by
      generalize hff:s1.fs.getD i FNIL = ff at g2 g3 hik h4'
      have hk7:ff.kind ≠ 7:=fun e=>by rw [e] at hik; simp [ikOf] at hik
      have hk11:ff.kind ≠ 11:=fun e=>by rw [e] at hik; simp [ikOf] at hik
      rw [ddF_val hk11,cells1 (g3 hk7)] at g2
      generalize ff.kind = kk at g2 hik h4'
      match kk,hik,h4',g2 with
      | 1,hik,_,g2 =>
       simp only [ikOf,Option.some.injEq] at hik
       subst hik
       exact ⟨_,rep_v_inv g2,wrapTwice _ _⟩
      | 2,hik,_,g2 =>
       simp only [ikOf,Option.some.injEq] at hik
       subst hik
       exact ⟨_,rep_v_inv g2,wrapTwice _ _⟩
      | 3,hik,_,g2 =>
       simp only [ikOf,Option.some.injEq] at hik
       subst hik
       exact ⟨_,rep_v_inv g2,wrapTwice _ _⟩
      | 4,_,h4',_=>exact absurd rfl h4'
      | 5,hik,_,g2 =>
       simp only [ikOf,Option.some.injEq] at hik
       subst hik
       exact ⟨_,rep_v_inv g2,wrapTwice _ _⟩
      | 0,hik,_,_=>simp [ikOf] at hik
      | k + 6,hik,_,_=>simp [ikOf] at hik
     obtain ⟨n,rfl,hn⟩:=key
     exact step_put h hI (v:=.val i) h2' (fun hd K=>o_convInt hk hu ht h1 hn hd K) K
    ·cases h
   ·cases h
  ·cases h
 ·-- a list's thing
  split at h
  ·rename_i l' m l2 s1 hx hi hls
   split at h
   ·rename_i e' hb ht
    simp only [Bool.and_eq_true] at hb
    obtain rfl:=Nat.eq_of_beq_eq_true hb.1.1
    have hb2:=Nat.eq_of_beq_eq_true hb.1.2
    have htop:s1.top = false:=by simpa using hb.2
    split at h
    ·rename_i bl z hz
     split at h
     ·rename_i hzz
      obtain rfl:=Nat.eq_of_beq_eq_true hzz
      obtain ⟨u,h1,h2⟩:=hs.ev hx
      obtain ⟨u2,h3,rfl⟩:=hs.ev hi
      obtain ⟨t1,t2,t3⟩:=hT s1 hls (by omega) htop
      have hl':E.cur - 1 = l':=by omega
      rw [hl'] at t1 t3
      have hel:e l' = e0 l':=hI.same.1 l' (by omega)
      have hix:(e E.cur).ix = (e0 E.cur).ix:=hI.same.2.2.2.2.1
      rw [← hel] at t1 t3
      rw [← hix] at t3 t2
      obtain ⟨cap,rfl,hcap⟩:=h2.1 (by omega)
      refine step_put h hI (v:=.ptr E.cur 0) (x:=.pointer (some ⟨(e l').lb,0 + (e E.cur).ix * widS s1.fs s1.tg,none⟩)) ?_ (fun hd' K=>oI0 hk ht hz h1 h3 (by omega) hd' K) K
      show _ = Value.pointer (some ⟨(e E.cur).b,(e E.cur).off + 0,none⟩)
      rw [hbb,hI.same.2.2.1,t1,t2,Nat.zero_add,Nat.add_zero]
     ·cases h
    ·cases h
   ·cases h
  ·cases h
 ·-- a call
  rename_i f xs' _ _ _ _
  split at h
  ·rename_i ars hars
   obtain ⟨vs,h1,h2⟩:=hs.evs hars
   have hxe:xs' = xs'.toList.toArray:=by simp
   rw [hxe]
   exact xcall_sound B hI h1 h2 h K
  ·cases h
 ·cases h
theorem xopg_sound (B:Base E e0 w0 Y) (hT:ThingOf E e0) {o:Oper} (h:xopg E.cx E.ls E.cur ops.toList σ o = some σ') (hI:IV E e0 w0 Y items g0 s0 σ a w)
  (K:∀ a' w',IV E e0 w0 Y items g0 s0 σ' a' w' → wpList E.cx.P ops Q rest a' w'):wpList E.cx.P ops Q (o :: rest) a w:=by
 unfold xopg at h
 split at h
 ·exact xop_sound B hT h hI K
 ·rename_i j b hg
  split at h
  ·rename_i dj d hj hd
   have hj':(ops[j]?).bind (·.dst) = some dj:=by rw [← hj]; congr 1; simp
   split at h
   ·rename_i u hu
    have hI0:=hI
    obtain ⟨e,l,s,cs,S,hI⟩:=hI
    obtain ⟨x,hx,rfl⟩:=hI.sr.look hu
    split at h
    ·rename_i hub
     obtain rfl:=eq_of_beq hub
     exact o_want hI.kn ⟨j,u,dj,hg,hj',hx⟩ rfl (xop_sound B hT h hI0 K)
    ·rename_i hub
     have hne:u ≠ b:=fun he=>by subst he; simp at hub
     exact step_put h hI (x:=undef) rfl (fun hdn K=>o_skip hI.kn ⟨j,b,dj,u,hg,hj',hx,hne⟩ hd hdn K) K
   ·cases h
  ·cases h
theorem xbox_sound (B:Base E e0 w0 Y) {o o2:Oper} (h:xbox E.cx E.ls E.cur σ o o2 = some σ') (hI:IV E e0 w0 Y items g0 s0 σ a w)
  (K:∀ a' w',IV E e0 w0 Y items g0 s0 σ' a' w' → wpList E.cx.P ops Q rest a' w'):wpList E.cx.P ops Q (o :: o2 :: rest) a w:=by
 unfold xbox at h
 split at h
 ·rename_i d ety _ _ _ t d' y _ _ _
  split at h
  ·rename_i i s1 z hb hy hls hz
   split at h
   ·rename_i y' hb2 ht
    split at h
    ·cases h
    ·rename_i hyd
     simp only [Bool.and_eq_true] at hb hb2
     obtain rfl:=Nat.eq_of_beq_eq_true hb.1
     have h7:=Nat.eq_of_beq_eq_true hb2.1
     have h16:=Nat.eq_of_beq_eq_true hb2.2
     obtain ⟨hdn,rfl⟩:=put_spec h
     obtain ⟨e,l,s,cs,S,hI⟩:=hI
     have hpd : σ.pd = none:=by
      cases hp : σ.pd with
      | none=>rfl
      | some p=>rw [hp] at hb; exact absurd hb.2 (by simp [isNil])
     have hls':=hI.ls
     rw [hls] at hls'
     obtain rfl:=Option.some.inj hls'
     obtain ⟨u,h1,h2⟩:=hI.sr.ev hy
     have hne:y' ≠ d:=fun he=>hyd (by rw [he]; simp)
     have hst:stC s1.fs (.val i) = some (gus i 16):=by simp only [stC,h7]
     obtain ⟨g1,g2⟩:=stC_sound hls h2 hst
     have hc16:(cellsOf u).length = 16:=by rw [← g1.length]; rfl
     have hcu:cellsOf u = bv (sixteen ((e E.cur).g.q i).s):=by
      have:=gus_spec (Nat.le_refl 16) g1
      rwa [Nat.sub_self,List.drop_zero] at this
     refine step_runs (v:=.pointer (some ⟨w.heap.size,0,none⟩)) (w':=w.alloc (.cells z.cells ety)) hI.kn rfl rfl hdn ?_ fun a1 hk1=>?_
     ·unfold Runs execOp
      simp [Instr.alloc,newVar,newRow,zeroValue_run hz]
     ·have hb0:(w.alloc (.cells z.cells ety)).heap[w.heap.size]? = some (.cells ([] ++ cellsOf z ++ []).toArray ety (0,0)):=by
       rw [List.nil_append,List.append_nil,← cellsOf_eq]
       exact heap_alloc_new w _
      refine o_storeB (pre:=[]) (post:=[]) (cs:=cellsOf z) (o:=0) (b:=w.heap.size) (u:=u) hk1 ht lkS (by
       show look _ y' = _
       rw [lkN hne]; exact h1) hc16 g2 hb0 (by omega) fun a2 w2 ag hb2 hk2=>?_
      have hag:Agr Nob w w2:=(Agr.alloc Nob w (.cells z.cells ety)).trans ag (fun _ _ x=>x) (fun k hk hx=>by subst hx; omega)
      have hsz:=hI.agr.size
      refine K a2 w2 ⟨_,_,_,_,_,((hI.pure B hag).put (d:=d) (v:=.box i) (x:=.pointer (some ⟨w.heap.size,0,none⟩)) hk2 ⟨s1,w.heap.size,hls,h7,rfl,fun j v hj=>⟨?_,?_⟩⟩)⟩
      ·rw [Yl_none hpd]
       intro hy
       have:=B.old _ hy
       omega
      ·have hd:(cellsOf z).drop (0 + (cellsOf u).length) = []:=List.drop_of_length_le (by omega)
       rw [hd] at hb2
       simp only [List.take_zero,List.nil_append,List.append_nil] at hb2
       rw [hcu] at hb2
       have hlt:=(List.getElem?_eq_some_iff.1 hj).1
       simp [World.cell?,hb2,hj]
   ·cases h
  ·cases h
 ·cases h
theorem vway_sound {e:Nat → Lv} {n d:Nat} {P:Program} {p:Value} {ww:World} {Yy:Nat → Prop}:∀ (g:Nat) {sl sl':List (Nat × AV)} {c:Code} {oc os:Oper} {L:List (Nat × Value)} {a:Act} {Q:Exit → Act → World → Prop},vway n d g sl c = some (sl',oc,os) → SR E ww Yy e sl L → Kn n L a → look L d = some p →
  (∀ L' a' ops,SR E ww Yy e sl' L' → Kn n L' a' → look L' d = some p → wpList P ops Q [oc,os] a' w) → c.wp P Q a w
 | 0,sl,sl',c,oc,os,L,a,Q,h,_,_,_,_=>by simp [vway] at h
 | g + 1,sl,sl',c,oc,os,L,a,Q,h,hs,hk,hd,K=>by
  unfold vway at h
  split at h
  ·rename_i id o1 cc x y
   split at h
   ·rename_i m xx _ _ _ ho1
    have hop:=toArr ho1
    subst hop
    split at h
    ·rename_i hb hx
     simp only [Bool.and_eq_true,Bool.not_eq_true'] at hb
     obtain ⟨⟨b1,b2⟩,b3⟩:=hb
     obtain rfl:=Nat.eq_of_beq_eq_true b1
     obtain ⟨u,h1,hu⟩:=hs.ev hx
     have hu:u = _:=hu
     subst hu
     have hmd:d ≠ m:=fun e=>by rw [e] at b3; simp at b3
     refine cR0 ?_
     refine oM0 hk h1 b2 fun a' hk'=>?_
     refine cE0 ?_
     exact c_condT hk' lkS (vway_sound g h (show SR E ww Yy e ((m,_) :: sl) ((m,_) :: L) from ⟨rfl,rfl,hs⟩) hk' (by rw [lkN hmd]; exact hd) K)
    ·rename_i hb hx
     simp only [Bool.and_eq_true,Bool.not_eq_true'] at hb
     obtain ⟨⟨b1,b2⟩,b3⟩:=hb
     obtain rfl:=Nat.eq_of_beq_eq_true b1
     obtain ⟨u,h1,hu⟩:=hs.ev hx
     have hu:u = _:=hu
     subst hu
     have hmd:d ≠ m:=fun e=>by rw [e] at b3; simp at b3
     refine cR0 ?_
     refine oM0 hk h1 b2 fun a' hk'=>?_
     refine cE0 ?_
     exact c_condF hk' lkS (vway_sound g h (show SR E ww Yy e ((m,_) :: sl) ((m,_) :: L) from ⟨rfl,rfl,hs⟩) hk' (by rw [lkN hmd]; exact hd) K)
    ·cases h
   ·cases h
  ·rename_i id ops
   split at h
   ·rename_i o1 o2 hops
    have hop:=toArr hops
    subst hop
    simp only [Option.some.injEq,Prod.mk.injEq] at h
    obtain ⟨rfl,rfl,rfl⟩:=h
    exact c_reg (K L a _ hs hk hd)
   ·cases h
  ·cases h
theorem rdText_nn {flex:Bool} {s:RS}:(rdV 8 false flex s).1.z = false:=rfl
theorem xvv_sound (B:Base E e0 w0 Y) {d ety:Nat} {c b:Code} {id:Nat} {tyo:Nat} {pso:String} {afo:Array Edge} (h:xvv E.cx E.ls E.cur σ d ety c = some σ') (hI:IV E e0 w0 Y items g0 s0 σ a w)
  (K:∀ a' w',IV E e0 w0 Y items g0 s0 σ' a' w' → b.wp E.cx.P Q a' w'):(Code.seq (.region id #[⟨some d,.alloc ety,tyo,pso,afo,none⟩] false) (.seq c b)).wp E.cx.P Q a w:=by
 unfold xvv at h
 split at h
 ·rename_i sl' t f xs _ _ _ _ ty d' t' _ _ _ hv
  split at h
  ·rename_i cp i r s1 z hck hxs hto hls hz
   split at h
   ·rename_i sb hb hty
    simp only [Bool.and_eq_true,Bool.not_eq_true',decide_eq_true_eq,beq_iff_eq] at hb
    obtain ⟨⟨⟨⟨⟨⟨⟨⟨⟨⟨⟨b1,b2⟩,b3⟩,b4⟩,b5⟩,b6⟩,b7⟩,b8⟩,b9⟩,b10⟩,b11⟩,b12⟩:=hb
    obtain rfl:=Nat.eq_of_beq_eq_true b5
    obtain rfl:=Nat.eq_of_beq_eq_true b6
    have hk8:=Nat.eq_of_beq_eq_true b7
    have hz1:=Nat.eq_of_beq_eq_true b11
    obtain rfl:=Option.some.inj h
    obtain ⟨e,l,s,cs,S,hI⟩:=hI
    have hls':=hI.ls
    rw [hls] at hls'
    obtain rfl:=Option.some.inj hls'
    have hpd : σ.pd = none:=by
     cases hp : σ.pd with
     | none=>rfl
     | some p=>rw [hp] at b4; exact absurd b4 (by simp [isNil])
    have hY:=Yl_none (Y:=Y) (e:=e E.cur) hpd
    have htd:t' ≠ d':=fun e=>by rw [e] at b3; simp at b3
    obtain ⟨hc,hcal⟩:=B.cfg f _ (ckOf_mem hck)
    refine cR0 ?_
    refine step_runs (v:=.pointer (some ⟨w.heap.size,0,none⟩)) (w':=w.alloc (.cells z.cells ety)) hI.kn rfl rfl b1 ?_ fun a1 hk1=>?_
    ·unfold Runs execOp
     simp [Instr.alloc,newVar,newRow,zeroValue_run hz]
    refine cE0 ?_
    refine wp_seq ?_
    refine vway_sound (E:=E) (e:=e) (ww:=w) (Yy:=Y) 9 hv (show SR E w Y e ((d',.junk) :: σ.sl) ((d',.pointer (some ⟨w.heap.size,0,none⟩)) :: l) from ⟨rfl,trivial,by have:=hI.sr; rw [hY] at this; exact this⟩) hk1 lkS fun L' a2 ops hs2 hk2 hd2=>?_
    obtain ⟨vs,hvs,har⟩:=hs2.evs hxs
    obtain ⟨x,rfl,rfl⟩:=har.one
    have hag1:Agr Nob w (w.alloc (.cells z.cells ety)):=Agr.alloc Nob w (.cells z.cells ety)
    have hb0:(w.alloc (.cells z.cells ety)).heap[w.heap.size]? = some (.cells ([] ++ cellsOf z ++ []).toArray ety (0,0)):=by
     rw [List.nil_append,List.append_nil,← cellsOf_eq]
     exact heap_alloc_new w _
    have hrdr:=hI.rdr
    rw [hY] at hrdr
    have hrlt:=hrdr.lt
    have hrd1:RdrAt (w.alloc (.cells z.cells ety)) (fun k=>Y k ∨ k = w.heap.size) E.rb E.cx.er s:=by
     obtain ⟨u,h1,h2⟩:=hrdr
     exact ⟨u,by rw [hag1.block _ hrlt (fun h=>h)]; exact h1,Rep.move (fun j hj hy=>⟨hag1.block j hj (fun h=>h),fun h=>h.elim hy (by omega)⟩) _ _ h2⟩
    have hxs2:xs = xs.toList.toArray:=by simp
    rw [hxs2]
    refine o_call hk2 hcal (hc (-1) (ddS (s1.fs.getD i FNIL).sub s1.tg) (fun _=>by decide) hrd1 (.inl B.yr)) hvs b2 fun v w2 a3 hv2 hk3=>?_
    obtain ⟨v1,⟨v2,v3⟩,v4⟩:=hv2
    have hvo:=v3 (by decide)
    have hc1:=cells1 hvo
    have hdd:ddVal 8 (-1) (ddS (s1.fs.getD i FNIL).sub s1.tg) (rdV 8 false cp s).1 = .v (.string (bs (rdV 8 false cp s).1.s)):=by simp [ddVal]
    rw [hc1,hdd] at v2
    have hvv:=rep_v_inv v2
    have hw1:w.heap.size < (w.alloc (.cells z.cells ety)).heap.size:=(Array.getElem?_eq_some_iff.1 hb0).1
    have hw2:=Nat.lt_of_lt_of_le hw1 v1.size
    refine o_storeB (pre:=[]) (post:=[]) (cs:=cellsOf z) (o:=0) (b:=w.heap.size) (u:=v) hk3 hty (by
     show look _ d' = _
     rw [lkN (Ne.symm htd)]; exact hd2) lkS (by rw [hc1]; rfl) (by rw [hc1]; exact one1 hvo) ((v1.block _ hw1 (fun hx=>by have hx':w.heap.size = E.rb:=hx; omega)).trans hb0) (by rw [hc1]; simp only [List.length_singleton]; omega) fun a4 w3 ag3 hb3 hk4=>?_
    have hag12:Agr (fun k=>k = E.rb) w w2:=hag1.trans v1 (fun _ _ x=>x.elim) (fun _ _ x=>x)
    have hag:Agr (fun k=>k = E.rb) w w3:=hag12.trans ag3 (fun _ _ x=>x) (fun k hk hx=>by subst hx; omega)
    have hr:RdrAt w3 (fun b=>b < w.heap.size ∧ Y b) E.rb E.cx.er (rdV 8 false cp s).2:=by
     obtain ⟨u,h1,h2⟩:=v4
     refine ⟨u,by rw [ag3.block _ (Array.getElem?_eq_some_iff.1 h1).1 (fun hx=>by have hx':E.rb = w.heap.size:=hx; omega)]; exact h1,Rep.move (fun j hj hy=>⟨ag3.block j hj (fun hx=>hy ⟨by have hx':j = w.heap.size:=hx; omega,.inr hx⟩),fun hn=>hy ⟨by have:=hn.1; omega,.inl hn.2⟩⟩) _ _ h2⟩
    have hI2:Inv E e0 w0 Y items g0 s0 { σ with sl:=sl' } a2 w e L' s cs s1:=⟨hI.ls,hI.same,hk2,by rw [show Yl Y { σ with sl:=sl' } (e E.cur) = Y from Yl_none hpd]; exact hs2,hI.agr,hI.rdr,hI.blk,hI.cel,hI.none_,hI.pend,hI.fr⟩
    have hread:=hI2.read B hpd hto b12 (g:=(e E.cur).g.set i (rdV 8 false cp s).1) (s':=(rdV 8 false cp s).2) (by
     show (rdF (s1.fs.getD i FNIL) E.cx.V E.cx.flex s).map _ = _
     rw [rdF_val (by omega),hk8,b9,← b10]; rfl) ⟨fun j hj=>by simp [G.set,hj],rfl⟩ hag hr hk4 (v:=.junk) trivial
    refine c_endQ (cT0 (K a4 w3 ⟨_,_,_,_,_,hread.put (d:=d') (v:=.val i) (x:=.pointer (some ⟨w.heap.size,0,none⟩)) (hk4.weakenL fun q y hq=>?_) ?_⟩))
    ·by_cases hqd:q = d'
     ·subst hqd
      rw [lkS] at hq
      rw [lkN (Ne.symm htd),hd2]; exact hq
     ·rw [lkN hqd] at hq; exact hq
    ·rw [Yl_none rfl]
     refine ⟨s1,hls,?_,fun _=>rfl⟩
     rw [withG_eq]
     have:((e E.cur).g.set i (rdV 8 false cp s).1).q i = (rdV 8 false cp s).1:=by simp [G.set]
     show Rep w3 Y (ddF _ _ (((e E.cur).g.set i (rdV 8 false cp s).1).q i)) _
     rw [this,ddF_val (by omega),hk8]
     show Rep w3 Y (if 0 ≤ (s1.fs.getD i FNIL).nu then (if (rdV 8 false cp s).1.z then .v (.pointer none) else .ptr (.v (.string (bs (rdV 8 false cp s).1.s)))) else .v (.string (bs (rdV 8 false cp s).1.s))) [.pointer (some ⟨w.heap.size,0,none⟩)]
     rw [if_pos b8,rdText_nn,if_neg Bool.false_ne_true]
     simp only [Rep]
     refine ⟨w.heap.size,0,[v],rfl,fun j x hj=>⟨fun hy=>?_,?_⟩,by rw [hvv]⟩
     ·have:=B.old _ hy
      have:=hI.agr.size
      omega
     ·have hd0:(cellsOf z).drop (0 + (cellsOf v).length) = []:=List.drop_of_length_le (by rw [hc1]; simp only [List.length_singleton]; omega)
      rw [hd0] at hb3
      simp only [List.take_zero,List.nil_append,List.append_nil,hc1] at hb3
      simp [World.cell?,hb3,hj]
   ·cases h
  ·cases h
 ·cases h
theorem asVV_spec {a c b:Code} {y:Code} {d e:Nat} (h:asVV a y = some (d,e,c,b)):∃ id tyo pso afo,a = .region id #[⟨some d,.alloc e,tyo,pso,afo,none⟩] false ∧ y = .seq c b:=by
 unfold asVV at h
 split at h
 ·split at h
  ·rename_i hops
   have hop:=toArr hops
   subst hop
   simp only [Option.some.injEq,Prod.mk.injEq] at h
   obtain ⟨rfl,rfl,rfl,rfl⟩:=h
   exact ⟨_,_,_,_,rfl,rfl⟩
  ·cases h
 ·cases h
theorem xops_sound {ops:Array Oper} (B:Base E e0 w0 Y) (hT:ThingOf E e0):∀ (l:List Oper) {σ σ':St} {a:Act} {w:World},xops E.cx E.ls E.cur ops.toList l σ = some σ' → IV E e0 w0 Y items g0 s0 σ a w →
  (∀ a' w',IV E e0 w0 Y items g0 s0 σ' a' w' → Q .normal a' w') → wpList E.cx.P ops Q l a w
 | [],σ,σ',a,w,h,hI,K=>by simp only [xops,Option.some.injEq] at h; subst h; exact K _ _ hI
 | o :: r,σ,σ',a,w,h,hI,K=>by
  unfold xops at h
  split at h
  ·rename_i τ hτ
   exact xopg_sound B hT hτ hI fun a' w' hI'=>xops_sound B hT r h hI' K
  ·split at h
   ·rename_i o2 r2
    split at h
    ·rename_i τ hτ
     exact xbox_sound B hτ hI fun a' w' hI'=>xops_sound B hT r2 h hI' K
    ·cases h
   ·cases h
end
end Go.Mk.Er
namespace Go.Mk.Er
open Go Go.Mk
open Go.Mk.Ea (ikOf)
section
variable {P:Program} {Q:Exit → Act → World → Prop} {a:Act} {w:World} {n:Nat} {l:List (Nat × Value)}
def clear_ (own:List Nat) (L:List (Nat × Value)):Prop:=∀ p ∈ L,own.any (Nat.beq p.1) = false
theorem clear_look {own:List Nat} {L:List (Nat × Value)} (h:clear_ own L) {s:Nat} {v:Value} (hv:look L s = some v):∀ x ∈ own,s ≠ x:=fun x hx e=>by
 have h1:=h _ (look_mem hv)
 subst e
 have:own.any (Nat.beq s) = true:=List.any_eq_true.2 ⟨s,hx,Nat.beq_refl s⟩
 rw [h1] at this
 cases this
def RoundPost32 (n i ln:Nat) (own:List Nat) (m:Int) (k id:Nat) (R:Nat → List (Nat × Value) → World → Prop) (Q:Exit → Act → World → Prop):Exit → Act → World → Prop
 | .normal,a',w'=>∃ L',Kn n ((i,.int .i32 (k:Int)) :: (ln,.int .i32 m) :: L') a' ∧ clear_ own L' ∧ R (k + 1) L' w'
 | e,a',w'=>Exit.inBlock id Q e a' w'
theorem apart_spec:∀ {l:List Nat},apart l = true → l.Nodup
 | [],_=>List.nodup_nil
 | x :: r,h=>by
  simp only [apart,Bool.and_eq_true,Bool.not_eq_true'] at h
  refine List.nodup_cons.2 ⟨fun hx=>?_,apart_spec h.2⟩
  have:r.any (Nat.beq x) = true:=List.any_eq_true.2 ⟨x,hx,Nat.beq_refl x⟩
  rw [h.1] at this
  cases this
theorem c_range32 {id idb i ln ta tb c tc td:Nat} {body:Code} {r1 r2 t2 t2' t3 t3' q1 q2 q3 q4 q5 q6:Nat} {p1 p2 p3 p4 p5 p6:String} {af1 af2 af3 af4 af5 af6:Array Edge} {L0:List (Nat × Value)} (m:Int) (hN:m ≤ 2147483647) (R:Nat → List (Nat × Value) → World → Prop)
  (hk:Kn n ((i,.int .i32 0) :: (ln,.int .i32 m) :: L0) a) (h0:R 0 L0 w)
  (hin:[i,ln,ta,tb,c,tc,td].all (fun s=>Nat.blt s n) = true) (hap:apart [i,ln,ta,tb,c,tc,td] = true)
  (hbody:∀ k L a w,k < m.toNat → R k L w → Kn n ((i,.int .i32 (k:Int)) :: (ln,.int .i32 m) :: L) a →
   body.wp P (Exit.inBlock idb (RoundPost32 n i ln [i,ln,ta,tb,c,tc,td] m k id R Q)) a w)
  (hL0:clear_ [i,ln,ta,tb,c,tc,td] L0)
  (hend:∀ L a w,R m.toNat L w → Kn n ((i,.int .i32 (m.toNat:Int)) :: (ln,.int .i32 m) :: L) a → Q .normal a w) :
  (Code.block id (.loop (.seq (.seq (.region r1 [⟨some ta,.move (.tmp i),q1,p1,af1,none⟩,⟨some tb,.move (.tmp ln),q2,p2,af2,none⟩,⟨some c,.binOp .lss t2 (.tmp ta) (.tmp tb) t3,q3,p3,af3,none⟩].toArray false) (.cond (.tmp c) .skip (.exit id)))
   (.seq (.block idb body)
    (.region r2 [⟨some tc,.move (.tmp i),q4,p4,af4,none⟩,⟨some td,.binOp .add t2' (.tmp tc) (.const (.int .i32 1)) t3',q5,p5,af5,none⟩,⟨some i,.assign (.tmp td),q6,p6,af6,none⟩].toArray false))))).wp P Q a w:=by
 have hnd:=apart_spec hap
 simp only [List.nodup_cons,List.mem_cons,List.not_mem_nil,or_false,not_or,List.nodup_nil,and_true,not_false_eq_true] at hnd
 obtain ⟨⟨n1,n2,n3,n4,n5,n6⟩,⟨n7,n8,n9,n10,n11⟩,⟨n12,n13,n14,n15⟩,⟨n16,n17,n18⟩,⟨n19,n20⟩,n21⟩:=hnd
 simp only [List.all_cons,List.all_nil,Bool.and_true,Bool.and_eq_true] at hin
 obtain ⟨b1,b2,b3,b4,b5,b6,b7⟩:=hin
 refine wp_block ?_
 refine wp_loop_ghost (fun g a w=>∃ k L,g = m.toNat - k ∧ k ≤ m.toNat ∧ R k L w ∧ Kn n ((i,.int .i32 (k:Int)) :: (ln,.int .i32 m) :: L) a ∧ clear_ [i,ln,ta,tb,c,tc,td] L) m.toNat
  ⟨0,L0,by omega,Nat.zero_le _,h0,hk,hL0⟩ ?_
 rintro g a w ⟨k,L,rfl,hkN,hR,hk,hL⟩
 refine wp_seq ?_
 refine cR0 ?_
 refine oM0 (v:=.int .i32 (k:Int)) hk lkS b3 fun a hk1=>?_
 refine oM0 (v:=.int .i32 m) hk1 (by
  show look _ ln = _
  rw [lkN n7,lkN (Ne.symm n1),lkS]) b4 fun a hk2=>?_
 refine o_icmp (i:=(k:Int)) (j:=m) (b:=decide ((k:Int) < m)) hk2 (by
  show look _ ta = _
  rw [lkN n12,lkS]) lkS rfl b5 fun a hk3=>?_
 refine cE0 ?_
 have hback:∀ {u1 u2 u3:Value} {a:Act},Kn n ((c,u1) :: (tb,u2) :: (ta,u3) :: (i,.int .i32 (k:Int)) :: (ln,.int .i32 m) :: L) a → Kn n ((i,.int .i32 (k:Int)) :: (ln,.int .i32 m) :: L) a:=fun hk=>hk.weakenL fun s v hv=>by
  have hs:s ≠ c ∧ s ≠ tb ∧ s ≠ ta:=by
   by_cases hsi:s = i
   ·subst hsi; exact ⟨n4,n3,n2⟩
   ·rw [lkN hsi] at hv
    by_cases hsl:s = ln
    ·subst hsl; exact ⟨n9,n8,n7⟩
    ·rw [lkN hsl] at hv
     have:=clear_look hL hv
     exact ⟨this c (by simp),this tb (by simp),this ta (by simp)⟩
  rw [lkN hs.1,lkN hs.2.1,lkN hs.2.2]
  exact hv
 by_cases hlt:k < m.toNat
 ·have hd:decide ((k:Int) < m) = true:=by simp; omega
  rw [hd] at hk3
  refine c_condT hk3 lkS ?_
  refine wp_skip ?_
  refine wp_seq ?_
  refine wp_block ?_
  refine Code.wp_mono ?_ (hbody k L a w hlt hR (hback hk3))
  intro e a' w' h
  have fin:∀ (L':List (Nat × Value)),Kn n ((i,.int .i32 (k:Int)) :: (ln,.int .i32 m) :: L') a' → clear_ [i,ln,ta,tb,c,tc,td] L' → R (k + 1) L' w' →
    (Code.region r2 [⟨some tc,.move (.tmp i),q4,p4,af4,none⟩,⟨some td,.binOp .add t2' (.tmp tc) (.const (.int .i32 1)) t3',q5,p5,af5,none⟩,⟨some i,.assign (.tmp td),q6,p6,af6,none⟩].toArray false).wp P
     (Exit.then (fun a' w'=>∃ n',n' < m.toNat - k ∧ ∃ k L,n' = m.toNat - k ∧ k ≤ m.toNat ∧ R k L w' ∧ Kn n ((i,.int .i32 (k:Int)) :: (ln,.int .i32 m) :: L) a' ∧ clear_ [i,ln,ta,tb,c,tc,td] L) (Exit.inBlock id Q)) a' w':=by
   intro L' hk' hL' hR'
   refine c_reg ?_
   refine oM0 (v:=.int .i32 (k:Int)) hk' lkS b6 fun a hk=>?_
   refine o_iarith (i:=(k:Int)) (j:=1) (z:=(k:Int) + 1) (c:=((k + 1:Nat):Int)) hk lkS rfl rfl (by
    simp only [IntKind.wrap,IntKind.bits,IntKind.signed]; simp; omega) b7 fun a hk=>?_
   refine oA0 (v:=.int .i32 ((k + 1:Nat):Int)) hk lkS b1 fun a hk=>?_
   refine c_endQ ?_
   refine ⟨m.toNat - (k + 1),by omega,k + 1,L',rfl,by omega,hR',?_,hL'⟩
   refine hk.weakenL fun s v hv=>?_
   by_cases hsi:s = i
   ·subst hsi; rw [lkS] at hv ⊢; exact hv
   ·rw [lkN hsi] at hv ⊢
    have hs:s ≠ td ∧ s ≠ tc:=by
     by_cases hsl:s = ln
     ·subst hsl; exact ⟨n11,n10⟩
     ·rw [lkN hsl] at hv
      have:=clear_look hL' hv
      exact ⟨this td (by simp),this tc (by simp)⟩
    rw [lkN hs.1,lkN hs.2,lkN hsi]
    exact hv
  cases e with
  | normal=>obtain ⟨L',hk',hL',hR'⟩:=h; exact fin L' hk' hL' hR'
  | exit id' =>
   simp only [Exit.inBlock] at h ⊢
   split at h
   ·rename_i he; subst he; rw [if_pos rfl]; obtain ⟨L',hk',hL',hR'⟩:=h; exact fin L' hk' hL' hR'
   ·rename_i he; rw [if_neg he]; exact h
  | goto l=>exact h
  | ret=>exact h
  | panic ch=>exact h
  | outgrown=>exact h
 ·have hkN':k = m.toNat:=by omega
  subst hkN'
  have hd:decide (((m.toNat:Nat):Int) < m) = false:=by simp; omega
  rw [hd] at hk3
  refine c_condF hk3 lkS ?_
  refine wp_exit ?_
  exact c_thenExit (c_thenExit (c_inSame (hend L a w hR (hback hk3))))
end
theorem asLoop_spec {c:Code} {r:RP} (h:asLoop c = some r):∃ r1 r2 t2 t2' t3 t3' q1 q2 q3 q4 q5 q6 p1 p2 p3 p4 p5 p6 af1 af2 af3 af4 af5 af6,c =
  Code.block r.id (.loop (.seq (.seq (.region r1 [⟨some r.ta,.move (.tmp r.i),q1,p1,af1,none⟩,⟨some r.tb,.move (.tmp r.ln),q2,p2,af2,none⟩,⟨some r.c,.binOp .lss t2 (.tmp r.ta) (.tmp r.tb) t3,q3,p3,af3,none⟩].toArray false) (.cond (.tmp r.c) .skip (.exit r.id)))
   (.seq (.block r.idb r.body)
    (.region r2 [⟨some r.tc,.move (.tmp r.i),q4,p4,af4,none⟩,⟨some r.td,.binOp .add t2' (.tmp r.tc) (.const (.int .i32 1)) t3',q5,p5,af5,none⟩,⟨some r.i,.assign (.tmp r.td),q6,p6,af6,none⟩].toArray false)))):=by
 unfold asLoop at h
 split at h
 ·rename_i id t1 o1 c id' idb body t5 o2
  split at h
  ·rename_i h1 h2
   split at h
   ·rename_i hb
    obtain rfl:=Option.some.inj h
    simp only [Bool.and_eq_true] at hb
    obtain ⟨⟨⟨⟨⟨⟨⟨b1,b2⟩,b3⟩,b4⟩,b5⟩,b6⟩,b7⟩,b8⟩:=hb
    have e1:=Nat.eq_of_beq_eq_true b1
    have e2:=Nat.eq_of_beq_eq_true b2
    have e3:=Nat.eq_of_beq_eq_true b3
    have e4:=Nat.eq_of_beq_eq_true b4
    have e5:=Nat.eq_of_beq_eq_true b5
    have e6:=Nat.eq_of_beq_eq_true b6
    have e7:=Nat.eq_of_beq_eq_true b7
    have e8:=Nat.eq_of_beq_eq_true b8
    subst e1 e2 e3 e4 e6 e8
    rw [toArr h1,toArr h2]
    subst e5
    subst e7
    exact ⟨_,_,_,_,_,_,_,_,_,_,_,_,_,_,_,_,_,_,_,_,_,_,_,_,rfl⟩
   ·cases h
  ·cases h
 ·cases h
theorem prim_has {k:Nat} {V:Int} (h : 0 ≤ V):(Fld.mk k 0 (-1) (-1) (-1) 0 0 []).has V = true:=has_of (by omega) (.inl (by decide))
section
variable {cx:Cx} {s:LS} {f:Fld}
theorem inner_part (h:Nat.beq f.of 10 = true):inner s f = ⟨f.sub,s.tg,false⟩:=by unfold inner; rw [h]
theorem inner_prim (h:Nat.beq f.of 10 = false):inner s f = ⟨[.mk f.of 0 (-1) (-1) (-1) 0 0 []],false,false⟩:=by unfold inner; rw [h]
theorem thing_read (h:goodSub cx s f = true) {g g':G} {sk s':RS} {w:World} {Y:Nat → Prop} {c:List Value}
  (hr:runI (inner s f).fs cx.V cx.flex (its (inner s f).fs cx.V (cx.flex && (inner s f).tg)) g sk = some (g',s')) (hc:ACs w Y (inner s f).fs (inner s f).tg g' (acS (inner s f).fs (inner s f).tg cx.V cx.flex) c) :
  ∃ t,rdOne cx f sk = some (t,s') ∧ Rep w Y (ddVal f.of (-1) (ddS f.sub s.tg) t) c:=by
 unfold goodSub at h
 cases h10:Nat.beq f.of 10 with
 | true =>
  rw [h10] at h
  simp only [Bool.and_eq_true] at h
  have e10:=Nat.eq_of_beq_eq_true h10
  rw [inner_part h10] at hr hc
  simp only at hr hc
  have ef:(cx.flex && s.tg) = cx.flex:=by
   have:=h.2
   revert this
   cases cx.flex <;> cases s.tg <;> simp
  rw [ef] at hr
  have h1:=(runI_part (V:=cx.V) (flex:=cx.flex) g sk f.sub).1 _ _ hr
  have h2:=acS_rep h.1 h.2 hc
  refine ⟨.mk 0 [] false (qs cx.V g'.q f.sub 0) (if cx.flex then g'.u else []),?_,?_⟩
  ·unfold rdOne
   rw [e10]
   exact h1
  ·rw [e10]
   exact h2
 | false =>
  rw [h10] at h
  have hlt:f.of < 10:=by simpa [Nat.blt_eq] using h
  rw [inner_prim h10] at hr hc
  simp only [Bool.and_false] at hr hc
  have hh:(Fld.mk f.of 0 (-1) (-1) (-1) 0 0 []).has cx.V = true:=prim_has (by omega)
  have e1:its [Fld.mk f.of 0 (-1) (-1) (-1) 0 0 []] cx.V false = [.fld 0]:=by simp [its,itF,hh]
  rw [e1] at hr
  have hmay:(Fld.mk f.of 0 (-1) (-1) (-1) 0 0 []).mayR cx.V = false:=by
   have h1:(Fld.mk f.of 0 (-1) (-1) (-1) 0 0 []).may cx.V = false:=by simp [Fld.may,Fld.nu]
   unfold Fld.mayR
   rw [h1]
   exact Bool.and_false _
  have hrd:rdF (Fld.mk f.of 0 (-1) (-1) (-1) 0 0 []) cx.V cx.flex sk = some (rdV f.of false cx.flex sk):=by
   rw [rdF_val (f:=.mk f.of 0 (-1) (-1) (-1) 0 0 []) hlt,hmay]; rfl
  simp only [runI,rdI,List.getD_cons_zero,hrd,Option.map_some,Option.bind_some,Option.some.injEq,Prod.mk.injEq] at hr
  obtain ⟨rfl,rfl⟩:=hr
  refine ⟨(rdV f.of false cx.flex sk).1,?_,?_⟩
  ·unfold rdOne
   rw [rdV_eq (by omega)]
  ·have hq:(g.set 0 (rdV f.of false cx.flex sk).1).q 0 = (rdV f.of false cx.flex sk).1:=by simp [G.set]
   have hst:∀ t:T,ddVal f.of (-1) (ddS f.sub s.tg) t = ddVal f.of (-1) (ddS [] false) t:=fun t=>by
    generalize f.of = q at hlt
    match q,hlt with
    | 0,_=>rfl
    | 1,_=>rfl
    | 2,_=>rfl
    | 3,_=>rfl
    | 4,_=>rfl
    | 5,_=>rfl
    | 6,_=>rfl
    | 7,_=>rfl
    | 8,_=>rfl
    | 9,_=>rfl
   rw [hst]
   have hdd:ddF (Fld.mk f.of 0 (-1) (-1) (-1) 0 0 []) false (rdV f.of false cx.flex sk).1 = ddVal f.of (-1) (ddS [] false) (rdV f.of false cx.flex sk).1:=ddF_val (f:=.mk f.of 0 (-1) (-1) (-1) 0 0 []) (by show f.of ≠ 11; omega)
   unfold acS acF at hc
   rw [hh] at hc
   simp only at hc
   split at hc
   ·rename_i h7
    have h7':f.of = 7:=h7
    obtain ⟨c1,c2,rfl,g1,g2⟩:=ACs.app hc
    have h3:=gus_spec (Nat.le_refl 16) g1
    rw [Nat.sub_self,List.drop_zero,hq] at h3
    have:c2 = []:=by
     match c2,g2 with
     | [],_=>rfl
    subst this
    rw [List.append_nil,h3,h7']
    exact rep_agg (rep_bytes _)
   ·rename_i h10'
    have h10'':f.of = 10:=h10'
    omega
   ·match c,hc with
    | [x],hc =>
     have h3:Rep w Y (ddF (Fld.mk f.of 0 (-1) (-1) (-1) 0 0 []) false ((g.set 0 (rdV f.of false cx.flex sk).1).q 0)) [x]:=hc.1
     rw [hq,hdd] at h3
     exact h3
theorem thing_none (h:goodSub cx s f = true) {g:G} {sk:RS} (hr:runI (inner s f).fs cx.V cx.flex (its (inner s f).fs cx.V (cx.flex && (inner s f).tg)) g sk = none):rdOne cx f sk = none:=by
 unfold goodSub at h
 cases h10:Nat.beq f.of 10 with
 | true =>
  rw [h10] at h
  simp only [Bool.and_eq_true] at h
  have e10:=Nat.eq_of_beq_eq_true h10
  rw [inner_part h10] at hr
  simp only at hr
  have ef:(cx.flex && s.tg) = cx.flex:=by
   have:=h.2
   revert this
   cases cx.flex <;> cases s.tg <;> simp
  rw [ef] at hr
  have h1:=(runI_part (V:=cx.V) (flex:=cx.flex) g sk f.sub).2 hr
  unfold rdOne
  rw [e10]
  exact h1
 | false =>
  rw [h10] at h
  have hlt:f.of < 10:=by simpa [Nat.blt_eq] using h
  rw [inner_prim h10] at hr
  simp only [Bool.and_false] at hr
  have hh:(Fld.mk f.of 0 (-1) (-1) (-1) 0 0 []).has cx.V = true:=prim_has (by omega)
  have e1:its [Fld.mk f.of 0 (-1) (-1) (-1) 0 0 []] cx.V false = [.fld 0]:=by simp [its,itF,hh]
  rw [e1] at hr
  simp [runI,rdI,rdF_val (f:=.mk f.of 0 (-1) (-1) (-1) 0 0 []) hlt] at hr
theorem inner_wid (h:goodSub cx s f = true):widS (inner s f).fs (inner s f).tg = widVal f.of (-1) (widS f.sub s.tg):=by
 unfold goodSub at h
 cases h10:Nat.beq f.of 10 with
 | true =>
  rw [inner_part h10,Nat.eq_of_beq_eq_true h10]
  simp [widVal]
 | false =>
  rw [h10] at h
  have hlt:f.of < 10:=by simpa [Nat.blt_eq] using h
  rw [inner_prim h10]
  simp only [widS,widFs,widF,Bool.toNat_false,Nat.add_zero]
  rw [if_neg (by omega)]
  generalize f.of = q at hlt
  match q,hlt with
  | 0,_=>rfl
  | 1,_=>rfl
  | 2,_=>rfl
  | 3,_=>rfl
  | 4,_=>rfl
  | 5,_=>rfl
  | 6,_=>rfl
  | 7,_=>rfl
  | 8,_=>rfl
  | 9,_=>rfl
end
end Go.Mk.Er
namespace Go.Mk.Er
open Go Go.Mk
theorem Yl_some {Y:Nat → Prop} {σ : St} {e:Lv} {p:Pd} {z:List Value} (h : σ.pd = some p) (hz:p.z = some z):Yl Y σ e = fun k=>Y k ∨ (0 < e.cnt ∧ k = e.lb):=by
 funext k
 unfold Yl
 refine propext ⟨fun hk=>hk.elim .inl ?_,fun hk=>hk.elim .inl fun hk=>.inr ⟨p,z,h,hz,hk⟩⟩
 rintro ⟨p',z',h1,h2,h3⟩
 exact .inr h3
theorem Yl_eq {Y:Nat → Prop} {σ τ : St} {e:Lv} (h:(∀ p,σ.pd = some p → ∃ q,τ.pd = some q ∧ q.z = p.z) ∧ (∀ p,τ.pd = some p → ∃ q,σ.pd = some q ∧ q.z = p.z)):Yl Y σ e = Yl Y τ e:=by
 funext k
 unfold Yl
 refine propext ⟨fun hk=>hk.elim .inl ?_,fun hk=>hk.elim .inl ?_⟩
 ·rintro ⟨p,z,h1,h2,h3⟩
  obtain ⟨q,q1,q2⟩:=h.1 p h1
  exact .inr ⟨q,z,q1,q2.trans h2,h3⟩
 ·rintro ⟨p,z,h1,h2,h3⟩
  obtain ⟨q,q1,q2⟩:=h.2 p h1
  exact .inr ⟨q,z,q1,q2.trans h2,h3⟩
section
variable {E:En} {e0 e:Nat → Lv} {w0 w w':World} {Y:Nat → Prop} {items:List It} {g0:G} {s0 s:RS} {σ σ':St} {a a':Act} {l:List (Nat × Value)} {cs:List Value} {S:LS}
theorem Inv.know (h:Inv E e0 w0 Y items g0 s0 σ a w e l s cs S) {p q:Pd} (hp : σ.pd = some p) (hz:q.z = p.z) (hl:q.lp = p.lp) (hb:∀ sb,(rdCnt E.cx.flex sb).2.bad = s.bad ∨ p.lp = true → (∀ b,p.bk = some b → (rdCnt E.cx.flex sb).2.bad = b) → ∀ b,q.bk = some b → (rdCnt E.cx.flex sb).2.bad = b) (hs:SgOk (e E.cur).cnt p.sg → SgOk (e E.cur).cnt q.sg) :
  Inv E e0 w0 Y items g0 s0 { σ with pd:=some q } a w e l s cs S:=by
 have hY:Yl Y { σ with pd:=some q } (e E.cur) = Yl Y σ (e E.cur):=Yl_eq ⟨fun p' h'=>⟨p,hp,by obtain rfl:=Option.some.inj h'; exact hz.symm⟩,fun p' h'=>⟨q,rfl,by rw [hp] at h'; obtain rfl:=Option.some.inj h'; exact hz⟩⟩
 refine ⟨h.ls,h.same,h.kn,by rw [hY]; exact h.sr,h.agr,by rw [hY]; exact h.rdr,h.blk,by rw [hY]; exact h.cel,fun hp=>(by cases hp),fun p' hp'=>?_,h.fr⟩
 obtain rfl:=Option.some.inj hp'
 obtain ⟨i,r,s1,k1,k2,k3,p1,p2,p3,p4,p5,p6⟩:=h.pend p hp
 rw [hY]
 refine ⟨i,r,s1,k1,k2,k3,p1,hb s1 ?_ p2,hs p3,fun hlp=>p4 (by rw [← hl]; exact hlp),fun hlp=>?_,fun hlp z hz'=>p6 (by rw [← hl]; exact hlp) z (by rw [← hz]; exact hz')⟩
 ·cases hlp:p.lp with
  | true=>exact .inr rfl
  | false=>exact .inl (by rw [p4 hlp])
 ·obtain ⟨xs,q1,q2,q3⟩:=p5 (by rw [← hl]; exact hlp)
  exact ⟨xs,q1,q2,fun z hz'=>q3 z (by rw [← hz]; exact hz')⟩
theorem Inv.slots (h:Inv E e0 w0 Y items g0 s0 σ a w e l s cs S) {sl:List (Nat × AV)} {l':List (Nat × Value)} (hs:SR E w (Yl Y σ (e E.cur)) e sl l') (hl:∀ s v,look l' s = some v → look l s = some v):Inv E e0 w0 Y items g0 s0 { σ with sl:=sl } a w e l' s cs S :=
 ⟨h.ls,h.same,h.kn.weakenL hl,hs,h.agr,h.rdr,h.blk,h.cel,h.none_,h.pend,h.fr⟩
theorem Inv.unfr (h:Inv E e0 w0 Y items g0 s0 σ a w e l s cs S):Inv E e0 w0 Y items g0 s0 { σ with fr:=false } a w e l s cs S :=
 ⟨h.ls,h.same,h.kn,h.sr,h.agr,h.rdr,h.blk,h.cel,h.none_,h.pend,fun hf=>by cases hf⟩
theorem joinG_a {u v:AV} {x:Value} (hpos : 0 < (e E.cur).cnt) {Yy:Nat → Prop} (h:VR E w Yy e u x):VR E w Yy e (joinG E.cur u v) x:=by
 unfold joinG
 split
 ·split
  ·rename_i hl
   rw [Nat.eq_of_beq_eq_true hl]
   exact ⟨fun _=>h.2,fun hn=>absurd hpos (by omega)⟩
  ·trivial
 ·split
  ·exact h
  ·trivial
theorem joinG_b {u v:AV} {x:Value} (hn:(e E.cur).cnt ≤ 0) {Yy:Nat → Prop} (h:VR E w Yy e v x):VR E w Yy e (joinG E.cur u v) x:=by
 unfold joinG
 split
 ·split
  ·rename_i hl
   have hl:=Nat.eq_of_beq_eq_true hl
   subst hl
   exact ⟨fun hc=>absurd hc (by omega),fun _=>h⟩
  ·trivial
 ·split
  ·rename_i hi
   exact AV.is_vr hi h
  ·trivial
theorem joinE_a {u v:AV} {x:Value} (hz:(e E.cur).cnt = 0) {Yy:Nat → Prop} (h:VR E w Yy e u x):VR E w Yy e (joinE E.cur u v) x:=by
 unfold joinE
 split
 ·split
  ·exact ⟨fun _=>h,fun hc=>absurd hz hc⟩
  ·trivial
 ·split
  ·exact h
  ·trivial
theorem joinE_b {u v:AV} {x:Value} (hz:(e E.cur).cnt ≠ 0) {Yy:Nat → Prop} (h:VR E w Yy e v x):VR E w Yy e (joinE E.cur u v) x:=by
 unfold joinE
 split
 ·split
  ·exact ⟨fun hc=>absurd hc hz,fun _=>h⟩
  ·trivial
 ·split
  ·rename_i hi
   exact AV.is_vr hi h
  ·trivial
theorem Inv.vac (h:Inv E e0 w0 Y items g0 s0 σ a w e l s cs S) {p:Pd} (hp : σ.pd = some p) (hpz:p.z = none) (hlp:p.lp = false) (hn:(e E.cur).cnt ≤ 0) {zz:Option (List Value)} (hz:zOk E.ls E.cur σ.todo zz = true):Inv E e0 w0 Y items g0 s0 { σ with pd:=some { p with z:=zz } } a w e l s cs S:=by
 have hY0:Yl Y σ (e E.cur) = Y:=Yl_z fun p' h'=>by rw [hp] at h'; obtain rfl:=Option.some.inj h'; exact hpz
 have hY:Yl Y { σ with pd:=some { p with z:=zz } } (e E.cur) = Y:=by
  cases hzz:zz with
  | none=>exact Yl_z fun p' h'=>by obtain rfl:=Option.some.inj h'; rfl
  | some z =>
   rw [Yl_some (p:={ p with z:=some z }) (z:=z) rfl rfl]
   funext k
   exact propext ⟨fun hk=>hk.elim id fun hk=>absurd hk.1 (by omega),.inl⟩
 have hsr:=h.sr
 have hcel:=h.cel
 have hrdr:=h.rdr
 rw [hY0] at hsr hcel hrdr
 refine ⟨h.ls,h.same,h.kn,by rw [hY]; exact hsr,h.agr,by rw [hY]; exact hrdr,h.blk,by rw [hY]; exact hcel,fun hp=>(by cases hp),fun p' hp'=>?_,h.fr⟩
 obtain rfl:=Option.some.inj hp'
 obtain ⟨i,r,s1,k1,k2,k3,p1,p2,p3,p4,p5,p6⟩:=h.pend p hp
 refine ⟨i,r,s1,k1,k2,k3,p1,p2,p3,p4,fun hb=>absurd (show p.lp = true from hb) (by rw [hlp]; exact Bool.false_ne_true),fun _ z hz'=>⟨?_,fun hc=>absurd hc (by omega)⟩⟩
 have hzz:zz = some z:=hz'
 rw [hzz,k1] at hz
 unfold zOk at hz
 rw [h.ls] at hz
 simp only [Bool.and_eq_true] at hz
 exact ⟨Nat.eq_of_beq_eq_true hz.1,hz.2⟩
theorem joinZ_spec {za zb zz:Option (List Value)} (h:joinZ za zb = some zz):zb = none ∧ za = zz:=by
 unfold joinZ at h
 split at h
 ·exact ⟨rfl,Option.some.inj h⟩
 ·exact ⟨rfl,Option.some.inj h⟩
 ·cases h
theorem VR.lowV {cur:Nat} {Yy:Nat → Prop}:∀ (v:AV) (x:Value),VR E w Yy e v x → VR E w Yy e (AV.lowV cur v) x:=by
 intro v x h
 unfold AV.lowV
 split
 ·exact h
 ·trivial
theorem VR.lower {E':En} {e':Nat → Lv} {w':World} {Y1 Y2:Nat → Prop} (hrb:E'.rb = E.rb) {cur:Nat} (h:∀ l,l ≤ cur → e' l = e l):∀ {v:AV} {x:Value},v.low cur = true → VR E w Y1 e v x → VR E' w' Y2 e' v x
 | .junk,_,_,_=>trivial
 | .k _,_,_,hv=>hv
 | .rdr,x,_,hv=>by show x = _; rw [hrb]; exact hv
 | .ptr l o,x,hl,hv=>by have:=h l (Nat.le_of_ble_eq_true hl); show x = _; rw [this]; exact hv
 | .cnt l,x,hl,hv=>by have:=h l (Nat.le_of_ble_eq_true hl); show x = _; rw [this]; exact hv
 | .arr l m,x,hl,hv=>by have:=h l (Nat.le_of_ble_eq_true hl); show (0 < (e' l).cnt → Made (e' l) x) ∧ ((e' l).cnt ≤ 0 → BaseOk (e' l).cnt m x); rw [this]; exact hv
 | .idx l,x,hl,hv=>by have:=h l (Nat.le_of_ble_eq_true hl); show x = _; rw [this]; exact hv
 | .val _,_,hl,_=>by cases hl
 | .tagv,_,hl,_=>by cases hl
 | .okb _,_,hl,_=>by cases hl
 | .gt0,_,hl,_=>by cases hl
 | .eq0,_,hl,_=>by cases hl
 | .base _ _,_,hl,_=>by cases hl
 | .made,_,hl,_=>by cases hl
 | .box _,_,hl,_=>by cases hl
 | .res,_,hl,_=>by cases hl
def lows (cur:Nat):List (Nat × AV) → Bool
 | []=>true
 | p :: r=>p.2.low cur && lows cur r
theorem lows_mapV {cur:Nat}:∀ sl:List (Nat × AV),lows cur (mapV (AV.lowV cur) sl) = true
 | []=>rfl
 | p :: r=>by
  simp only [mapV,lows,Bool.and_eq_true]
  refine ⟨?_,lows_mapV r⟩
  unfold AV.lowV
  split
  ·assumption
  ·rfl
theorem SR.lower {E':En} {e':Nat → Lv} {w':World} {Y1 Y2:Nat → Prop} (hrb:E'.rb = E.rb) {cur:Nat} (h:∀ l,l ≤ cur → e' l = e l):∀ {sl:List (Nat × AV)} {l:List (Nat × Value)},lows cur sl = true → SR E w Y1 e sl l → SR E' w' Y2 e' sl l
 | [],[],_,_=>trivial
 | [],_ :: _,_,hs=>by simp [SR] at hs
 | _ :: _,[],_,hs=>by simp [SR] at hs
 | p :: r,q :: s,hl,hs=>by
  simp only [lows,Bool.and_eq_true] at hl
  simp only [SR] at hs ⊢
  exact ⟨hs.1,VR.lower hrb h hl.1 hs.2.1,SR.lower hrb h hl.2 hs.2.2⟩
theorem rdEach_none {one:RS → Option (T × RS)} {s:RS} (h:one s = none) {n:Nat}:rdEach one (n + 1) s = none:=by simp [rdEach,h]
theorem rdEach_some {one:RS → Option (T × RS)} {s s':RS} {t:T} (h:one s = some (t,s')) {n:Nat}:rdEach one (n + 1) s = (rdEach one n s').map fun p=>(t :: p.1,p.2):=by
 simp only [rdEach,h]
 cases rdEach one n s' <;> rfl
theorem lsAt_new {ls:List LS} {s':LS}:(ls ++ [s'])[ls.length]? = some s':=by simp
def Fails (E:En) (e0:Nat → Lv) (w0:World) (S:LS) (items:List It) (g0:G) (s0:RS) (Q:Exit → Act → World → Prop):Prop :=
 runI S.fs E.cx.V E.cx.flex items g0 s0 = none → ∀ a' w' l x,Kn E.cx.n l a' → look l E.cx.rt = some x → E.cx.err x → Agr (fun k=>k = E.rb ∨ k = (e0 E.cur).b) w0 w' → Q .ret a' w'
end
end Go.Mk.Er
