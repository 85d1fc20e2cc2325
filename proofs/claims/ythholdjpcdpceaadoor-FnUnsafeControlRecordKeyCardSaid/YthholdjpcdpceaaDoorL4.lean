/- Walks of programs, step by step: what holds of memory behind each; the reference in plain words. No statement of a seat stands here. -/
import Derived.Test.YthholdjpcdpceaaDoorL3
namespace Go.Mk
open Go
theorem alones_head {ops : List Oper} {L : Array Bool} {k : Nat} {r : List Nat} (h : alones ops L (k :: r) = true) : Region.ready .any ops.toArray L = [k] := by
 simp only [alones, Bool.and_eq_true, decide_eq_true_eq] at h
 exact h.1
theorem alones_tail {ops : List Oper} {L : Array Bool} {k : Nat} {r : List Nat} (h : alones ops L (k :: r) = true) : alones ops (L.setIfInBounds k true) r = true := by
 simp only [alones, Bool.and_eq_true] at h
 exact h.2
section
variable {P : Program} {Q : Exit → Act → World → Prop} {a : Act} {w0 w : World} {Y : Nat → Prop} {tb bb τ tL m k n s id fi o b off tS tX sX iv j by_ : Nat} {ts tsl : List T} {z : Bool} {pr : Value} {ops : List Oper} {kI : Int}
variable {ty0 ty1 ty2 ty3 ty4 ty5 ty6 ty7 ty8 ty9 ty10 ty11 ty12 ty13 ty14 ty15 ty16 ty17 ty18 ty19 ty20 ty21 ty22 ty23 : Nat} {ps0 ps1 ps2 ps3 ps4 ps5 ps6 ps7 ps8 ps9 ps10 ps11 ps12 ps13 ps14 ps15 ps16 ps17 ps18 ps19 ps20 ps21 ps22 ps23 : String} {af0 af1 af2 af3 af4 af5 af6 af7 af8 af9 af10 af11 af12 af13 af14 af15 af16 af17 af18 af19 af20 af21 af22 af23 : Array Edge}
theorem tl_A_call {b2 o2 cap id9 eX eS : Nat} {be : Bool} {F : Nat} {tys : Array Nat} {p : Nat} (hps : p = s + 10)
  (ho : ops = [⟨some p, .fieldAddr τ (.tmp 3) 3, ty0, ps0, af0, none⟩,
   ⟨some (p + 1), .load tL (.tmp p), ty1, ps1, af1, none⟩,
   ⟨some (p + 2), .indexAddr tL (.tmp (p + 1)) (.const (.int .i64 kI)), ty2, ps2, af2, none⟩,
   ⟨some (p + 3), .fieldAddr τ (.tmp (p + 2)) 3, ty3, ps3, af3, none⟩,
   ⟨some (p + 4), .load tL (.tmp (p + 3)), ty4, ps4, af4, none⟩,
   ⟨some (p + 5), .move (.tmp 0), ty5, ps5, af5, none⟩,
   ⟨some (p + 6), .nilCheck (.tmp (p + 5)), ty6, ps6, af6, none⟩,
   ⟨some (p + 7), .fieldAddr tS (.tmp (p + 6)) fi, ty7, ps7, af7, none⟩,
   ⟨some (p + 8), .load tX (.tmp (p + 7)), ty8, ps8, af8, none⟩,
   ⟨some (p + 9), .move (.tmp iv), ty9, ps9, af9, none⟩,
   ⟨some (p + 10), .indexAddr tX (.tmp (p + 8)) (.tmp (p + 9)), ty10, ps10, af10, none⟩,
   ⟨some (p + 11), .call ⟨.value (.func F), [.tmp (p + 10)].toArray, tys⟩, ty11, ps11, af11, none⟩,
   ⟨some (p + 12), .call ⟨.builtin .len, #[.tmp (p + 4)], #[tL]⟩, ty12, ps12, af12, none⟩,
   ⟨some (p + 13), .buildSlice tL 1 #[(0, (.const (.agg #[.int .i64 0, .slice none 0 0, .bool false, .slice none 0 0, .slice none 0 0])))], ty13, ps13, af13, none⟩,
   ⟨some (p + 14), .call ⟨.builtin .append, #[.tmp (p + 4), .tmp (p + 13)], #[tL, tL]⟩, ty14, ps14, af14, none⟩,
   ⟨some (p + 15), .indexAddr tL (.tmp (p + 1)) (.const (.int .i64 kI)), ty15, ps15, af15, none⟩,
   ⟨some (p + 16), .fieldAddr τ (.tmp (p + 15)) 3, ty16, ps16, af16, none⟩,
   ⟨none, .store tL (.tmp (p + 16)) (.tmp (p + 14)), ty17, ps17, af17, none⟩])
  (h1 : takes ops 14 (Array.replicate ops.length false) [0, 1, 2, 3, 4, 5, 6, 7, 8, 9, 10, 12] = true) (h2 : decide (Region.ready .any ops.toArray (setAll (Array.replicate ops.length false) [0, 1, 2, 3, 4, 5, 6, 7, 8, 9, 10, 12]) = [11, 13]) = true) (h3 : alones ops ((setAll (Array.replicate ops.length false) [0, 1, 2, 3, 4, 5, 6, 7, 8, 9, 10, 12]).setIfInBounds 11 true) [13, 14, 15, 16, 17] = true) (h4 : alones ops ((setAll (Array.replicate ops.length false) [0, 1, 2, 3, 4, 5, 6, 7, 8, 9, 10, 12]).setIfInBounds 13 true) [11, 14, 15, 16, 17] = true)
  (hp : TreeP P τ tL) (hrt : rowTy P tL = some (τ, 5, by_)) (hby : by_ ≤ 1000) (hkI : kI = ((k : Nat) : Int)) (hs : 3 < s) (hiv : 3 < iv ∧ iv < s) (hn : p + 18 + 1 ≤ n) (hkm : k < m) (hj : j < tsl.length) (hN : tsl.length ≤ 32767)
  (hf : fldOff P tS fi = some o) (hX : tySz P tX = some (false, sX)) (hE : tyElem P tX = some eX) (hES : tySz P eX = some (be, eS)) (hcb : cb0 P F = true) (hF : ∀ {w : World} {m : List Ent}, Mem w0 Nob Y m w → Ret P F [.pointer (some ⟨b2, o2 + j * eS, none⟩)] w fun v w' => Agr Nob w w' ∧ ∃ c', v = .agg c'.toArray ∧ Rep w' (fun b => b < w.heap.size ∧ Yof w0 Y m b) (ddT (tsl.getD j T.nil)) c')
  (hQ : ∀ c a d v w, Q (.panic c) (Act.put a (some d) v) w → Q (.panic c) a w) (hC : Cel w0 Y b (off + o) [.slice (some ⟨b2, o2, none⟩) tsl.length cap]) (hk : Kn n (kb iv s j tsl.length b off tb pr) a) (ht : TBl w0 Y tb bb τ m k ts z tsl j w)
  (K : ∀ a' w', Kn n (kb iv s j tsl.length b off tb pr) a' → TBl w0 Y tb bb τ m k ts z tsl (j + 1) w' → Q .normal a' w') :
  (Code.seq (.region id ops.toArray true) (.region id9 [⟨some (p + 17), .indexAddr tL (.tmp (p + 14)) (.tmp (p + 12)), ty20, ps20, af20, none⟩, ⟨none, .store τ (.tmp (p + 17)) (.tmp (p + 11)), ty21, ps21, af21, none⟩].toArray false)).wp P Q a w := by
 subst ho
 obtain ⟨vr, rs, xs, hm, hxl, hrl⟩ := ht
 obtain ⟨pv, cv, rfl⟩ := row_form (hm.row (i := 1) rfl)
 simp only [takes, Bool.and_eq_true] at h1
 obtain ⟨t0, t1, t2, t3, t4, t5, t6, t7, t8, t9, t10, t12, _⟩ := h1
 refine wp_seq ?_
 refine d_startM (K := 14) hp.mixed hm fun w hm => ?_
 have hkI2 : ∀ l, ev l (.const (.int .i64 kI)) = some (.int .i64 ((k : Nat) : Int)) := fun l => by rw [hkI]; rfl
 refine d_take (i := 0) rfl rfl rfl t0 (fun c a w h => hQ c a _ _ w h) hk (blt_of (by omega)) (fun w hm => rF0 (b := tb) (off := 0) hk hp.fL (by simp (disch := omega) only [kb, bl, ev, lkS, lkN])) hm fun a hk => ?_
 refine d_take (i := 1) rfl rfl rfl t1 (fun c a w h => hQ c a _ _ w h) hk (blt_of (by omega)) (fun w hm => r_load1 (p := ⟨tb, 0 + 3, none⟩) hk hp.sL (by simp (disch := omega) only [kb, bl, ev, lkS]) (hm.cell_blk (i := 3) rfl rfl)) hm fun a hk => ?_
 refine d_take (i := 2) rfl rfl rfl t2 (fun c a w h => hQ c a _ _ w h) hk (blt_of (by omega)) (fun w hm => r_indexAddr (j := k) (b := bb) (off := 0) (k := m) (c := m) (kk := .i64) hk hp.eL hp.sT (by simp (disch := omega) only [kb, bl, ev, lkS]) (hkI2 _) hkm) hm fun a hk => ?_
 refine d_take (i := 3) rfl rfl rfl t3 (fun c a w h => hQ c a _ _ w h) hk (blt_of (by omega)) (fun w hm => rF0 (b := bb) (off := 0 + k * 5) hk hp.fL (by simp (disch := omega) only [kb, bl, ev, lkS])) hm fun a hk => ?_
 refine d_take (i := 4) rfl rfl rfl t4 (fun c a w h => hQ c a _ _ w h) hk (blt_of (by omega)) (fun w hm => r_load1 (p := ⟨bb, 0 + k * 5 + 3, none⟩) hk hp.sL (by simp (disch := omega) only [kb, bl, ev, lkS]) (hm.cell_blk (i := 4) rfl (get_part hxl))) hm fun a hk => ?_
 refine d_take (i := 5) rfl rfl rfl t5 (fun c a w h => hQ c a _ _ w h) hk (blt_of (by omega)) (fun w hm => r_move (v := .pointer (some ⟨b, off, none⟩)) hk (by simp (disch := omega) only [kb, bl, ev, lkS, lkN])) hm fun a hk => ?_
 refine d_take (i := 6) rfl rfl rfl t6 (fun c a w h => hQ c a _ _ w h) hk (blt_of (by omega)) (fun w hm => r_nilCheck (p := ⟨b, off, none⟩) hk (by simp (disch := omega) only [kb, bl, ev, lkS])) hm fun a hk => ?_
 refine d_take (i := 7) rfl rfl rfl t7 (fun c a w h => hQ c a _ _ w h) hk (blt_of (by omega)) (fun w hm => rF0 (b := b) (off := off) hk hf (by simp (disch := omega) only [kb, bl, ev, lkS])) hm fun a hk => ?_
 refine d_take (i := 8) rfl rfl rfl t8 (fun c a w h => hQ c a _ _ w h) hk (blt_of (by omega)) (fun w hm => r_load1 (p := ⟨b, off + o, none⟩) hk hX (by simp (disch := omega) only [kb, bl, ev, lkS]) (cel_in hm hC).one) hm fun a hk => ?_
 refine d_take (i := 9) rfl rfl rfl t9 (fun c a w h => hQ c a _ _ w h) hk (blt_of (by omega)) (fun w hm => r_move (v := .int .i64 (j : Int)) hk (by simp (disch := omega) only [kb, bl, ev, lkS, lkN])) hm fun a hk => ?_
 refine d_take (i := 10) rfl rfl rfl t10 (fun c a w h => hQ c a _ _ w h) hk (blt_of (by omega)) (fun w hm => r_indexAddr (j := j) (b := b2) (off := o2) (k := tsl.length) (c := cap) (kk := .i64) hk hE hES (by simp (disch := omega) only [kb, bl, ev, lkS, lkN]) (by simp (disch := omega) only [kb, bl, ev, lkS]) hj) hm fun a hk => ?_
 refine d_take (i := 12) rfl rfl rfl t12 (fun c a w h => hQ c a _ _ w h) hk (blt_of (by omega)) (fun w hm => r_lenSlice (p := pv) (k := j) (c := cv) hk hp.eL (by simp (disch := omega) only [kb, bl, ev, lkS, lkN])) hm fun a hk => ?_
 have h6 := of_decide_eq_true h2
 have r3 := alones_head h3
 have r4 := alones_head h4
 refine d_two (k := 11) (k2 := 13) h6 rfl rfl rfl rfl ?_ ?_
 ·refine o_call (vs := [.pointer (some ⟨b2, o2 + j * eS, none⟩)]) hk hcb (hF hm) ⟨(by simp (disch := omega) only [kb, bl, ev, lkS, lkN]), trivial⟩ (blt_of (by omega)) fun v w a hR hk => ?_
  obtain ⟨hg, c', rfl, hR⟩ := hR
  have hm := hm.result hg hR
  refine c_endQ (cT0 ⟨fun _ => hm.tail, ?_⟩)
  refine d_one (k := 13) r3 rfl rfl ?_
  refine o_build1 (v := .agg #[.int .i64 0, .slice none 0 0, .bool false, .slice none 0 0, .slice none 0 0]) (c := zT) hk hm hrt rfl rfl rfl rfl rfl (blt_of (by omega)) fun a b1 w hk hm => ?_
  refine c_endQ (cT0 ⟨fun _ => hm.tail.tail, ?_⟩)
  refine tl_Aend (e := 1) (p := p) (ia := 14) (ii := 15) (iF := 16) (is := 17) (c' := c') hp hrt hby (alones_tail h3) rfl rfl rfl rfl hkI hs hiv hps (by omega) hn hkm hj hN (by simp [setAll_size]) hxl hrl (hk.sub (by simp (disch := omega) only [bl, kb, looks, lkS, lkN, and_self])) hm K
 ·refine o_build1 (v := .agg #[.int .i64 0, .slice none 0 0, .bool false, .slice none 0 0, .slice none 0 0]) (c := zT) hk hm hrt rfl rfl rfl rfl rfl (blt_of (by omega)) fun a b1 w hk hm => ?_
  refine c_endQ (cT0 ⟨fun _ => hm.tail, ?_⟩)
  refine d_one (k := 11) r4 rfl rfl ?_
  refine o_call (vs := [.pointer (some ⟨b2, o2 + j * eS, none⟩)]) hk hcb (hF hm) ⟨(by simp (disch := omega) only [kb, bl, ev, lkS, lkN]), trivial⟩ (blt_of (by omega)) fun v w a hR hk => ?_
  obtain ⟨hg, c', rfl, hR⟩ := hR
  have hm := hm.result hg hR
  refine c_endQ (cT0 ⟨fun _ => hm.tail.tail, ?_⟩)
  have hm := hm.pick [1, 0, 2, 3, 4, 5, 6] rfl rfl
  refine tl_Aend (e := 1) (p := p) (ia := 14) (ii := 15) (iF := 16) (is := 17) (c' := c') hp hrt hby (alones_tail h4) rfl rfl rfl rfl hkI hs hiv hps (by omega) hn hkm hj hN (by simp [setAll_size]) hxl hrl (hk.sub (by simp (disch := omega) only [bl, kb, looks, lkS, lkN, and_self])) hm K
theorem tl_B_call {b2 o2 cap eX eS : Nat} {be : Bool} {F : Nat} {tys : Array Nat} {p : Nat} (hps : s + 10 ≤ p)
  (ho : ops = [⟨some p, .fieldAddr τ (.tmp 3) 3, ty0, ps0, af0, none⟩,
   ⟨some (p + 1), .load tL (.tmp p), ty1, ps1, af1, none⟩,
   ⟨some (p + 2), .fieldAddr τ (.tmp 3) 3, ty2, ps2, af2, none⟩,
   ⟨some (p + 3), .load tL (.tmp (p + 2)), ty3, ps3, af3, none⟩,
   ⟨some (p + 4), .indexAddr tL (.tmp (p + 3)) (.const (.int .i64 kI)), ty4, ps4, af4, none⟩,
   ⟨some (p + 5), .fieldAddr τ (.tmp (p + 4)) 3, ty5, ps5, af5, none⟩,
   ⟨some (p + 6), .load tL (.tmp (p + 5)), ty6, ps6, af6, none⟩,
   ⟨some (p + 7), .move (.tmp 0), ty7, ps7, af7, none⟩,
   ⟨some (p + 8), .nilCheck (.tmp (p + 7)), ty8, ps8, af8, none⟩,
   ⟨some (p + 9), .fieldAddr tS (.tmp (p + 8)) fi, ty9, ps9, af9, none⟩,
   ⟨some (p + 10), .load tX (.tmp (p + 9)), ty10, ps10, af10, none⟩,
   ⟨some (p + 11), .move (.tmp iv), ty11, ps11, af11, none⟩,
   ⟨some (p + 12), .indexAddr tX (.tmp (p + 10)) (.tmp (p + 11)), ty12, ps12, af12, none⟩,
   ⟨some (p + 13), .call ⟨.value (.func F), [.tmp (p + 12)].toArray, tys⟩, ty13, ps13, af13, none⟩,
   ⟨some (p + 14), .buildSlice tL 1 #[(0, .tmp (p + 13))], ty14, ps14, af14, none⟩,
   ⟨some (p + 15), .call ⟨.builtin .append, #[.tmp (p + 6), .tmp (p + 14)], #[tL, tL]⟩, ty15, ps15, af15, none⟩,
   ⟨some (p + 16), .indexAddr tL (.tmp (p + 1)) (.const (.int .i64 kI)), ty16, ps16, af16, none⟩,
   ⟨some (p + 17), .fieldAddr τ (.tmp (p + 16)) 3, ty17, ps17, af17, none⟩,
   ⟨none, .store tL (.tmp (p + 17)) (.tmp (p + 15)), ty18, ps18, af18, none⟩])
  (h1 : takes ops 18 (Array.replicate ops.length false) [0, 1, 2, 3, 4, 5, 6, 7, 8, 9, 10, 11, 12] = true) (h2 : alones ops (setAll (Array.replicate ops.length false) [0, 1, 2, 3, 4, 5, 6, 7, 8, 9, 10, 11, 12]) [13, 14, 15, 16, 17, 18] = true)
  (hp : TreeP P τ tL) (hrt : rowTy P tL = some (τ, 5, by_)) (hby : by_ ≤ 1000) (hkI : kI = ((k : Nat) : Int)) (hs : 3 < s) (hiv : 3 < iv ∧ iv < s) (hn : p + 18 + 1 ≤ n) (hkm : k < m) (hj : j < tsl.length) (hN : tsl.length ≤ 32767)
  (hf : fldOff P tS fi = some o) (hX : tySz P tX = some (false, sX)) (hE : tyElem P tX = some eX) (hES : tySz P eX = some (be, eS)) (hcb : cb0 P F = true) (hF : ∀ {w : World} {m : List Ent}, Mem w0 Nob Y m w → Ret P F [.pointer (some ⟨b2, o2 + j * eS, none⟩)] w fun v w' => Agr Nob w w' ∧ ∃ c', v = .agg c'.toArray ∧ Rep w' (fun b => b < w.heap.size ∧ Yof w0 Y m b) (ddT (tsl.getD j T.nil)) c')
  (hQ : ∀ c a d v w, Q (.panic c) (Act.put a (some d) v) w → Q (.panic c) a w) (hC : Cel w0 Y b (off + o) [.slice (some ⟨b2, o2, none⟩) tsl.length cap]) (hk : Kn n (kb iv s j tsl.length b off tb pr) a) (ht : TBl w0 Y tb bb τ m k ts z tsl j w)
  (K : ∀ a' w', Kn n (kb iv s j tsl.length b off tb pr) a' → TBl w0 Y tb bb τ m k ts z tsl (j + 1) w' → Q .normal a' w') :
  (Code.region id ops.toArray true).wp P Q a w := by
 subst ho
 obtain ⟨vr, rs, xs, hm, hxl, hrl⟩ := ht
 obtain ⟨pv, cv, rfl⟩ := row_form (hm.row (i := 1) rfl)
 simp only [takes, Bool.and_eq_true] at h1
 obtain ⟨t0, t1, t2, t3, t4, t5, t6, t7, t8, t9, t10, t11, t12, _⟩ := h1
 have hkI2 : ∀ l, ev l (.const (.int .i64 kI)) = some (.int .i64 ((k : Nat) : Int)) := fun l => by rw [hkI]; rfl
 refine d_start (M := Mem w0 Nob Y (TBm tb bb τ m ts xs (part5 z (.slice pv j cv) ++ zTs (m - (k + 1))))) (K := 18) hp.mixed ?_
 have hm := hm.pure (Agr.drew Nob w)
 generalize w.drew = w at hm ⊢
 refine d_take (i := 0) rfl rfl rfl t0 (fun c a w h => hQ c a _ _ w h) hk (blt_of (by omega)) (fun w hm => rF0 (b := tb) (off := 0) hk hp.fL (by simp (disch := omega) only [kb, bl, ev, lkS, lkN])) hm.tail.tail fun a hk => ?_
 refine d_take (i := 1) rfl rfl rfl t1 (fun c a w h => hQ c a _ _ w h) hk (blt_of (by omega)) (fun w hm => r_load1 (p := ⟨tb, 0 + 3, none⟩) hk hp.sL (by simp (disch := omega) only [kb, bl, ev, lkS]) (hm.cell_blk (i := 1) rfl rfl)) hm.tail.tail fun a hk => ?_
 refine d_take (i := 2) rfl rfl rfl t2 (fun c a w h => hQ c a _ _ w h) hk (blt_of (by omega)) (fun w hm => rF0 (b := tb) (off := 0) hk hp.fL (by simp (disch := omega) only [kb, bl, ev, lkS, lkN])) hm.tail.tail fun a hk => ?_
 refine d_take (i := 3) rfl rfl rfl t3 (fun c a w h => hQ c a _ _ w h) hk (blt_of (by omega)) (fun w hm => r_load1 (p := ⟨tb, 0 + 3, none⟩) hk hp.sL (by simp (disch := omega) only [kb, bl, ev, lkS]) (hm.cell_blk (i := 1) rfl rfl)) hm.tail.tail fun a hk => ?_
 refine d_take (i := 4) rfl rfl rfl t4 (fun c a w h => hQ c a _ _ w h) hk (blt_of (by omega)) (fun w hm => r_indexAddr (j := k) (b := bb) (off := 0) (k := m) (c := m) (kk := .i64) hk hp.eL hp.sT (by simp (disch := omega) only [kb, bl, ev, lkS]) (hkI2 _) hkm) hm.tail.tail fun a hk => ?_
 refine d_take (i := 5) rfl rfl rfl t5 (fun c a w h => hQ c a _ _ w h) hk (blt_of (by omega)) (fun w hm => rF0 (b := bb) (off := 0 + k * 5) hk hp.fL (by simp (disch := omega) only [kb, bl, ev, lkS])) hm.tail.tail fun a hk => ?_
 refine d_take (i := 6) rfl rfl rfl t6 (fun c a w h => hQ c a _ _ w h) hk (blt_of (by omega)) (fun w hm => r_load1 (p := ⟨bb, 0 + k * 5 + 3, none⟩) hk hp.sL (by simp (disch := omega) only [kb, bl, ev, lkS]) (hm.cell_blk (i := 2) rfl (get_part hxl))) hm.tail.tail fun a hk => ?_
 refine d_take (i := 7) rfl rfl rfl t7 (fun c a w h => hQ c a _ _ w h) hk (blt_of (by omega)) (fun w hm => r_move (v := .pointer (some ⟨b, off, none⟩)) hk (by simp (disch := omega) only [kb, bl, ev, lkS, lkN])) hm.tail.tail fun a hk => ?_
 refine d_take (i := 8) rfl rfl rfl t8 (fun c a w h => hQ c a _ _ w h) hk (blt_of (by omega)) (fun w hm => r_nilCheck (p := ⟨b, off, none⟩) hk (by simp (disch := omega) only [kb, bl, ev, lkS])) hm.tail.tail fun a hk => ?_
 refine d_take (i := 9) rfl rfl rfl t9 (fun c a w h => hQ c a _ _ w h) hk (blt_of (by omega)) (fun w hm => rF0 (b := b) (off := off) hk hf (by simp (disch := omega) only [kb, bl, ev, lkS])) hm.tail.tail fun a hk => ?_
 refine d_take (i := 10) rfl rfl rfl t10 (fun c a w h => hQ c a _ _ w h) hk (blt_of (by omega)) (fun w hm => r_load1 (p := ⟨b, off + o, none⟩) hk hX (by simp (disch := omega) only [kb, bl, ev, lkS]) (cel_in hm hC).one) hm.tail.tail fun a hk => ?_
 refine d_take (i := 11) rfl rfl rfl t11 (fun c a w h => hQ c a _ _ w h) hk (blt_of (by omega)) (fun w hm => r_move (v := .int .i64 (j : Int)) hk (by simp (disch := omega) only [kb, bl, ev, lkS, lkN])) hm.tail.tail fun a hk => ?_
 refine d_take (i := 12) rfl rfl rfl t12 (fun c a w h => hQ c a _ _ w h) hk (blt_of (by omega)) (fun w hm => r_indexAddr (j := j) (b := b2) (off := o2) (k := tsl.length) (c := cap) (kk := .i64) hk hE hES (by simp (disch := omega) only [kb, bl, ev, lkS, lkN]) (by simp (disch := omega) only [kb, bl, ev, lkS]) hj) hm.tail.tail fun a hk => ?_
 have r0 := alones_head h2
 refine d_one (k := 13) r0 rfl rfl ?_
 refine o_call (vs := [.pointer (some ⟨b2, o2 + j * eS, none⟩)]) hk hcb (hF hm) ⟨(by simp (disch := omega) only [kb, bl, ev, lkS]), trivial⟩ (blt_of (by omega)) fun v w a hR hk => ?_
 obtain ⟨hg, c', rfl, hR⟩ := hR
 have hm := hm.result hg hR
 refine c_endQ ⟨fun _ => hm.tail.tail.tail, ?_⟩
 refine tl_Bend (e := 1) (p := p) (ib := 14) (ia := 15) (ii := 16) (iF := 17) (is := 18) (c' := c') hp hrt hby (alones_tail h2) rfl rfl rfl rfl rfl hkI hs hiv hps (by omega) hn hkm hj hN (by simp) hxl hrl (hk.sub (by simp (disch := omega) only [bl, kb, looks, lkS, lkN, and_self])) hm K
theorem tl_A_num {b2 o2 cap id9 eX eS : Nat} {be : Bool} {tE tI : Nat} {ik : IntKind} {iE : Nat → Int} {p : Nat} (hps : p = s + 10)
  (ho : ops = [⟨some p, .fieldAddr τ (.tmp 3) 3, ty0, ps0, af0, none⟩,
   ⟨some (p + 1), .load tL (.tmp p), ty1, ps1, af1, none⟩,
   ⟨some (p + 2), .indexAddr tL (.tmp (p + 1)) (.const (.int .i64 kI)), ty2, ps2, af2, none⟩,
   ⟨some (p + 3), .fieldAddr τ (.tmp (p + 2)) 3, ty3, ps3, af3, none⟩,
   ⟨some (p + 4), .load tL (.tmp (p + 3)), ty4, ps4, af4, none⟩,
   ⟨some (p + 5), .move (.tmp 0), ty5, ps5, af5, none⟩,
   ⟨some (p + 6), .nilCheck (.tmp (p + 5)), ty6, ps6, af6, none⟩,
   ⟨some (p + 7), .fieldAddr tS (.tmp (p + 6)) fi, ty7, ps7, af7, none⟩,
   ⟨some (p + 8), .load tX (.tmp (p + 7)), ty8, ps8, af8, none⟩,
   ⟨some (p + 9), .move (.tmp iv), ty9, ps9, af9, none⟩,
   ⟨some (p + 10), .indexAddr tX (.tmp (p + 8)) (.tmp (p + 9)), ty10, ps10, af10, none⟩,
   ⟨some (p + 11), .load tE (.tmp (p + 10)), ty11, ps11, af11, none⟩,
   ⟨some (p + 12), .convert tE tI (.tmp (p + 11)), ty12, ps12, af12, none⟩,
   ⟨some (p + 13), .build τ [(0, .tmp (p + 12))].toArray, ty13, ps13, af13, none⟩,
   ⟨some (p + 14), .call ⟨.builtin .len, #[.tmp (p + 4)], #[tL]⟩, ty14, ps14, af14, none⟩,
   ⟨some (p + 15), .buildSlice tL 1 #[(0, (.const (.agg #[.int .i64 0, .slice none 0 0, .bool false, .slice none 0 0, .slice none 0 0])))], ty15, ps15, af15, none⟩,
   ⟨some (p + 16), .call ⟨.builtin .append, #[.tmp (p + 4), .tmp (p + 15)], #[tL, tL]⟩, ty16, ps16, af16, none⟩,
   ⟨some (p + 17), .indexAddr tL (.tmp (p + 1)) (.const (.int .i64 kI)), ty17, ps17, af17, none⟩,
   ⟨some (p + 18), .fieldAddr τ (.tmp (p + 17)) 3, ty18, ps18, af18, none⟩,
   ⟨none, .store tL (.tmp (p + 18)) (.tmp (p + 16)), ty19, ps19, af19, none⟩])
  (h1 : takes ops 16 (Array.replicate ops.length false) [0, 1, 2, 3, 4, 5, 6, 7, 8, 9, 10, 11, 12, 13, 14] = true) (h2 : alones ops (setAll (Array.replicate ops.length false) [0, 1, 2, 3, 4, 5, 6, 7, 8, 9, 10, 11, 12, 13, 14]) [15, 16, 17, 18, 19] = true)
  (hp : TreeP P τ tL) (hrt : rowTy P tL = some (τ, 5, by_)) (hby : by_ ≤ 1000) (hkI : kI = ((k : Nat) : Int)) (hs : 3 < s) (hiv : 3 < iv ∧ iv < s) (hn : p + 18 + 3 ≤ n) (hkm : k < m) (hj : j < tsl.length) (hN : tsl.length ≤ 32767)
  (hf : fldOff P tS fi = some o) (hX : tySz P tX = some (false, sX)) (hE : tyElem P tX = some eX) (hES : tySz P eX = some (be, eS)) (hTE : tySz P tE = some (false, eS)) (hU : (P.underlying tE).isSome = true) (hI : tyInt P tI = some .i64) (hF : Cel w0 Y b2 (o2 + j * eS) [.int ik (iE j)]) (hE2 : tsl.getD j T.nil = ofNum (IntKind.i64.wrap (iE j)))
  (hQ : ∀ c a d v w, Q (.panic c) (Act.put a (some d) v) w → Q (.panic c) a w) (hC : Cel w0 Y b (off + o) [.slice (some ⟨b2, o2, none⟩) tsl.length cap]) (hk : Kn n (kb iv s j tsl.length b off tb pr) a) (ht : TBl w0 Y tb bb τ m k ts z tsl j w)
  (K : ∀ a' w', Kn n (kb iv s j tsl.length b off tb pr) a' → TBl w0 Y tb bb τ m k ts z tsl (j + 1) w' → Q .normal a' w') :
  (Code.seq (.region id ops.toArray true) (.region id9 [⟨some (p + 19), .indexAddr tL (.tmp (p + 16)) (.tmp (p + 14)), ty20, ps20, af20, none⟩, ⟨none, .store τ (.tmp (p + 19)) (.tmp (p + 13)), ty21, ps21, af21, none⟩].toArray false)).wp P Q a w := by
 subst ho
 obtain ⟨vr, rs, xs, hm, hxl, hrl⟩ := ht
 obtain ⟨pv, cv, rfl⟩ := row_form (hm.row (i := 1) rfl)
 simp only [takes, Bool.and_eq_true] at h1
 obtain ⟨t0, t1, t2, t3, t4, t5, t6, t7, t8, t9, t10, t11, t12, t13, t14, _⟩ := h1
 refine wp_seq ?_
 refine d_startM (K := 16) hp.mixed hm fun w hm => ?_
 have hkI2 : ∀ l, ev l (.const (.int .i64 kI)) = some (.int .i64 ((k : Nat) : Int)) := fun l => by rw [hkI]; rfl
 refine d_take (i := 0) rfl rfl rfl t0 (fun c a w h => hQ c a _ _ w h) hk (blt_of (by omega)) (fun w hm => rF0 (b := tb) (off := 0) hk hp.fL (by simp (disch := omega) only [kb, bl, ev, lkS, lkN])) hm fun a hk => ?_
 refine d_take (i := 1) rfl rfl rfl t1 (fun c a w h => hQ c a _ _ w h) hk (blt_of (by omega)) (fun w hm => r_load1 (p := ⟨tb, 0 + 3, none⟩) hk hp.sL (by simp (disch := omega) only [kb, bl, ev, lkS]) (hm.cell_blk (i := 3) rfl rfl)) hm fun a hk => ?_
 refine d_take (i := 2) rfl rfl rfl t2 (fun c a w h => hQ c a _ _ w h) hk (blt_of (by omega)) (fun w hm => r_indexAddr (j := k) (b := bb) (off := 0) (k := m) (c := m) (kk := .i64) hk hp.eL hp.sT (by simp (disch := omega) only [kb, bl, ev, lkS]) (hkI2 _) hkm) hm fun a hk => ?_
 refine d_take (i := 3) rfl rfl rfl t3 (fun c a w h => hQ c a _ _ w h) hk (blt_of (by omega)) (fun w hm => rF0 (b := bb) (off := 0 + k * 5) hk hp.fL (by simp (disch := omega) only [kb, bl, ev, lkS])) hm fun a hk => ?_
 refine d_take (i := 4) rfl rfl rfl t4 (fun c a w h => hQ c a _ _ w h) hk (blt_of (by omega)) (fun w hm => r_load1 (p := ⟨bb, 0 + k * 5 + 3, none⟩) hk hp.sL (by simp (disch := omega) only [kb, bl, ev, lkS]) (hm.cell_blk (i := 4) rfl (get_part hxl))) hm fun a hk => ?_
 refine d_take (i := 5) rfl rfl rfl t5 (fun c a w h => hQ c a _ _ w h) hk (blt_of (by omega)) (fun w hm => r_move (v := .pointer (some ⟨b, off, none⟩)) hk (by simp (disch := omega) only [kb, bl, ev, lkS, lkN])) hm fun a hk => ?_
 refine d_take (i := 6) rfl rfl rfl t6 (fun c a w h => hQ c a _ _ w h) hk (blt_of (by omega)) (fun w hm => r_nilCheck (p := ⟨b, off, none⟩) hk (by simp (disch := omega) only [kb, bl, ev, lkS])) hm fun a hk => ?_
 refine d_take (i := 7) rfl rfl rfl t7 (fun c a w h => hQ c a _ _ w h) hk (blt_of (by omega)) (fun w hm => rF0 (b := b) (off := off) hk hf (by simp (disch := omega) only [kb, bl, ev, lkS])) hm fun a hk => ?_
 refine d_take (i := 8) rfl rfl rfl t8 (fun c a w h => hQ c a _ _ w h) hk (blt_of (by omega)) (fun w hm => r_load1 (p := ⟨b, off + o, none⟩) hk hX (by simp (disch := omega) only [kb, bl, ev, lkS]) (cel_in hm hC).one) hm fun a hk => ?_
 refine d_take (i := 9) rfl rfl rfl t9 (fun c a w h => hQ c a _ _ w h) hk (blt_of (by omega)) (fun w hm => r_move (v := .int .i64 (j : Int)) hk (by simp (disch := omega) only [kb, bl, ev, lkS, lkN])) hm fun a hk => ?_
 refine d_take (i := 10) rfl rfl rfl t10 (fun c a w h => hQ c a _ _ w h) hk (blt_of (by omega)) (fun w hm => r_indexAddr (j := j) (b := b2) (off := o2) (k := tsl.length) (c := cap) (kk := .i64) hk hE hES (by simp (disch := omega) only [kb, bl, ev, lkS, lkN]) (by simp (disch := omega) only [kb, bl, ev, lkS]) hj) hm fun a hk => ?_
 refine d_take (i := 11) rfl rfl rfl t11 (fun c a w h => hQ c a _ _ w h) hk (blt_of (by omega)) (fun w hm => r_load1 (p := ⟨b2, o2 + j * eS, none⟩) hk hTE (by simp (disch := omega) only [kb, bl, ev, lkS]) (cel_in hm hF).one) hm fun a hk => ?_
 refine d_take (i := 12) rfl rfl rfl t12 (fun c a w h => hQ c a _ _ w h) hk (blt_of (by omega)) (fun w hm => r_convInt (k := ik) (i := iE j) (c := IntKind.i64.wrap (iE j)) hk (Option.isSome_iff_exists.1 hU) hI (by simp (disch := omega) only [kb, bl, ev, lkS]) rfl) hm fun a hk => ?_
 refine d_take (i := 13) rfl rfl rfl t13 (fun c a w h => hQ c a _ _ w h) hk (blt_of (by omega)) (fun w hm => r_build (parts := [(0, .tmp (p + 12))]) (r := [.int .i64 (IntKind.i64.wrap (iE j)), .slice none 0 0, .bool false, .slice none 0 0, .slice none 0 0]) hk hp.zT rfl hp.ok ⟨.int .i64 (IntKind.i64.wrap (iE j)), [.int .i64 (IntKind.i64.wrap (iE j))], 0, (by simp (disch := omega) only [kb, bl, ev, lkS]), rfl, hp.a0, rfl, rfl⟩) hm fun a hk => ?_
 refine d_take (i := 14) rfl rfl rfl t14 (fun c a w h => hQ c a _ _ w h) hk (blt_of (by omega)) (fun w hm => r_lenSlice (p := pv) (k := j) (c := cv) hk hp.eL (by simp (disch := omega) only [kb, bl, ev, lkS, lkN])) hm fun a hk => ?_
 have h6 := h2
 simp only [alones, Bool.and_eq_true, decide_eq_true_eq] at h2
 obtain ⟨r0, _⟩ := h2
 refine d_one (k := 15) r0 rfl rfl ?_
 refine o_build1 (v := .agg #[.int .i64 0, .slice none 0 0, .bool false, .slice none 0 0, .slice none 0 0]) (c := zT) hk hm hrt rfl rfl rfl rfl rfl (blt_of (by omega)) fun a b1 w hk hm => ?_
 refine c_endQ (cT0 ⟨fun _ => hm.tail, ?_⟩)
 have hm := hm.add (e := .rep (ddT (tsl.getD j T.nil)) [.int .i64 (IntKind.i64.wrap (iE j)), .slice none 0 0, .bool false, .slice none 0 0, .slice none 0 0]) rfl (by rw [hE2]; exact rep_T_mk (t := ofNum (IntKind.i64.wrap (iE j))) (by simp [Rep, ddBs, T.s, ofNum]) (by simp [Rep, T.l, ofNum]) (by simp [Rep, ddTags, T.u, ofNum]))
 have hm := hm.pick [1, 0, 2, 3, 4, 5, 6] rfl rfl
 refine tl_Aend (e := 3) (p := p) (ia := 16) (ii := 17) (iF := 18) (is := 19) (c' := [.int .i64 (IntKind.i64.wrap (iE j)), .slice none 0 0, .bool false, .slice none 0 0, .slice none 0 0]) hp hrt hby (alones_tail h6) rfl rfl rfl rfl hkI hs hiv hps (by omega) hn hkm hj hN (by simp [setAll_size]) hxl hrl (hk.sub (by simp (disch := omega) only [bl, kb, looks, lkS, lkN, and_self])) hm K
theorem tl_B_num {b2 o2 cap eX eS : Nat} {be : Bool} {tE tI : Nat} {ik : IntKind} {iE : Nat → Int} {p : Nat} (hps : s + 10 ≤ p)
  (ho : ops = [⟨some p, .fieldAddr τ (.tmp 3) 3, ty0, ps0, af0, none⟩,
   ⟨some (p + 1), .load tL (.tmp p), ty1, ps1, af1, none⟩,
   ⟨some (p + 2), .fieldAddr τ (.tmp 3) 3, ty2, ps2, af2, none⟩,
   ⟨some (p + 3), .load tL (.tmp (p + 2)), ty3, ps3, af3, none⟩,
   ⟨some (p + 4), .indexAddr tL (.tmp (p + 3)) (.const (.int .i64 kI)), ty4, ps4, af4, none⟩,
   ⟨some (p + 5), .fieldAddr τ (.tmp (p + 4)) 3, ty5, ps5, af5, none⟩,
   ⟨some (p + 6), .load tL (.tmp (p + 5)), ty6, ps6, af6, none⟩,
   ⟨some (p + 7), .move (.tmp 0), ty7, ps7, af7, none⟩,
   ⟨some (p + 8), .nilCheck (.tmp (p + 7)), ty8, ps8, af8, none⟩,
   ⟨some (p + 9), .fieldAddr tS (.tmp (p + 8)) fi, ty9, ps9, af9, none⟩,
   ⟨some (p + 10), .load tX (.tmp (p + 9)), ty10, ps10, af10, none⟩,
   ⟨some (p + 11), .move (.tmp iv), ty11, ps11, af11, none⟩,
   ⟨some (p + 12), .indexAddr tX (.tmp (p + 10)) (.tmp (p + 11)), ty12, ps12, af12, none⟩,
   ⟨some (p + 13), .load tE (.tmp (p + 12)), ty13, ps13, af13, none⟩,
   ⟨some (p + 14), .convert tE tI (.tmp (p + 13)), ty14, ps14, af14, none⟩,
   ⟨some (p + 15), .build τ [(0, .tmp (p + 14))].toArray, ty15, ps15, af15, none⟩,
   ⟨some (p + 16), .buildSlice tL 1 #[(0, .tmp (p + 15))], ty16, ps16, af16, none⟩,
   ⟨some (p + 17), .call ⟨.builtin .append, #[.tmp (p + 6), .tmp (p + 16)], #[tL, tL]⟩, ty17, ps17, af17, none⟩,
   ⟨some (p + 18), .indexAddr tL (.tmp (p + 1)) (.const (.int .i64 kI)), ty18, ps18, af18, none⟩,
   ⟨some (p + 19), .fieldAddr τ (.tmp (p + 18)) 3, ty19, ps19, af19, none⟩,
   ⟨none, .store tL (.tmp (p + 19)) (.tmp (p + 17)), ty20, ps20, af20, none⟩])
  (h1 : takes ops 20 (Array.replicate ops.length false) [0, 1, 2, 3, 4, 5, 6, 7, 8, 9, 10, 11, 12, 13, 14, 15] = true) (h2 : alones ops (setAll (Array.replicate ops.length false) [0, 1, 2, 3, 4, 5, 6, 7, 8, 9, 10, 11, 12, 13, 14, 15]) [16, 17, 18, 19, 20] = true)
  (hp : TreeP P τ tL) (hrt : rowTy P tL = some (τ, 5, by_)) (hby : by_ ≤ 1000) (hkI : kI = ((k : Nat) : Int)) (hs : 3 < s) (hiv : 3 < iv ∧ iv < s) (hn : p + 18 + 3 ≤ n) (hkm : k < m) (hj : j < tsl.length) (hN : tsl.length ≤ 32767)
  (hf : fldOff P tS fi = some o) (hX : tySz P tX = some (false, sX)) (hE : tyElem P tX = some eX) (hES : tySz P eX = some (be, eS)) (hTE : tySz P tE = some (false, eS)) (hU : (P.underlying tE).isSome = true) (hI : tyInt P tI = some .i64) (hF : Cel w0 Y b2 (o2 + j * eS) [.int ik (iE j)]) (hE2 : tsl.getD j T.nil = ofNum (IntKind.i64.wrap (iE j)))
  (hQ : ∀ c a d v w, Q (.panic c) (Act.put a (some d) v) w → Q (.panic c) a w) (hC : Cel w0 Y b (off + o) [.slice (some ⟨b2, o2, none⟩) tsl.length cap]) (hk : Kn n (kb iv s j tsl.length b off tb pr) a) (ht : TBl w0 Y tb bb τ m k ts z tsl j w)
  (K : ∀ a' w', Kn n (kb iv s j tsl.length b off tb pr) a' → TBl w0 Y tb bb τ m k ts z tsl (j + 1) w' → Q .normal a' w') :
  (Code.region id ops.toArray true).wp P Q a w := by
 subst ho
 obtain ⟨vr, rs, xs, hm, hxl, hrl⟩ := ht
 obtain ⟨pv, cv, rfl⟩ := row_form (hm.row (i := 1) rfl)
 simp only [takes, Bool.and_eq_true] at h1
 obtain ⟨t0, t1, t2, t3, t4, t5, t6, t7, t8, t9, t10, t11, t12, t13, t14, t15, _⟩ := h1
 have hkI2 : ∀ l, ev l (.const (.int .i64 kI)) = some (.int .i64 ((k : Nat) : Int)) := fun l => by rw [hkI]; rfl
 refine d_start (M := Mem w0 Nob Y (TBm tb bb τ m ts xs (part5 z (.slice pv j cv) ++ zTs (m - (k + 1))))) (K := 20) hp.mixed ?_
 have hm := hm.pure (Agr.drew Nob w)
 generalize w.drew = w at hm ⊢
 refine d_take (i := 0) rfl rfl rfl t0 (fun c a w h => hQ c a _ _ w h) hk (blt_of (by omega)) (fun w hm => rF0 (b := tb) (off := 0) hk hp.fL (by simp (disch := omega) only [kb, bl, ev, lkS, lkN])) hm.tail.tail fun a hk => ?_
 refine d_take (i := 1) rfl rfl rfl t1 (fun c a w h => hQ c a _ _ w h) hk (blt_of (by omega)) (fun w hm => r_load1 (p := ⟨tb, 0 + 3, none⟩) hk hp.sL (by simp (disch := omega) only [kb, bl, ev, lkS]) (hm.cell_blk (i := 1) rfl rfl)) hm.tail.tail fun a hk => ?_
 refine d_take (i := 2) rfl rfl rfl t2 (fun c a w h => hQ c a _ _ w h) hk (blt_of (by omega)) (fun w hm => rF0 (b := tb) (off := 0) hk hp.fL (by simp (disch := omega) only [kb, bl, ev, lkS, lkN])) hm.tail.tail fun a hk => ?_
 refine d_take (i := 3) rfl rfl rfl t3 (fun c a w h => hQ c a _ _ w h) hk (blt_of (by omega)) (fun w hm => r_load1 (p := ⟨tb, 0 + 3, none⟩) hk hp.sL (by simp (disch := omega) only [kb, bl, ev, lkS]) (hm.cell_blk (i := 1) rfl rfl)) hm.tail.tail fun a hk => ?_
 refine d_take (i := 4) rfl rfl rfl t4 (fun c a w h => hQ c a _ _ w h) hk (blt_of (by omega)) (fun w hm => r_indexAddr (j := k) (b := bb) (off := 0) (k := m) (c := m) (kk := .i64) hk hp.eL hp.sT (by simp (disch := omega) only [kb, bl, ev, lkS]) (hkI2 _) hkm) hm.tail.tail fun a hk => ?_
 refine d_take (i := 5) rfl rfl rfl t5 (fun c a w h => hQ c a _ _ w h) hk (blt_of (by omega)) (fun w hm => rF0 (b := bb) (off := 0 + k * 5) hk hp.fL (by simp (disch := omega) only [kb, bl, ev, lkS])) hm.tail.tail fun a hk => ?_
 refine d_take (i := 6) rfl rfl rfl t6 (fun c a w h => hQ c a _ _ w h) hk (blt_of (by omega)) (fun w hm => r_load1 (p := ⟨bb, 0 + k * 5 + 3, none⟩) hk hp.sL (by simp (disch := omega) only [kb, bl, ev, lkS]) (hm.cell_blk (i := 2) rfl (get_part hxl))) hm.tail.tail fun a hk => ?_
 refine d_take (i := 7) rfl rfl rfl t7 (fun c a w h => hQ c a _ _ w h) hk (blt_of (by omega)) (fun w hm => r_move (v := .pointer (some ⟨b, off, none⟩)) hk (by simp (disch := omega) only [kb, bl, ev, lkS, lkN])) hm.tail.tail fun a hk => ?_
 refine d_take (i := 8) rfl rfl rfl t8 (fun c a w h => hQ c a _ _ w h) hk (blt_of (by omega)) (fun w hm => r_nilCheck (p := ⟨b, off, none⟩) hk (by simp (disch := omega) only [kb, bl, ev, lkS])) hm.tail.tail fun a hk => ?_
 refine d_take (i := 9) rfl rfl rfl t9 (fun c a w h => hQ c a _ _ w h) hk (blt_of (by omega)) (fun w hm => rF0 (b := b) (off := off) hk hf (by simp (disch := omega) only [kb, bl, ev, lkS])) hm.tail.tail fun a hk => ?_
 refine d_take (i := 10) rfl rfl rfl t10 (fun c a w h => hQ c a _ _ w h) hk (blt_of (by omega)) (fun w hm => r_load1 (p := ⟨b, off + o, none⟩) hk hX (by simp (disch := omega) only [kb, bl, ev, lkS]) (cel_in hm hC).one) hm.tail.tail fun a hk => ?_
 refine d_take (i := 11) rfl rfl rfl t11 (fun c a w h => hQ c a _ _ w h) hk (blt_of (by omega)) (fun w hm => r_move (v := .int .i64 (j : Int)) hk (by simp (disch := omega) only [kb, bl, ev, lkS, lkN])) hm.tail.tail fun a hk => ?_
 refine d_take (i := 12) rfl rfl rfl t12 (fun c a w h => hQ c a _ _ w h) hk (blt_of (by omega)) (fun w hm => r_indexAddr (j := j) (b := b2) (off := o2) (k := tsl.length) (c := cap) (kk := .i64) hk hE hES (by simp (disch := omega) only [kb, bl, ev, lkS, lkN]) (by simp (disch := omega) only [kb, bl, ev, lkS]) hj) hm.tail.tail fun a hk => ?_
 refine d_take (i := 13) rfl rfl rfl t13 (fun c a w h => hQ c a _ _ w h) hk (blt_of (by omega)) (fun w hm => r_load1 (p := ⟨b2, o2 + j * eS, none⟩) hk hTE (by simp (disch := omega) only [kb, bl, ev, lkS]) (cel_in hm hF).one) hm.tail.tail fun a hk => ?_
 refine d_take (i := 14) rfl rfl rfl t14 (fun c a w h => hQ c a _ _ w h) hk (blt_of (by omega)) (fun w hm => r_convInt (k := ik) (i := iE j) (c := IntKind.i64.wrap (iE j)) hk (Option.isSome_iff_exists.1 hU) hI (by simp (disch := omega) only [kb, bl, ev, lkS]) rfl) hm.tail.tail fun a hk => ?_
 refine d_take (i := 15) rfl rfl rfl t15 (fun c a w h => hQ c a _ _ w h) hk (blt_of (by omega)) (fun w hm => r_build (parts := [(0, .tmp (p + 14))]) (r := [.int .i64 (IntKind.i64.wrap (iE j)), .slice none 0 0, .bool false, .slice none 0 0, .slice none 0 0]) hk hp.zT rfl hp.ok ⟨.int .i64 (IntKind.i64.wrap (iE j)), [.int .i64 (IntKind.i64.wrap (iE j))], 0, (by simp (disch := omega) only [kb, bl, ev, lkS]), rfl, hp.a0, rfl, rfl⟩) hm.tail.tail fun a hk => ?_
 have hm := hm.add (e := .rep (ddT (tsl.getD j T.nil)) [.int .i64 (IntKind.i64.wrap (iE j)), .slice none 0 0, .bool false, .slice none 0 0, .slice none 0 0]) rfl (by rw [hE2]; exact rep_T_mk (t := ofNum (IntKind.i64.wrap (iE j))) (by simp [Rep, ddBs, T.s, ofNum]) (by simp [Rep, T.l, ofNum]) (by simp [Rep, ddTags, T.u, ofNum]))
 refine tl_Bend (e := 3) (p := p) (ib := 16) (ia := 17) (ii := 18) (iF := 19) (is := 20) (c' := [.int .i64 (IntKind.i64.wrap (iE j)), .slice none 0 0, .bool false, .slice none 0 0, .slice none 0 0]) hp hrt hby h2 rfl rfl rfl rfl rfl hkI hs hiv hps (by omega) hn hkm hj hN (by simp) hxl hrl (hk.sub (by simp (disch := omega) only [bl, kb, looks, lkS, lkN, and_self])) hm K
theorem tl_A_text {b2 o2 cap id9 eX eS : Nat} {be : Bool} {tE tY : Nat} {zE : Nat → List UInt8} {p : Nat} (hps : p = s + 10)
  (ho : ops = [⟨some p, .fieldAddr τ (.tmp 3) 3, ty0, ps0, af0, none⟩,
   ⟨some (p + 1), .load tL (.tmp p), ty1, ps1, af1, none⟩,
   ⟨some (p + 2), .indexAddr tL (.tmp (p + 1)) (.const (.int .i64 kI)), ty2, ps2, af2, none⟩,
   ⟨some (p + 3), .fieldAddr τ (.tmp (p + 2)) 3, ty3, ps3, af3, none⟩,
   ⟨some (p + 4), .load tL (.tmp (p + 3)), ty4, ps4, af4, none⟩,
   ⟨some (p + 5), .move (.tmp 0), ty5, ps5, af5, none⟩,
   ⟨some (p + 6), .nilCheck (.tmp (p + 5)), ty6, ps6, af6, none⟩,
   ⟨some (p + 7), .fieldAddr tS (.tmp (p + 6)) fi, ty7, ps7, af7, none⟩,
   ⟨some (p + 8), .load tX (.tmp (p + 7)), ty8, ps8, af8, none⟩,
   ⟨some (p + 9), .move (.tmp iv), ty9, ps9, af9, none⟩,
   ⟨some (p + 10), .indexAddr tX (.tmp (p + 8)) (.tmp (p + 9)), ty10, ps10, af10, none⟩,
   ⟨some (p + 11), .load tE (.tmp (p + 10)), ty11, ps11, af11, none⟩,
   ⟨some (p + 12), .convert tE tY (.tmp (p + 11)), ty12, ps12, af12, none⟩,
   ⟨some (p + 13), .build τ [(1, .tmp (p + 12))].toArray, ty13, ps13, af13, none⟩,
   ⟨some (p + 14), .call ⟨.builtin .len, #[.tmp (p + 4)], #[tL]⟩, ty14, ps14, af14, none⟩,
   ⟨some (p + 15), .buildSlice tL 1 #[(0, (.const (.agg #[.int .i64 0, .slice none 0 0, .bool false, .slice none 0 0, .slice none 0 0])))], ty15, ps15, af15, none⟩,
   ⟨some (p + 16), .call ⟨.builtin .append, #[.tmp (p + 4), .tmp (p + 15)], #[tL, tL]⟩, ty16, ps16, af16, none⟩,
   ⟨some (p + 17), .indexAddr tL (.tmp (p + 1)) (.const (.int .i64 kI)), ty17, ps17, af17, none⟩,
   ⟨some (p + 18), .fieldAddr τ (.tmp (p + 17)) 3, ty18, ps18, af18, none⟩,
   ⟨none, .store tL (.tmp (p + 18)) (.tmp (p + 16)), ty19, ps19, af19, none⟩])
  (h1 : takes ops 16 (Array.replicate ops.length false) [0, 1, 2, 3, 4, 5, 6, 7, 8, 9, 10, 11, 14] = true) (h2 : decide (Region.ready .any ops.toArray (setAll (Array.replicate ops.length false) [0, 1, 2, 3, 4, 5, 6, 7, 8, 9, 10, 11, 14]) = [12, 15]) = true) (h5 : takeOk ops ((setAll (Array.replicate ops.length false) [0, 1, 2, 3, 4, 5, 6, 7, 8, 9, 10, 11, 14]).setIfInBounds 12 true) 16 13 = true) (h3 : alones ops (((setAll (Array.replicate ops.length false) [0, 1, 2, 3, 4, 5, 6, 7, 8, 9, 10, 11, 14]).setIfInBounds 12 true).setIfInBounds 13 true) [15, 16, 17, 18, 19] = true) (h4 : alones ops ((setAll (Array.replicate ops.length false) [0, 1, 2, 3, 4, 5, 6, 7, 8, 9, 10, 11, 14]).setIfInBounds 15 true) [12, 13, 16, 17, 18, 19] = true)
  (hp : TreeP P τ tL) (hrt : rowTy P tL = some (τ, 5, by_)) (hby : by_ ≤ 1000) (hkI : kI = ((k : Nat) : Int)) (hs : 3 < s) (hiv : 3 < iv ∧ iv < s) (hn : p + 18 + 3 ≤ n) (hkm : k < m) (hj : j < tsl.length) (hN : tsl.length ≤ 32767)
  (hf : fldOff P tS fi = some o) (hX : tySz P tX = some (false, sX)) (hE : tyElem P tX = some eX) (hES : tySz P eX = some (be, eS)) (hTE : tySz P tE = some (false, eS)) (hStr : isStrTy P tE = true) (hByt : isBytesTy P tY = true) (hF : Cel w0 Y b2 (o2 + j * eS) [.string (bs (zE j))]) (hE2 : tsl.getD j T.nil = ofOct (zE j))
  (hQ : ∀ c a d v w, Q (.panic c) (Act.put a (some d) v) w → Q (.panic c) a w) (hC : Cel w0 Y b (off + o) [.slice (some ⟨b2, o2, none⟩) tsl.length cap]) (hk : Kn n (kb iv s j tsl.length b off tb pr) a) (ht : TBl w0 Y tb bb τ m k ts z tsl j w)
  (K : ∀ a' w', Kn n (kb iv s j tsl.length b off tb pr) a' → TBl w0 Y tb bb τ m k ts z tsl (j + 1) w' → Q .normal a' w') :
  (Code.seq (.region id ops.toArray true) (.region id9 [⟨some (p + 19), .indexAddr tL (.tmp (p + 16)) (.tmp (p + 14)), ty20, ps20, af20, none⟩, ⟨none, .store τ (.tmp (p + 19)) (.tmp (p + 13)), ty21, ps21, af21, none⟩].toArray false)).wp P Q a w := by
 subst ho
 obtain ⟨vr, rs, xs, hm, hxl, hrl⟩ := ht
 obtain ⟨pv, cv, rfl⟩ := row_form (hm.row (i := 1) rfl)
 simp only [takes, Bool.and_eq_true] at h1
 obtain ⟨t0, t1, t2, t3, t4, t5, t6, t7, t8, t9, t10, t11, t14, _⟩ := h1
 refine wp_seq ?_
 refine d_startM (K := 16) hp.mixed hm fun w hm => ?_
 have hkI2 : ∀ l, ev l (.const (.int .i64 kI)) = some (.int .i64 ((k : Nat) : Int)) := fun l => by rw [hkI]; rfl
 refine d_take (i := 0) rfl rfl rfl t0 (fun c a w h => hQ c a _ _ w h) hk (blt_of (by omega)) (fun w hm => rF0 (b := tb) (off := 0) hk hp.fL (by simp (disch := omega) only [kb, bl, ev, lkS, lkN])) hm fun a hk => ?_
 refine d_take (i := 1) rfl rfl rfl t1 (fun c a w h => hQ c a _ _ w h) hk (blt_of (by omega)) (fun w hm => r_load1 (p := ⟨tb, 0 + 3, none⟩) hk hp.sL (by simp (disch := omega) only [kb, bl, ev, lkS]) (hm.cell_blk (i := 3) rfl rfl)) hm fun a hk => ?_
 refine d_take (i := 2) rfl rfl rfl t2 (fun c a w h => hQ c a _ _ w h) hk (blt_of (by omega)) (fun w hm => r_indexAddr (j := k) (b := bb) (off := 0) (k := m) (c := m) (kk := .i64) hk hp.eL hp.sT (by simp (disch := omega) only [kb, bl, ev, lkS]) (hkI2 _) hkm) hm fun a hk => ?_
 refine d_take (i := 3) rfl rfl rfl t3 (fun c a w h => hQ c a _ _ w h) hk (blt_of (by omega)) (fun w hm => rF0 (b := bb) (off := 0 + k * 5) hk hp.fL (by simp (disch := omega) only [kb, bl, ev, lkS])) hm fun a hk => ?_
 refine d_take (i := 4) rfl rfl rfl t4 (fun c a w h => hQ c a _ _ w h) hk (blt_of (by omega)) (fun w hm => r_load1 (p := ⟨bb, 0 + k * 5 + 3, none⟩) hk hp.sL (by simp (disch := omega) only [kb, bl, ev, lkS]) (hm.cell_blk (i := 4) rfl (get_part hxl))) hm fun a hk => ?_
 refine d_take (i := 5) rfl rfl rfl t5 (fun c a w h => hQ c a _ _ w h) hk (blt_of (by omega)) (fun w hm => r_move (v := .pointer (some ⟨b, off, none⟩)) hk (by simp (disch := omega) only [kb, bl, ev, lkS, lkN])) hm fun a hk => ?_
 refine d_take (i := 6) rfl rfl rfl t6 (fun c a w h => hQ c a _ _ w h) hk (blt_of (by omega)) (fun w hm => r_nilCheck (p := ⟨b, off, none⟩) hk (by simp (disch := omega) only [kb, bl, ev, lkS])) hm fun a hk => ?_
 refine d_take (i := 7) rfl rfl rfl t7 (fun c a w h => hQ c a _ _ w h) hk (blt_of (by omega)) (fun w hm => rF0 (b := b) (off := off) hk hf (by simp (disch := omega) only [kb, bl, ev, lkS])) hm fun a hk => ?_
 refine d_take (i := 8) rfl rfl rfl t8 (fun c a w h => hQ c a _ _ w h) hk (blt_of (by omega)) (fun w hm => r_load1 (p := ⟨b, off + o, none⟩) hk hX (by simp (disch := omega) only [kb, bl, ev, lkS]) (cel_in hm hC).one) hm fun a hk => ?_
 refine d_take (i := 9) rfl rfl rfl t9 (fun c a w h => hQ c a _ _ w h) hk (blt_of (by omega)) (fun w hm => r_move (v := .int .i64 (j : Int)) hk (by simp (disch := omega) only [kb, bl, ev, lkS, lkN])) hm fun a hk => ?_
 refine d_take (i := 10) rfl rfl rfl t10 (fun c a w h => hQ c a _ _ w h) hk (blt_of (by omega)) (fun w hm => r_indexAddr (j := j) (b := b2) (off := o2) (k := tsl.length) (c := cap) (kk := .i64) hk hE hES (by simp (disch := omega) only [kb, bl, ev, lkS, lkN]) (by simp (disch := omega) only [kb, bl, ev, lkS]) hj) hm fun a hk => ?_
 refine d_take (i := 11) rfl rfl rfl t11 (fun c a w h => hQ c a _ _ w h) hk (blt_of (by omega)) (fun w hm => r_load1 (p := ⟨b2, o2 + j * eS, none⟩) hk hTE (by simp (disch := omega) only [kb, bl, ev, lkS]) (cel_in hm hF).one) hm fun a hk => ?_
 refine d_take (i := 14) rfl rfl rfl t14 (fun c a w h => hQ c a _ _ w h) hk (blt_of (by omega)) (fun w hm => r_lenSlice (p := pv) (k := j) (c := cv) hk hp.eL (by simp (disch := omega) only [kb, bl, ev, lkS, lkN])) hm fun a hk => ?_
 have h6 := of_decide_eq_true h2
 have r3 := alones_head h3
 have r4 := alones_head h4
 have r5 := alones_head (alones_tail h4)
 refine d_two (k := 12) (k2 := 15) h6 rfl rfl rfl rfl ?_ ?_
 ·refine o_strToBytes (s := zE j) hk hm hStr hByt (by simp (disch := omega) only [kb, bl, ev, lkS, lkN]) (blt_of (by omega)) fun a px cx w hk hm => ?_
  refine c_endQ (cT0 ⟨fun _ => hm.tail, ?_⟩)
  have hmt := hm.tail
  refine d_take (i := 13) rfl rfl rfl h5 (fun c a w h => hQ c a _ _ w h) hk (blt_of (by omega)) (fun w hm => r_build (parts := [(1, .tmp (p + 12))]) (r := [.int .i64 0, .slice px (zE j).length cx, .bool false, .slice none 0 0, .slice none 0 0]) hk hp.zT rfl hp.ok ⟨.slice px (zE j).length cx, [.slice px (zE j).length cx], 1, (by simp (disch := omega) only [kb, bl, ev, lkS]), rfl, hp.a1, rfl, rfl⟩) hmt fun a hk => ?_
  refine d_one (k := 15) r3 rfl rfl ?_
  refine o_build1 (v := .agg #[.int .i64 0, .slice none 0 0, .bool false, .slice none 0 0, .slice none 0 0]) (c := zT) hk hm hrt rfl rfl rfl rfl rfl (blt_of (by omega)) fun a b1 w hk hm => ?_
  refine c_endQ (cT0 ⟨fun _ => hm.tail.tail, ?_⟩)
  have hm := hm.add (e := .rep (ddT (tsl.getD j T.nil)) [.int .i64 0, .slice px (zE j).length cx, .bool false, .slice none 0 0, .slice none 0 0]) rfl (by rw [hE2]; exact rep_T_mk (t := ofOct (zE j)) (hm.rep (i := 1) rfl) (by simp [Rep, T.l, ofOct]) (by simp [Rep, ddTags, T.u, ofOct]))
  have hm := hm.pick [1, 0, 3, 4, 5, 6, 7] rfl rfl
  refine tl_Aend (e := 3) (p := p) (ia := 16) (ii := 17) (iF := 18) (is := 19) (c' := [.int .i64 0, .slice px (zE j).length cx, .bool false, .slice none 0 0, .slice none 0 0]) hp hrt hby (alones_tail h3) rfl rfl rfl rfl hkI hs hiv hps (by omega) hn hkm hj hN (by simp [setAll_size]) hxl hrl (hk.sub (by simp (disch := omega) only [bl, kb, looks, lkS, lkN, and_self])) hm K
 ·refine o_build1 (v := .agg #[.int .i64 0, .slice none 0 0, .bool false, .slice none 0 0, .slice none 0 0]) (c := zT) hk hm hrt rfl rfl rfl rfl rfl (blt_of (by omega)) fun a b1 w hk hm => ?_
  refine c_endQ (cT0 ⟨fun _ => hm.tail, ?_⟩)
  refine d_one (k := 12) r4 rfl rfl ?_
  refine o_strToBytes (s := zE j) hk hm hStr hByt (by simp (disch := omega) only [kb, bl, ev, lkS, lkN]) (blt_of (by omega)) fun a px cx w hk hm => ?_
  refine c_endQ (cT0 ⟨fun _ => hm.tail.tail, ?_⟩)
  refine d_one (k := 13) r5 rfl rfl ?_
  refine o_build (parts := [(1, .tmp (p + 12))]) (r := [.int .i64 0, .slice px (zE j).length cx, .bool false, .slice none 0 0, .slice none 0 0]) hk hp.zT rfl hp.ok ⟨.slice px (zE j).length cx, [.slice px (zE j).length cx], 1, (by simp (disch := omega) only [kb, bl, ev, lkS]), rfl, hp.a1, rfl, rfl⟩ (blt_of (by omega)) fun a hk => ?_
  refine c_endQ (cT0 ⟨fun _ => hm.tail.tail, ?_⟩)
  have hm := hm.add (e := .rep (ddT (tsl.getD j T.nil)) [.int .i64 0, .slice px (zE j).length cx, .bool false, .slice none 0 0, .slice none 0 0]) rfl (by rw [hE2]; exact rep_T_mk (t := ofOct (zE j)) (hm.rep (i := 0) rfl) (by simp [Rep, T.l, ofOct]) (by simp [Rep, ddTags, T.u, ofOct]))
  have hm := hm.pick [2, 0, 3, 4, 5, 6, 7] rfl rfl
  refine tl_Aend (e := 3) (p := p) (ia := 16) (ii := 17) (iF := 18) (is := 19) (c' := [.int .i64 0, .slice px (zE j).length cx, .bool false, .slice none 0 0, .slice none 0 0]) hp hrt hby (alones_tail (alones_tail h4)) rfl rfl rfl rfl hkI hs hiv hps (by omega) hn hkm hj hN (by simp [setAll_size]) hxl hrl (hk.sub (by simp (disch := omega) only [bl, kb, looks, lkS, lkN, and_self])) hm K
theorem tl_B_text {b2 o2 cap eX eS : Nat} {be : Bool} {tE tY : Nat} {zE : Nat → List UInt8} {p : Nat} (hps : s + 10 ≤ p)
  (ho : ops = [⟨some p, .fieldAddr τ (.tmp 3) 3, ty0, ps0, af0, none⟩,
   ⟨some (p + 1), .load tL (.tmp p), ty1, ps1, af1, none⟩,
   ⟨some (p + 2), .fieldAddr τ (.tmp 3) 3, ty2, ps2, af2, none⟩,
   ⟨some (p + 3), .load tL (.tmp (p + 2)), ty3, ps3, af3, none⟩,
   ⟨some (p + 4), .indexAddr tL (.tmp (p + 3)) (.const (.int .i64 kI)), ty4, ps4, af4, none⟩,
   ⟨some (p + 5), .fieldAddr τ (.tmp (p + 4)) 3, ty5, ps5, af5, none⟩,
   ⟨some (p + 6), .load tL (.tmp (p + 5)), ty6, ps6, af6, none⟩,
   ⟨some (p + 7), .move (.tmp 0), ty7, ps7, af7, none⟩,
   ⟨some (p + 8), .nilCheck (.tmp (p + 7)), ty8, ps8, af8, none⟩,
   ⟨some (p + 9), .fieldAddr tS (.tmp (p + 8)) fi, ty9, ps9, af9, none⟩,
   ⟨some (p + 10), .load tX (.tmp (p + 9)), ty10, ps10, af10, none⟩,
   ⟨some (p + 11), .move (.tmp iv), ty11, ps11, af11, none⟩,
   ⟨some (p + 12), .indexAddr tX (.tmp (p + 10)) (.tmp (p + 11)), ty12, ps12, af12, none⟩,
   ⟨some (p + 13), .load tE (.tmp (p + 12)), ty13, ps13, af13, none⟩,
   ⟨some (p + 14), .convert tE tY (.tmp (p + 13)), ty14, ps14, af14, none⟩,
   ⟨some (p + 15), .build τ [(1, .tmp (p + 14))].toArray, ty15, ps15, af15, none⟩,
   ⟨some (p + 16), .buildSlice tL 1 #[(0, .tmp (p + 15))], ty16, ps16, af16, none⟩,
   ⟨some (p + 17), .call ⟨.builtin .append, #[.tmp (p + 6), .tmp (p + 16)], #[tL, tL]⟩, ty17, ps17, af17, none⟩,
   ⟨some (p + 18), .indexAddr tL (.tmp (p + 1)) (.const (.int .i64 kI)), ty18, ps18, af18, none⟩,
   ⟨some (p + 19), .fieldAddr τ (.tmp (p + 18)) 3, ty19, ps19, af19, none⟩,
   ⟨none, .store tL (.tmp (p + 19)) (.tmp (p + 17)), ty20, ps20, af20, none⟩])
  (h1 : takes ops 20 (Array.replicate ops.length false) [0, 1, 2, 3, 4, 5, 6, 7, 8, 9, 10, 11, 12, 13] = true) (h2 : alones ops (setAll (Array.replicate ops.length false) [0, 1, 2, 3, 4, 5, 6, 7, 8, 9, 10, 11, 12, 13]) [14, 15, 16, 17, 18, 19, 20] = true)
  (hp : TreeP P τ tL) (hrt : rowTy P tL = some (τ, 5, by_)) (hby : by_ ≤ 1000) (hkI : kI = ((k : Nat) : Int)) (hs : 3 < s) (hiv : 3 < iv ∧ iv < s) (hn : p + 18 + 3 ≤ n) (hkm : k < m) (hj : j < tsl.length) (hN : tsl.length ≤ 32767)
  (hf : fldOff P tS fi = some o) (hX : tySz P tX = some (false, sX)) (hE : tyElem P tX = some eX) (hES : tySz P eX = some (be, eS)) (hTE : tySz P tE = some (false, eS)) (hStr : isStrTy P tE = true) (hByt : isBytesTy P tY = true) (hF : Cel w0 Y b2 (o2 + j * eS) [.string (bs (zE j))]) (hE2 : tsl.getD j T.nil = ofOct (zE j))
  (hQ : ∀ c a d v w, Q (.panic c) (Act.put a (some d) v) w → Q (.panic c) a w) (hC : Cel w0 Y b (off + o) [.slice (some ⟨b2, o2, none⟩) tsl.length cap]) (hk : Kn n (kb iv s j tsl.length b off tb pr) a) (ht : TBl w0 Y tb bb τ m k ts z tsl j w)
  (K : ∀ a' w', Kn n (kb iv s j tsl.length b off tb pr) a' → TBl w0 Y tb bb τ m k ts z tsl (j + 1) w' → Q .normal a' w') :
  (Code.region id ops.toArray true).wp P Q a w := by
 subst ho
 obtain ⟨vr, rs, xs, hm, hxl, hrl⟩ := ht
 obtain ⟨pv, cv, rfl⟩ := row_form (hm.row (i := 1) rfl)
 simp only [takes, Bool.and_eq_true] at h1
 obtain ⟨t0, t1, t2, t3, t4, t5, t6, t7, t8, t9, t10, t11, t12, t13, _⟩ := h1
 have hkI2 : ∀ l, ev l (.const (.int .i64 kI)) = some (.int .i64 ((k : Nat) : Int)) := fun l => by rw [hkI]; rfl
 refine d_start (M := Mem w0 Nob Y (TBm tb bb τ m ts xs (part5 z (.slice pv j cv) ++ zTs (m - (k + 1))))) (K := 20) hp.mixed ?_
 have hm := hm.pure (Agr.drew Nob w)
 generalize w.drew = w at hm ⊢
 refine d_take (i := 0) rfl rfl rfl t0 (fun c a w h => hQ c a _ _ w h) hk (blt_of (by omega)) (fun w hm => rF0 (b := tb) (off := 0) hk hp.fL (by simp (disch := omega) only [kb, bl, ev, lkS, lkN])) hm.tail.tail fun a hk => ?_
 refine d_take (i := 1) rfl rfl rfl t1 (fun c a w h => hQ c a _ _ w h) hk (blt_of (by omega)) (fun w hm => r_load1 (p := ⟨tb, 0 + 3, none⟩) hk hp.sL (by simp (disch := omega) only [kb, bl, ev, lkS]) (hm.cell_blk (i := 1) rfl rfl)) hm.tail.tail fun a hk => ?_
 refine d_take (i := 2) rfl rfl rfl t2 (fun c a w h => hQ c a _ _ w h) hk (blt_of (by omega)) (fun w hm => rF0 (b := tb) (off := 0) hk hp.fL (by simp (disch := omega) only [kb, bl, ev, lkS, lkN])) hm.tail.tail fun a hk => ?_
 refine d_take (i := 3) rfl rfl rfl t3 (fun c a w h => hQ c a _ _ w h) hk (blt_of (by omega)) (fun w hm => r_load1 (p := ⟨tb, 0 + 3, none⟩) hk hp.sL (by simp (disch := omega) only [kb, bl, ev, lkS]) (hm.cell_blk (i := 1) rfl rfl)) hm.tail.tail fun a hk => ?_
 refine d_take (i := 4) rfl rfl rfl t4 (fun c a w h => hQ c a _ _ w h) hk (blt_of (by omega)) (fun w hm => r_indexAddr (j := k) (b := bb) (off := 0) (k := m) (c := m) (kk := .i64) hk hp.eL hp.sT (by simp (disch := omega) only [kb, bl, ev, lkS]) (hkI2 _) hkm) hm.tail.tail fun a hk => ?_
 refine d_take (i := 5) rfl rfl rfl t5 (fun c a w h => hQ c a _ _ w h) hk (blt_of (by omega)) (fun w hm => rF0 (b := bb) (off := 0 + k * 5) hk hp.fL (by simp (disch := omega) only [kb, bl, ev, lkS])) hm.tail.tail fun a hk => ?_
 refine d_take (i := 6) rfl rfl rfl t6 (fun c a w h => hQ c a _ _ w h) hk (blt_of (by omega)) (fun w hm => r_load1 (p := ⟨bb, 0 + k * 5 + 3, none⟩) hk hp.sL (by simp (disch := omega) only [kb, bl, ev, lkS]) (hm.cell_blk (i := 2) rfl (get_part hxl))) hm.tail.tail fun a hk => ?_
 refine d_take (i := 7) rfl rfl rfl t7 (fun c a w h => hQ c a _ _ w h) hk (blt_of (by omega)) (fun w hm => r_move (v := .pointer (some ⟨b, off, none⟩)) hk (by simp (disch := omega) only [kb, bl, ev, lkS, lkN])) hm.tail.tail fun a hk => ?_
 refine d_take (i := 8) rfl rfl rfl t8 (fun c a w h => hQ c a _ _ w h) hk (blt_of (by omega)) (fun w hm => r_nilCheck (p := ⟨b, off, none⟩) hk (by simp (disch := omega) only [kb, bl, ev, lkS])) hm.tail.tail fun a hk => ?_
 refine d_take (i := 9) rfl rfl rfl t9 (fun c a w h => hQ c a _ _ w h) hk (blt_of (by omega)) (fun w hm => rF0 (b := b) (off := off) hk hf (by simp (disch := omega) only [kb, bl, ev, lkS])) hm.tail.tail fun a hk => ?_
 refine d_take (i := 10) rfl rfl rfl t10 (fun c a w h => hQ c a _ _ w h) hk (blt_of (by omega)) (fun w hm => r_load1 (p := ⟨b, off + o, none⟩) hk hX (by simp (disch := omega) only [kb, bl, ev, lkS]) (cel_in hm hC).one) hm.tail.tail fun a hk => ?_
 refine d_take (i := 11) rfl rfl rfl t11 (fun c a w h => hQ c a _ _ w h) hk (blt_of (by omega)) (fun w hm => r_move (v := .int .i64 (j : Int)) hk (by simp (disch := omega) only [kb, bl, ev, lkS, lkN])) hm.tail.tail fun a hk => ?_
 refine d_take (i := 12) rfl rfl rfl t12 (fun c a w h => hQ c a _ _ w h) hk (blt_of (by omega)) (fun w hm => r_indexAddr (j := j) (b := b2) (off := o2) (k := tsl.length) (c := cap) (kk := .i64) hk hE hES (by simp (disch := omega) only [kb, bl, ev, lkS, lkN]) (by simp (disch := omega) only [kb, bl, ev, lkS]) hj) hm.tail.tail fun a hk => ?_
 refine d_take (i := 13) rfl rfl rfl t13 (fun c a w h => hQ c a _ _ w h) hk (blt_of (by omega)) (fun w hm => r_load1 (p := ⟨b2, o2 + j * eS, none⟩) hk hTE (by simp (disch := omega) only [kb, bl, ev, lkS]) (cel_in hm hF).one) hm.tail.tail fun a hk => ?_
 have r0 := alones_head h2
 have r1 := alones_head (alones_tail h2)
 refine d_one (k := 14) r0 rfl rfl ?_
 refine o_strToBytes (s := zE j) hk hm hStr hByt (by simp (disch := omega) only [kb, bl, ev, lkS]) (blt_of (by omega)) fun a px cx w hk hm => ?_
 refine c_endQ ⟨fun _ => hm.tail.tail.tail, ?_⟩
 refine d_one (k := 15) r1 rfl rfl ?_
 refine o_build (parts := [(1, .tmp (p + 14))]) (r := [.int .i64 0, .slice px (zE j).length cx, .bool false, .slice none 0 0, .slice none 0 0]) hk hp.zT rfl hp.ok ⟨.slice px (zE j).length cx, [.slice px (zE j).length cx], 1, (by simp (disch := omega) only [kb, bl, ev, lkS]), rfl, hp.a1, rfl, rfl⟩ (blt_of (by omega)) fun a hk => ?_
 refine c_endQ ⟨fun _ => hm.tail.tail.tail, ?_⟩
 have hm := hm.add (e := .rep (ddT (tsl.getD j T.nil)) [.int .i64 0, .slice px (zE j).length cx, .bool false, .slice none 0 0, .slice none 0 0]) rfl (by rw [hE2]; exact rep_T_mk (t := ofOct (zE j)) (hm.rep (i := 0) rfl) (by simp [Rep, T.l, ofOct]) (by simp [Rep, ddTags, T.u, ofOct]))
 have hm := hm.pick [0, 2, 3, 4, 5, 6] rfl rfl
 refine tl_Bend (e := 3) (p := p) (ib := 16) (ia := 17) (ii := 18) (iF := 19) (is := 20) (c' := [.int .i64 0, .slice px (zE j).length cx, .bool false, .slice none 0 0, .slice none 0 0]) hp hrt hby (alones_tail (alones_tail h2)) rfl rfl rfl rfl rfl hkI hs hiv hps (by omega) hn hkm hj hN (by simp) hxl hrl (hk.sub (by simp (disch := omega) only [bl, kb, looks, lkS, lkN, and_self])) hm K
end
end Go.Mk
namespace Go.Mk
open Go
def RoundOk (P : Program) (w0 : World) (Y : Nat → Prop) (tb bb τ m k n s iv b off : Nat) (pr : Value) (ts : List T) (z : Bool) (tsl : List T) (A : Code) : Prop :=
 ∀ {Q : Exit → Act → World → Prop} {j : Nat} {a : Act} {w : World}, j < tsl.length → (∀ c a d v w, Q (.panic c) (Act.put a (some d) v) w → Q (.panic c) a w) → Kn n (kb iv s j tsl.length b off tb pr) a → TBl w0 Y tb bb τ m k ts z tsl j w →
  (∀ a' w', Kn n (kb iv s j tsl.length b off tb pr) a' → TBl w0 Y tb bb τ m k ts z tsl (j + 1) w' → Q .normal a' w') → A.wp P Q a w
section
variable {P : Program} {Q : Exit → Act → World → Prop} {a : Act} {w0 w : World} {Y : Nat → Prop} {tb bb τ tL m k n s id fi o b off tS tX sX iv eX tB cap : Nat} {ts tsl : List T} {sp : Option Addr} {pr : Value} {y A B : Code} {ops : List Oper}
variable {id0 idb r4 r5 r6 r7 r11 tz t2 t3 : Nat} {ty0 ty1 ty2 ty3 ty4 ty5 ty6 ty7 ty8 ty9 ty10 ty11 ty12 ty13 ty14 ty15 : Nat} {ps0 ps1 ps2 ps3 ps4 ps5 ps6 ps7 ps8 ps9 ps10 ps11 ps12 ps13 ps14 ps15 : String} {af0 af1 af2 af3 af4 af5 af6 af7 af8 af9 af10 af11 af12 af13 af14 af15 : Array Edge}
theorem tl_list (hp : TreeP P τ tL) (hB : tyZero P tB = some (.bool false)) (hZ : tySz P tB = some (false, 1))
  (ho : ops = [⟨some (s + 8), .alloc tB, ty0, ps0, af0, none⟩, ⟨none, .store tB (.tmp (s + 8)) (.const (.bool true)), ty1, ps1, af1, none⟩, ⟨none, .store tB (.tmp (s + 8)) (.const (.bool false)), ty2, ps2, af2, none⟩, ⟨some (s + 9), .load tB (.tmp (s + 8)), ty3, ps3, af3, none⟩])
  (h1 : decide (Region.ready .any ops.toArray (Array.replicate 4 false) = [0]) = true) (h2 : decide (Region.ready .any ops.toArray ((Array.replicate 4 false).setIfInBounds 0 true) = [1, 2]) = true)
  (h3 : alones ops (((Array.replicate 4 false).setIfInBounds 0 true).setIfInBounds 1 true) [2, 3] = true) (h4 : alones ops (((Array.replicate 4 false).setIfInBounds 0 true).setIfInBounds 2 true) [1, 3] = true)
  (hs : 3 < s) (hiv : 3 < iv ∧ iv < s) (htz : s + 10 ≤ tz) (hn : tz < n) (_hkm : k < m) (hN : tsl.length ≤ 32767)
  (hf : fldOff P tS fi = some o) (hX : tySz P tX = some (false, sX)) (hE : tyElem P tX = some eX) (hQ : ∀ c a d v w, Q (.panic c) (Act.put a (some d) v) w → Q (.panic c) a w)
  (hC : Cel w0 Y b (off + o) [.slice sp tsl.length cap]) (hk : Kn n (bl b off tb pr) a) (ht : TBz w0 Y tb bb τ m k ts sp.isNone w)
  (hA : RoundOk P w0 Y tb bb τ m k n s iv b off pr ts sp.isNone tsl A) (hBB : RoundOk P w0 Y tb bb τ m k n s iv b off pr ts sp.isNone tsl B)
  (K : ∀ a' w', Kn n (bl b off tb pr) a' → TB w0 Y tb bb τ m (k + 1) (ts ++ [.mk 0 [] sp.isNone tsl []]) w' → y.wp P Q a' w') :
  (Code.seq (Code.seq (.region r4 [⟨some s, .move (.tmp 0), ty4, ps4, af4, none⟩, ⟨some (s + 1), .nilCheck (.tmp s), ty5, ps5, af5, none⟩, ⟨some (s + 2), .fieldAddr tS (.tmp (s + 1)) fi, ty6, ps6, af6, none⟩, ⟨some (s + 3), .load tX (.tmp (s + 2)), ty7, ps7, af7, none⟩,
    ⟨some (s + 4), .call ⟨.builtin .len, #[.tmp (s + 3)], #[tX]⟩, ty8, ps8, af8, none⟩, ⟨some (s + 5), .move (.const (.int .i64 0)), ty9, ps9, af9, none⟩].toArray false)
   (.block id0 (.loop (.seq (.region r5 [⟨some (s + 6), .binOp .lss t2 (.tmp (s + 5)) (.tmp (s + 4)) t3, ty10, ps10, af10, none⟩].toArray false)
    (.seq (.cond (.tmp (s + 6)) .skip (.exit id0)) (.seq (.block idb
     (.seq (.region r6 [⟨some (s + 7), .move (.tmp (s + 5)), ty11, ps11, af11, none⟩, ⟨some iv, .assign (.tmp (s + 7)), ty12, ps12, af12, none⟩].toArray false) (.seq (.region r7 ops.toArray true) (.cond (.tmp (s + 9)) A B))))
     (.region r11 [⟨some tz, .binOp .add t2 (.tmp (s + 5)) (.const (.int .i64 1)) t3, ty13, ps13, af13, none⟩, ⟨some (s + 5), .move (.tmp tz), ty13, ps14, af14, none⟩].toArray false))))))) y).wp P Q a w := by
 obtain ⟨⟨xs, hm⟩, hlen⟩ := ht
 have hxl : xs.length = k * 5 := by
  have := RepE.length (hm.els (i := 0) rfl)
  rw [List.length_map, hlen] at this
  exact this
 refine wp_seq ?_
 refine cR0 ?_
 refine oM0 (v := .pointer (some ⟨b, off, none⟩)) hk (by simp (disch := omega) only [bl, ev, lkS]) (blt_of (by omega)) fun a hk => ?_
 refine oN0 (p := ⟨b, off, none⟩) hk (by simp (disch := omega) only [bl, ev, lkS]) (blt_of (by omega)) fun a hk => ?_
 refine oF0 (b := b) (off := off) hk hf (by simp (disch := omega) only [bl, ev, lkS]) (blt_of (by omega)) fun a hk => ?_
 refine o_load (p := ⟨b, off + o, none⟩) hk hX (by simp (disch := omega) only [bl, ev, lkS]) (cel_in hm hC).one (blt_of (by omega)) fun a hk => ?_
 refine oL0 (p := sp) (k := tsl.length) (c := cap) hk hE (by simp (disch := omega) only [bl, ev, lkS]) (blt_of (by omega)) fun a hk => ?_
 refine oM0 (v := .int .i64 0) hk rfl (blt_of (by omega)) fun a hk => ?_
 refine cE0 ?_
 have hm := hm.addNil τ 5
 have hm := hm.addEls 5
 have hsb : slotsBut tz (s + 6) (s + 5) (bl b off tb pr) = true := slotsBut_of (by simp only [bl, List.forall_mem_cons, List.not_mem_nil, false_imp_iff, implies_true, and_true]; omega)
 refine c_range (L0 := bl b off tb pr) tsl.length (by omega) (fun j L w => L = bl b off tb pr ∧ TBl w0 Y tb bb τ m k ts sp.isNone tsl j w) (hk.sub (by simp (disch := omega) only [bl, looks, lkS, lkN, and_self])) ⟨rfl, .slice none 0 0, [], xs, by simpa [TLm, TBm] using hm, hxl, rfl⟩
  (blt_of (by omega)) (blt_of (by omega)) (blt_of hn) (beq_ne (by omega)) (beq_ne (by omega)) (beq_ne (by omega)) (beq_ne (by omega)) ?_ hsb ?_
 ·rintro j L a w hj ⟨rfl, vr, rs, xs, hm, hxl, hrl⟩ hk
  refine cR0 ?_
  refine oM0 (v := .int .i64 (j : Int)) hk (by simp (disch := omega) only [bl, ev, lkS, lkN]) (blt_of (by omega)) fun a hk => ?_
  refine oA0 (v := .int .i64 (j : Int)) hk (by simp (disch := omega) only [bl, ev, lkS]) (blt_of (by omega)) fun a hk => ?_
  refine cE0 ?_
  refine tl_coin (N := tsl.length) (j := j) (b := b) (off := off) (tb := tb) (pr := pr) hp hB hZ ho h1 h2 h3 h4 hs hiv (by omega) (hk.sub (by simp (disch := omega) only [bl, kb, looks, lkS, lkN, and_self])) hm (fun a w hk hm => ?_) (fun a w hk hm => ?_)
  ·exact hA hj (fun c a d v w h => hQ c a d v w h) hk ⟨_, _, _, hm, hxl, hrl⟩ fun a' w' hk' ht' => cN0 (c_round (L' := bl b off tb pr) hk' (by simp (disch := omega) only [bl, kb, looks, lkS, lkN, and_self]) hsb ⟨rfl, ht'⟩)
  ·exact hBB hj (fun c a d v w h => hQ c a d v w h) hk ⟨_, _, _, hm, hxl, hrl⟩ fun a' w' hk' ht' => cN0 (c_round (L' := bl b off tb pr) hk' (by simp (disch := omega) only [bl, kb, looks, lkS, lkN, and_self]) hsb ⟨rfl, ht'⟩)
 ·rintro L a w ⟨rfl, vr, rs, xs, hm, hxl, hrl⟩ hk
  have hm := hm.freezeRow (i := 1) (st := false) rfl (noX _) (hm.els (i := 0) rfl) (by rw [List.length_map, List.take_length]) (fun _ => rfl)
  rw [List.take_length] at hm
  have hm := hm.elsPush (i := 2) (d := ddT (.mk 0 [] sp.isNone tsl [])) (c := part5 sp.isNone vr) rfl (rep_T_mk (t := .mk 0 [] sp.isNone tsl []) (by simp [Rep, ddBs, T.s]) (hm.rep (i := 1) rfl) (by simp [Rep, ddTags, T.u])) rfl
  have hm := hm.tail.tail
  refine cT0 (K a w (hk.sub (by simp (disch := omega) only [bl, looks, lkS, lkN, and_self])) ⟨⟨xs ++ part5 sp.isNone vr, ?_⟩, by rw [List.length_append, hlen]; rfl⟩)
  simpa [TBm, putAt] using hm
end
end Go.Mk
namespace Go.Mk
open Go
theorem made_zTs : ∀ N : Nat, madeCells zT.toArray (N * 5) = (zTs N).toArray := by
 intro N
 apply Array.ext'
 simp only [madeCells, Array.toList_map, Array.toList_range]
 induction N with
 | zero => rfl
 | succ N ih =>
  rw [show (N + 1) * 5 = 5 + N * 5 by omega, List.range_add, List.map_append, zTs, List.map_map, ← ih]
  congr 1
  apply List.map_congr_left
  intro j _
  show zT.toArray[(5 + j) % 5]! = zT.toArray[j % 5]!
  rw [Nat.add_mod_left]
section
variable {P : Program} {ops : Array Oper} {Q : Exit → Act → World → Prop} {rest : List Oper} {a : Act} {w w0 : World} {n : Nat} {l : List (Nat × Value)} {X Z : Nat → Prop} {m : List Ent}
variable {d : Nat} {ty : Nat} {ps : String} {af : Array Edge}
theorem o_makeT {t τ by_ N : Nat} {nI : Int} (hp : TreeP P τ t) (hk : Kn n l a) (hm : Mem w0 X Z m w) (ht : rowTy P t = some (τ, 5, by_)) (hnI : nI = ((N : Nat) : Int)) (hN : N ≤ 1000) (hby : by_ ≤ 1000) (hd : Nat.blt d n = true)
  (K : ∀ a' b w', Kn n ((d, .slice (some ⟨b, 0, none⟩) N N) :: l) a' → Mem w0 X Z (.blk b (zTs N) τ :: m) w' → wpList P ops Q rest a' w') :
  wpList P ops Q (⟨some d, .makeSlice t (.const (.int .i64 nI)) (.const (.int .i64 nI)), ty, ps, af, none⟩ :: rest) a w := by
 subst hnI
 obtain ⟨i, z', h1, h2, h3, h4, h5, rfl⟩ := rowTy_spec ht
 have hz' : z' = .agg zT.toArray := by
  have hz := hp.zT
  unfold tyZero at hz
  rw [h2] at hz
  simp only [Option.bind_some, h3, Option.some.injEq] at hz
  exact hz
 subst hz'
 have hb : (i.bytes : Int) * (N : Int) ≤ 281474976710656 := by
  have : i.bytes * N ≤ 1000 * 1000 := Nat.mul_le_mul hby hN
  omega
 have hr := run_make (P := P) w t τ i _ h1 h2 h3 .i64 .i64 (N : Int) (N : Int) (by omega) (by omega) hb (by omega)
 have e1 := made_zTs N
 have hcells : (Value.agg zT.toArray).cells = zT.toArray := rfl
 simp only [Int.toNat_natCast, hcells, h5, e1] at hr
 refine step_runs (v := .slice (some ⟨w.heap.size, 0, none⟩) N N) (w' := w.alloc (.cells (zTs N).toArray τ)) hk rfl rfl hd ?_ fun a' hk' => K a' _ _ hk' (hm.alloc _ τ)
 unfold Runs execOp
 have hy : a.eval (.const (.int .i64 (N : Int))) = .int .i64 (N : Int) := rfl
 simp only [Sem.run_bind, hy, hr, Result.andThen_ok, Sem.run_pure]
end
structure Base (w0 : World) (Y : Nat → Prop) (w1 : World) (Y1 : Nat → Prop) (rb τ : Nat) : Prop where
 agr : Agr Nob w0 w1
 lt : rb < w1.heap.size
 ge : w0.heap.size ≤ rb
 blk : w1.heap[rb]? = some (.cells zT.toArray τ (0, 0))
 up : ∀ i, i < w0.heap.size → Y i → Y1 i
 at_ : Y1 rb
 small : ∀ i, Y1 i → i < w1.heap.size
section
variable {P : Program} {Q : Exit → Act → World → Prop} {a : Act} {w0 w : World} {Y : Nat → Prop} {τ tL m n b off oc by_ r0 r1 su sv : Nat} {y : Code} {d : DD} {cs : List Value} {nI : Int}
variable {ty0 ty1 ty2 ty3 ty4 : Nat} {ps0 ps1 ps2 ps3 ps4 : String} {af0 af1 af2 af3 af4 : Array Edge}
theorem tl_start (hp : TreeP P τ tL) (hrt : rowTy P tL = some (τ, 5, by_)) (hby : by_ ≤ 1000) (hnI : nI = ((m : Nat) : Int)) (hm1 : m ≤ 1000) (hu : 3 < su) (hv : 3 < sv ∧ sv ≠ su) (hun : su < n) (hvn : sv < n) (hn4 : 4 < n)
  (hC : Cel w0 Y b oc cs) (hR : Rep w0 Y d cs) (hk : Kn n [(0, .pointer (some ⟨b, off, none⟩))] a)
  (K : ∀ a' w1 w rb tb bb Y1, Base w0 Y w1 Y1 rb τ → Cel w1 Y1 b oc cs → Rep w1 Y1 d cs → Kn n (bl b off tb (.pointer (some ⟨rb, 0, none⟩))) a' → TB w1 Y1 tb bb τ m 0 [] w → y.wp P Q a' w) :
  (Code.seq (.region r0 [⟨some 2, .alloc τ, ty0, ps0, af0, none⟩].toArray false) (Code.seq (.region r1 [⟨some su, .makeSlice tL (.const (.int .i64 nI)) (.const (.int .i64 nI)), ty1, ps1, af1, none⟩, ⟨some sv, .build τ [(3, .tmp su)].toArray, ty2, ps2, af2, none⟩,
   ⟨some 3, .alloc τ, ty3, ps3, af3, none⟩, ⟨none, .store τ (.tmp 3) (.tmp sv), ty4, ps4, af4, none⟩].toArray false) y)).wp P Q a w0 := by
 have hm : Mem w0 Nob Y [.cel b oc cs, .rep d cs] w0 := Mem.start rfl (by simp only [List.forall_mem_cons, List.not_mem_nil, false_imp_iff, implies_true, and_true]; exact ⟨hC, hR⟩)
 refine cR0 ?_
 refine o_alloc hk hm hp.zT rfl (blt_of (by omega)) fun a rb w1 hk hm => ?_
 refine cE0 ?_
 have hown := hm.own rb (by simp [muts, Ent.mut])
 have hbase : Base w0 Y w1 (Yof w0 Y [.blk rb zT τ, .cel b oc cs, .rep d cs]) rb τ :=
  ⟨hm.agr, hown.1, Nat.le_of_not_lt fun h => (hown.2 h).elim, hm.all _ (eA0 (i := 0) rfl), fun i hi hy => .inl ⟨hi, hy⟩, .inr (by simp [muts, Ent.mut]), fun i hi => Yof.lt hm hi⟩
 have hC1 : Cel w1 (Yof w0 Y [.blk rb zT τ, .cel b oc cs, .rep d cs]) b oc cs := hm.all _ (eA0 (i := 1) rfl)
 have hR1 : Rep w1 (Yof w0 Y [.blk rb zT τ, .cel b oc cs, .rep d cs]) d cs := hm.rep (i := 2) rfl
 generalize Yof w0 Y [.blk rb zT τ, .cel b oc cs, .rep d cs] = Y1 at hbase hC1 hR1
 clear hm
 have hm : Mem w1 Nob Y1 [] w1 := Mem.start rfl (by simp)
 refine cR0 ?_
 refine o_makeT (nI := nI) (N := m) hp hk hm hrt hnI hm1 hby (blt_of hun) fun a bb w hk hm => ?_
 refine o_build (parts := [(3, .tmp su)]) (r := [.int .i64 0, .slice none 0 0, .bool false, .slice (some ⟨bb, 0, none⟩) m m, .slice none 0 0]) hk hp.zT rfl hp.ok ⟨.slice (some ⟨bb, 0, none⟩) m m, [.slice (some ⟨bb, 0, none⟩) m m], 3, lkS, rfl, hp.a3, rfl, rfl⟩ (blt_of hvn) fun a hk => ?_
 refine o_alloc hk hm hp.zT rfl (blt_of (by omega)) fun a tb w hk hm => ?_
 refine o_store (i := 0) (b := tb) (off := 0) (v := .agg [.int .i64 0, .slice none 0 0, .bool false, .slice (some ⟨bb, 0, none⟩) m m, .slice none 0 0].toArray) (cs := zT) (vs := [.int .i64 0, .slice none 0 0, .bool false, .slice (some ⟨bb, 0, none⟩) m m, .slice none 0 0])
  hk hm hp.sT (by simp (disch := omega) only [ev, lkS]) (by simp (disch := omega) only [ev, lkS, lkN]) rfl rfl rfl rfl (Nat.le_refl 5) fun a w hk hm => ?_
 refine cE0 ?_
 have hm := hm.addEls 5
 refine K a w1 w rb tb bb Y1 hbase hC1 hR1 (hk.sub (by simp (disch := omega) only [bl, looks, lkS, lkN, and_self])) ⟨⟨[], ?_⟩, rfl⟩
 rw [Nat.sub_zero]
 exact hm
end
end Go.Mk
namespace Go.Mk
open Go
def EachP (P : Program) (f : Nat) : Prop := ∀ {w0 : World} {Y X : Nat → Prop} {b off : Nat} {c : Value} {u us : List (Nat × List UInt8)} {g : Nat} {lb : List Value} (J : Nat → Nat → World → Prop),
 (u.map (·.1)).Nodup → u.length ≤ 32767 → us.Perm u → rising us → Cel w0 Y b off [c] → Rep w0 Y (ddTagMap u) [c] → (∀ k, k < w0.heap.size → X k → Y k) → cb0 P g = true → (∀ w1, Agr Nob w0 w1 → J w1.heap.size 0 w1) →
 (∀ S k p x w, us[k]? = some p → w0.heap.size ≤ S → S ≤ w.heap.size → J S k w → Rep w (Ea.Yw Y w0) (ddBs p.2) [x] →
  Ret P g ([.int .u32 (p.1 : Int), x] ++ lb) w fun _ w' => J S (k + 1) w' ∧ Agr (fun i => (i < w0.heap.size ∧ X i) ∨ S ≤ i) w w') →
 Ret P f [.pointer (some ⟨b, off, none⟩), .func (.func g) #[] lb.toArray] w0 fun _ w' => ∃ S, w0.heap.size ≤ S ∧ S ≤ w'.heap.size ∧ J S us.length w' ∧ Agr (fun i => i < w0.heap.size ∧ X i) w0 w'
theorem EachP.ok {P : Program} {f : Nat} (h : EachP P f) : EachOk P f := fun J hu hC hR hXY hg h0 hstep => h J (rising_pair hu.1).2 hu.2.1 (List.Perm.refl _) hu.1 hC hR hXY hg h0 hstep
structure TagP (P : Program) (τ tU tG t8 u8 : Nat) : Prop where
 sU : tySz P tU = some (false, 1)
 eU : tyElem P tU = some tG
 rU : ∃ by_, rowTy P tU = some (tG, 2, by_) ∧ by_ ≤ 1000
 e8 : tyElem P t8 = some u8
 r8 : rowTy P t8 = some (u8, 1, 1)
 zG : tyZero P tG = some (.agg #[.int .u32 0, .slice none 0 0])
 ok : fldsOk P tG = true
 g0 : fldAt P tG 0 = some (0, 1)
 g1 : fldAt P tG 1 = some (1, 1)
def TagJ (τ tG tb : Nat) (lv : Value) (YE : Nat → Prop) (us : List (Nat × List UInt8)) (S k : Nat) (w : World) : Prop :=
 ∃ uv rs, w.heap[tb]? = some (.cells [.int .i64 0, .slice none 0 0, .bool false, lv, uv].toArray τ (0, 0)) ∧ w.ownsRow 0 tG 2 uv k rs ∧ RepE w (fun i => YE i ∨ uv.ownBlock = some i) 2 ((us.take k).map ddTag) rs ∧ (∀ i, uv.ownBlock = some i → S ≤ i)
section
variable {P : Program} {Q : Exit → Act → World → Prop} {a : Act} {w0 w1 w : World} {Y Y1 YE : Nat → Prop} {tb bb τ tL tU tG t8 u8 m n s id fi o b off tS S k SE : Nat} {us u : List (Nat × List UInt8)} {ops : List Oper} {lv x : Value} {p : Nat × List UInt8} {fn : Func}
variable {ty0 ty1 ty2 ty3 ty4 ty5 ty6 ty7 ty8 ty9 ty10 ty11 : Nat} {ps0 ps1 ps2 ps3 ps4 ps5 ps6 ps7 ps8 ps9 ps10 ps11 : String} {af0 af1 af2 af3 af4 af5 af6 af7 af8 af9 af10 af11 : Array Edge}
set_option maxHeartbeats 2000000 in
theorem tl_clo (hp : TreeP P τ tL) (hg : TagP P τ tU tG t8 u8) (hres : fn.results = #[])
  (ho : ops = [⟨some s, .fieldAddr τ (.tmp 2) 4, ty0, ps0, af0, none⟩, ⟨some (s + 1), .load tU (.tmp s), ty1, ps1, af1, none⟩, ⟨some (s + 2), .move (.tmp 0), ty2, ps2, af2, none⟩, ⟨some (s + 3), .move (.tmp 1), ty3, ps3, af3, none⟩,
   ⟨some (s + 4), .call ⟨.builtin .append, #[.const (.slice none 0 0), .tmp (s + 3)], #[t8, t8]⟩, ty4, ps4, af4, none⟩, ⟨some (s + 5), .build tG [(0, .tmp (s + 2)), (1, .tmp (s + 4))].toArray, ty5, ps5, af5, none⟩, ⟨some (s + 6), .buildSlice tU 1 #[(0, .tmp (s + 5))], ty6, ps6, af6, none⟩,
   ⟨some (s + 7), .call ⟨.builtin .append, #[.tmp (s + 1), .tmp (s + 6)], #[tU, tU]⟩, ty7, ps7, af7, none⟩, ⟨some (s + 8), .fieldAddr τ (.tmp 2) 4, ty8, ps8, af8, none⟩, ⟨none, .store tU (.tmp (s + 8)) (.tmp (s + 7)), ty9, ps9, af9, none⟩])
  (h1 : takes ops 7 (Array.replicate ops.length false) [0, 1, 2, 3] = true) (h2 : alones ops (setAll (Array.replicate ops.length false) [0, 1, 2, 3]) [4, 5, 6, 7, 8, 9] = true) (hs : 2 < s) (hn : s + 9 ≤ n)
  (hpk : us[k]? = some p) (hul : us.length ≤ 32767) (hpl : p.2.length ≤ 32767) (hSE : SE ≤ S) (hSw : S ≤ w1.heap.size) (hYE : ∀ i, YE i → i < SE) (hYt : YE tb) (hJ : TagJ τ tG tb lv YE us S k w1)
  (hR : Rep w1 (fun i => YE i ∨ SE ≤ i) (ddBs p.2) [x]) (hk : Kn n [(0, .int .u32 (p.1 : Int)), (1, x), (2, .pointer (some ⟨tb, 0, none⟩))] a) :
  (Code.region id ops.toArray true).wp P (bodyPost P fn fun e w' => ∃ v, e = .returned v ∧ (TagJ τ tG tb lv YE us S (k + 1) w' ∧ Agr (fun i => i = tb ∨ S ≤ i) w1 w')) a w1 := by
 subst ho
 obtain ⟨uv, rs, hB, hrow, hels, hown⟩ := hJ
 obtain ⟨by_, hrU, hby⟩ := hg.rU
 have htb : tb < SE := hYE tb hYt
 have hkl : k < us.length := (List.getElem?_eq_some_iff.1 hpk).1
 have hm : Mem w1 (fun i => i = tb ∨ uv.ownBlock = some i) (fun i => YE i ∨ uv.ownBlock = some i) [.els 2 ((us.take k).map ddTag) rs, .blk tb [.int .i64 0, .slice none 0 0, .bool false, lv, uv] τ, .row tG 2 uv k rs, .rep (ddBs p.2) [x]] w1 := by
  refine Mem.startX ?_ ?_ ?_ ?_
  ·rintro i (rfl | hi)
   ·exact .inl hYt
   ·exact .inr hi
  ·simp only [muts, Ent.mut, List.append_nil, List.nil_append, List.singleton_append, List.nodup_cons]
   refine ⟨fun hb => ?_, by cases uv.ownBlock <;> simp⟩
   have := hown tb (by simpa using hb)
   omega
  ·intro i hi
   simp only [muts, Ent.mut, List.append_nil, List.nil_append, List.singleton_append, List.mem_cons] at hi
   rcases hi with rfl | hi
   ·exact ⟨by omega, .inl rfl⟩
   ·have hi' : uv.ownBlock = some i := by simpa using hi
    exact ⟨(hrow.lt i hi').2, .inr hi'⟩
  ·simp only [List.forall_mem_cons, List.not_mem_nil, false_imp_iff, implies_true, and_true]
   exact ⟨hels, hB, hrow, Rep.move (fun i _ hy => ⟨rfl, fun h => hy (h.elim .inl fun h => .inr (Nat.le_trans hSE (hown i h)))⟩) _ _ hR⟩
 simp only [takes, Bool.and_eq_true] at h1
 obtain ⟨t0, t1, t2, t3, _⟩ := h1
 simp only [alones, Bool.and_eq_true, decide_eq_true_eq] at h2
 obtain ⟨r4, r5, r6, r7, r8, r9, r10⟩ := h2
 have hge : ∀ (q : Nat) (L' : Array Bool), L'.getD 7 false = true → (L'.setIfInBounds q true).getD 7 false = true := fun q L' h => getD_set_true h
 have g1 := getD_set (L := (((setAll (Array.replicate 10 false) [0, 1, 2, 3]).setIfInBounds 4 true).setIfInBounds 5 true).setIfInBounds 6 true) (j := 7) (by simp [setAll_size])
 refine d_startM (K := 7) hp.mixed hm fun w hm => ?_
 refine d_take (i := 0) rfl rfl rfl t0 (fun _ _ _ h => h) hk (blt_of (by omega)) (fun w hm => rF0 (b := tb) (off := 0) hk hp.fU (by simp (disch := omega) only [ev, lkS, lkN])) hm fun a hk => ?_
 refine d_take (i := 1) rfl rfl rfl t1 (fun _ _ _ h => h) hk (blt_of (by omega)) (fun w hm => r_load1 (p := ⟨tb, 0 + 4, none⟩) hk hg.sU (by simp (disch := omega) only [ev, lkS]) (hm.cell_blk (i := 1) rfl rfl)) hm fun a hk => ?_
 refine d_take (i := 2) rfl rfl rfl t2 (fun _ _ _ h => h) hk (blt_of (by omega)) (fun w hm => r_move (v := .int .u32 (p.1 : Int)) hk (by simp (disch := omega) only [ev, lkS, lkN])) hm fun a hk => ?_
 refine d_take (i := 3) rfl rfl rfl t3 (fun _ _ _ h => h) hk (blt_of (by omega)) (fun w hm => r_move (v := x) hk (by simp (disch := omega) only [ev, lkS, lkN])) hm fun a hk => ?_
 refine d_one (k := 4) r4 rfl rfl ?_
 have hm2 := hm.addNil u8 1
 refine o_append (i := 0) (v := .slice none 0 0) (xv := x) hk hm2 hg.r8 rfl rfl (by simp (disch := omega) only [ev, lkS]) (src_bs hg.e8 (hm2.rep (i := 4) rfl)) (room_len (by unfold room; omega)) (room_by (by unfold room; omega)) (blt_of (by omega)) fun a v1 w hk hm _ => ?_
 have hm := hm.freezeRow (i := 0) (st := false) rfl (fun i hi hX => by
  rcases hX with rfl | hX
  ·exact muts_apart hm.nodup (i := 0) (j := 2) (by decide) rfl rfl i (by simp [Ent.mut, hi]) (by simp [Ent.mut])
  ·exact muts_apart hm.nodup (i := 0) (j := 3) (by decide) rfl rfl i (by simp [Ent.mut, hi]) (by simp [Ent.mut, hX])) (repE_bv p.2) (by rw [List.length_map, Nat.zero_add]) (fun _ => rfl)
 refine c_endQ (cT0 ⟨fun _ => hm.tail, ?_⟩)
 obtain ⟨p1, c1, rfl⟩ := rep_sl_len (hm.rep (i := 0) rfl)
 refine d_one (k := 5) r5 rfl rfl ?_
 refine o_build (parts := [(0, .tmp (s + 2)), (1, .tmp (s + 4))]) (r := [.int .u32 (p.1 : Int), .slice p1 (p.2.map ddB).length c1]) hk hg.zG rfl hg.ok ⟨.int .u32 (p.1 : Int), [.int .u32 (p.1 : Int)], 0, (by simp (disch := omega) only [ev, lkS, lkN]), rfl, hg.g0, rfl, .slice p1 (p.2.map ddB).length c1, [.slice p1 (p.2.map ddB).length c1], 1, (by simp (disch := omega) only [ev, lkS]), rfl, hg.g1, rfl, rfl⟩ (blt_of (by omega)) fun a hk => ?_
 refine c_endQ (cT0 ⟨fun _ => hm.tail, ?_⟩)
 refine d_one (k := 6) r6 rfl rfl ?_
 refine o_build1 (v := .agg [.int .u32 (p.1 : Int), .slice p1 (p.2.map ddB).length c1].toArray) (c := [.int .u32 (p.1 : Int), .slice p1 (p.2.map ddB).length c1]) hk hm hrU (by simp (disch := omega) only [ev, lkS]) rfl rfl rfl rfl (blt_of (by omega)) fun a b1 w hk hm => ?_
 refine c_endQ (cT0 ⟨fun _ => hm.tail.tail, ?_⟩)
 refine d_one (k := 7) r7 rfl rfl ?_
 refine o_append (i := 4) (v := uv) (xv := .slice (some ⟨b1, 0, none⟩) 1 1) hk hm hrU (by simp (disch := omega) only [ev, lkS, lkN]) rfl (by simp (disch := omega) only [ev, lkS]) (src_cells (k := 1) (news := [.int .u32 (p.1 : Int), .slice p1 (p.2.map ddB).length c1]) hg.eU rfl (hm.cells_blk (i := 0) rfl rfl) rfl) (by unfold maxLen; omega)
  (Nat.le_trans (Nat.mul_le_mul_left _ hby) (by omega)) (blt_of (by omega)) fun a uv' w hk hm _ => ?_
 refine c_endQ (cT0 ⟨fun h => absurd (g1.symm.trans h) (by decide), ?_⟩)
 refine d_one (k := 8) r8 rfl rfl ?_
 refine oF0 (b := tb) (off := 0) hk hp.fU (by simp (disch := omega) only [ev, lkS, lkN]) (blt_of (by omega)) fun a hk => ?_
 refine c_endQ (cT0 ⟨fun h => absurd ((hge _ _ g1).symm.trans h) (by decide), ?_⟩)
 refine d_one (k := 9) r9 rfl rfl ?_
 have hone : uv'.oneCell' = true := row_one (hm.row (i := 4) rfl)
 refine o_store (i := 3) (b := tb) (off := 0 + 4) (v := uv') (vs := [uv']) (cs := [.int .i64 0, .slice none 0 0, .bool false, lv, uv]) hk hm hg.sU (by simp (disch := omega) only [ev, lkS]) (by simp (disch := omega) only [ev, lkS, lkN]) (cells1 hone) rfl (one1 hone) rfl (Nat.le_refl 5) fun a w' hk hm => ?_
 have hm := hm.elsPush (i := 2) (d := ddTag p) rfl (rep_Tag_mk (hm.rep (i := 1) rfl)) rfl
 have hts : ((us.take (k + 1)).map ddTag) = (us.take k).map ddTag ++ [ddTag p] := by
  have hgd : us.getD k (0, []) = p := by rw [List.getD_eq_getElem?_getD, hpk]; rfl
  rw [take_succ_map ddTag us k (0, []) hkl, hgd]
 rw [← hts] at hm
 refine c_endQ (cT0 ⟨fun h => absurd ((hge _ _ (hge _ _ g1)).symm.trans h) (by decide), ?_⟩)
 have hso : ∀ i, uv'.ownBlock = some i → S ≤ i := fun i hi => by
  have hb := hm.own i (muts_mem (eA0 (i := 4) rfl) (by simp [Ent.mut, hi]))
  by_cases hlt : i < w1.heap.size
  ·rcases hb.2 hlt with rfl | h
   ·exact absurd (by simp [Ent.mut]) (muts_apart hm.nodup (i := 4) (j := 3) (by decide) rfl rfl i (by simp [Ent.mut, hi]))
   ·exact hown i h
  ·omega
 refine d_done r10 (b_endNone hres hk ⟨⟨uv', _, hm.all _ (eA0 (i := 3) rfl), hm.row (i := 4) rfl, RepE.move (fun i _ hy => ⟨rfl, fun h => hy ?_⟩) _ _ _ (hm.els (i := 2) rfl), hso⟩, hm.agr.mono fun i _ h => ?_⟩) _
 ·rcases h with h | h
  ·exact .inl ⟨Nat.lt_of_lt_of_le (hYE i h) (Nat.le_trans hSE hSw), .inl h⟩
  ·exact .inr (muts_mem (eA0 (i := 4) rfl) (by simp [Ent.mut, h]))
 ·rcases h with h | h
  ·exact .inl h
  ·exact .inr (hown i h)
end
end Go.Mk
namespace Go.Mk
open Go
def CloOk (P : Program) (τ tG g : Nat) : Prop := ∀ {w : World} {S k SE tb : Nat} {YE : Nat → Prop} {us : List (Nat × List UInt8)} {p : Nat × List UInt8} {lv x : Value},
 us[k]? = some p → us.length ≤ 32767 → p.2.length ≤ 32767 → SE ≤ S → S ≤ w.heap.size → (∀ i, YE i → i < SE) → YE tb → TagJ τ tG tb lv YE us S k w → Rep w (fun i => YE i ∨ SE ≤ i) (ddBs p.2) [x] →
 Ret P g [.int .u32 (p.1 : Int), x, .pointer (some ⟨tb, 0, none⟩)] w fun _ w' => TagJ τ tG tb lv YE us S (k + 1) w' ∧ Agr (fun i => i = tb ∨ S ≤ i) w w'
def SortedOk (P : Program) (f : Nat) : Prop := ∀ {w0 : World} {Y : Nat → Prop} {u : List (Nat × List UInt8)} {p : Option Addr} {cap : Nat}, Rep w0 Y (ddTags u) [.slice p u.length cap] → rising u → u.length ≤ 32767 → Ret P f [.slice p u.length cap] w0 fun _ w' => Agr Nob w0 w'
section
variable {P : Program} {a : Act} {w0 w1 w : World} {Y Y1 : Nat → Prop} {tb bb rb τ tL tU tG t8 u8 m n s rid fi o b off tS fE fS g : Nat} {us u : List (Nat × List UInt8)} {ops : List Oper} {c : Value} {fn : Func} {ts : List T} {dr : Bool} {r1 r2 r3 : Nat} {tys1 tys2 : Array Nat}
variable {ty0 ty1 ty2 ty3 ty4 ty5 ty6 ty7 ty8 ty9 : Nat} {ps0 ps1 ps2 ps3 ps4 ps5 ps6 ps7 ps8 ps9 : String} {af0 af1 af2 af3 af4 af5 af6 af7 af8 af9 : Array Edge}
theorem tl_last {cs : List Value} {t : T} {Z : Nat → Prop} (hp : TreeP P τ tL) (hres : fn.results = #[.cell 2 τ]) (ho : ops = [⟨some s, .load τ (.tmp 3), ty0, ps0, af0, none⟩, ⟨none, .store τ (.tmp 2) (.tmp s), ty1, ps1, af1, none⟩])
  (hdr : dr = true → takes ops 1 (Array.replicate 2 false) [0] = true ∧ alones ops ((Array.replicate 2 false).setIfInBounds 0 true) [1] = true) (hs : 3 < s) (hn : s < n) (hbase : Base w0 Y w1 Y1 rb τ) (hag : Agr Nob w1 w) (hZ : ∀ i, Y1 i → Z i) (_hZw : ∀ i, Z i → i < w.heap.size)
  (hcs : ∀ j v, cs[j]? = some v → w.cell? ⟨tb, 0 + j, none⟩ = some v) (hR : Rep w Z (ddT t) cs)
  (hk : Kn n (bl b off tb (.pointer (some ⟨rb, 0, none⟩))) a) :
  (Code.seq (.region rid ops.toArray dr) .ret).wp P (bodyPost P fn fun e w' => ∃ v, e = .returned v ∧ (Agr Nob w0 w' ∧ ∃ c', v = .agg c'.toArray ∧ Rep w' (fun i => i < w0.heap.size ∧ Y i) (ddT t) c')) a w := by
 subst ho
 obtain ⟨c1, c2, c3, c4, c5⟩ := rep_T5 hR
 have hcl : cs.length = 5 := by rw [c5]; rfl
 have hrb : w.heap[rb]? = some (.cells zT.toArray τ (0, 0)) := (hag.block rb hbase.lt id).trans hbase.blk
 have hrl : rb < w.heap.size := (Array.getElem?_eq_some_iff.1 hrb).1
 have hm : Mem w (fun i => i = rb) Z [.blk rb zT τ, .rep (ddT t) cs] w := by
  refine Mem.startX ?_ (by simp [muts, Ent.mut]) ?_ ?_
  ·rintro i rfl; exact hZ _ hbase.at_
  ·intro i hi
   simp only [muts, Ent.mut, List.append_nil, List.mem_cons, List.not_mem_nil, or_false] at hi
   subst hi; exact ⟨hrl, rfl⟩
  ·simp only [List.forall_mem_cons, List.not_mem_nil, false_imp_iff, implies_true, and_true]
   exact ⟨hrb, hR⟩
 have fin : ∀ (w' : World) (a : Act), Kn n ((s, .agg cs.toArray) :: bl b off tb (.pointer (some ⟨rb, 0, none⟩))) a → Mem w (fun i => i = rb) Z [.blk rb cs τ, .rep (ddT t) cs] w' →
   Code.ret.wp P (bodyPost P fn fun e w' => ∃ v, e = .returned v ∧ (Agr Nob w0 w' ∧ ∃ c', v = .agg c'.toArray ∧ Rep w' (fun i => i < w0.heap.size ∧ Y i) (ddT t) c')) a w' := by
  intro w' a hk hm
  refine wp_ret ?_
  refine b_retCell (i := 0) (cs := cs) hres (by rw [hcl]; exact hp.sT) hk hm (by simp (disch := omega) only [bl, lkS, lkN]) rfl ⟨?_, cs, rfl, ?_⟩
  ·refine (hbase.agr.trans hag (Z := Nob) (fun _ _ x => x) (fun _ _ x => x)).trans hm.agr (fun _ _ x => x) (fun i hi hx => ?_)
   have := hbase.ge
   omega
  ·refine Rep.move (fun i _ hy => ⟨rfl, fun h => hy (.inl ⟨?_, hZ i (hbase.up i h.1 h.2)⟩)⟩) _ _ (hm.rep (i := 1) rfl)
   exact Nat.lt_of_lt_of_le h.1 (Nat.le_trans hbase.agr.size hag.size)
 cases dr with
 | false =>
  refine cR0 ?_
  refine o_loadN (b := tb) (off := 0) (cs := cs) hk (by rw [hcl]; exact hp.sT) (by simp (disch := omega) only [bl, ev, lkS, lkN]) hcs (blt_of hn) fun a hk => ?_
  refine o_store (i := 0) (b := rb) (off := 0) (v := .agg cs.toArray) (vs := cs) (cs := zT) hk hm hp.sT (by simp (disch := omega) only [bl, ev, lkS, lkN]) (by simp (disch := omega) only [bl, ev, lkS]) (by simp [cellsOf]) hcl (rep_T_one hR) rfl (by rw [hcl]; exact Nat.le_refl 5) fun a w' hk hm => ?_
  rw [spl_whole (by rw [hcl]; rfl)] at hm
  refine cE0 ?_
  exact fin w' a hk hm
 | true =>
  obtain ⟨h1, h2⟩ := hdr rfl
  simp only [takes, Bool.and_eq_true] at h1
  simp only [alones, Bool.and_eq_true, decide_eq_true_eq] at h2
  refine wp_seq ?_
  refine d_start (M := fun w' => Agr Nob w w') (K := 1) hp.mixed ?_
  have hdw : Agr Nob w w.drew := Agr.drew Nob w
  have hmd := hm.pure hdw
  refine d_take (i := 0) rfl rfl rfl h1.1 (fun _ _ _ h => h) hk (blt_of hn) (fun w' hw' => r_loadN (b := tb) (off := 0) (cs := cs) hk (by rw [hcl]; exact hp.sT) (by simp (disch := omega) only [bl, ev, lkS, lkN]) (fun j v hj => by
   have h0 := hcs j v hj
   rw [World.cell?_of_block (w := w) (w' := w') (a := ⟨tb, 0 + j, none⟩) (hw'.block tb (cell_lt h0) id)]
   exact h0)) hdw fun a hk => ?_
  refine d_one (k := 1) h2.1 rfl rfl ?_
  refine o_store (i := 0) (b := rb) (off := 0) (v := .agg cs.toArray) (vs := cs) (cs := zT) hk hmd hp.sT (by simp (disch := omega) only [bl, ev, lkS, lkN]) (by simp (disch := omega) only [bl, ev, lkS]) (by simp [cellsOf]) hcl (rep_T_one hR) rfl (by rw [hcl]; exact Nat.le_refl 5) fun a w' hk hm => ?_
  rw [spl_whole (by rw [hcl]; rfl)] at hm
  refine c_endQ (cT0 ⟨fun h => Bool.noConfusion (show true = false from h), ?_⟩)
  exact d_done h2.2 (cT0 (fin w' a hk hm)) _
theorem tl_bare (hp : TreeP P τ tL) (hres : fn.results = #[.cell 2 τ]) (ho : ops = [⟨some s, .load τ (.tmp 3), ty0, ps0, af0, none⟩, ⟨none, .store τ (.tmp 2) (.tmp s), ty1, ps1, af1, none⟩])
  (hdr : dr = true → takes ops 1 (Array.replicate 2 false) [0] = true ∧ alones ops ((Array.replicate 2 false).setIfInBounds 0 true) [1] = true) (hs : 3 < s) (hn : s < n) (hm1 : m ≤ 1000)
  (hbase : Base w0 Y w1 Y1 rb τ) (hk : Kn n (bl b off tb (.pointer (some ⟨rb, 0, none⟩))) a) (ht : TB w1 Y1 tb bb τ m m ts w) :
  (Code.seq (.region rid ops.toArray dr) .ret).wp P (bodyPost P fn fun e w' => ∃ v, e = .returned v ∧ (Agr Nob w0 w' ∧ ∃ c', v = .agg c'.toArray ∧ Rep w' (fun i => i < w0.heap.size ∧ Y i) (ddT (.mk 0 [] false ts [])) c')) a w := by
 obtain ⟨⟨xs, hm⟩, hlen⟩ := ht
 rw [Nat.sub_self] at hm
 have hxl : xs.length = m * 5 := by
  have := RepE.length (hm.els (i := 0) rfl)
  rw [List.length_map, hlen] at this
  exact this
 have hm5 := hm.freezeLit (i := 2) (sz := 5) (n := m) (l := ts.map ddT) rfl id (by rw [List.length_map, hlen]) (by simp [zTs, hxl]) (by unfold maxLen; omega) (by have := hm.els (i := 0) rfl; simpa [zTs] using this)
 have hrep : Rep w _ (ddT (.mk 0 [] false ts [])) [.int .i64 0, .slice none 0 0, .bool false, .slice (some ⟨bb, 0, none⟩) m m, .slice none 0 0] := rep_T_mk (t := .mk 0 [] false ts []) (by simp [Rep, ddBs, T.s]) (hm5.rep (i := 2) rfl) (by simp [Rep, ddTags, T.u])
 exact tl_last (s := s) (tb := tb) (b := b) (off := off) (rb := rb) hp hres ho hdr hs hn hbase hm5.agr (fun i hi => .inl ⟨hbase.small i hi, hi⟩) (fun i hi => Yof.lt hm5 hi) (fun j v hj => hm5.cell_blk (i := 1) rfl (by rw [Nat.zero_add]; exact hj)) hrep hk
theorem tl_end (hp : TreeP P τ tL) (hg : TagP P τ tU tG t8 u8) (hE : EachP P fE) (hcE : cb0 P fE = true) (hSo : SortedOk P fS) (hcS : cb0 P fS = true) (hCl : CloOk P τ tG g) (hcg : cb0 P g = true) (hres : fn.results = #[.cell 2 τ])
  (ho : ops = [⟨some (s + 8), .load τ (.tmp 3), ty0, ps0, af0, none⟩, ⟨none, .store τ (.tmp 2) (.tmp (s + 8)), ty1, ps1, af1, none⟩])
  (hdr : dr = true → takes ops 1 (Array.replicate 2 false) [0] = true ∧ alones ops ((Array.replicate 2 false).setIfInBounds 0 true) [1] = true) (hs : 3 < s) (hn : s + 8 < n) (hm1 : m ≤ 1000)
  (hf : fldOff P tS fi = some o) (hC : Cel w1 Y1 b (off + o) [c]) (hR : Rep w1 Y1 (ddTagMap u) [c]) (hnd : (u.map (·.1)).Nodup) (hul : u.length ≤ 32767) (hup : ∀ p ∈ u, p.2.length ≤ 32767) (hpm : us.Perm u) (hri : rising us)
  (hbase : Base w0 Y w1 Y1 rb τ) (hk : Kn n (bl b off tb (.pointer (some ⟨rb, 0, none⟩))) a) (ht : TB w1 Y1 tb bb τ m m ts w) :
  (Code.seq (.region r1 [⟨some s, .move (.tmp 0), ty2, ps2, af2, none⟩, ⟨some (s + 1), .nilCheck (.tmp s), ty3, ps3, af3, none⟩, ⟨some (s + 2), .fieldAddr tS (.tmp (s + 1)) fi, ty4, ps4, af4, none⟩, ⟨some (s + 3), .makeFunc (.func g) #[] [.tmp 3].toArray, ty5, ps5, af5, none⟩,
    ⟨some (s + 4), .call ⟨.value (.func fE), [.tmp (s + 2), .tmp (s + 3)].toArray, tys1⟩, ty6, ps6, af6, none⟩].toArray false)
   (Code.seq (.region r2 [⟨some (s + 5), .fieldAddr τ (.tmp 3) 4, ty7, ps7, af7, none⟩, ⟨some (s + 6), .load tU (.tmp (s + 5)), ty8, ps8, af8, none⟩, ⟨some (s + 7), .call ⟨.value (.func fS), [.tmp (s + 6)].toArray, tys2⟩, ty9, ps9, af9, none⟩].toArray false)
    (Code.seq (.region rid ops.toArray dr) .ret))).wp P (bodyPost P fn fun e w' => ∃ v, e = .returned v ∧ (Agr Nob w0 w' ∧ ∃ c', v = .agg c'.toArray ∧ Rep w' (fun i => i < w0.heap.size ∧ Y i) (ddT (.mk 0 [] false ts us)) c')) a w := by
 obtain ⟨⟨xs, hm⟩, hlen⟩ := ht
 rw [Nat.sub_self] at hm
 have hxl : xs.length = m * 5 := by
  have := RepE.length (hm.els (i := 0) rfl)
  rw [List.length_map, hlen] at this
  exact this
 have htb := hm.own tb (by simp [TBm, muts, Ent.mut])
 have hbb := hm.own bb (by simp [TBm, muts, Ent.mut])
 have htbb : tb ≠ bb := by
  have := hm.nodup
  simp only [TBm, muts, Ent.mut, List.nil_append, List.singleton_append, List.nodup_cons, List.mem_cons, List.not_mem_nil, or_false, not_false_eq_true, List.nodup_nil, and_true, List.append_nil] at this
  exact this
 refine cR0 ?_
 refine oM0 (v := .pointer (some ⟨b, off, none⟩)) hk (by simp (disch := omega) only [bl, ev, lkS]) (blt_of (by omega)) fun a hk => ?_
 refine oN0 (p := ⟨b, off, none⟩) hk (by simp (disch := omega) only [bl, ev, lkS]) (blt_of (by omega)) fun a hk => ?_
 refine oF0 (b := b) (off := off) hk hf (by simp (disch := omega) only [bl, ev, lkS]) (blt_of (by omega)) fun a hk => ?_
 refine o_makeFunc (xs := [.tmp 3]) (vs := [.pointer (some ⟨tb, 0, none⟩)]) hk ⟨(by simp (disch := omega) only [bl, ev, lkS, lkN]), trivial⟩ (blt_of (by omega)) fun a hk => ?_
 have hEach := hE (w0 := w) (Y := Yof w1 Y1 (TBm tb bb τ m ts xs (zTs 0))) (X := fun i => i = tb) (b := b) (off := off + o) (c := c) (u := u) (us := us) (g := g) (lb := [.pointer (some ⟨tb, 0, none⟩)])
  (fun S k w' => TagJ τ tG tb (.slice (some ⟨bb, 0, none⟩) m m) (Yof w1 Y1 (TBm tb bb τ m ts xs (zTs 0))) us S k w') hnd hul hpm hri (cel_in hm hC) (rep_in hm hR) (fun i _ hi => by subst hi; exact .inr (by simp [TBm, muts, Ent.mut])) hcg ?_ ?_
 rotate_left
 ·intro w2 hag
  have hB : w2.heap[tb]? = _ := (hag.block tb htb.1 id).trans (hm.all _ (eA0 (i := 1) rfl))
  exact ⟨.slice none 0 0, [], hB, World.ownsRow_nil w2 0 tG 2, RepE.nil _ _ _, fun i hi => by simp [Value.ownBlock] at hi⟩
 ·intro S k p x w2 hpk hS1 hS2 hJ hx
  have hlk : us.length = u.length := hpm.length_eq
  refine Ret.mono (hCl (SE := w.heap.size) hpk (by omega) (hup p (hpm.mem_iff.1 (List.mem_of_getElem? hpk))) hS1 hS2 (fun i hi => Yof.lt hm hi) (.inr (by simp [TBm, muts, Ent.mut])) hJ hx) ?_
  rintro _ w' ⟨h1, h2⟩
  refine ⟨h1, h2.mono fun i _ h => ?_⟩
  rcases h with rfl | h
  ·exact .inl ⟨htb.1, rfl⟩
  ·exact .inr h
 refine o_call (vs := [.pointer (some ⟨b, off + o, none⟩), .func (.func g) #[] #[.pointer (some ⟨tb, 0, none⟩)]]) hk hcE hEach ⟨(by simp (disch := omega) only [bl, ev, lkS, lkN]), (by simp (disch := omega) only [bl, ev, lkS]), trivial⟩ (blt_of (by omega)) fun v2 w2 a hR2 hk => ?_
 obtain ⟨S, hS1, hS2, ⟨uv, rs, hB, hrow, hels, hown⟩, hag⟩ := hR2
 rw [List.take_length] at hels
 have hm2 : Mem w1 Nob Y1 [.els 2 (us.map ddTag) rs, .row tG 2 uv us.length rs, .els 5 (ts.map ddT) xs, .blk tb [.int .i64 0, .slice none 0 0, .bool false, .slice (some ⟨bb, 0, none⟩) m m, uv] τ, .blk bb (xs ++ zTs 0) τ] w2 := by
  have hmu : ∀ i, i ∈ muts [.els 2 (us.map ddTag) rs, .row tG 2 uv us.length rs, .els 5 (ts.map ddT) xs, .blk tb [.int .i64 0, .slice none 0 0, .bool false, .slice (some ⟨bb, 0, none⟩) m m, uv] τ, .blk bb (xs ++ zTs 0) τ] ↔ (uv.ownBlock = some i ∨ i = tb ∨ i = bb) := fun i => by simp [muts, Ent.mut]
  refine hm.rebuild (A := fun i => i < w.heap.size ∧ i = tb) hag (fun i hi => by rw [hi.2]; simp [TBm, muts, Ent.mut]) ?_ (fun i hi => ?_) ?_
  ·simp only [muts, Ent.mut, List.nil_append, List.singleton_append, List.append_nil, List.nodup_append, List.nodup_cons, List.mem_cons, List.not_mem_nil, or_false, not_false_eq_true, List.nodup_nil, and_true]
   refine ⟨by cases uv.ownBlock <;> simp, htbb, fun i hi j hj => ?_⟩
   have := hown i (by simpa using hi)
   rcases hj with rfl | rfl
   ·have := htb.1; omega
   ·have := hbb.1; omega
  ·rcases (hmu i).1 hi with h | rfl | rfl
   ·exact .inr ⟨Nat.le_trans hS1 (hown i h), (hrow.lt i h).2⟩
   ·exact .inl (by simp [TBm, muts, Ent.mut])
   ·exact .inl (by simp [TBm, muts, Ent.mut])
  ·simp only [List.forall_mem_cons, List.not_mem_nil, false_imp_iff, implies_true, and_true]
   refine ⟨.inr (RepE.move (fun i _ hy => ⟨rfl, fun h => hy ?_⟩) _ _ _ hels), .inr hrow, .inl ⟨by simp [TBm], by simp [Ent.mut]⟩, .inr hB, .inl ⟨by simp [TBm], fun i hi h => ?_⟩⟩
   ·rcases h with h | h
    ·exact .inl (.inl h)
    ·rcases (hmu i).1 h with h | rfl | rfl
     ·exact .inr h
     ·exact .inl (.inr (by simp [TBm, muts, Ent.mut]))
     ·exact .inl (.inr (by simp [TBm, muts, Ent.mut]))
   ·simp only [Ent.mut, List.mem_cons, List.not_mem_nil, or_false] at hi
    subst hi
    exact htbb h.2.symm
 refine cE0 ?_
 have hm3 := hm2.freezeRow (i := 1) (st := false) rfl (noX _) (hm2.els (i := 0) rfl) (by rw [List.length_map]) (fun _ => rfl)
 obtain ⟨pu, cu, hcu⟩ := rep_sl_len (hm3.rep (i := 1) rfl)
 rw [List.length_map] at hcu
 subst hcu
 refine cR0 ?_
 refine oF0 (b := tb) (off := 0) hk hp.fU (by simp (disch := omega) only [bl, ev, lkS, lkN]) (blt_of (by omega)) fun a hk => ?_
 refine o_load (p := ⟨tb, 0 + 4, none⟩) hk hg.sU (by simp (disch := omega) only [bl, ev, lkS]) (hm3.cell_blk (i := 3) rfl rfl) (blt_of (by omega)) fun a hk => ?_
 refine o_call (vs := [.slice pu us.length cu]) hk hcS (hSo (hm3.rep (i := 1) rfl) hri (by rw [hpm.length_eq]; exact hul)) ⟨(by simp (disch := omega) only [bl, ev, lkS]), trivial⟩ (blt_of (by omega)) fun v4 w4 a hR4 hk => ?_
 have hm4 := hm3.pure hR4
 refine cE0 ?_
 have hm5 := hm4.freezeLit (i := 4) (sz := 5) (n := m) (l := ts.map ddT) rfl id (by rw [List.length_map, hlen]) (by simp [zTs, hxl]) (by unfold maxLen; omega) (by have := hm4.els (i := 2) rfl; simpa [zTs] using this)
 have hrep : Rep w4 _ (ddT (.mk 0 [] false ts us)) [.int .i64 0, .slice none 0 0, .bool false, .slice (some ⟨bb, 0, none⟩) m m, .slice pu us.length cu] := rep_T_mk (t := .mk 0 [] false ts us) (by simp [Rep, ddBs, T.s]) (hm5.rep (i := 4) rfl) (hm5.rep (i := 1) rfl)
 refine tl_last (s := s + 8) (tb := tb) (b := b) (off := off) (rb := rb) hp hres ho hdr (by omega) (by omega) hbase hm5.agr (fun i hi => .inl ⟨hbase.small i hi, hi⟩) (fun i hi => Yof.lt hm5 hi) (fun j v hj => hm5.cell_blk (i := 3) rfl (by rw [Nat.zero_add]; exact hj)) hrep (hk.sub (by simp (disch := omega) only [bl, looks, lkS, lkN, and_self]))
end
end Go.Mk
namespace Go.Mk
open Go
mutual
def T.fine : T → Bool
 | .mk _ s _ l u => decide (s.length ≤ 32767) && decide (l.length ≤ 32767) && decide (u.length ≤ 32767) && u.all (fun p => decide (p.2.length ≤ 32767)) && decide ((u.map (·.1)).Nodup) && T.fines l
def T.fines : List T → Bool
 | [] => true
 | t :: r => t.fine && T.fines r
end
theorem fines_iff : ∀ {l : List T}, T.fines l = true ↔ ∀ t ∈ l, t.fine = true
 | [] => by simp [T.fines]
 | t :: r => by
  simp only [T.fines, Bool.and_eq_true, List.mem_cons, forall_eq_or_imp]
  rw [fines_iff (l := r)]
theorem fine_spec {t : T} (h : t.fine = true) : t.s.length ≤ 32767 ∧ t.l.length ≤ 32767 ∧ t.u.length ≤ 32767 ∧ (∀ p ∈ t.u, p.2.length ≤ 32767) ∧ (t.u.map (·.1)).Nodup ∧ ∀ x ∈ t.l, x.fine = true := by
 cases t with
 | mk n s z l u =>
  simp only [T.fine, Bool.and_eq_true, decide_eq_true_eq, List.all_eq_true] at h
  obtain ⟨⟨⟨⟨⟨h0, h1⟩, h2⟩, h3⟩, h5⟩, h4⟩ := h
  exact ⟨h0, h1, h2, fun p hp => h3 p hp, h5, fines_iff.1 h4⟩
theorem fine_mk {n : Int} {s : List UInt8} {z : Bool} {l : List T} {u : List (Nat × List UInt8)} (h0 : s.length ≤ 32767) (h1 : l.length ≤ 32767) (h2 : u.length ≤ 32767) (h3 : ∀ p ∈ u, p.2.length ≤ 32767) (h5 : (u.map (·.1)).Nodup) (h4 : ∀ x ∈ l, x.fine = true) : (T.mk n s z l u).fine = true := by
 simp only [T.fine, Bool.and_eq_true, decide_eq_true_eq, List.all_eq_true]
 exact ⟨⟨⟨⟨⟨h0, h1⟩, h2⟩, fun p hp => h3 p hp⟩, h5⟩, fines_iff.2 h4⟩
theorem fine_getD {t : T} (h : t.fine = true) (k : Nat) : (t.l.getD k T.nil).fine = true := by
 rw [List.getD_eq_getElem?_getD]
 cases hk : t.l[k]? with
 | none => rfl
 | some x => exact (fine_spec h).2.2.2.2.2 x (List.mem_of_getElem? hk)
theorem fine_at {t : T} (h : t.fine = true) (k : Nat) : (t.at_ k).fine = true := fine_getD h k
theorem tiny_fine : ∀ t : T, t.tiny = true → t.fine = true := T_ind fun t ih h => by
 have hs := tiny_spec h
 cases t with
 | mk n s z l u => exact fine_mk hs.1 hs.2.1 hs.2.2.1 hs.2.2.2.1 (rising_pair hs.2.2.2.2.1).2 (fun x hx => ih x hx (hs.2.2.2.2.2 x hx))
theorem insK_perm (u : Nat × List UInt8) : ∀ l, (insK u l).Perm (u :: l)
 | [] => List.Perm.refl _
 | x :: r => by
  simp only [insK]
  split
  ·exact List.Perm.refl _
  ·exact ((insK_perm u r).cons x).trans (List.Perm.swap u x r)
theorem sortU_perm (u : List (Nat × List UInt8)) : (sortU u).Perm u := by
 have key : ∀ (u acc : List (Nat × List UInt8)), (u.foldl (fun out x => insK x out) acc).Perm (acc ++ u) := by
  intro u
  induction u with
  | nil => intro acc; simp
  | cons x r ih =>
   intro acc
   simp only [List.foldl_cons]
   refine (ih _).trans ?_
   refine ((insK_perm x acc).append_right r).trans ?_
   simpa using (List.perm_middle (l₁ := acc) (a := x) (l₂ := r)).symm
 simpa [sortU] using key u []
theorem insK_rising {u : Nat × List UInt8} : ∀ {l : List (Nat × List UInt8)}, rising l → (∀ x ∈ l, x.1 ≠ u.1) → rising (insK u l)
 | [], _, _ => ⟨by simp, trivial⟩
 | x :: r, h, hn => by
  simp only [insK]
  split
  ·rename_i hlt
   refine ⟨fun q hq => ?_, h⟩
   rcases List.mem_cons.1 hq with rfl | hq
   ·exact hlt
   ·exact Nat.lt_trans hlt (h.1 q hq)
  ·rename_i hlt
   have hx := hn x List.mem_cons_self
   refine ⟨fun q hq => ?_, insK_rising h.2 fun y hy => hn y (List.mem_cons_of_mem _ hy)⟩
   rcases List.mem_cons.1 ((insK_perm u r).mem_iff.1 hq) with rfl | hq
   ·omega
   ·exact h.1 q hq
theorem sortU_rise {u : List (Nat × List UInt8)} (h : (u.map (·.1)).Nodup) : rising (sortU u) := by
 have key : ∀ (u acc : List (Nat × List UInt8)), rising acc → ((acc ++ u).map (·.1)).Nodup → rising (u.foldl (fun out x => insK x out) acc) := by
  intro u
  induction u with
  | nil => intro acc h _; exact h
  | cons x r ih =>
   intro acc ha hn
   simp only [List.foldl_cons]
   refine ih _ (insK_rising ha fun y hy e => ?_) ?_
   ·rw [List.map_append, List.nodup_append] at hn
    exact hn.2.2 y.1 (List.mem_map_of_mem hy) x.1 (by simp) e
   ·refine ((((insK_perm x acc).append_right r).trans ?_).map (·.1)).nodup_iff.2 hn
    simpa using (List.perm_middle (l₁ := acc) (a := x) (l₂ := r)).symm
 exact key u [] trivial (by simpa using h)
section
variable {w : World} {Y : Nat → Prop} {b o n : Nat} {cs : List Value} {d : DD} {r : List DD} {v : Value}
theorem Cel.hd {x : Value} {c : List Value} (h : Cel w Y b o (x :: c)) : Cel w Y b o [x] := fun j u hj => by
 cases j with
 | zero => exact h 0 u (by simpa using hj)
 | succ j => simp at hj
theorem Cel.tl {x : Value} {c : List Value} (h : Cel w Y b o (x :: c)) : Cel w Y b (o + 1) c := fun j u hj => by
 have := h (j + 1) u (by simpa using hj)
 rw [show o + 1 + j = o + (j + 1) by omega]
 exact this
theorem Cel.fst {c d : List Value} (h : Cel w Y b o (c ++ d)) : Cel w Y b o c := fun j u hj => h j u (by rw [List.getElem?_append_left (List.getElem?_eq_some_iff.1 hj).1]; exact hj)
theorem Cel.snd {c d : List Value} (h : Cel w Y b o (c ++ d)) (hl : c.length = n) : Cel w Y b (o + n) d := fun j u hj => by
 have := h (n + j) u (by rw [List.getElem?_append_right (by omega), hl, Nat.add_sub_cancel_left]; exact hj)
 rw [show o + n + j = o + (n + j) by omega]
 exact this
theorem cel_unV (hC : Cel w Y b o cs) (hR : RepL w Y (.v v :: r) cs) : ∃ c2, Cel w Y b o [v] ∧ Cel w Y b (o + 1) c2 ∧ RepL w Y r c2 := by
 obtain ⟨c2, rfl, h⟩ := hR.unV
 exact ⟨c2, hC.hd, hC.tl, h⟩
theorem cel_un1 (hd : One1 d) (hC : Cel w Y b o cs) (hR : RepL w Y (d :: r) cs) : ∃ x c2, Cel w Y b o [x] ∧ Cel w Y b (o + 1) c2 ∧ Rep w Y d [x] ∧ RepL w Y r c2 := by
 obtain ⟨x, c2, rfl, h1, h⟩ := hR.un1 hd
 exact ⟨x, c2, hC.hd, hC.tl, h1, h⟩
theorem repL_bs {s : List UInt8} {c : List Value} : RepL w Y (s.map ddB) c → c = bv s := by
 induction s generalizing c with
 | nil => intro h; simpa [RepL, bv] using h
 | cons x s ih =>
  intro h
  obtain ⟨c2, rfl, h2⟩ := RepL.unV h
  rw [ih h2]
  rfl
theorem cel_un16 {s : List UInt8} (hC : Cel w Y b o cs) (hR : RepL w Y (.agg ((sixteen s).map ddB) :: r) cs) : ∃ c2, Cel w Y b o (bv (sixteen s)) ∧ Cel w Y b (o + 16) c2 ∧ RepL w Y r c2 := by
 simp only [RepL] at hR
 obtain ⟨c1, c2, rfl, h1, h2⟩ := hR
 have h3 := repL_bs (rep_agg_inv h1)
 subst h3
 exact ⟨c2, hC.fst, hC.snd (by rw [bv_length, sixteen_length]), h2⟩
end
def lzL (z : Bool) (l : List T) : List T := if z then [] else l
theorem rep_listN {w : World} {Y : Nat → Prop} {F : T → DD} {G : T → T} {l : List T} {z : Bool} {esz : Nat} {x : Value} (h : Rep w Y (if z then .v (.slice none 0 0) else .sl true esz (l.map F)) [x]) :
  ∃ sp cap, x = .slice sp ((lzL z l).map G).length cap ∧ sp.isNone = z ∧ Rep w Y (.sl false esz ((lzL z l).map F)) [.slice sp ((lzL z l).map G).length cap] := by
 cases z with
 | true =>
  obtain rfl := rep_v_inv h
  exact ⟨none, 0, rfl, rfl, by simp [Rep, lzL]⟩
 | false =>
  have h' : Rep w Y (.sl true esz (l.map F)) [x] := h
  rcases rep_sl h' with ⟨h1, p, rfl, h2⟩ | ⟨b, off, cap, cs, rfl, h2, h3, h4⟩
  ·have hl : l = [] := by simpa using h1
   subst hl
   cases p with
   | none => exact absurd rfl (h2 rfl)
   | some a => exact ⟨some a, 0, rfl, rfl, by simp [Rep, lzL]⟩
  ·refine ⟨some ⟨b, off, none⟩, cap, by simp [lzL], rfl, ?_⟩
   simp only [Rep]
   exact .inr ⟨b, off, cap, cs, by simp [lzL], by simpa [lzL] using h2, h3, by simpa [lzL] using h4⟩
theorem getD_mapT {G : T → T} {l : List T} {j : Nat} (h : j < (l.map G).length) : (l.map G).getD j T.nil = G (l.getD j T.nil) := by
 rw [List.length_map] at h
 simp [h]
theorem lz_fine {q : T} (h : q.fine = true) (j : Nat) : ((lzL q.z q.l).getD j T.nil).fine = true := by
 unfold lzL
 split
 ·rfl
 ·exact fine_getD h j
theorem lz_len {G : T → T} {q : T} (h : q.fine = true) : ((lzL q.z q.l).map G).length ≤ 32767 := by
 rw [List.length_map]
 unfold lzL
 split
 ·simp
 ·exact (fine_spec h).2.1
theorem list_at {w : World} {Y : Nat → Prop} {F : T → DD} {l : List T} {esz n cap : Nat} {sp : Option Addr} (h : Rep w Y (.sl false esz (l.map F)) [.slice sp n cap]) {j : Nat} (hj : j < l.length) :
  ∃ b o cs, sp = some ⟨b, o, none⟩ ∧ Rep w Y (F (l.getD j T.nil)) cs ∧ Cel w Y b (o + j * esz) cs := by
 obtain ⟨_, b, o, cs, h1, _, h3, h4⟩ := rep_sl_get h (getD_map F l j T.nil hj)
 exact ⟨b, o, cs, h1, h3, h4⟩
theorem cel_v {w : World} {Y : Nat → Prop} {b o : Nat} {v : Value} {cs : List Value} (hR : Rep w Y (.v v) cs) (hC : Cel w Y b o cs) : Cel w Y b o [v] := by
 simp only [Rep] at hR
 subst hR
 exact hC
theorem cons_eq {α : Type} {a b : α} {l m : List α} (h : a = b) (k : l = m) : a :: l = b :: m := by rw [h, k]
theorem tel_textN {nu : Int} (q : T) (h : 0 ≤ nu) : (if 0 ≤ nu ∧ q.z = true then ofNil else ofOct q.s) = (if q.z then ofNil else ofOct q.s) := by
 cases q.z <;> simp [h]
theorem tel_ptr {fr to nu tag df : Int} {of : Nat} {sub : List Fld} (q : T) (h : 0 ≤ nu) : telF (.mk 10 fr to nu tag df of sub) q = (if q.z then ofNil else telP sub q) := by
 rw [telF_eq]
 cases hz : q.z <;> simp [telV, Fld.kind, Fld.nu, Fld.sub, hz, h]
theorem tel_list {of : Nat} {fr to nu tag df : Int} {sub : List Fld} (q : T) : telF (.mk 11 fr to nu tag df of sub) q = .mk 0 [] q.z ((lzL q.z q.l).map (telV of (-1) (telP sub))) [] := by
 rw [telF_eq]
 cases hz : q.z <;> simp [lzL, Fld.kind, Fld.of, Fld.sub]
def TellOk (P : Program) (f : Nat) (fs : List Fld) (tg : Bool) (v0 : Nat) : Prop := ∀ {w0 : World} {Y : Nat → Prop} {b off : Nat} {cs : List Value} {q : T}, Cel w0 Y b (off + v0) cs → Rep w0 Y (ddS fs tg q) cs → q.fine = true →
 Ret P f [.pointer (some ⟨b, off, none⟩)] w0 fun v w' => Agr Nob w0 w' ∧ ∃ c', v = .agg c'.toArray ∧ Rep w' (fun i => i < w0.heap.size ∧ Y i) (ddT (telP fs q)) c'
end Go.Mk
namespace Go.Mk
open Go
section
variable {P : Program} {a : Act} {w : World} {n : Nat} {l : List (Nat × Value)}
theorem b_retCellTmp {w0 : World} {X Z : Nat → Prop} {m : List Ent} {fn : Func} {s t u i b e : Nat} {cs : List Value} {v' : Value} {R : Value → World → Prop} (hr : fn.results = #[.cell s t, .tmp u]) (ht : tySz P t = some (true, cs.length))
  (hk : Kn n l a) (hm : Mem w0 X Z m w) (hv : look l s = some (.pointer (some ⟨b, 0, none⟩))) (hv' : look l u = some v') (hi : entAt m i = some (.blk b cs e)) (h : R (.tuple #[.agg cs.toArray, v']) w) :
  bodyPost P fn (fun e w' => ∃ v, e = .returned v ∧ R v w') .ret a w := by
 refine bodyPost_ret (v := .tuple #[.agg cs.toArray, v']) ?_ hk.defers ⟨_, rfl, h⟩
 have hc := run_loadCells' (P := P) (w := w) (b := b) (off := 0) (cs := cs) (fun j u hj => hm.cell_blk hi (by rw [Nat.zero_add]; exact hj))
 have hs : a.tmps[s]?.getD undef = .pointer (some ⟨b, 0, none⟩) := by rw [← Array.getD_eq_getD_getElem?]; exact hk.at_ s _ hv
 have hu : a.tmps[u]?.getD undef = v' := by rw [← Array.getD_eq_getD_getElem?]; exact hk.at_ u _ hv'
 simp [results, hr, hs, hu, asAddr, loadVar, isAgg_true ht, sizeOf_run ht, hc]
end
end Go.Mk
namespace Go.Mk
open Go
section
variable {f : Fld} {V : Int} {flex : Bool} {t g : T}
end
end Go.Mk
namespace Go.Mk
open Go
section
variable {fs : List Fld} {V : Int} {flex : Bool} {t g : T}
theorem small_tag (h : g.small = true) (k : Nat) : (g.u.getD k (0, [])).2.length < 4611686018427387904 := by
 rw [List.getD_eq_getElem?_getD]
 cases hk : g.u[k]? with
 | none => simp
 | some x =>
  have := (small_spec h).2.2.2.1 x (List.mem_of_getElem? hk)
  simp only [Option.getD_some]
  omega
end
end Go.Mk
namespace Go.Mk
open Go
theorem fail_l : RS.fail.l = [] := rfl
theorem num_le (k : Nat) (s : RS) : (RS.num k s).2.l.length ≤ s.l.length := by
 unfold RS.num
 split
 ·rw [fail_l]; simp
 ·show (s.l.drop k).length ≤ _
  rw [List.length_drop]; omega
theorem uvG_le : ∀ (k : Nat) (l : List UInt8) (n : Nat) (r : List UInt8), uvG k l = some (n, r) → r.length < l.length
 | _, [], n, r, h => by cases ‹Nat› <;> simp [uvG] at h
 | 0, b :: q, n, r, h => by
  simp only [uvG] at h
  split at h
  ·simp only [Option.some.injEq, Prod.mk.injEq] at h
   rw [← h.2]; simp
  ·cases h
 | k + 1, b :: q, n, r, h => by
  simp only [uvG] at h
  split at h
  ·simp only [Option.some.injEq, Prod.mk.injEq] at h
   rw [← h.2]; simp
  ·cases hq : uvG k q with
   | none => rw [hq] at h; simp at h
   | some p =>
    rw [hq] at h
    simp only [Option.map_some, Option.some.injEq, Prod.mk.injEq] at h
    have := uvG_le k q p.1 p.2 hq
    rw [← h.2]; simp only [List.length_cons]; omega
theorem uv_or (s : RS) : (RS.uv s).2.l.length < s.l.length ∨ ((RS.uv s).1 = 0 ∧ (RS.uv s).2.l = []) := by
 unfold RS.uv
 split
 ·rename_i n r h
  exact .inl (uvG_le 4 s.l n r h)
 ·exact .inr ⟨rfl, rfl⟩
theorem uv_le (s : RS) : (RS.uv s).2.l.length ≤ s.l.length := by
 rcases uv_or s with h | ⟨_, h⟩
 ·omega
 ·rw [h]; simp
theorem span_le (k : Int) (s : RS) : (RS.span k s).2.l.length ≤ s.l.length ∧ ((RS.span k s).1.getD []).length ≤ s.l.length := by
 unfold RS.span
 split
 ·rw [fail_l]; simp
 ·unfold RS.l
  cases s.src with
  | none => simp
  | some l => simp only [Option.map_some, Option.getD_some, List.length_drop, List.length_take]; omega
theorem rdLen_le (flex : Bool) (k : Nat) (ik : IntKind) (s : RS) : (rdLen flex k ik s).2.l.length ≤ s.l.length := by
 unfold rdLen
 split
 ·exact uv_le s
 ·exact num_le k s
theorem fine_leaf {n : Int} {s : List UInt8} {z : Bool} (h : s.length ≤ 32767) : (T.mk n s z [] []).fine = true := fine_mk h (by simp) (by simp) (by simp) (by simp) (by simp)
def FineR (one : RS → Option (T × RS)) : Prop := ∀ (s : RS) (t : T) (s' : RS), s.l.length ≤ 32766 → one s = some (t, s') → t.fine = true ∧ s'.l.length ≤ s.l.length
theorem fine_rdText (nul flex : Bool) : FineR fun s => some (rdText nul flex s) := fun s t s' hs h => by
 have h1 := rdLen_le flex 2 .i16 s
 have h2 := span_le (rdLen flex 2 .i16 s).1 (rdLen flex 2 .i16 s).2
 simp only [Option.some.injEq] at h
 unfold rdText at h
 split at h
 ·simp only [Prod.mk.injEq] at h
  obtain ⟨rfl, rfl⟩ := h
  exact ⟨fine_leaf (by simp), h1⟩
 ·simp only [Prod.mk.injEq] at h
  obtain ⟨rfl, rfl⟩ := h
  exact ⟨fine_leaf (by omega), by omega⟩
theorem fine_rdBytes (nul flex : Bool) : FineR fun s => some (rdBytes nul flex s) := fun s t s' hs h => by
 have h1 := rdLen_le flex 4 .i32 s
 have h2 := span_le (rdLen flex 4 .i32 s).1 (rdLen flex 4 .i32 s).2
 simp only [Option.some.injEq] at h
 unfold rdBytes at h
 split at h
 ·simp only [Prod.mk.injEq] at h
  obtain ⟨rfl, rfl⟩ := h
  exact ⟨fine_leaf (by simp), h1⟩
 ·split at h
  ·simp only [Prod.mk.injEq] at h
   obtain ⟨rfl, rfl⟩ := h
   exact ⟨fine_leaf (by simp), h1⟩
  ·simp only [Prod.mk.injEq] at h
   obtain ⟨rfl, rfl⟩ := h
   refine ⟨?_, by omega⟩
   cases hq : (RS.span (rdLen flex 4 .i32 s).1 (rdLen flex 4 .i32 s).2).1 with
   | none => exact fine_leaf (by simp)
   | some b =>
    rw [hq] at h2
    exact fine_leaf (by have := h2.2; simp only [Option.getD_some] at this; omega)
theorem fine_rdVal {kind : Nat} {nul flex : Bool} {pt : RS → Option (T × RS)} (hp : FineR pt) : FineR (rdVal kind nul flex pt) := fun s t s' hs h => by
 unfold rdVal at h
 split at h
 ·simp only [Option.some.injEq, Prod.mk.injEq] at h
  obtain ⟨rfl, rfl⟩ := h
  exact ⟨fine_leaf (by simp), num_le _ _⟩
 ·simp only [Option.some.injEq, Prod.mk.injEq] at h
  obtain ⟨rfl, rfl⟩ := h
  exact ⟨fine_leaf (by rw [sixteen_length]; omega), (span_le _ _).1⟩
 ·exact fine_rdText nul flex s t s' hs h
 ·exact fine_rdBytes nul flex s t s' hs h
 ·exact hp s t s' hs h
 ·simp only [Option.some.injEq, Prod.mk.injEq] at h
  obtain ⟨rfl, rfl⟩ := h
  exact ⟨fine_leaf (by simp), num_le _ _⟩
theorem fine_rdEach {one : RS → Option (T × RS)} (hp : FineR one) : ∀ (n : Nat) (s : RS) (l : List T) (s' : RS), s.l.length ≤ 32766 → rdEach one n s = some (l, s') → (∀ t ∈ l, t.fine = true) ∧ l.length = n ∧ s'.l.length ≤ s.l.length
 | 0, s, l, s', _, h => by
  simp only [rdEach, Option.some.injEq, Prod.mk.injEq] at h
  obtain ⟨rfl, rfl⟩ := h
  exact ⟨by simp, rfl, Nat.le_refl _⟩
 | n + 1, s, l, s', hs, h => by
  simp only [rdEach] at h
  split at h
  ·rename_i t s1 h1
   split at h
   ·rename_i l2 s2 h2
    simp only [Option.some.injEq, Prod.mk.injEq] at h
    obtain ⟨rfl, rfl⟩ := h
    obtain ⟨a1, a2⟩ := hp s t s1 hs h1
    obtain ⟨b1, b2, b3⟩ := fine_rdEach hp n s1 l2 s2 (by omega) h2
    refine ⟨fun x hx => ?_, by simp [b2], by omega⟩
    rcases List.mem_cons.1 hx with rfl | hx
    ·exact a1
    ·exact b1 x hx
   ·cases h
  ·cases h
theorem rdCnt_le (flex : Bool) (s : RS) : (rdCnt flex s).2.l.length ≤ s.l.length ∧ (rdCnt flex s).1.toNat ≤ s.l.length := by
 unfold rdCnt
 have key : ∀ p : Int × RS, p.2.l.length ≤ s.l.length → (if (p.2.l.length : Int) < IntKind.i32.wrap p.1 then ((0, RS.fail) : Int × RS) else (IntKind.i32.wrap p.1, p.2)).2.l.length ≤ s.l.length ∧
   (if (p.2.l.length : Int) < IntKind.i32.wrap p.1 then ((0, RS.fail) : Int × RS) else (IntKind.i32.wrap p.1, p.2)).1.toNat ≤ s.l.length := by
  intro p hp
  split
  ·exact ⟨by simp [fail_l], by simp⟩
  ·exact ⟨hp, by show (IntKind.i32.wrap p.1).toNat ≤ _; omega⟩
 refine key (if flex then _ else _) ?_
 split
 ·exact uv_le s
 ·exact num_le 4 s
theorem fine_rdQ {f : Fld} {V : Int} {flex : Bool} {pt : RS → Option (T × RS)} (hp : FineR pt) : FineR (rdQ f V flex pt) := fun s t s' hs h => by
 have hc := rdCnt_le flex s
 unfold rdQ at h
 split at h
 ·split at h
  ·cases h
  ·split at h
   ·rename_i l s1 h1
    simp only [Option.some.injEq, Prod.mk.injEq] at h
    obtain ⟨rfl, rfl⟩ := h
    obtain ⟨a1, a2, a3⟩ := fine_rdEach (fine_rdVal hp) _ _ _ _ (by omega) h1
    exact ⟨fine_mk (by simp) (by omega) (by simp) (by simp) (by simp) a1, by omega⟩
   ·cases h
 ·split at h
  ·have hn := num_le 1 s
   split at h
   ·obtain ⟨a1, a2⟩ := hp _ t s' (by omega) h
    exact ⟨a1, by omega⟩
   ·simp only [Option.some.injEq, Prod.mk.injEq] at h
    obtain ⟨rfl, rfl⟩ := h
    exact ⟨fine_leaf (by simp), hn⟩
  ·exact fine_rdVal hp s t s' hs h
theorem setU_keys (k : Nat) (b : List UInt8) : ∀ u : List (Nat × List UInt8), (setU k b u).map (·.1) = if k ∈ u.map (·.1) then u.map (·.1) else u.map (·.1) ++ [k]
 | [] => by simp [setU]
 | x :: r => by
  simp only [setU]
  by_cases hx : x.1 = k
  ·rw [if_pos hx]
   simp [hx]
  ·rw [if_neg hx, List.map_cons, setU_keys k b r]
   have hne : ¬ k = x.1 := fun e => hx e.symm
   by_cases hk : k ∈ r.map (·.1)
   ·rw [if_pos hk, if_pos (by rw [List.map_cons]; exact List.mem_cons_of_mem _ hk)]; rfl
   ·rw [if_neg hk, if_neg (by rw [List.map_cons, List.mem_cons, not_or]; exact ⟨hne, hk⟩)]; rfl
theorem setU_mem {k : Nat} {b : List UInt8} : ∀ {u : List (Nat × List UInt8)} {p : Nat × List UInt8}, p ∈ setU k b u → p = (k, b) ∨ p ∈ u
 | [], p, h => by simp only [setU, List.mem_singleton] at h; exact .inl h
 | x :: r, p, h => by
  simp only [setU] at h
  split at h
  ·rcases List.mem_cons.1 h with h | h
   ·exact .inl h
   ·exact .inr (List.mem_cons_of_mem _ h)
  ·rcases List.mem_cons.1 h with h | h
   ·exact .inr (by rw [h]; exact List.mem_cons_self)
   ·exact (setU_mem h).imp id (List.mem_cons_of_mem _)
theorem rdTagsN_fine : ∀ (n : Nat) (u : List (Nat × List UInt8)) (s : RS), s.l.length ≤ 32766 → (u.map (·.1)).Nodup → (∀ p ∈ u, p.2.length ≤ 32767) →
  ((rdTagsN n u s).1.map (·.1)).Nodup ∧ (∀ p ∈ (rdTagsN n u s).1, p.2.length ≤ 32767) ∧ (rdTagsN n u s).2.l.length ≤ s.l.length ∧
  (rdTagsN n u s).1.length + (rdTagsN n u s).2.l.length + (if 0 ∈ (rdTagsN n u s).1.map (·.1) then 0 else 1) ≤ u.length + s.l.length + (if 0 ∈ u.map (·.1) then 0 else 1)
 | 0, u, s, _, hn, hv => ⟨hn, hv, Nat.le_refl _, Nat.le_refl _⟩
 | n + 1, u, s, hs, hn, hv => by
  simp only [rdTagsN]
  have h1 := uv_or s
  have h2 := uv_le (RS.uv s).2
  have h3 := span_le ((RS.uv (RS.uv s).2).1 : Int) (RS.uv (RS.uv s).2).2
  have hl : (rdTag s).2.2.l.length ≤ (RS.uv s).2.l.length := by show (RS.span _ _).2.l.length ≤ _; omega
  have hu := uv_le s
  have hk := setU_keys (rdTag s).1 (rdTag s).2.1 u
  have hlen := congrArg List.length hk
  rw [List.length_map] at hlen
  have hnd : ((setU (rdTag s).1 (rdTag s).2.1 u).map (·.1)).Nodup := by
   rw [hk]
   split
   ·exact hn
   ·rename_i hx
    rw [List.nodup_append]
    exact ⟨hn, by simp, fun a ha b hb e => hx (by simp only [List.mem_singleton] at hb; rw [← hb, ← e]; exact ha)⟩
  have hvl : ∀ p ∈ setU (rdTag s).1 (rdTag s).2.1 u, p.2.length ≤ 32767 := fun p hp => by
   rcases setU_mem hp with rfl | hp
   ·show ((RS.span _ _).1.getD []).length ≤ _; omega
   ·exact hv p hp
  obtain ⟨a1, a2, a3, a4⟩ := rdTagsN_fine n (setU (rdTag s).1 (rdTag s).2.1 u) (rdTag s).2.2 (by omega) hnd hvl
  refine ⟨a1, a2, by omega, Nat.le_trans a4 ?_⟩
  rw [hk]
  by_cases hx : (rdTag s).1 ∈ u.map (·.1)
  ·rw [if_pos hx] at hlen ⊢
   rw [List.length_map] at hlen
   omega
  ·rw [if_neg hx] at hlen ⊢
   rw [List.length_append, List.length_map, List.length_singleton] at hlen
   by_cases h0 : (0 : Nat) ∈ u.map (·.1)
   ·rw [if_pos h0, if_pos (List.mem_append_left _ h0)]
    rcases h1 with h1 | ⟨h1, _⟩
    ·omega
    ·exact absurd (by show (RS.uv s).1 ∈ _; rw [h1]; exact h0) hx
   ·rw [if_neg h0]
    rcases h1 with h1 | ⟨h1, h4⟩
    ·split <;> omega
    ·rw [if_pos (List.mem_append_right _ (by show (0 : Nat) ∈ [(RS.uv s).1]; rw [h1]; simp))]
     have : (RS.uv s).2.l.length = 0 := by rw [h4]; rfl
     omega
theorem rdTags_fine {s : RS} (hs : s.l.length ≤ 32766) : ((rdTags s).1.map (·.1)).Nodup ∧ (∀ p ∈ (rdTags s).1, p.2.length ≤ 32767) ∧ (rdTags s).1.length ≤ 32767 ∧ (rdTags s).2.l.length ≤ s.l.length := by
 have hu := uv_le s
 obtain ⟨a1, a2, a3, a4⟩ := rdTagsN_fine (RS.uv s).1 [] (RS.uv s).2 (by omega) (by simp) (by simp)
 refine ⟨a1, a2, ?_, Nat.le_trans a3 hu⟩
 simp only [List.length_nil, List.map_nil, List.not_mem_nil, if_false] at a4
 show (rdTagsN _ _ _).1.length ≤ _
 omega
theorem fine_dfF (f : Fld) (h : tidyF f = true) : (dfF f).fine = true := tiny_fine _ (tiny_dfF f h)
theorem fine_rdFs {V : Int} {flex : Bool} : ∀ (fs : List Fld), tidyFs fs = true → (∀ f ∈ fs, FineR (rdF f V flex)) → ∀ (s : RS) (l : List T) (s' : RS), s.l.length ≤ 32766 → rdFs fs V flex s = some (l, s') → (∀ t ∈ l, t.fine = true) ∧ l.length = fs.length ∧ s'.l.length ≤ s.l.length
 | [], _, _, s, l, s', _, h => by
  simp only [rdFs, Option.some.injEq, Prod.mk.injEq] at h
  obtain ⟨rfl, rfl⟩ := h
  exact ⟨by simp, rfl, Nat.le_refl _⟩
 | f :: r, ht, hf, s, l, s', hs, h => by
  have htr : tidyFs r = true := by simp only [tidyFs, Bool.and_eq_true] at ht; exact ht.2
  simp only [rdFs] at h
  split at h
  ·split at h
   ·rename_i t s1 h1
    split at h
    ·rename_i l2 s2 h2
     simp only [Option.some.injEq, Prod.mk.injEq] at h
     obtain ⟨rfl, rfl⟩ := h
     obtain ⟨a1, a2⟩ := hf f List.mem_cons_self s t s1 hs h1
     obtain ⟨b1, b2, b3⟩ := fine_rdFs r htr (fun g hg => hf g (List.mem_cons_of_mem _ hg)) s1 l2 s2 (by omega) h2
     refine ⟨fun x hx => ?_, by simp [b2], by omega⟩
     rcases List.mem_cons.1 hx with rfl | hx
     ·exact a1
     ·exact b1 x hx
    ·cases h
   ·cases h
  ·split at h
   ·rename_i l2 s2 h2
    simp only [Option.some.injEq, Prod.mk.injEq] at h
    obtain ⟨rfl, rfl⟩ := h
    obtain ⟨b1, b2, b3⟩ := fine_rdFs r htr (fun g hg => hf g (List.mem_cons_of_mem _ hg)) s l2 s2 hs h2
    refine ⟨fun x hx => ?_, by simp [b2], b3⟩
    rcases List.mem_cons.1 hx with rfl | hx
    ·exact fine_dfF f (tidy_mem ht f List.mem_cons_self)
    ·exact b1 x hx
   ·cases h
theorem fine_rdP_of {fs : List Fld} {V : Int} {flex : Bool} (hl : fs.length ≤ 1000) (ht : tidyFs fs = true) (hf : ∀ f ∈ fs, FineR (rdF f V flex)) : FineR (rdP fs V flex) := fun s t s' hs h => by
 unfold rdP rdPart at h
 split at h
 ·rename_i l s1 h1
  obtain ⟨b1, b2, b3⟩ := fine_rdFs fs ht hf s l s1 hs h1
  split at h
  ·simp only [Option.some.injEq, Prod.mk.injEq] at h
   obtain ⟨rfl, rfl⟩ := h
   obtain ⟨a1, a2, a3, a4⟩ := rdTags_fine (s := s1) (by omega)
   exact ⟨fine_mk (by simp) (by omega) a3 a2 a1 b1, by omega⟩
  ·simp only [Option.some.injEq, Prod.mk.injEq] at h
   obtain ⟨rfl, rfl⟩ := h
   exact ⟨fine_mk (by simp) (by omega) (by simp) (by simp) (by simp) b1, b3⟩
 ·cases h
theorem fine_rdF {V : Int} {flex : Bool} : ∀ f : Fld, tidyF f = true → FineR (rdF f V flex) := Fld_ind fun f ih h => by
 have ht := tidy_spec h
 intro s t s' hs hr
 rw [rdF_eq] at hr
 exact fine_rdQ (fine_rdP_of ht.2.2.2.1 ht.2.2.2.2 fun g hg => ih g hg (tidy_mem ht.2.2.2.2 g hg)) s t s' hs hr
theorem fine_rdP {fs : List Fld} {V : Int} {flex : Bool} (h : tidyFs fs = true) (hl : fs.length ≤ 1000) : FineR (rdP fs V flex) := fine_rdP_of hl h fun f hf => fine_rdF f (tidy_mem h f hf)
theorem fine_telV {kind : Nat} {nu : Int} {pt : T → T} {q : T} (hq : q.fine = true) (hp : kind = 10 → (pt q).tiny = true) : (telV kind nu pt q).tiny = true := by
 have hs := fine_spec hq
 unfold telV
 split
 ·exact tiny_leaf (by simp)
 ·exact tiny_leaf (by rw [sixteen_length]; omega)
 ·split
  ·exact tiny_leaf (by simp)
  ·exact tiny_leaf hs.1
 ·refine tiny_leaf ?_
  split
  ·simp
  ·exact hs.1
 ·split
  ·exact tiny_leaf (by simp)
  ·exact hp rfl
 ·exact tiny_leaf (by simp)
theorem fine_telP_of {fs : List Fld} (hl : fs.length ≤ 1000) (hf : ∀ f ∈ fs, ∀ q : T, q.fine = true → (telF f q).tiny = true) (q : T) (hq : q.fine = true) : (telP fs q).tiny = true := by
 have hs := fine_spec hq
 unfold telP
 refine tiny_mk (by simp) (by rw [telFs_length]; omega) (by rw [(sortU_perm q.u).length_eq]; exact hs.2.2.1) (fun p hp => hs.2.2.2.1 p ((sortU_perm q.u).mem_iff.1 hp)) ?_ (sortU_rise hs.2.2.2.2.1)
 intro x hx
 obtain ⟨g, hg, k, rfl⟩ := telFs_mem hx
 exact hf g hg _ (fine_getD hq k)
theorem fine_telF : ∀ f : Fld, tidyF f = true → ∀ q : T, q.fine = true → (telF f q).tiny = true := Fld_ind fun f ih h q hq => by
 have ht := tidy_spec h
 have hp : ∀ q : T, q.fine = true → (telP f.sub q).tiny = true := fun q hq => fine_telP_of ht.2.2.2.1 (fun g hg => ih g hg (tidy_mem ht.2.2.2.2 g hg)) q hq
 have hs := fine_spec hq
 rw [telF_eq]
 split
 ·refine tiny_mk (by simp) ?_ (by simp) (by simp) ?_ trivial
  ·split
   ·simp
   ·rw [List.length_map]; exact hs.2.1
  ·intro x hx
   split at hx
   ·cases hx
   ·obtain ⟨y, hy, rfl⟩ := List.mem_map.1 hx
    exact fine_telV (hs.2.2.2.2.2 y hy) fun _ => hp y (hs.2.2.2.2.2 y hy)
 ·exact fine_telV hq fun _ => hp q hq
theorem fine_telP {fs : List Fld} (h : tidyFs fs = true) (hl : fs.length ≤ 1000) (q : T) (hq : q.fine = true) : (telP fs q).tiny = true := fine_telP_of hl (fun f hf => fine_telF f (tidy_mem h f hf)) q hq
end Go.Mk
namespace Go.Mk
open Go
def srcOf (d : List UInt8) : Option (List UInt8) := if d.isEmpty then none else some d
def rdo (fs : List Fld) (V : Int) (flex : Bool) (d : List UInt8) : Option T := match rdP fs V flex ⟨srcOf d, false⟩ with
 | some (q, s') => if s'.bad then none else some q
 | none => none
theorem rdo_fine {fs : List Fld} {V : Int} {flex : Bool} {d : List UInt8} {q : T} (h : tidyFs fs = true) (hl : fs.length ≤ 1000) (hd : d.length ≤ 1000) (hq : rdo fs V flex d = some q) : q.fine = true := by
 unfold rdo at hq
 split at hq
 ·rename_i q' s' h1
  split at hq
  ·cases hq
  ·simp only [Option.some.injEq] at hq
   subst hq
   refine (fine_rdP h hl _ _ _ ?_ h1).1
   unfold RS.l srcOf
   split
   ·simp
   ·simp only [Option.getD_some]; omega
 ·cases hq
theorem told_or {gv : Value} {fs : List Fld} {tg flex : Bool} {V : Nat} {d : List UInt8} {g ety : Nat} {Y : Nat → Prop} {w0 w' : World} {x : Value} (h : Er.Told .nilIface gv fs tg V flex (srcOf d) g ety Y w0 x w') :
  Agr (fun k => k = g) w0 w' ∧ ((∃ q, rdo fs V flex d = some q ∧ x = .nilIface ∧ ∃ c', w'.heap[g]? = some (.cells (.int .i16 (V : Int) :: c').toArray ety (0, 0)) ∧ Rep w' (fun b => b < w0.heap.size ∧ Y b) (ddS fs tg q) c') ∨ (rdo fs V flex d = none ∧ x = gv)) := by
 obtain ⟨h1, h2, h3⟩ := h
 refine ⟨h1, ?_⟩
 unfold rdo
 cases hr : rdP fs V flex ⟨srcOf d, false⟩ with
 | none => exact .inr ⟨rfl, h3 (.inl hr)⟩
 | some p =>
  obtain ⟨q, s'⟩ := p
  cases hb : s'.bad with
  | true => exact .inr ⟨by simp [hb], h3 (.inr ⟨q, s', hr, hb⟩)⟩
  | false => exact .inl ⟨q, by simp [hb], h2 q s' hr hb⟩
theorem door_gen {P : Prop} {v : Value} {F : List Value → Value} {w : World} {Y : Nat → Prop} {t : T} (h : P ∧ ∃ c', v = F c' ∧ Rep w Y (ddT t) c') : ∃ q, q = t ∧ P ∧ ∃ c', v = F c' ∧ Rep w Y (ddT q) c' := ⟨_, rfl, h⟩
def tellO (fs : List Fld) (o : Option T) : T := match o with
 | some q => telP fs q
 | none => T.nil
theorem tiny_tellO {fs : List Fld} {V : Int} {flex : Bool} {d : List UInt8} (h : tidyFs fs = true) (hl : fs.length ≤ 1000) (hd : d.length ≤ 1000) : (tellO fs (rdo fs V flex d)).tiny = true := by
 cases hq : rdo fs V flex d with
 | none => rfl
 | some q => exact fine_telP h hl q (rdo_fine h hl hd hq)
theorem src_or {w : World} {Y : Nat → Prop} {d : List UInt8} {v : Value} (h : Rep w Y (ddBs d) [v]) (hnil : v = .slice none 0 0 ↔ (Value.slice none 0 0 = .slice none 0 0 ∧ d.length = 0)) : Rep w Y (ddSrc (srcOf d)) [v] := by
 cases d with
 | nil =>
  have hv := hnil.2 ⟨rfl, rfl⟩
  subst hv
  exact rep_v (w := w) (Y := Y) (Value.slice none 0 0)
 | cons b r => exact src_of_bs h (by simp)
theorem o_ifaceNe1 {P : Program} {ops : Array Oper} {Q : Exit → Act → World → Prop} {rest : List Oper} {a : Act} {w : World} {n : Nat} {l : List (Nat × Value)} {d : Nat} {ty : Nat} {ps : String} {af : Array Edge} {x : Operand} {t t' u : Nat} {y : Value}
  (hk : Kn n l a) (ht : isErrTy P t = true) (hx : ev l x = some (.iface u y)) (hd : Nat.blt d n = true)
  (K : ∀ a', Kn n ((d, .bool true) :: l) a' → wpList P ops Q rest a' w) :
  wpList P ops Q (⟨some d, .binOp .neq t x (.const .nilIface) t', ty, ps, af, none⟩ :: rest) a w := by
 refine step_runs hk rfl rfl hd ?_ K
 have hy : a.eval (.const .nilIface) = .nilIface := rfl
 have hg : ∀ w, (eqGuard .neq t x (.const .nilIface) (.iface u y) .nilIface).run P w = .ok () w := fun w => by
  unfold eqGuard
  cases x <;> simp
 have he : ∀ w, (binOp .neq t (.iface u y) .nilIface).run P w = .ok (.bool true) w := fun w => by
  have h : ∀ dd : Nat, (Op.equalIn (dd + 1) t (.iface u y) .nilIface).run P w = .ok false w := fun dd => by
   simp [Op.equalIn, run_underlying (isErrTy_at ht)]
  simp only [binOp]
  simp [Op.equal, Op.maxDepth, h 9999]
 unfold Runs execOp
 simp only [Sem.run_bind, hk.eval hx, hy, hg, Result.andThen_ok, he, Sem.run_pure]
end Go.Mk
namespace Go.Mk.Er
open Go Go.Mk
structure VP where
 t1 : Nat
 t2 : Nat
 t3 : Nat
 t4 : Nat
 fi : Nat
 ty : Nat
 ts : Nat
 rest : Code
end Go.Mk.Er
namespace Go.Mk
open Go
theorem rep_setN {w : World} {Y : Nat → Prop} {s : List UInt8} {z : Bool} {l : List T} {u : List (Nat × List UInt8)} {V : Int} {c : List Value} (h : Rep w Y (ddT (.mk 0 s z l u)) (.int .i64 0 :: c)) : Rep w Y (ddT (.mk V s z l u)) (.int .i64 V :: c) := by
 simp only [ddT] at h ⊢
 have h1 := rep_agg_inv h
 refine rep_agg ?_
 obtain ⟨c2, h2, h3⟩ := h1.unV
 simp only [List.cons.injEq] at h2
 obtain ⟨_, rfl⟩ := h2
 exact RepL.cons1 (rep_v _) h3
def crk (o : Option (List UInt8)) : Option (Int × Int) :=
 if (RS.num 2 (RS.num 2 ⟨o, false⟩).2).2.bad then none else some (IntKind.i16.wrap ((RS.num 2 ⟨o, false⟩).1 : Int), IntKind.i16.wrap ((RS.num 2 (RS.num 2 ⟨o, false⟩).2).1 : Int))
def crkT (o : Option (List UInt8)) : T := match crk o with
 | some p => .mk p.1 [] false [ofNum p.2] []
 | none => T.nil
theorem crkT_tiny (o : Option (List UInt8)) : (crkT o).tiny = true := by
 unfold crkT
 split
 ·rfl
 ·rfl
end Go.Mk
