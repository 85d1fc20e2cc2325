/- Tags: their order. No statement of the seat stands here. -/
import Derived.Test.YthholdjpcdpceaaDoorL4
import Derived.Test.YthholdjpcdpceaaDoorFa
import Derived.Deep.QuietTactic
import Derived.Ground.GgsProg
import Derived.Lib.RowBridge
import Derived.WalkKit
import Derived.Test.YthholdjpcdpceaaDoorRows
import Derived.KernelRfl
namespace Go.Proofs.YthholdjpcdpceaaDoor
open Go Go.Mk Go.Shelf Go.Proofs
def sa6_ren : Go.Shelf.Ren := ⟨fun | 6 => 125 | 10 => 156 | 11 => 157 | 12 => 158 | 13 => 159 | 14 => 160 | 24 => 174 | 25 => 175 | 26 => 176 | 27 => 177 | 28 => 178 | 29 => 179 | 30 => 180 | 31 => 181 | 32 => 182 | 33 => 183 | 34 => 184 | 35 => 185 | 36 => 186 | 37 => 187 | 38 => 188 | 39 => 189 | n => n, fun | 20 => 20 | 26 => 152 | 35 => 179 | 0 => 0 | 37 => 181 | 3 => 3 | 41 => 172 | 44 => 186 | 49 => 59 | 51 => 141 | 4 => 4 | 54 => 197 | 53 => 196 | 58 => 201 | 5 => 5 | 9 => 9 | 60 => 203 | 64 => 207 | 66 => 209 | 67 => 210 | 17 => 17 | 32 => 176 | 33 => 177 | 82 => 225 | 12 => 12 | 75 => 218 | 76 => 219 | 77 => 220 | 78 => 221 | 79 => 222 | 80 => 223 | n => n, fun | n => n⟩
theorem sa6 : Go.Proofs.LaysGg.n6 Tryd.prog sa6_ren := {
  mixed := by kernel_rfl,
  f6 := Tryd.func125.trans (congrArg some (by kernel_rfl)),
  f10 := Tryd.func156.trans (congrArg some (by kernel_rfl)),
  f11 := Tryd.func157.trans (congrArg some (by kernel_rfl)),
  f12 := Tryd.func158.trans (congrArg some (by kernel_rfl)),
  f13 := Tryd.func159.trans (congrArg some (by kernel_rfl)),
  f14 := Tryd.func160.trans (congrArg some (by kernel_rfl)),
  f24 := Tryd.func174.trans (congrArg some (by kernel_rfl)),
  f25 := Tryd.func175.trans (congrArg some (by kernel_rfl)),
  f26 := Tryd.func176.trans (congrArg some (by kernel_rfl)),
  f27 := Tryd.func177.trans (congrArg some (by kernel_rfl)),
  f28 := Tryd.func178.trans (congrArg some (by kernel_rfl)),
  f29 := Tryd.func179.trans (congrArg some (by kernel_rfl)),
  f30 := Tryd.func180.trans (congrArg some (by kernel_rfl)),
  f31 := Tryd.func181.trans (congrArg some (by kernel_rfl)),
  f32 := Tryd.func182.trans (congrArg some (by kernel_rfl)),
  f33 := Tryd.func183.trans (congrArg some (by kernel_rfl)),
  f34 := Tryd.func184.trans (congrArg some (by kernel_rfl)),
  f35 := Tryd.func185.trans (congrArg some (by kernel_rfl)),
  f36 := Tryd.func186.trans (congrArg some (by kernel_rfl)),
  f37 := Tryd.func187.trans (congrArg some (by kernel_rfl)),
  f38 := Tryd.func188.trans (congrArg some (by kernel_rfl)),
  f39 := Tryd.func189.trans (congrArg some (by kernel_rfl)),
  t0 := Tryd.underlying0,
  a0 := Tryd.isAgg0,
  z0 := Tryd.sizeOf0,
  v0 := Tryd.zeroValue0,
  i0 := by kernel_rfl,
  t3 := Tryd.underlying3,
  a3 := Tryd.isAgg3,
  z3 := Tryd.sizeOf3,
  v3 := Tryd.zeroValue3,
  i3 := by kernel_rfl,
  t4 := Tryd.underlying4,
  a4 := Tryd.isAgg4,
  z4 := Tryd.sizeOf4,
  v4 := Tryd.zeroValue4,
  i4 := by kernel_rfl,
  t5 := Tryd.underlying5,
  a5 := Tryd.isAgg5,
  z5 := Tryd.sizeOf5,
  v5 := Tryd.zeroValue5,
  i5 := by kernel_rfl,
  t9 := Tryd.underlying9,
  a9 := Tryd.isAgg9,
  z9 := Tryd.sizeOf9,
  v9 := Tryd.zeroValue9,
  i9 := by kernel_rfl,
  t12 := Tryd.underlying12,
  a12 := Tryd.isAgg12,
  z12 := Tryd.sizeOf12,
  v12 := Tryd.zeroValue12,
  i12 := by kernel_rfl,
  t17 := Tryd.underlying17,
  a17 := Tryd.isAgg17,
  z17 := Tryd.sizeOf17,
  v17 := Tryd.zeroValue17,
  i17 := by kernel_rfl,
  t20 := Tryd.underlying20,
  a20 := Tryd.isAgg20,
  z20 := Tryd.sizeOf20,
  v20 := Tryd.zeroValue20,
  i20 := by kernel_rfl,
  t26 := Tryd.underlying152,
  a26 := Tryd.isAgg152,
  z26 := Tryd.sizeOf152,
  v26 := Tryd.zeroValue152,
  i26 := by kernel_rfl,
  t32 := Tryd.underlying176,
  a32 := Tryd.isAgg176,
  z32 := Tryd.sizeOf176,
  v32 := Tryd.zeroValue176,
  i32 := by kernel_rfl,
  t33 := Tryd.underlying177,
  a33 := Tryd.isAgg177,
  z33 := Tryd.sizeOf177,
  v33 := Tryd.zeroValue177,
  i33 := by kernel_rfl,
  t35 := Tryd.underlying179,
  a35 := Tryd.isAgg179,
  z35 := Tryd.sizeOf179,
  v35 := Tryd.zeroValue179,
  i35 := by kernel_rfl,
  t37 := Tryd.underlying181,
  a37 := Tryd.isAgg181,
  z37 := Tryd.sizeOf181,
  v37 := Tryd.zeroValue181,
  i37 := by kernel_rfl,
  t41 := Tryd.underlying172,
  a41 := Tryd.isAgg172,
  z41 := Tryd.sizeOf172,
  v41 := Tryd.zeroValue172,
  i41 := by kernel_rfl,
  t44 := Tryd.underlying186,
  a44 := Tryd.isAgg186,
  z44 := Tryd.sizeOf186,
  v44 := Tryd.zeroValue186,
  i44 := by kernel_rfl,
  t49 := Tryd.underlying59,
  a49 := Tryd.isAgg59,
  z49 := Tryd.sizeOf59,
  v49 := Tryd.zeroValue59,
  i49 := by kernel_rfl,
  t51 := Tryd.underlying141,
  a51 := Tryd.isAgg141,
  z51 := Tryd.sizeOf141,
  v51 := Tryd.zeroValue141,
  i51 := by kernel_rfl,
  t53 := Tryd.underlying196,
  a53 := Tryd.isAgg196,
  z53 := Tryd.sizeOf196,
  v53 := Tryd.zeroValue196,
  i53 := by kernel_rfl,
  t54 := Tryd.underlying197,
  a54 := Tryd.isAgg197,
  z54 := Tryd.sizeOf197,
  v54 := Tryd.zeroValue197,
  i54 := by kernel_rfl,
  t58 := Tryd.underlying201,
  a58 := Tryd.isAgg201,
  z58 := Tryd.sizeOf201,
  v58 := Tryd.zeroValue201,
  i58 := by kernel_rfl,
  t60 := Tryd.underlying203,
  a60 := Tryd.isAgg203,
  z60 := Tryd.sizeOf203,
  v60 := Tryd.zeroValue203,
  i60 := by kernel_rfl,
  t64 := Tryd.underlying207,
  a64 := Tryd.isAgg207,
  z64 := Tryd.sizeOf207,
  v64 := Tryd.zeroValue207,
  i64 := by kernel_rfl,
  t66 := Tryd.underlying209,
  a66 := Tryd.isAgg209,
  z66 := Tryd.sizeOf209,
  v66 := Tryd.zeroValue209,
  i66 := by kernel_rfl,
  t67 := Tryd.underlying210,
  a67 := Tryd.isAgg210,
  z67 := Tryd.sizeOf210,
  v67 := Tryd.zeroValue210,
  i67 := by kernel_rfl,
  t75 := Tryd.underlying218,
  a75 := Tryd.isAgg218,
  z75 := Tryd.sizeOf218,
  v75 := Tryd.zeroValue218,
  i75 := by kernel_rfl,
  t76 := Tryd.underlying219,
  a76 := Tryd.isAgg219,
  z76 := Tryd.sizeOf219,
  v76 := Tryd.zeroValue219,
  i76 := by kernel_rfl,
  t77 := Tryd.underlying220,
  a77 := Tryd.isAgg220,
  z77 := Tryd.sizeOf220,
  v77 := Tryd.zeroValue220,
  i77 := by kernel_rfl,
  t78 := Tryd.underlying221,
  a78 := Tryd.isAgg221,
  z78 := Tryd.sizeOf221,
  v78 := Tryd.zeroValue221,
  i78 := by kernel_rfl,
  t79 := Tryd.underlying222,
  a79 := Tryd.isAgg222,
  z79 := Tryd.sizeOf222,
  v79 := Tryd.zeroValue222,
  i79 := by kernel_rfl,
  t80 := Tryd.underlying223,
  a80 := Tryd.isAgg223,
  z80 := Tryd.sizeOf223,
  v80 := Tryd.zeroValue223,
  i80 := by kernel_rfl,
  t82 := Tryd.underlying225,
  a82 := Tryd.isAgg225,
  z82 := Tryd.sizeOf225,
  v82 := Tryd.zeroValue225,
  i82 := by kernel_rfl }
noncomputable def siT : TypeInfo := (Tryd.prog.info? 150).get (by kernel_rfl)
noncomputable def siE : TypeInfo := (Tryd.prog.info? 59).get (by kernel_rfl)
theorem siK (n : Nat) (h2 : 2 ≤ n) : Lib.swapperK n siE 10 = 6 := by
  have a : siE.hasPointers = false := by kernel_rfl
  have b : siE.bytes = 4 := by kernel_rfl
  have c : (n == 0) = false := by simp; omega
  have d : (n == 1) = false := by simp; omega
  simp [Lib.swapperK, a, b, c, d]
def siF (n : Nat) : Nat := if n = 0 then 165 else if n = 1 then 166 else 170
theorem siF_ok (n : Nat) : Tryd.prog.funcs.findIdx? (·.name == "internal/reflectlite" ++ ".Swapper$" ++ toString (Lib.swapperK n siE 10)) = some (siF n) := by
  by_cases h0 : n = 0
  · subst h0; kernel_rfl
  · by_cases h1 : n = 1
    · subst h1; kernel_rfl
    · rw [siK n (by omega)]
      unfold siF
      rw [if_neg h0, if_neg h1]
      kernel_rfl
theorem siX (n : Nat) (h2 : 2 ≤ n) (args : Array Value) (W : World) : (callFunc (siF n) args).run Tryd.prog W = ((Extern.ReflectliteSwapper.swap true args).run Tryd.prog W).andThen fun v w' => .ok (.value v) w' := by
  unfold siF
  rw [if_neg (by omega), if_neg (by omega)]
  exact run_callFunc_extern Tryd.func170 (by kernel_rfl) (by kernel_rfl) (by kernel_rfl) (e := Extern.ReflectliteSwapper.swap true) (by kernel_rfl) args W
set_option maxHeartbeats 2000000 in
/-- the closure that sorts: it reads the captured slice -/
theorem less_c (blk off c Bs size : Nat) (W : World) (G : Nat → Int) (hs : W.cell? ⟨Bs, 0, none⟩ = some (.slice (some ⟨blk, off, none⟩) size c))
    (hc : ∀ t, t < size → W.cell? ⟨blk, off + t, none⟩ = some (.int .u32 (G t))) (i j : Nat) (hi : i < size) (hj : j < size) :
    Calls Tryd.prog 126 #[.int .i64 i, .int .i64 j, .pointer (some ⟨Bs, 0, none⟩)] W fun e w' => e = .returned (.bool (decide (G i < G j))) ∧ ∃ q, w' = W.drewN q := by
  have ci := hc i hi
  have cj := hc j hj
  go_enter Tryd.func126, Tryd.ntmps126
  go_wp2
  go_quiet (fail)
  go_wp2
  go_ret
  exact ⟨rfl, nq, rfl⟩
open Go.Sort Go.Proofs in
/-- .. as the sort asks it, the captured slice lying in a block of its own -/
theorem lessReads (blk cap n Bs : Nat) (W : World) (ds : List Int) (hrow : W.ownsRow 0 59 1 (.slice (some ⟨blk, 0, none⟩) n cap) n (u32s ds)) (hs : W.cell? ⟨Bs, 0, none⟩ = some (.slice (some ⟨blk, 0, none⟩) n cap)) (hne : Bs ≠ blk) :
    LessReads Tryd.prog 126 #[.pointer (some ⟨Bs, 0, none⟩)] (Value.int .u32) ltInt blk 0 n W := by
  obtain ⟨hH, hsz⟩ := holds_row hrow
  have hb1 : blk < W.heap.size := (hrow.lt blk rfl).2
  have hb2 : Bs < W.heap.size := cell_lt hs
  intro m os dk hdk i j hi hj
  have e : sortWorld (Value.int .u32) W blk 0 m dk os = putRow (Value.int .u32) (grow (Sort.ahead W m) os) blk 0 dk := by
    unfold sortWorld; rw [putRow_grow _ (Sort.ahead W m) _ blk 0 _ hb1]
  have hHg : Holds (Value.int .u32) (grow (Sort.ahead W m) os) blk 0 ds.toArray := holds_grow _ _ _ blk 0 _ hb1 (holds_ahead _ _ _ _ _ _ hH)
  refine less_c blk 0 cap Bs n _ (fun t => dk[t]!) ?_ (fun t ht => ?_) i j hi hj
  · rw [e, cell?_putRow_other _ _ blk 0 dk _ (Or.inl hne), cell?_grow _ _ _ hb2]
    exact hs
  · rw [e]; exact cell?_putRow _ _ blk 0 ds.toArray dk hHg (by rw [hsz]; exact hdk) t (by omega)
set_option maxHeartbeats 4000000 in
theorem each_cP : EachP Tryd.prog 83 := by
  intro w0 Y X b off c u us g lb J hndk hul hpm hris hC hR hXY hg h0 hstep
  have hlk : us.length = u.length := hpm.length_eq
  obtain ⟨p, rfl, hlen⟩ := rep_tags_len hR
  refine c_call Tryd.func83 rfl rfl fun a hk => ?_
  have hk : Kn 53 [(0, .pointer (some ⟨b, off, none⟩)), (1, .func (.func g) #[] lb.toArray)] a := hk
  have hm : Mem w0 Nob Y [.cel b off [.map p], .rep (ddTagMap u) [.map p]] w0 := Mem.start rfl (by simp only [List.forall_mem_cons, List.not_mem_nil, false_imp_iff, implies_true, and_true]; exact ⟨hC, hR⟩)
  refine wp_seq ?_
  refine cR0 ?_
  refine oM0 hk rfl rfl fun a hk => ?_
  refine oN0 hk rfl rfl fun a hk => ?_
  refine oF0 hk fo_88_0 rfl rfl fun a hk => ?_
  refine o_load hk ts_86 rfl (hm.cell_cel (i := 0) (j := 0) rfl rfl) rfl fun a hk => ?_
  refine o_lenMap hk mt_86 rfl hlen rfl fun a hk => ?_
  refine o_icmp hk rfl rfl rfl rfl fun a hk => ?_
  refine cE0 ?_
  refine c_cond hk rfl (fun hc => ?_) (fun hc => ?_)
  · refine wp_ret ?_
    refine cQ0 ?_
    have hu0 : u.length = 0 := by have := eq_of_beq hc; omega
    refine b_retNone rfl hk ⟨w0.heap.size, Nat.le_refl _, Nat.le_refl _, ?_, Agr.refl _ _⟩
    rw [hlk, hu0]
    exact h0 w0 (Agr.refl _ _)
  refine wp_skip ?_
  refine cT0 ?_
  have hun : u.length ≠ 0 := by rintro h; rw [h] at hc; simp at hc
  obtain ⟨r, vs, rfl, hYr, hMA, hvl, hvs⟩ : ∃ r vs, p = some r ∧ ¬ Y r ∧ MapAt w0 r (u.map (·.1)) vs ∧ vs.length = u.length ∧ ∀ (i : Nat) (p : Nat × List UInt8), u[i]? = some p → ∃ x, vs[i]? = some x ∧ Rep w0 Y (ddBs p.2) [x] := by
    rcases rep_tags hR with ⟨rfl, _⟩ | ⟨r, vs, h1, h2⟩
    · exact absurd rfl hun
    · exact ⟨r, vs, by simpa using h1, h2⟩
  have hMA' := hMA
  obtain ⟨es, clk, hes, hkv, hkl, hnd, hbn⟩ := hMA'
  have hrlt : r < w0.heap.size := hMA.lt
  have hesl : es.size = u.length := by
    have h1 := congrArg List.length hkv
    simp only [List.length_map, List.length_zip] at h1
    rw [Array.length_toList] at h1
    omega
  refine cR0 ?_
  refine oM0 hk rfl rfl fun a hk => ?_
  refine oN0 hk rfl rfl fun a hk => ?_
  refine oF0 hk fo_88_0 rfl rfl fun a hk => ?_
  refine o_load hk ts_86 rfl (hm.cell_cel (i := 0) (j := 0) rfl rfl) rfl fun a hk => ?_
  refine o_lenMap hk mt_86 rfl hlen rfl fun a hk => ?_
  refine o_make0 (cap := u.length) hk hm rt_150 tz_59 rfl (by unfold maxLen; omega) (by omega) rfl fun a bR w hbR hk hm => ?_
  refine o_alloc hk hm tz_150 rfl rfl fun a bA w hk hm => ?_
  refine o_store (i := 0) hk hm ts_150 rfl rfl rfl rfl rfl rfl (Nat.le_refl 1) fun a w hk hm => ?_
  refine cE0 ?_
  refine wp_seq ?_
  refine cR0 ?_
  refine oM0 hk rfl rfl fun a hk => ?_
  refine oN0 hk rfl rfl fun a hk => ?_
  refine oF0 hk fo_88_0 rfl rfl fun a hk => ?_
  refine o_load hk ts_86 rfl (hm.cell_cel (i := 2) (j := 0) rfl rfl) rfl fun a hk => ?_
  have hesw : w.heap[r]? = some (.map es clk) := (hm.agr.block r hrlt id).trans hes
  refine o_range hk hm mt_86 rfl hesw rfl fun a it w hit hk hm => ?_
  refine cE0 ?_
  clear hesw hit
  refine c_loop (fun gm a w => ∃ seen c0 col v ds, gm = (leftOf es seen).size ∧ clk ≤ c0 ∧ Kn 53 [(0, .pointer (some ⟨b, off, none⟩)), (1, .func (.func g) #[] lb.toArray), (4, .pointer (some ⟨bA, 0, none⟩)), (24, .pointer (some ⟨it, 0, none⟩))] a ∧
    Mem w0 Nob Y [.obj it (.mapIter (some r) clk seen c0), .blk bA [v] 150, .row 59 1 v col.length (u32s ds), .cel b off [.map (some r)], .rep (ddTagMap u) [.map (some r)]] w ∧ Collect es seen col ∧ col.map (·.key) = u32s ds) (leftOf es #[]).size ?_ ?_
  · exact ⟨#[], clk, [], _, [], rfl, Nat.le_refl _, hk.sub ⟨rfl, rfl, rfl, rfl, trivial⟩, hm, collect_start es, rfl⟩
  clear hm hk
  rintro gm a w ⟨seen, c0, col, v, ds, rfl, hcc, hk, hm, hcol, hds⟩
  have hesw : w.heap[r]? = some (.map es clk) := (hm.agr.block r hrlt id).trans hes
  have hcl := collect_len hcol
  refine cR0 ?_
  refine o_next (i := 0) hk hm rfl rfl hesw hbn hcc rfl (fun hz a hk => ?_) (fun e he a w hk hm => ?_)
  rotate_left
  · -- a key more
    refine o_extract hk rfl rfl rfl fun a hk => ?_
    refine cE0 ?_
    refine wp_seq ?_
    refine c_condT hk rfl ?_
    refine wp_skip ?_
    refine cT0 ?_
    refine wp_block ?_
    have hesw2 : w.heap[r]? = some (.map es clk) := (hm.agr.block r hrlt id).trans hes
    obtain ⟨kk, hkk⟩ := key_u32 hkv hkl (left_mem he)
    have hlt2 : col.length < es.size := by
      have h1 := hcol.2.length_eq
      have h2 : 0 < (leftOf es seen).toList.length := List.length_pos_of_mem he
      simp only [List.length_append, Array.length_toList] at h1 h2
      omega
    refine cR0 ?_
    refine o_entry (i := 0) hk hm rfl rfl hesw2 (left_mem he) hnd rfl fun a hk => ?_
    refine o_extract hk rfl rfl rfl fun a hk => ?_
    refine oA0 hk rfl rfl fun a hk => ?_
    refine cE0 ?_
    rw [hkk] at hk
    refine c_reg ?_
    refine o_load hk ts_150 rfl (hm.cell_blk (i := 1) rfl rfl) rfl fun a hk => ?_
    refine oM0 hk rfl rfl fun a hk => ?_
    refine o_build1 hk hm rt_150 rfl rfl rfl rfl rfl rfl fun a bN w hk hm => ?_
    refine o_append (i := 3) hk hm rt_150 rfl rfl rfl (src_cells (k := 1) (news := [.int .u32 kk]) te_150 rfl (hm.cells_blk (i := 0) rfl rfl) rfl) (by unfold maxLen; omega) (by omega) rfl fun a v' w hk hm _ => ?_
    have hone : v'.oneCell' = true := row_one (hm.row (i := 3) rfl)
    refine o_store (i := 2) hk hm ts_150 rfl rfl (cells1 hone) rfl (one1 hone) rfl (Nat.le_refl 1) fun a w hk hm => ?_
    refine c_endQ ?_
    refine cN0 (cT0 ⟨_, collect_less hcol hnd he, seen.push e.born, clk, col ++ [e], v', ds ++ [kk], rfl, Nat.le_refl _, hk.sub ⟨rfl, rfl, rfl, rfl, trivial⟩, ?_, collect_step hcol hnd he, ?_⟩)
    · have hm := hm.pick [1, 2, 3, 4, 5] rfl rfl
      exact hm.rowEq (i := 2) (n' := (col ++ [e]).length) (xs' := u32s (ds ++ [kk])) rfl (by simp) (by simp [u32s])
    · simp [hds, hkk, u32s]
  -- all are met: they are sorted
  refine o_extract hk rfl rfl rfl fun a hk => ?_
  refine cE0 ?_
  refine wp_seq ?_
  refine c_condF hk rfl ?_
  refine wp_exit ?_
  refine c_thenExit (c_thenExit (c_inSame ?_))
  refine cT0 ?_
  obtain ⟨ds0, hd0, hperm⟩ := keys_perm hkv hkl (collect_end hcol hz)
  obtain rfl := u32s_inj (hds.symm.trans hd0)
  have hcu : col.length = u.length := by
    have h1 : col.length = es.toList.length := (collect_end hcol hz).length_eq
    have h2 : es.toList.length = es.size := Array.length_toList
    omega
  obtain ⟨hpw, _⟩ := rising_pair hris
  have hperm : ds.Perm ((us.map (·.1)).map fun (k : Nat) => (k : Int)) := hperm.trans ((hpm.symm.map _).map _)
  have hm := hm.rowEq (i := 2) (n' := u.length) (xs' := u32s ds) rfl hcu rfl
  have hm : Mem w0 Nob Y [.obj it (.mapIter (some r) clk seen c0), .blk bA [v] 150, .row 59 1 v u.length (u32s ds), .cel b off [.map (some r)], .rep (ddTagMap u) [.map (some r)]] w := hm
  have hrow := hm.row (i := 2) rfl
  have hcA : w.cell? ⟨bA, 0, none⟩ = some v := hm.cell_blk (i := 1) rfl rfl
  refine cR0 ?_
  refine o_load hk ts_150 rfl hcA rfl fun a hk => ?_
  refine o_makeIface hk te_150 rfl rfl fun a hk => ?_
  refine o_makeFunc (xs := [.tmp 4]) (vs := [.pointer (some ⟨bA, 0, none⟩)]) hk ⟨rfl, trivial⟩ rfl fun a hk => ?_
  have hsort := sortU32 (P := Tryd.prog) sa6 (t := 150) (e := 59) (i := siT) (ie := siE) (by kernel_rfl) (by kernel_rfl) (by kernel_rfl) (by kernel_rfl) (ke := 10) (fun _ => by kernel_rfl) (by kernel_rfl) (fun _ => by kernel_rfl) (g := 126) (lb := #[.pointer (some ⟨bA, 0, none⟩)])
    (fun args w => callFunc_run cb_126 args w) siF siF_ok true siX hrow (by omega) hperm hpw
    (fun blk cap hv => by
      subst hv
      refine lessReads blk cap u.length bA w ds hrow hcA ?_
      intro hAb
      have h1 := muts_apart hm.nodup (i := 1) (j := 2) (by decide) rfl rfl bA (by simp [Ent.mut])
      exact h1 (by simp [Ent.mut, Value.ownBlock, hAb]))
  refine o_call (vs := [.iface 150 v, .func (.func 126) #[] #[.pointer (some ⟨bA, 0, none⟩)]]) hk cb_125 (ret_of_calls rfl hsort) ⟨rfl, rfl, trivial⟩ rfl fun v1 w1 a hR1 hk => ?_
  obtain ⟨_, hag1, hrow1⟩ := hR1
  have hm := hm.rowStep (i := 2) rfl hag1 hrow1 (fun k hk => .inl hk)
  refine cE0 ?_
  refine cR0 ?_
  refine o_load hk ts_150 rfl (hm.cell_blk (i := 1) rfl rfl) rfl fun a hk => ?_
  obtain ⟨pv, cap, rfl⟩ := row_form hrow1
  obtain ⟨gR, rfl⟩ := row_ptr hrow1 (by omega)
  refine oL0 hk te_150 rfl rfl fun a hk => ?_
  refine oM0 hk rfl rfl fun a hk => ?_
  refine cE0 ?_
  have hgR := hm.own gR (muts_mem (eA0 (i := 2) rfl) (by simp [Ent.mut, Value.ownBlock]))
  have hgR0 : ¬ gR < w0.heap.size := fun h => (hgR.2 h).elim
  have hag0 : Agr Nob w0 w1 := hm.agr
  have hbl : b < w0.heap.size := cell_lt (hC 0 _ rfl).2
  have hbY : ¬ Y b := (hC 0 _ rfl).1
  refine c_range (n := 53) (i := 39) (ln := 38) (L0 := [(37, .slice (some ⟨gR, 0, none⟩) u.length cap), (0, .pointer (some ⟨b, off, none⟩)), (1, .func (.func g) #[] lb.toArray)]) u.length (by omega) (fun k L w => L = [(37, .slice (some ⟨gR, 0, none⟩) u.length cap), (0, .pointer (some ⟨b, off, none⟩)), (1, .func (.func g) #[] lb.toArray)] ∧ J w1.heap.size k w ∧ Agr (fun i => (i < w0.heap.size ∧ X i) ∨ w1.heap.size ≤ i) w1 w)
    (hk.sub ⟨rfl, rfl, rfl, rfl, rfl, trivial⟩) ⟨rfl, h0 w1 hag0, Agr.refl _ _⟩ rfl rfl rfl rfl rfl rfl rfl ?_ rfl ?_
  · rintro k L a w hku ⟨rfl, hJ, hag⟩ hk
    have hku2 : k < us.length := by omega
    have hk0 : us[k]? = some us[k] := List.getElem?_eq_getElem hku2
    obtain ⟨ik, hik⟩ := List.mem_iff_getElem?.1 (hpm.mem_iff.1 (List.getElem_mem hku2))
    obtain ⟨x, hx, hxr⟩ := hvs ik _ hik
    have hblk : ∀ i, i < w0.heap.size → ¬ Y i → w.heap[i]? = w0.heap[i]? := fun i hi hy => by
      rw [hag.block i (Nat.lt_of_lt_of_le hi hag0.size) (by rintro (⟨_, h⟩ | h); exact hy (hXY i hi h); exact absurd hi (Nat.not_lt.2 (Nat.le_trans hag0.size h)))]
      exact hag0.block i hi id
    have hgw : w.heap[gR]? = w1.heap[gR]? := hag.block gR hgR.1 (by rintro (⟨h, _⟩ | h); exact hgR0 h; exact absurd hgR.1 (Nat.not_lt.2 h))
    have hcell : w.cell? ⟨gR, 0 + k * 1, none⟩ = some (.int .u32 (us[k].1 : Int)) := by
      have h1 := hrow1.cells (g := gR) rfl k (.int .u32 (us[k].1 : Int)) (by simp [u32s, hku2])
      rw [Addr.add_lit] at h1
      rw [Nat.mul_one, World.cell?_of_block (w := w1) (w' := w) (a := ⟨gR, 0 + k, none⟩) hgw]
      exact h1
    refine cR0 ?_
    refine oI0 (j := k) hk te_150 ts_59 rfl rfl hku rfl fun a hk => ?_
    refine o_load hk ts_59 rfl hcell rfl fun a hk => ?_
    refine oA0 hk rfl rfl fun a hk => ?_
    refine cE0 ?_
    refine c_reg ?_
    refine oM0 hk rfl rfl fun a hk => ?_
    refine oM0 hk rfl rfl fun a hk => ?_
    refine oM0 hk rfl rfl fun a hk => ?_
    refine oN0 hk rfl rfl fun a hk => ?_
    refine oF0 hk fo_88_0 rfl rfl fun a hk => ?_
    have hcm : w.cell? ⟨b, off + 0, none⟩ = some (.map (some r)) := by
      rw [World.cell?_of_block (w := w0) (w' := w) (a := ⟨b, off + 0, none⟩) (hblk b hbl hbY)]
      exact (hC 0 _ rfl).2
    refine o_load hk ts_86 rfl hcm rfl fun a hk => ?_
    refine oM0 hk rfl rfl fun a hk => ?_
    refine o_lookup (j := ik) hk mt_86 rfl rfl (hMA.move (hblk r hrlt hYr)) (keyAt_of hndk (by rw [List.getElem?_map, hik]; rfl)) rfl fun a hk => ?_
    have hxv : vs.getD ik undef = x := by rw [List.getD_eq_getElem?_getD, hx]; rfl
    rw [hxv] at hk
    have hxw : Rep w (Ea.Yw Y w0) (ddBs us[k].2) [x] := Rep.move (fun i hi hy => ⟨hblk i hi hy, fun h => h.elim hy (fun h2 => by omega)⟩) _ _ hxr
    refine o_callV (vs := [.int .u32 (us[k].1 : Int), x]) hk rfl hg (hstep w1.heap.size k us[k] x w hk0 hag0.size hag.size hJ hxw) ⟨rfl, rfl, trivial⟩ rfl fun v2 w2 a hR2 hk => ?_
    refine c_endQ ?_
    refine cN0 (c_round (L' := [(37, .slice (some ⟨gR, 0, none⟩) u.length cap), (0, .pointer (some ⟨b, off, none⟩)), (1, .func (.func g) #[] lb.toArray)]) hk ⟨rfl, rfl, rfl, rfl, rfl, trivial⟩ rfl ⟨rfl, hR2.1, hag.trans hR2.2 (fun _ _ h => h) (fun _ _ h => h)⟩)
  · rintro L a w ⟨rfl, hJ, hag⟩ hk
    exact b_endNone rfl hk ⟨w1.heap.size, hag0.size, hag.size, hlk ▸ hJ, hag0.trans hag (fun _ _ h => h.elim) (fun i hi h => h.elim id (fun h2 => absurd hi (Nat.not_lt.2 (Nat.le_trans hag0.size h2))))⟩
theorem each_c : EachOk Tryd.prog 83 := each_cP.ok
end Go.Proofs.YthholdjpcdpceaaDoor
