/- Tags: their number, their order, their octets. No statement of the seat stands here. -/
import Derived.Test.YtpjichobdalpjaaDoorL3
import Derived.Test.YtpjichobdalpjaaDoorKb
import Derived.Test.YtpjichobdalpjaaDoorFa
import Derived.Deep.QuietTactic
import Derived.Ground.GgsProg
import Derived.Lib.RowBridge
import Derived.WalkKit
import Derived.Test.YtpjichobdalpjaaDoorRows
import Derived.KernelRfl
namespace Go.Proofs.YtpjichobdalpjaaDoor
open Go Go.Mk Go.Shelf Go.Proofs
def sa6_ren : Go.Shelf.Ren := ⟨fun | 6 => 57 | 10 => 61 | 11 => 62 | 12 => 63 | 13 => 64 | 14 => 65 | 24 => 56 | 25 => 75 | 26 => 76 | 27 => 77 | 28 => 78 | 29 => 79 | 30 => 80 | 31 => 81 | 32 => 82 | 33 => 83 | 34 => 84 | 35 => 85 | 36 => 86 | 37 => 87 | 38 => 88 | 39 => 89 | n => n, fun | 20 => 20 | 26 => 99 | 35 => 108 | 0 => 0 | 37 => 110 | 3 => 3 | 41 => 81 | 44 => 115 | 49 => 52 | 51 => 68 | 4 => 4 | 54 => 122 | 53 => 121 | 58 => 126 | 5 => 5 | 9 => 9 | 60 => 128 | 64 => 132 | 66 => 134 | 67 => 135 | 17 => 17 | 32 => 105 | 33 => 106 | 82 => 151 | 12 => 12 | 75 => 144 | 76 => 145 | 77 => 146 | 78 => 147 | 79 => 148 | 80 => 149 | n => n, fun | n => n⟩
theorem sa6 : Go.Proofs.LaysGg.n6 Tryd.prog sa6_ren := {
  mixed := by kernel_rfl,
  f6 := Tryd.func57.trans (congrArg some (by kernel_rfl)),
  f10 := Tryd.func61.trans (congrArg some (by kernel_rfl)),
  f11 := Tryd.func62.trans (congrArg some (by kernel_rfl)),
  f12 := Tryd.func63.trans (congrArg some (by kernel_rfl)),
  f13 := Tryd.func64.trans (congrArg some (by kernel_rfl)),
  f14 := Tryd.func65.trans (congrArg some (by kernel_rfl)),
  f24 := Tryd.func56.trans (congrArg some (by kernel_rfl)),
  f25 := Tryd.func75.trans (congrArg some (by kernel_rfl)),
  f26 := Tryd.func76.trans (congrArg some (by kernel_rfl)),
  f27 := Tryd.func77.trans (congrArg some (by kernel_rfl)),
  f28 := Tryd.func78.trans (congrArg some (by kernel_rfl)),
  f29 := Tryd.func79.trans (congrArg some (by kernel_rfl)),
  f30 := Tryd.func80.trans (congrArg some (by kernel_rfl)),
  f31 := Tryd.func81.trans (congrArg some (by kernel_rfl)),
  f32 := Tryd.func82.trans (congrArg some (by kernel_rfl)),
  f33 := Tryd.func83.trans (congrArg some (by kernel_rfl)),
  f34 := Tryd.func84.trans (congrArg some (by kernel_rfl)),
  f35 := Tryd.func85.trans (congrArg some (by kernel_rfl)),
  f36 := Tryd.func86.trans (congrArg some (by kernel_rfl)),
  f37 := Tryd.func87.trans (congrArg some (by kernel_rfl)),
  f38 := Tryd.func88.trans (congrArg some (by kernel_rfl)),
  f39 := Tryd.func89.trans (congrArg some (by kernel_rfl)),
  t0 := Tryd.underlying0,
  a0 := Tryd.isAgg0,
  z0 := Tryd.sizeOf0,
  v0 := Tryd.zeroValue0,
  i0 := by kernel_rfl,
  t3 := Tryd.underlying3,
  a3 := Tryd.isAgg3,
  z3 := Tryd.sizeOf3,
  v3 := Tryd.zeroValue3,
  i3 := by kernel_rfl,
  t4 := Tryd.underlying4,
  a4 := Tryd.isAgg4,
  z4 := Tryd.sizeOf4,
  v4 := Tryd.zeroValue4,
  i4 := by kernel_rfl,
  t5 := Tryd.underlying5,
  a5 := Tryd.isAgg5,
  z5 := Tryd.sizeOf5,
  v5 := Tryd.zeroValue5,
  i5 := by kernel_rfl,
  t9 := Tryd.underlying9,
  a9 := Tryd.isAgg9,
  z9 := Tryd.sizeOf9,
  v9 := Tryd.zeroValue9,
  i9 := by kernel_rfl,
  t12 := Tryd.underlying12,
  a12 := Tryd.isAgg12,
  z12 := Tryd.sizeOf12,
  v12 := Tryd.zeroValue12,
  i12 := by kernel_rfl,
  t17 := Tryd.underlying17,
  a17 := Tryd.isAgg17,
  z17 := Tryd.sizeOf17,
  v17 := Tryd.zeroValue17,
  i17 := by kernel_rfl,
  t20 := Tryd.underlying20,
  a20 := Tryd.isAgg20,
  z20 := Tryd.sizeOf20,
  v20 := Tryd.zeroValue20,
  i20 := by kernel_rfl,
  t26 := Tryd.underlying99,
  a26 := Tryd.isAgg99,
  z26 := Tryd.sizeOf99,
  v26 := Tryd.zeroValue99,
  i26 := by kernel_rfl,
  t32 := Tryd.underlying105,
  a32 := Tryd.isAgg105,
  z32 := Tryd.sizeOf105,
  v32 := Tryd.zeroValue105,
  i32 := by kernel_rfl,
  t33 := Tryd.underlying106,
  a33 := Tryd.isAgg106,
  z33 := Tryd.sizeOf106,
  v33 := Tryd.zeroValue106,
  i33 := by kernel_rfl,
  t35 := Tryd.underlying108,
  a35 := Tryd.isAgg108,
  z35 := Tryd.sizeOf108,
  v35 := Tryd.zeroValue108,
  i35 := by kernel_rfl,
  t37 := Tryd.underlying110,
  a37 := Tryd.isAgg110,
  z37 := Tryd.sizeOf110,
  v37 := Tryd.zeroValue110,
  i37 := by kernel_rfl,
  t41 := Tryd.underlying81,
  a41 := Tryd.isAgg81,
  z41 := Tryd.sizeOf81,
  v41 := Tryd.zeroValue81,
  i41 := by kernel_rfl,
  t44 := Tryd.underlying115,
  a44 := Tryd.isAgg115,
  z44 := Tryd.sizeOf115,
  v44 := Tryd.zeroValue115,
  i44 := by kernel_rfl,
  t49 := Tryd.underlying52,
  a49 := Tryd.isAgg52,
  z49 := Tryd.sizeOf52,
  v49 := Tryd.zeroValue52,
  i49 := by kernel_rfl,
  t51 := Tryd.underlying68,
  a51 := Tryd.isAgg68,
  z51 := Tryd.sizeOf68,
  v51 := Tryd.zeroValue68,
  i51 := by kernel_rfl,
  t53 := Tryd.underlying121,
  a53 := Tryd.isAgg121,
  z53 := Tryd.sizeOf121,
  v53 := Tryd.zeroValue121,
  i53 := by kernel_rfl,
  t54 := Tryd.underlying122,
  a54 := Tryd.isAgg122,
  z54 := Tryd.sizeOf122,
  v54 := Tryd.zeroValue122,
  i54 := by kernel_rfl,
  t58 := Tryd.underlying126,
  a58 := Tryd.isAgg126,
  z58 := Tryd.sizeOf126,
  v58 := Tryd.zeroValue126,
  i58 := by kernel_rfl,
  t60 := Tryd.underlying128,
  a60 := Tryd.isAgg128,
  z60 := Tryd.sizeOf128,
  v60 := Tryd.zeroValue128,
  i60 := by kernel_rfl,
  t64 := Tryd.underlying132,
  a64 := Tryd.isAgg132,
  z64 := Tryd.sizeOf132,
  v64 := Tryd.zeroValue132,
  i64 := by kernel_rfl,
  t66 := Tryd.underlying134,
  a66 := Tryd.isAgg134,
  z66 := Tryd.sizeOf134,
  v66 := Tryd.zeroValue134,
  i66 := by kernel_rfl,
  t67 := Tryd.underlying135,
  a67 := Tryd.isAgg135,
  z67 := Tryd.sizeOf135,
  v67 := Tryd.zeroValue135,
  i67 := by kernel_rfl,
  t75 := Tryd.underlying144,
  a75 := Tryd.isAgg144,
  z75 := Tryd.sizeOf144,
  v75 := Tryd.zeroValue144,
  i75 := by kernel_rfl,
  t76 := Tryd.underlying145,
  a76 := Tryd.isAgg145,
  z76 := Tryd.sizeOf145,
  v76 := Tryd.zeroValue145,
  i76 := by kernel_rfl,
  t77 := Tryd.underlying146,
  a77 := Tryd.isAgg146,
  z77 := Tryd.sizeOf146,
  v77 := Tryd.zeroValue146,
  i77 := by kernel_rfl,
  t78 := Tryd.underlying147,
  a78 := Tryd.isAgg147,
  z78 := Tryd.sizeOf147,
  v78 := Tryd.zeroValue147,
  i78 := by kernel_rfl,
  t79 := Tryd.underlying148,
  a79 := Tryd.isAgg148,
  z79 := Tryd.sizeOf148,
  v79 := Tryd.zeroValue148,
  i79 := by kernel_rfl,
  t80 := Tryd.underlying149,
  a80 := Tryd.isAgg149,
  z80 := Tryd.sizeOf149,
  v80 := Tryd.zeroValue149,
  i80 := by kernel_rfl,
  t82 := Tryd.underlying151,
  a82 := Tryd.isAgg151,
  z82 := Tryd.sizeOf151,
  v82 := Tryd.zeroValue151,
  i82 := by kernel_rfl }
noncomputable def siT : TypeInfo := (Tryd.prog.info? 97).get (by kernel_rfl)
noncomputable def siE : TypeInfo := (Tryd.prog.info? 52).get (by kernel_rfl)
theorem siK (n : Nat) (h2 : 2 ≤ n) : Lib.swapperK n siE 10 = 6 := by
  have a : siE.hasPointers = false := by kernel_rfl
  have b : siE.bytes = 4 := by kernel_rfl
  have c : (n == 0) = false := by simp; omega
  have d : (n == 1) = false := by simp; omega
  simp [Lib.swapperK, a, b, c, d]
def siF (n : Nat) : Nat := if n = 0 then 66 else if n = 1 then 67 else 71
theorem siF_ok (n : Nat) : Tryd.prog.funcs.findIdx? (·.name == "internal/reflectlite" ++ ".Swapper$" ++ toString (Lib.swapperK n siE 10)) = some (siF n) := by
  by_cases h0 : n = 0
  · subst h0; kernel_rfl
  · by_cases h1 : n = 1
    · subst h1; kernel_rfl
    · rw [siK n (by omega)]
      unfold siF
      rw [if_neg h0, if_neg h1]
      kernel_rfl
theorem siX (n : Nat) (h2 : 2 ≤ n) (args : Array Value) (W : World) : (callFunc (siF n) args).run Tryd.prog W = ((Extern.ReflectliteSwapper.swap true args).run Tryd.prog W).andThen fun v w' => .ok (.value v) w' := by
  unfold siF
  rw [if_neg (by omega), if_neg (by omega)]
  exact run_callFunc_extern Tryd.func71 (by kernel_rfl) (by kernel_rfl) (by kernel_rfl) (e := Extern.ReflectliteSwapper.swap true) (by kernel_rfl) args W
theorem tagsLen_c : Ea.Ok Tryd.prog 5 33 .tagLen := by
  intro w0 Y b off c u hC hR
  obtain ⟨p, rfl, hlen⟩ := rep_tags_len hR
  have hcell : w0.cell? ⟨b, off + 0, none⟩ = some (.map p) := (hC 0 _ rfl).2
  refine c_call Tryd.func33 rfl rfl fun a hk => ?_
  have hk : Kn 8 [(0, .pointer (some ⟨b, off, none⟩))] a := hk
  refine c_region ?_
  refine o_assign hk rfl rfl fun a hk => ?_
  refine c_end ?_
  refine c_region ?_
  refine o_move hk rfl rfl fun a hk => ?_
  refine o_nilCheck hk rfl rfl fun a hk => ?_
  refine o_fieldAddr hk fo_59_0 rfl rfl fun a hk => ?_
  refine o_load hk ts_57 rfl hcell rfl fun a hk => ?_
  refine o_lenMap hk mt_57 rfl hlen rfl fun a hk => ?_
  refine o_assign hk rfl rfl fun a hk => ?_
  refine c_end ?_
  refine wp_ret ?_
  exact b_retTmp rfl hk rfl ⟨rfl, rfl⟩
set_option maxHeartbeats 2000000 in
/-- the closure that sorts: it reads the captured slice -/
theorem less_c (blk off c Bs size : Nat) (W : World) (G : Nat → Int) (hs : W.cell? ⟨Bs, 0, none⟩ = some (.slice (some ⟨blk, off, none⟩) size c))
    (hc : ∀ t, t < size → W.cell? ⟨blk, off + t, none⟩ = some (.int .u32 (G t))) (i j : Nat) (hi : i < size) (hj : j < size) :
    Calls Tryd.prog 58 #[.int .i64 i, .int .i64 j, .pointer (some ⟨Bs, 0, none⟩)] W fun e w' => e = .returned (.bool (decide (G i < G j))) ∧ ∃ q, w' = W.drewN q := by
  have ci := hc i hi
  have cj := hc j hj
  go_enter Tryd.func58, Tryd.ntmps58
  go_wp2
  go_quiet (fail)
  go_wp2
  go_ret
  exact ⟨rfl, nq, rfl⟩
open Go.Sort Go.Proofs in
/-- .. as the sort asks it, the captured slice lying in a block of its own -/
theorem lessReads (blk cap n Bs : Nat) (W : World) (ds : List Int) (hrow : W.ownsRow 0 52 1 (.slice (some ⟨blk, 0, none⟩) n cap) n (u32s ds)) (hs : W.cell? ⟨Bs, 0, none⟩ = some (.slice (some ⟨blk, 0, none⟩) n cap)) (hne : Bs ≠ blk) :
    LessReads Tryd.prog 58 #[.pointer (some ⟨Bs, 0, none⟩)] (Value.int .u32) ltInt blk 0 n W := by
  obtain ⟨hH, hsz⟩ := holds_row hrow
  have hb1 : blk < W.heap.size := (hrow.lt blk rfl).2
  have hb2 : Bs < W.heap.size := cell_lt hs
  intro m os dk hdk i j hi hj
  have e : sortWorld (Value.int .u32) W blk 0 m dk os = putRow (Value.int .u32) (grow (Sort.ahead W m) os) blk 0 dk := by
    unfold sortWorld; rw [putRow_grow _ (Sort.ahead W m) _ blk 0 _ hb1]
  have hHg : Holds (Value.int .u32) (grow (Sort.ahead W m) os) blk 0 ds.toArray := holds_grow _ _ _ blk 0 _ hb1 (holds_ahead _ _ _ _ _ _ hH)
  refine less_c blk 0 cap Bs n _ (fun t => dk[t]!) ?_ (fun t ht => ?_) i j hi hj
  · rw [e, cell?_putRow_other _ _ blk 0 dk _ (Or.inl hne), cell?_grow _ _ _ hb2]
    exact hs
  · rw [e]; exact cell?_putRow _ _ blk 0 ds.toArray dk hHg (by rw [hsz]; exact hdk) t (by omega)
set_option maxHeartbeats 4000000 in
theorem each_c : EachOk Tryd.prog 49 := by
  intro w0 Y X b off c u g lb J hu hC hR hXY hg h0 hstep
  obtain ⟨p, rfl, hlen⟩ := rep_tags_len hR
  refine c_call Tryd.func49 rfl rfl fun a hk => ?_
  have hk : Kn 53 [(0, .pointer (some ⟨b, off, none⟩)), (1, .func (.func g) #[] lb.toArray)] a := hk
  have hm : Mem w0 Nob Y [.cel b off [.map p], .rep (ddTagMap u) [.map p]] w0 := Mem.start rfl (by simp only [List.forall_mem_cons, List.not_mem_nil, false_imp_iff, implies_true, and_true]; exact ⟨hC, hR⟩)
  refine wp_seq ?_
  refine c_region ?_
  refine o_move hk rfl rfl fun a hk => ?_
  refine o_nilCheck hk rfl rfl fun a hk => ?_
  refine o_fieldAddr hk fo_59_0 rfl rfl fun a hk => ?_
  refine o_load hk ts_57 rfl (hm.cell_cel (i := 0) (j := 0) rfl rfl) rfl fun a hk => ?_
  refine o_lenMap hk mt_57 rfl hlen rfl fun a hk => ?_
  refine o_icmp hk rfl rfl rfl rfl fun a hk => ?_
  refine c_end ?_
  refine c_cond hk rfl (fun hc => ?_) (fun hc => ?_)
  · refine wp_ret ?_
    refine c_thenRet ?_
    have hu0 : u.length = 0 := by have := eq_of_beq hc; omega
    refine b_retNone rfl hk ⟨w0.heap.size, Nat.le_refl _, Nat.le_refl _, ?_, Agr.refl _ _⟩
    rw [hu0]
    exact h0 w0 (Agr.refl _ _)
  refine wp_skip ?_
  refine c_then ?_
  have hun : u.length ≠ 0 := by rintro h; rw [h] at hc; simp at hc
  obtain ⟨r, vs, rfl, hYr, hMA, hvl, hvs⟩ : ∃ r vs, p = some r ∧ ¬ Y r ∧ MapAt w0 r (u.map (·.1)) vs ∧ vs.length = u.length ∧ ∀ (i : Nat) (p : Nat × List UInt8), u[i]? = some p → ∃ x, vs[i]? = some x ∧ Rep w0 Y (ddBs p.2) [x] := by
    rcases rep_tags hR with ⟨rfl, _⟩ | ⟨r, vs, h1, h2⟩
    · exact absurd rfl hun
    · exact ⟨r, vs, by simpa using h1, h2⟩
  have hMA' := hMA
  obtain ⟨es, clk, hes, hkv, hkl, hnd, hbn⟩ := hMA'
  have hrlt : r < w0.heap.size := hMA.lt
  have hul : u.length ≤ 32767 := hu.2.1
  have hesl : es.size = u.length := by
    have h1 := congrArg List.length hkv
    simp only [List.length_map, List.length_zip] at h1
    rw [Array.length_toList] at h1
    omega
  refine c_region ?_
  refine o_move hk rfl rfl fun a hk => ?_
  refine o_nilCheck hk rfl rfl fun a hk => ?_
  refine o_fieldAddr hk fo_59_0 rfl rfl fun a hk => ?_
  refine o_load hk ts_57 rfl (hm.cell_cel (i := 0) (j := 0) rfl rfl) rfl fun a hk => ?_
  refine o_lenMap hk mt_57 rfl hlen rfl fun a hk => ?_
  refine o_make0 (cap := u.length) hk hm rt_97 tz_52 rfl (by unfold maxLen; omega) (by omega) rfl fun a bR w hbR hk hm => ?_
  refine o_alloc hk hm tz_97 rfl rfl fun a bA w hk hm => ?_
  refine o_store (i := 0) hk hm ts_97 rfl rfl rfl rfl rfl rfl (Nat.le_refl 1) fun a w hk hm => ?_
  refine c_end ?_
  refine wp_seq ?_
  refine c_region ?_
  refine o_move hk rfl rfl fun a hk => ?_
  refine o_nilCheck hk rfl rfl fun a hk => ?_
  refine o_fieldAddr hk fo_59_0 rfl rfl fun a hk => ?_
  refine o_load hk ts_57 rfl (hm.cell_cel (i := 2) (j := 0) rfl rfl) rfl fun a hk => ?_
  have hesw : w.heap[r]? = some (.map es clk) := (hm.agr.block r hrlt id).trans hes
  refine o_range hk hm mt_57 rfl hesw rfl fun a it w hit hk hm => ?_
  refine c_end ?_
  clear hesw hit
  refine c_loop (fun gm a w => ∃ seen c0 col v ds, gm = (leftOf es seen).size ∧ clk ≤ c0 ∧ Kn 53 [(0, .pointer (some ⟨b, off, none⟩)), (1, .func (.func g) #[] lb.toArray), (4, .pointer (some ⟨bA, 0, none⟩)), (24, .pointer (some ⟨it, 0, none⟩))] a ∧
    Mem w0 Nob Y [.obj it (.mapIter (some r) clk seen c0), .blk bA [v] 97, .row 52 1 v col.length (u32s ds), .cel b off [.map (some r)], .rep (ddTagMap u) [.map (some r)]] w ∧ Collect es seen col ∧ col.map (·.key) = u32s ds) (leftOf es #[]).size ?_ ?_
  · exact ⟨#[], clk, [], _, [], rfl, Nat.le_refl _, hk.sub ⟨rfl, rfl, rfl, rfl, trivial⟩, hm, collect_start es, rfl⟩
  clear hm hk
  rintro gm a w ⟨seen, c0, col, v, ds, rfl, hcc, hk, hm, hcol, hds⟩
  have hesw : w.heap[r]? = some (.map es clk) := (hm.agr.block r hrlt id).trans hes
  have hcl := collect_len hcol
  refine c_region ?_
  refine o_next (i := 0) hk hm rfl rfl hesw hbn hcc rfl (fun hz a hk => ?_) (fun e he a w hk hm => ?_)
  rotate_left
  · -- a key more
    refine o_extract hk rfl rfl rfl fun a hk => ?_
    refine c_end ?_
    refine wp_seq ?_
    refine c_condT hk rfl ?_
    refine wp_skip ?_
    refine c_then ?_
    refine wp_block ?_
    have hesw2 : w.heap[r]? = some (.map es clk) := (hm.agr.block r hrlt id).trans hes
    obtain ⟨kk, hkk⟩ := key_u32 hkv hkl (left_mem he)
    have hlt2 : col.length < es.size := by
      have h1 := hcol.2.length_eq
      have h2 : 0 < (leftOf es seen).toList.length := List.length_pos_of_mem he
      simp only [List.length_append, Array.length_toList] at h1 h2
      omega
    refine c_region ?_
    refine o_entry (i := 0) hk hm rfl rfl hesw2 (left_mem he) hnd rfl fun a hk => ?_
    refine o_extract hk rfl rfl rfl fun a hk => ?_
    refine o_assign hk rfl rfl fun a hk => ?_
    refine c_end ?_
    rw [hkk] at hk
    refine c_reg ?_
    refine o_load hk ts_97 rfl (hm.cell_blk (i := 1) rfl rfl) rfl fun a hk => ?_
    refine o_move hk rfl rfl fun a hk => ?_
    refine o_build1 hk hm rt_97 rfl rfl rfl rfl rfl rfl fun a bN w hk hm => ?_
    refine o_append (i := 3) hk hm rt_97 rfl rfl rfl (src_cells (k := 1) (news := [.int .u32 kk]) te_97 rfl (hm.cells_blk (i := 0) rfl rfl) rfl) (by unfold maxLen; omega) (by omega) rfl fun a v' w hk hm _ => ?_
    have hone : v'.oneCell' = true := row_one (hm.row (i := 3) rfl)
    refine o_store (i := 2) hk hm ts_97 rfl rfl (cells1 hone) rfl (one1 hone) rfl (Nat.le_refl 1) fun a w hk hm => ?_
    refine c_endQ ?_
    refine c_inNormal (c_then ⟨_, collect_less hcol hnd he, seen.push e.born, clk, col ++ [e], v', ds ++ [kk], rfl, Nat.le_refl _, hk.sub ⟨rfl, rfl, rfl, rfl, trivial⟩, ?_, collect_step hcol hnd he, ?_⟩)
    · have hm := hm.pick [1, 2, 3, 4, 5] rfl rfl
      exact hm.rowEq (i := 2) (n' := (col ++ [e]).length) (xs' := u32s (ds ++ [kk])) rfl (by simp) (by simp [u32s])
    · simp [hds, hkk, u32s]
  -- all are met: they are sorted
  refine o_extract hk rfl rfl rfl fun a hk => ?_
  refine c_end ?_
  refine wp_seq ?_
  refine c_condF hk rfl ?_
  refine wp_exit ?_
  refine c_thenExit (c_thenExit (c_inSame ?_))
  refine c_then ?_
  obtain ⟨ds0, hd0, hperm⟩ := keys_perm hkv hkl (collect_end hcol hz)
  obtain rfl := u32s_inj (hds.symm.trans hd0)
  have hcu : col.length = u.length := by
    have h1 : col.length = es.toList.length := (collect_end hcol hz).length_eq
    have h2 : es.toList.length = es.size := Array.length_toList
    omega
  obtain ⟨hpw, hndk⟩ := rising_pair hu.1
  have hm := hm.rowEq (i := 2) (n' := u.length) (xs' := u32s ds) rfl hcu rfl
  have hm : Mem w0 Nob Y [.obj it (.mapIter (some r) clk seen c0), .blk bA [v] 97, .row 52 1 v u.length (u32s ds), .cel b off [.map (some r)], .rep (ddTagMap u) [.map (some r)]] w := hm
  have hrow := hm.row (i := 2) rfl
  have hcA : w.cell? ⟨bA, 0, none⟩ = some v := hm.cell_blk (i := 1) rfl rfl
  refine c_region ?_
  refine o_load hk ts_97 rfl hcA rfl fun a hk => ?_
  refine o_makeIface hk te_97 rfl rfl fun a hk => ?_
  refine o_makeFunc (xs := [.tmp 4]) (vs := [.pointer (some ⟨bA, 0, none⟩)]) hk ⟨rfl, trivial⟩ rfl fun a hk => ?_
  have hsort := sortU32 (P := Tryd.prog) sa6 (t := 97) (e := 52) (i := siT) (ie := siE) (by kernel_rfl) (by kernel_rfl) (by kernel_rfl) (by kernel_rfl) (ke := 10) (fun _ => by kernel_rfl) (by kernel_rfl) (fun _ => by kernel_rfl) (g := 58) (lb := #[.pointer (some ⟨bA, 0, none⟩)])
    (fun args w => callFunc_run cb_58 args w) siF siF_ok true siX hrow (by omega) hperm hpw
    (fun blk cap hv => by
      subst hv
      refine lessReads blk cap u.length bA w ds hrow hcA ?_
      intro hAb
      have h1 := muts_apart hm.nodup (i := 1) (j := 2) (by decide) rfl rfl bA (by simp [Ent.mut])
      exact h1 (by simp [Ent.mut, Value.ownBlock, hAb]))
  refine o_call (vs := [.iface 97 v, .func (.func 58) #[] #[.pointer (some ⟨bA, 0, none⟩)]]) hk cb_57 (ret_of_calls rfl hsort) ⟨rfl, rfl, trivial⟩ rfl fun v1 w1 a hR1 hk => ?_
  obtain ⟨_, hag1, hrow1⟩ := hR1
  have hm := hm.rowStep (i := 2) rfl hag1 hrow1 (fun k hk => .inl hk)
  refine c_end ?_
  refine c_region ?_
  refine o_load hk ts_97 rfl (hm.cell_blk (i := 1) rfl rfl) rfl fun a hk => ?_
  obtain ⟨pv, cap, rfl⟩ := row_form hrow1
  obtain ⟨gR, rfl⟩ := row_ptr hrow1 (by omega)
  refine o_lenSlice hk te_97 rfl rfl fun a hk => ?_
  refine o_move hk rfl rfl fun a hk => ?_
  refine c_end ?_
  have hgR := hm.own gR (muts_mem (entAt_mem (i := 2) rfl) (by simp [Ent.mut, Value.ownBlock]))
  have hgR0 : ¬ gR < w0.heap.size := fun h => (hgR.2 h).elim
  have hag0 : Agr Nob w0 w1 := hm.agr
  have hbl : b < w0.heap.size := cell_lt (hC 0 _ rfl).2
  have hbY : ¬ Y b := (hC 0 _ rfl).1
  refine c_range (n := 53) (i := 39) (ln := 38) (L0 := [(37, .slice (some ⟨gR, 0, none⟩) u.length cap), (0, .pointer (some ⟨b, off, none⟩)), (1, .func (.func g) #[] lb.toArray)]) u.length (by omega) (fun k L w => L = [(37, .slice (some ⟨gR, 0, none⟩) u.length cap), (0, .pointer (some ⟨b, off, none⟩)), (1, .func (.func g) #[] lb.toArray)] ∧ J w1.heap.size k w ∧ Agr (fun i => (i < w0.heap.size ∧ X i) ∨ w1.heap.size ≤ i) w1 w)
    (hk.sub ⟨rfl, rfl, rfl, rfl, rfl, trivial⟩) ⟨rfl, h0 w1 hag0, Agr.refl _ _⟩ rfl rfl rfl rfl rfl rfl rfl ?_ rfl ?_
  · rintro k L a w hku ⟨rfl, hJ, hag⟩ hk
    have hk0 : u[k]? = some u[k] := List.getElem?_eq_getElem hku
    obtain ⟨x, hx, hxr⟩ := hvs k _ hk0
    have hblk : ∀ i, i < w0.heap.size → ¬ Y i → w.heap[i]? = w0.heap[i]? := fun i hi hy => by
      rw [hag.block i (Nat.lt_of_lt_of_le hi hag0.size) (by rintro (⟨_, h⟩ | h); exact hy (hXY i hi h); exact absurd hi (Nat.not_lt.2 (Nat.le_trans hag0.size h)))]
      exact hag0.block i hi id
    have hgw : w.heap[gR]? = w1.heap[gR]? := hag.block gR hgR.1 (by rintro (⟨h, _⟩ | h); exact hgR0 h; exact absurd hgR.1 (Nat.not_lt.2 h))
    have hcell : w.cell? ⟨gR, 0 + k * 1, none⟩ = some (.int .u32 (u[k].1 : Int)) := by
      have h1 := hrow1.cells (g := gR) rfl k (.int .u32 (u[k].1 : Int)) (by simp [u32s, hku])
      rw [Addr.add_lit] at h1
      rw [Nat.mul_one, World.cell?_of_block (w := w1) (w' := w) (a := ⟨gR, 0 + k, none⟩) hgw]
      exact h1
    refine c_region ?_
    refine o_indexAddr (j := k) hk te_97 ts_52 rfl rfl hku rfl fun a hk => ?_
    refine o_load hk ts_52 rfl hcell rfl fun a hk => ?_
    refine o_assign hk rfl rfl fun a hk => ?_
    refine c_end ?_
    refine c_reg ?_
    refine o_move hk rfl rfl fun a hk => ?_
    refine o_move hk rfl rfl fun a hk => ?_
    refine o_move hk rfl rfl fun a hk => ?_
    refine o_nilCheck hk rfl rfl fun a hk => ?_
    refine o_fieldAddr hk fo_59_0 rfl rfl fun a hk => ?_
    have hcm : w.cell? ⟨b, off + 0, none⟩ = some (.map (some r)) := by
      rw [World.cell?_of_block (w := w0) (w' := w) (a := ⟨b, off + 0, none⟩) (hblk b hbl hbY)]
      exact (hC 0 _ rfl).2
    refine o_load hk ts_57 rfl hcm rfl fun a hk => ?_
    refine o_move hk rfl rfl fun a hk => ?_
    refine o_lookup (j := k) hk mt_57 rfl rfl (hMA.move (hblk r hrlt hYr)) (keyAt_of hndk (by simp [hku])) rfl fun a hk => ?_
    have hxv : vs.getD k undef = x := by rw [List.getD_eq_getElem?_getD, hx]; rfl
    rw [hxv] at hk
    have hxw : Rep w (Ea.Yw Y w0) (ddBs u[k].2) [x] := Rep.move (fun i hi hy => ⟨hblk i hi hy, fun h => h.elim hy (fun h2 => by omega)⟩) _ _ hxr
    refine o_callV (vs := [.int .u32 (u[k].1 : Int), x]) hk rfl hg (hstep w1.heap.size k u[k] x w hk0 hag0.size hag.size hJ hxw) ⟨rfl, rfl, trivial⟩ rfl fun v2 w2 a hR2 hk => ?_
    refine c_endQ ?_
    refine c_inNormal (c_round (L' := [(37, .slice (some ⟨gR, 0, none⟩) u.length cap), (0, .pointer (some ⟨b, off, none⟩)), (1, .func (.func g) #[] lb.toArray)]) hk ⟨rfl, rfl, rfl, rfl, rfl, trivial⟩ rfl ⟨rfl, hR2.1, hag.trans hR2.2 (fun _ _ h => h) (fun _ _ h => h)⟩)
  · rintro L a w ⟨rfl, hJ, hag⟩ hk
    exact b_endNone rfl hk ⟨w1.heap.size, hag0.size, hag.size, hJ, hag0.trans hag (fun _ _ h => h.elim) (fun i hi h => h.elim id (fun h2 => absurd hi (Nat.not_lt.2 (Nat.le_trans hag0.size h2))))⟩
theorem clo_c {w : World} {Y : Nat → Prop} {B key m : Nat} {vk x : Value} {ys : List Value} {val : List UInt8} (hB : w.heap[B]? = some (.cells #[vk] 22 (0, 0))) (hrow : w.ownsRow 0 5 1 vk m ys) (hne : vk.ownBlock ≠ some B)
    (hYB : Y B) (hY : ∀ k, vk.ownBlock = some k → Y k) (hR : Rep w Y (ddBs val) [x]) (hkey : key < 4294967296) (hval : val.length ≤ 32767) (hroom : m + (tagP key val).length ≤ room) :
    Ret Tryd.prog 50 [.int .u32 (key : Int), x, .pointer (some ⟨B, 0, none⟩)] w fun _ w' => ∃ vk', w'.heap[B]? = some (.cells #[vk'] 22 (0, 0)) ∧ w'.ownsRow 0 5 1 vk' (m + (tagP key val).length) (ys ++ bv (tagP key val)) ∧
      (∀ k, vk'.ownBlock = some k → vk.ownBlock = some k ∨ w.heap.size ≤ k) ∧ vk'.ownBlock ≠ some B ∧ Agr (fun i => i = B ∨ vk.ownBlock = some i) w w' := by
  have hBl : B < w.heap.size := (Array.getElem?_eq_some_iff.1 hB).1
  obtain ⟨px, capx, rfl⟩ := rep_sl_len hR
  rw [List.length_map] at hR ⊢
  unfold tagP at hroom ⊢
  simp only [List.length_append] at hroom
  refine c_call Tryd.func50 rfl rfl fun a hk => ?_
  have hk : Kn 16 [(0, .int .u32 (key : Int)), (1, .slice px val.length capx), (2, .pointer (some ⟨B, 0, none⟩))] a := hk
  have hm : Mem w (fun i => i = B ∨ vk.ownBlock = some i) Y [.blk B [vk] 22, .row 5 1 vk m ys, .rep (ddBs val) [.slice px val.length capx]] w := by
    refine Mem.startX ?_ ?_ ?_ ?_
    · rintro b (rfl | hb)
      · exact hYB
      · exact hY b hb
    · simp only [muts, Ent.mut, List.append_nil, List.singleton_append, List.nodup_cons]
      refine ⟨?_, by cases vk.ownBlock <;> simp⟩
      intro hb
      exact hne (by simpa using hb)
    · intro b hb
      simp only [muts, Ent.mut, List.append_nil, List.singleton_append, List.mem_cons] at hb
      rcases hb with rfl | hb
      · exact ⟨hBl, .inl rfl⟩
      · have hb' : vk.ownBlock = some b := by simpa using hb
        exact ⟨(hrow.lt b hb').2, .inr hb'⟩
    · simp only [List.forall_mem_cons, List.not_mem_nil, false_imp_iff, implies_true, and_true]
      exact ⟨hB, hrow, hR⟩
  refine c_region ?_
  refine o_load hk ts_22 rfl (hm.cell_blk (i := 0) rfl rfl) rfl fun a hk => ?_
  refine o_move hk rfl rfl fun a hk => ?_
  refine o_call hk cb_32 (appendUvarint_ok (hm.row (i := 1) rfl) key hkey (by omega)) ⟨rfl, rfl, trivial⟩ rfl fun v1 w1 a hR1 hk => ?_
  have hm := hm.rowCall (i := 1) rfl hR1
  have h1 : v1.oneCell' = true := row_one (hm.row (i := 1) rfl)
  refine o_store (i := 0) hk hm ts_22 rfl rfl (cells1 h1) rfl (one1 h1) rfl (Nat.le_refl 1) fun a w1 hk hm => ?_
  refine c_end ?_
  refine c_region ?_
  refine o_load hk ts_22 rfl (hm.cell_blk (i := 0) rfl rfl) rfl fun a hk => ?_
  refine o_move hk rfl rfl fun a hk => ?_
  refine o_lenSlice hk te_22 rfl rfl fun a hk => ?_
  refine o_convInt (c := (val.length : Int)) hk un_3 ti_52 rfl (by rw [IntKind.wrap_u32]; omega) rfl fun a hk => ?_
  refine o_call hk cb_32 (appendUvarint_ok (hm.row (i := 1) rfl) val.length (by omega) (by omega)) ⟨rfl, rfl, trivial⟩ rfl fun v2 w2 a hR2 hk => ?_
  have hm := hm.rowCall (i := 1) rfl hR2
  have h2 : v2.oneCell' = true := row_one (hm.row (i := 1) rfl)
  refine o_store (i := 0) hk hm ts_22 rfl rfl (cells1 h2) rfl (one1 h2) rfl (Nat.le_refl 1) fun a w2 hk hm => ?_
  refine c_end ?_
  refine c_reg ?_
  refine o_load hk ts_22 rfl (hm.cell_blk (i := 0) rfl rfl) rfl fun a hk => ?_
  refine o_move hk rfl rfl fun a hk => ?_
  have hsrc := src_bs (P := Tryd.prog) te_22 (hm.rep (i := 2) rfl)
  refine o_append (i := 1) hk hm rt_22 rfl rfl rfl hsrc (room_len (by omega)) (room_by (by omega)) rfl fun a v3 w3 hk hm _ => ?_
  have h3 : v3.oneCell' = true := row_one (hm.row (i := 1) rfl)
  refine o_store (i := 0) hk hm ts_22 rfl rfl (cells1 h3) rfl (one1 h3) rfl (Nat.le_refl 1) fun a w3 hk hm => ?_
  refine c_endQ ?_
  refine b_endNone rfl hk ⟨v3, hm.all _ (entAt_mem (i := 0) rfl), ?_, ?_, ?_, hm.agr⟩
  · have hr := hm.row (i := 1) rfl
    have e1 : m + (uvarint key).length + (uvarint val.length).length + val.length = m + (uvarint key ++ uvarint val.length ++ val).length := by simp only [List.length_append]; omega
    have e2 : ys ++ bv (uvarint key) ++ bv (uvarint val.length) ++ bv val = ys ++ bv (uvarint key ++ uvarint val.length ++ val) := by simp only [bv_append, List.append_assoc]
    rw [e1, e2] at hr
    exact hr
  · intro k hkk
    have hb := hm.own k (muts_mem (entAt_mem (i := 1) rfl) (by simp [Ent.mut, hkk]))
    have hkB := muts_apart hm.nodup (i := 0) (j := 1) (by decide) rfl rfl B (by simp [Ent.mut])
    by_cases hlt : k < w.heap.size
    · rcases hb.2 hlt with rfl | h
      · exact absurd (by simp [Ent.mut, hkk]) hkB
      · exact .inl h
    · exact .inr (by omega)
  · intro hkk
    exact muts_apart hm.nodup (i := 0) (j := 1) (by decide) rfl rfl B (by simp [Ent.mut]) (by simp [Ent.mut, hkk])
theorem tagsAppendEach_ok : Ea.Ok Tryd.prog 5 34 .tagEach := by
  intro w0 Y b off v c n xs u hrow hY hu hC hR hroom
  refine c_call Tryd.func34 rfl rfl fun a hk => ?_
  have hk : Kn 9 [(0, .pointer (some ⟨b, off, none⟩)), (1, v)] a := hk
  have hm : Mem w0 (fun k => v.ownBlock = some k) Y [.row 5 1 v n xs, .cel b off [c], .rep (ddTagMap u) [c]] w0 := Mem.startRow hrow hY rfl (by simp only [List.forall_mem_cons, List.not_mem_nil, false_imp_iff, implies_true, and_true]; exact ⟨hC, hR⟩)
  refine c_region ?_
  have hv1 : v.oneCell' = true := row_one hrow
  refine o_box hk hm rfl (cells1 hv1) rfl fun a B w1 hk hm => ?_
  refine o_assign hk rfl rfl fun a hk => ?_
  refine c_end ?_
  refine c_region ?_
  refine o_move hk rfl rfl fun a hk => ?_
  refine o_makeFunc (xs := [.tmp 3]) (vs := [.pointer (some ⟨B, 0, none⟩)]) hk ⟨rfl, trivial⟩ rfl fun a hk => ?_
  have hBb : w1.heap[B]? = some (.cells #[v] 22 (0, 0)) := hm.all _ (entAt_mem (i := 0) rfl)
  have hrow1 := hm.row (i := 1) rfl
  have hvB : v.ownBlock ≠ some B := fun h => muts_apart hm.nodup (i := 0) (j := 1) (by decide) rfl rfl B (by simp [Ent.mut]) (by simp [Ent.mut, h])
  have hBl := hm.own B (muts_mem (entAt_mem (i := 0) rfl) (by simp [Ent.mut]))
  have hB0 : w0.heap.size ≤ B := by
    rcases Nat.lt_or_ge B w0.heap.size with h | h
    · exact absurd (hBl.2 h) hvB
    · exact h
  have hEach := each_c (w0 := w1) (Y := Yof w0 Y [.blk B [v] 22, .row 5 1 v n xs, .cel b off [c], .rep (ddTagMap u) [c]]) (X := fun k => k = B ∨ v.ownBlock = some k) (b := b) (off := off) (c := c) (u := u) (g := 50) (lb := [.pointer (some ⟨B, 0, none⟩)])
    (fun S k w => w1.heap.size ≤ S ∧ S ≤ w.heap.size ∧ ∃ vk, w.heap[B]? = some (.cells #[vk] 22 (0, 0)) ∧ w.ownsRow 0 5 1 vk (n + ((u.take k).flatMap fun p => tagP p.1 p.2).length) (xs ++ bv ((u.take k).flatMap fun p => tagP p.1 p.2)) ∧ (∀ i, vk.ownBlock = some i → v.ownBlock = some i ∨ S ≤ i) ∧ vk.ownBlock ≠ some B)
    hu (hm.all _ (entAt_mem (i := 2) rfl)) (hm.rep (i := 3) rfl) ?_ cb_50 ?_ ?_
  rotate_left
  · rintro k _ (rfl | hk)
    · exact .inr (by simp [muts, Ent.mut])
    · exact .inr (by simp [muts, Ent.mut, hk])
  · intro w2 hag
    refine ⟨hag.size, Nat.le_refl _, v, (hag.block B hBl.1 id).trans hBb, ?_, fun i hi => .inl hi, hvB⟩
    simp only [List.take_zero, List.flatMap_nil, List.length_nil, Nat.add_zero, bv, List.map_nil, List.append_nil]
    exact Ent.holds_move (e := .row 5 1 v n xs) (Y := fun _ => True) (Y' := fun _ => True) (fun i _ hy => absurd trivial hy) hrow1 (fun b hb => hag.block b (hrow1.lt b (by simpa [Ent.mut] using hb)).2 id)
  · rintro S k p x w hp hS1 hS2 ⟨_, _, vk, hvk, hrk, hok, hnk⟩ hxr
    have hklt : k < u.length := (List.getElem?_eq_some_iff.1 hp).1
    have hpu := hu.2.2 p (List.mem_of_getElem? hp)
    have hgd : u.getD k (0, []) = p := by rw [List.getD_eq_getElem?_getD, hp]; rfl
    have hroomk := flatMap_take_le (fun p : Nat × List UInt8 => tagP p.1 p.2) u k (0, []) hklt
    rw [hgd] at hroomk
    have hsucc := flatMap_take_succ (fun p : Nat × List UInt8 => tagP p.1 p.2) u k (0, []) hklt
    rw [hgd] at hsucc
    have hYk : ∀ i, vk.ownBlock = some i → Ea.Yw (Yof w0 Y [.blk B [v] 22, .row 5 1 v n xs, .cel b off [c], .rep (ddTagMap u) [c]]) w1 i := fun i hi => by
      rcases hok i hi with h | h
      · exact .inl (.inr (by simp [muts, Ent.mut, h]))
      · exact .inr (by omega)
    refine Ret.mono (clo_c (key := p.1) (val := p.2) hvk hrk hnk (.inl (.inr (by simp [muts, Ent.mut]))) hYk hxr hpu.1 hpu.2 (by omega)) ?_
    rintro _ w' ⟨vk', g1, g2, g3, g4, g5⟩
    refine ⟨⟨hS1, Nat.le_trans hS2 g5.size, vk', g1, ?_, fun i hi => ?_, g4⟩, g5.mono fun i hi hx => ?_⟩
    · rw [hsucc, List.length_append, bv_append, ← Nat.add_assoc, ← List.append_assoc]
      exact g2
    · rcases g3 i hi with h | h
      · exact hok i h
      · exact .inr (Nat.le_trans hS2 h)
    · rcases hx with rfl | hx
      · exact .inl ⟨hBl.1, .inl rfl⟩
      · rcases hok i hx with h | h
        · exact .inl ⟨(hrow1.lt i h).2, .inr h⟩
        · exact .inr h
  refine o_call (vs := [.pointer (some ⟨b, off, none⟩), .func (.func 50) #[] #[.pointer (some ⟨B, 0, none⟩)]]) hk cb_49 hEach ⟨rfl, rfl, trivial⟩ rfl fun v2 w2 a hR2 hk => ?_
  obtain ⟨S, hS1, hS2, ⟨_, _, vk, hvk, hrk, hok, hnk⟩, hag⟩ := hR2
  rw [List.take_length] at hrk
  refine c_end ?_
  refine c_region ?_
  refine o_load hk ts_22 rfl (v := vk) (by simp [World.cell?, hvk]) rfl fun a hk => ?_
  refine o_assign hk rfl rfl fun a hk => ?_
  refine c_end ?_
  refine wp_ret ?_
  refine b_retTmp rfl hk rfl ⟨?_, hrk, fun i hi => ?_⟩
  · refine hm.agr.trans hag (fun _ _ x => x) (fun i hi hx => ?_)
    rcases hx.2 with rfl | h
    · omega
    · exact h
  · rcases hok i hi with h | h
    · exact .inl h
    · exact .inr (Nat.le_trans hm.agr.size (Nat.le_trans hS1 h))
end Go.Proofs.YtpjichobdalpjaaDoor
