/- Tags: their number, their order, their octets. No statement of the seat stands here. -/
import Derived.Test.YthblgheenamnhaaGreatDoorRL4
import Derived.Test.YthblgheenamnhaaGreatDoorRKb
import Derived.Test.YthblgheenamnhaaGreatDoorRFa
import Derived.Deep.QuietTactic
import Derived.Ground.GgsProg
import Derived.Lib.RowBridge
import Derived.WalkKit
import Derived.Test.YthblgheenamnhaaGreatDoorRRows
import Derived.KernelRfl
namespace Go.Proofs.YthblgheenamnhaaGreatDoorR
open Go Go.Mk Go.Shelf Go.Proofs
def sa6_ren:Go.Shelf.Ren:=⟨fun | 6=>159 | 10=>161 | 11=>162 | 12=>163 | 13=>164 | 14=>165 | 24=>158 | 25=>175 | 26=>176 | 27=>177 | 28=>178 | 29=>179 | 30=>180 | 31=>181 | 32=>182 | 33=>183 | 34=>184 | 35=>185 | 36=>186 | 37=>187 | 38=>188 | 39=>189 | n=>n,fun | 20=>20 | 26=>201 | 35=>205 | 0=>0 | 37=>207 | 3=>3 | 41=>107 | 44=>212 | 49=>65 | 51=>80 | 4=>4 | 54=>219 | 53=>218 | 58=>223 | 5=>5 | 9=>9 | 60=>225 | 64=>228 | 66=>230 | 67=>231 | 17=>17 | 32=>202 | 33=>203 | 82=>191 | 12=>12 | 75=>184 | 76=>185 | 77=>186 | 78=>187 | 79=>188 | 80=>189 | n=>n,fun | n=>n⟩
theorem sa6:Go.Proofs.LaysGg.n6 Tryz.prog sa6_ren:={
  mixed:=by kernel_rfl,
  f6:=Tryz.func159.trans (congrArg some (by kernel_rfl)),
  f10:=Tryz.func161.trans (congrArg some (by kernel_rfl)),
  f11:=Tryz.func162.trans (congrArg some (by kernel_rfl)),
  f12:=Tryz.func163.trans (congrArg some (by kernel_rfl)),
  f13:=Tryz.func164.trans (congrArg some (by kernel_rfl)),
  f14:=Tryz.func165.trans (congrArg some (by kernel_rfl)),
  f24:=Tryz.func158.trans (congrArg some (by kernel_rfl)),
  f25:=Tryz.func175.trans (congrArg some (by kernel_rfl)),
  f26:=Tryz.func176.trans (congrArg some (by kernel_rfl)),
  f27:=Tryz.func177.trans (congrArg some (by kernel_rfl)),
  f28:=Tryz.func178.trans (congrArg some (by kernel_rfl)),
  f29:=Tryz.func179.trans (congrArg some (by kernel_rfl)),
  f30:=Tryz.func180.trans (congrArg some (by kernel_rfl)),
  f31:=Tryz.func181.trans (congrArg some (by kernel_rfl)),
  f32:=Tryz.func182.trans (congrArg some (by kernel_rfl)),
  f33:=Tryz.func183.trans (congrArg some (by kernel_rfl)),
  f34:=Tryz.func184.trans (congrArg some (by kernel_rfl)),
  f35:=Tryz.func185.trans (congrArg some (by kernel_rfl)),
  f36:=Tryz.func186.trans (congrArg some (by kernel_rfl)),
  f37:=Tryz.func187.trans (congrArg some (by kernel_rfl)),
  f38:=Tryz.func188.trans (congrArg some (by kernel_rfl)),
  f39:=Tryz.func189.trans (congrArg some (by kernel_rfl)),
  t0:=Tryz.underlying0,
  a0:=Tryz.isAgg0,
  z0:=Tryz.sizeOf0,
  v0:=Tryz.zeroValue0,
  i0:=by kernel_rfl,
  t3:=Tryz.underlying3,
  a3:=Tryz.isAgg3,
  z3:=Tryz.sizeOf3,
  v3:=Tryz.zeroValue3,
  i3:=by kernel_rfl,
  t4:=Tryz.underlying4,
  a4:=Tryz.isAgg4,
  z4:=Tryz.sizeOf4,
  v4:=Tryz.zeroValue4,
  i4:=by kernel_rfl,
  t5:=Tryz.underlying5,
  a5:=Tryz.isAgg5,
  z5:=Tryz.sizeOf5,
  v5:=Tryz.zeroValue5,
  i5:=by kernel_rfl,
  t9:=Tryz.underlying9,
  a9:=Tryz.isAgg9,
  z9:=Tryz.sizeOf9,
  v9:=Tryz.zeroValue9,
  i9:=by kernel_rfl,
  t12:=Tryz.underlying12,
  a12:=Tryz.isAgg12,
  z12:=Tryz.sizeOf12,
  v12:=Tryz.zeroValue12,
  i12:=by kernel_rfl,
  t17:=Tryz.underlying17,
  a17:=Tryz.isAgg17,
  z17:=Tryz.sizeOf17,
  v17:=Tryz.zeroValue17,
  i17:=by kernel_rfl,
  t20:=Tryz.underlying20,
  a20:=Tryz.isAgg20,
  z20:=Tryz.sizeOf20,
  v20:=Tryz.zeroValue20,
  i20:=by kernel_rfl,
  t26:=Tryz.underlying201,
  a26:=Tryz.isAgg201,
  z26:=Tryz.sizeOf201,
  v26:=Tryz.zeroValue201,
  i26:=by kernel_rfl,
  t32:=Tryz.underlying202,
  a32:=Tryz.isAgg202,
  z32:=Tryz.sizeOf202,
  v32:=Tryz.zeroValue202,
  i32:=by kernel_rfl,
  t33:=Tryz.underlying203,
  a33:=Tryz.isAgg203,
  z33:=Tryz.sizeOf203,
  v33:=Tryz.zeroValue203,
  i33:=by kernel_rfl,
  t35:=Tryz.underlying205,
  a35:=Tryz.isAgg205,
  z35:=Tryz.sizeOf205,
  v35:=Tryz.zeroValue205,
  i35:=by kernel_rfl,
  t37:=Tryz.underlying207,
  a37:=Tryz.isAgg207,
  z37:=Tryz.sizeOf207,
  v37:=Tryz.zeroValue207,
  i37:=by kernel_rfl,
  t41:=Tryz.underlying107,
  a41:=Tryz.isAgg107,
  z41:=Tryz.sizeOf107,
  v41:=Tryz.zeroValue107,
  i41:=by kernel_rfl,
  t44:=Tryz.underlying212,
  a44:=Tryz.isAgg212,
  z44:=Tryz.sizeOf212,
  v44:=Tryz.zeroValue212,
  i44:=by kernel_rfl,
  t49:=Tryz.underlying65,
  a49:=Tryz.isAgg65,
  z49:=Tryz.sizeOf65,
  v49:=Tryz.zeroValue65,
  i49:=by kernel_rfl,
  t51:=Tryz.underlying80,
  a51:=Tryz.isAgg80,
  z51:=Tryz.sizeOf80,
  v51:=Tryz.zeroValue80,
  i51:=by kernel_rfl,
  t53:=Tryz.underlying218,
  a53:=Tryz.isAgg218,
  z53:=Tryz.sizeOf218,
  v53:=Tryz.zeroValue218,
  i53:=by kernel_rfl,
  t54:=Tryz.underlying219,
  a54:=Tryz.isAgg219,
  z54:=Tryz.sizeOf219,
  v54:=Tryz.zeroValue219,
  i54:=by kernel_rfl,
  t58:=Tryz.underlying223,
  a58:=Tryz.isAgg223,
  z58:=Tryz.sizeOf223,
  v58:=Tryz.zeroValue223,
  i58:=by kernel_rfl,
  t60:=Tryz.underlying225,
  a60:=Tryz.isAgg225,
  z60:=Tryz.sizeOf225,
  v60:=Tryz.zeroValue225,
  i60:=by kernel_rfl,
  t64:=Tryz.underlying228,
  a64:=Tryz.isAgg228,
  z64:=Tryz.sizeOf228,
  v64:=Tryz.zeroValue228,
  i64:=by kernel_rfl,
  t66:=Tryz.underlying230,
  a66:=Tryz.isAgg230,
  z66:=Tryz.sizeOf230,
  v66:=Tryz.zeroValue230,
  i66:=by kernel_rfl,
  t67:=Tryz.underlying231,
  a67:=Tryz.isAgg231,
  z67:=Tryz.sizeOf231,
  v67:=Tryz.zeroValue231,
  i67:=by kernel_rfl,
  t75:=Tryz.underlying184,
  a75:=Tryz.isAgg184,
  z75:=Tryz.sizeOf184,
  v75:=Tryz.zeroValue184,
  i75:=by kernel_rfl,
  t76:=Tryz.underlying185,
  a76:=Tryz.isAgg185,
  z76:=Tryz.sizeOf185,
  v76:=Tryz.zeroValue185,
  i76:=by kernel_rfl,
  t77:=Tryz.underlying186,
  a77:=Tryz.isAgg186,
  z77:=Tryz.sizeOf186,
  v77:=Tryz.zeroValue186,
  i77:=by kernel_rfl,
  t78:=Tryz.underlying187,
  a78:=Tryz.isAgg187,
  z78:=Tryz.sizeOf187,
  v78:=Tryz.zeroValue187,
  i78:=by kernel_rfl,
  t79:=Tryz.underlying188,
  a79:=Tryz.isAgg188,
  z79:=Tryz.sizeOf188,
  v79:=Tryz.zeroValue188,
  i79:=by kernel_rfl,
  t80:=Tryz.underlying189,
  a80:=Tryz.isAgg189,
  z80:=Tryz.sizeOf189,
  v80:=Tryz.zeroValue189,
  i80:=by kernel_rfl,
  t82:=Tryz.underlying191,
  a82:=Tryz.isAgg191,
  z82:=Tryz.sizeOf191,
  v82:=Tryz.zeroValue191,
  i82:=by kernel_rfl }
noncomputable def siT:TypeInfo:=(Tryz.prog.info? 199).get (by kernel_rfl)
noncomputable def siE:TypeInfo:=(Tryz.prog.info? 65).get (by kernel_rfl)
theorem siK (n:Nat) (h2 : 2 ≤ n):Lib.swapperK n siE 10 = 6:=by
  have a:siE.hasPointers = false:=by kernel_rfl
  have b:siE.bytes = 4:=by kernel_rfl
  have c:(n == 0) = false:=by simp; omega
  have d:(n == 1) = false:=by simp; omega
  simp [Lib.swapperK,a,b,c,d]
def siF (n:Nat):Nat:=if n = 0 then 166 else if n = 1 then 167 else 171
theorem siF_ok (n : Nat) : Tryz.prog.funcs.findIdx? (·.name == "internal/reflectlite" ++ ".Swapper$" ++ toString (Lib.swapperK n siE 10)) = some (siF n) := by
  by_cases h0:n = 0
  · subst h0; kernel_rfl
  · by_cases h1:n = 1
    · subst h1; kernel_rfl
    · rw [siK n (by omega)]
      unfold siF
      rw [if_neg h0,if_neg h1]
      kernel_rfl
theorem siX (n:Nat) (h2 : 2 ≤ n) (args:Array Value) (W:World):(callFunc (siF n) args).run Tryz.prog W = ((Extern.ReflectliteSwapper.swap true args).run Tryz.prog W).andThen fun v w'=>.ok (.value v) w':=by
  unfold siF
  rw [if_neg (by omega),if_neg (by omega)]
  exact run_callFunc_extern Tryz.func171 (by kernel_rfl) (by kernel_rfl) (by kernel_rfl) (e:=Extern.ReflectliteSwapper.swap true) (by kernel_rfl) args W
theorem tagsLen_c:Ea.Ok Tryz.prog 5 152 .tagLen:=by
  intro w0 Y b off c u hC hR
  obtain ⟨p,rfl,hlen⟩:=rep_tags_len hR
  have hcell:w0.cell? ⟨b,off + 0,none⟩ = some (.map p):=(hC 0 _ rfl).2
  refine c_call Tryz.func152 rfl rfl fun a hk=>?_
  have hk:Kn 8 [(0,.pointer (some ⟨b,off,none⟩))] a:=hk
  refine cR0 ?_
  refine oA0 hk rfl rfl fun a hk=>?_
  refine cE0 ?_
  refine cR0 ?_
  refine oM0 hk rfl rfl fun a hk=>?_
  refine oN0 hk rfl rfl fun a hk=>?_
  refine oF0 hk fo_72_0 rfl rfl fun a hk=>?_
  refine o_load hk ts_70 rfl hcell rfl fun a hk=>?_
  refine o_lenMap hk mt_70 rfl hlen rfl fun a hk=>?_
  refine oA0 hk rfl rfl fun a hk=>?_
  refine cE0 ?_
  refine wp_ret ?_
  exact bT0 rfl hk rfl ⟨rfl,rfl⟩
set_option maxHeartbeats 2000000 in
/-- the closure that sorts: it reads the captured slice -/
theorem less_c (blk off c Bs size:Nat) (W:World) (G:Nat → Int) (hs:W.cell? ⟨Bs,0,none⟩ = some (.slice (some ⟨blk,off,none⟩) size c))
    (hc:∀ t,t < size → W.cell? ⟨blk,off + t,none⟩ = some (.int .u32 (G t))) (i j:Nat) (hi:i < size) (hj:j < size) :
    Calls Tryz.prog 160 #[.int .i64 i,.int .i64 j,.pointer (some ⟨Bs,0,none⟩)] W fun e w'=>e = .returned (.bool (decide (G i < G j))) ∧ ∃ q,w' = W.drewN q:=by
  have ci:=hc i hi
  have cj:=hc j hj
  go_enter Tryz.func160,Tryz.ntmps160
  go_wp2
  go_quiet (fail)
  go_wp2
  go_ret
  exact ⟨rfl,nq,rfl⟩
open Go.Sort Go.Proofs in
/-- .. as the sort asks it, the captured slice lying in a block of its own -/
theorem lessReads (blk cap n Bs:Nat) (W:World) (ds:List Int) (hrow:W.ownsRow 0 65 1 (.slice (some ⟨blk,0,none⟩) n cap) n (u32s ds)) (hs:W.cell? ⟨Bs,0,none⟩ = some (.slice (some ⟨blk,0,none⟩) n cap)) (hne:Bs ≠ blk) :
    LessReads Tryz.prog 160 #[.pointer (some ⟨Bs,0,none⟩)] (Value.int .u32) ltInt blk 0 n W:=by
  obtain ⟨hH,hsz⟩:=holds_row hrow
  have hb1:blk < W.heap.size:=(hrow.lt blk rfl).2
  have hb2:Bs < W.heap.size:=cell_lt hs
  intro m os dk hdk i j hi hj
  have e:sortWorld (Value.int .u32) W blk 0 m dk os = putRow (Value.int .u32) (grow (Sort.ahead W m) os) blk 0 dk:=by
    unfold sortWorld; rw [putRow_grow _ (Sort.ahead W m) _ blk 0 _ hb1]
  have hHg:Holds (Value.int .u32) (grow (Sort.ahead W m) os) blk 0 ds.toArray:=holds_grow _ _ _ blk 0 _ hb1 (holds_ahead _ _ _ _ _ _ hH)
  refine less_c blk 0 cap Bs n _ (fun t=>dk[t]!) ?_ (fun t ht=>?_) i j hi hj
  · rw [e,cell?_putRow_other _ _ blk 0 dk _ (Or.inl hne),cell?_grow _ _ _ hb2]
    exact hs
  · rw [e]; exact cell?_putRow _ _ blk 0 ds.toArray dk hHg (by rw [hsz]; exact hdk) t (by omega)
set_option maxHeartbeats 4000000 in
theorem each_cP:EachP Tryz.prog 156:=by
  intro w0 Y X b off c u us g lb J hndk hul hpm hris hC hR hXY hg h0 hstep
  have hlk:us.length = u.length:=hpm.length_eq
  obtain ⟨p,rfl,hlen⟩:=rep_tags_len hR
  refine c_call Tryz.func156 rfl rfl fun a hk=>?_
  have hk:Kn 53 [(0,.pointer (some ⟨b,off,none⟩)),(1,.func (.func g) #[] lb.toArray)] a:=hk
  have hm:Mem w0 Nob Y [.cel b off [.map p],.rep (ddTagMap u) [.map p]] w0:=Mem.start rfl (by simp only [List.forall_mem_cons,List.not_mem_nil,false_imp_iff,implies_true,and_true]; exact ⟨hC,hR⟩)
  refine wp_seq ?_
  refine cR0 ?_
  refine oM0 hk rfl rfl fun a hk=>?_
  refine oN0 hk rfl rfl fun a hk=>?_
  refine oF0 hk fo_72_0 rfl rfl fun a hk=>?_
  refine o_load hk ts_70 rfl (hm.cell_cel (i:=0) (j:=0) rfl rfl) rfl fun a hk=>?_
  refine o_lenMap hk mt_70 rfl hlen rfl fun a hk=>?_
  refine o_icmp hk rfl rfl rfl rfl fun a hk=>?_
  refine cE0 ?_
  refine c_cond hk rfl (fun hc=>?_) (fun hc=>?_)
  · refine wp_ret ?_
    refine cQ0 ?_
    have hu0:u.length = 0:=by have:=eq_of_beq hc; omega
    refine b_retNone rfl hk ⟨w0.heap.size,Nat.le_refl _,Nat.le_refl _,?_,Agr.refl _ _⟩
    rw [hlk,hu0]
    exact h0 w0 (Agr.refl _ _)
  refine wp_skip ?_
  refine cT0 ?_
  have hun:u.length ≠ 0:=by rintro h; rw [h] at hc; simp at hc
  obtain ⟨r,vs,rfl,hYr,hMA,hvl,hvs⟩ : ∃ r vs,p = some r ∧ ¬ Y r ∧ MapAt w0 r (u.map (·.1)) vs ∧ vs.length = u.length ∧ ∀ (i:Nat) (p:Nat × List UInt8),u[i]? = some p → ∃ x,vs[i]? = some x ∧ Rep w0 Y (ddBs p.2) [x]:=by
    rcases rep_tags hR with ⟨rfl,_⟩ | ⟨r,vs,h1,h2⟩
    · exact absurd rfl hun
    · exact ⟨r,vs,by simpa using h1,h2⟩
  have hMA':=hMA
  obtain ⟨es,clk,hes,hkv,hkl,hnd,hbn⟩:=hMA'
  have hrlt:r < w0.heap.size:=hMA.lt
  have hesl:es.size = u.length:=by
    have h1:=congrArg List.length hkv
    simp only [List.length_map,List.length_zip] at h1
    rw [Array.length_toList] at h1
    omega
  refine cR0 ?_
  refine oM0 hk rfl rfl fun a hk=>?_
  refine oN0 hk rfl rfl fun a hk=>?_
  refine oF0 hk fo_72_0 rfl rfl fun a hk=>?_
  refine o_load hk ts_70 rfl (hm.cell_cel (i:=0) (j:=0) rfl rfl) rfl fun a hk=>?_
  refine o_lenMap hk mt_70 rfl hlen rfl fun a hk=>?_
  refine o_make0 (cap:=u.length) hk hm rt_199 tz_65 rfl (by unfold maxLen; omega) (by omega) rfl fun a bR w hbR hk hm=>?_
  refine o_alloc hk hm tz_199 rfl rfl fun a bA w hk hm=>?_
  refine o_store (i:=0) hk hm ts_199 rfl rfl rfl rfl rfl rfl (Nat.le_refl 1) fun a w hk hm=>?_
  refine cE0 ?_
  refine wp_seq ?_
  refine cR0 ?_
  refine oM0 hk rfl rfl fun a hk=>?_
  refine oN0 hk rfl rfl fun a hk=>?_
  refine oF0 hk fo_72_0 rfl rfl fun a hk=>?_
  refine o_load hk ts_70 rfl (hm.cell_cel (i:=2) (j:=0) rfl rfl) rfl fun a hk=>?_
  have hesw:w.heap[r]? = some (.map es clk):=(hm.agr.block r hrlt id).trans hes
  refine o_range hk hm mt_70 rfl hesw rfl fun a it w hit hk hm=>?_
  refine cE0 ?_
  clear hesw hit
  refine c_loop (fun gm a w=>∃ seen c0 col v ds,gm = (leftOf es seen).size ∧ clk ≤ c0 ∧ Kn 53 [(0,.pointer (some ⟨b,off,none⟩)),(1,.func (.func g) #[] lb.toArray),(4,.pointer (some ⟨bA,0,none⟩)),(24,.pointer (some ⟨it,0,none⟩))] a ∧
    Mem w0 Nob Y [.obj it (.mapIter (some r) clk seen c0),.blk bA [v] 199,.row 65 1 v col.length (u32s ds),.cel b off [.map (some r)],.rep (ddTagMap u) [.map (some r)]] w ∧ Collect es seen col ∧ col.map (·.key) = u32s ds) (leftOf es #[]).size ?_ ?_
  · exact ⟨#[],clk,[],_,[],rfl,Nat.le_refl _,hk.sub ⟨rfl,rfl,rfl,rfl,trivial⟩,hm,collect_start es,rfl⟩
  clear hm hk
  rintro gm a w ⟨seen,c0,col,v,ds,rfl,hcc,hk,hm,hcol,hds⟩
  have hesw:w.heap[r]? = some (.map es clk):=(hm.agr.block r hrlt id).trans hes
  have hcl:=collect_len hcol
  refine cR0 ?_
  refine o_next (i:=0) hk hm rfl rfl hesw hbn hcc rfl (fun hz a hk=>?_) (fun e he a w hk hm=>?_)
  rotate_left
  · -- a key more
    refine o_extract hk rfl rfl rfl fun a hk=>?_
    refine cE0 ?_
    refine wp_seq ?_
    refine c_condT hk rfl ?_
    refine wp_skip ?_
    refine cT0 ?_
    refine wp_block ?_
    have hesw2:w.heap[r]? = some (.map es clk):=(hm.agr.block r hrlt id).trans hes
    obtain ⟨kk,hkk⟩:=key_u32 hkv hkl (left_mem he)
    have hlt2:col.length < es.size:=by
      have h1:=hcol.2.length_eq
      have h2 : 0 < (leftOf es seen).toList.length:=List.length_pos_of_mem he
      simp only [List.length_append,Array.length_toList] at h1 h2
      omega
    refine cR0 ?_
    refine o_entry (i:=0) hk hm rfl rfl hesw2 (left_mem he) hnd rfl fun a hk=>?_
    refine o_extract hk rfl rfl rfl fun a hk=>?_
    refine oA0 hk rfl rfl fun a hk=>?_
    refine cE0 ?_
    rw [hkk] at hk
    refine c_reg ?_
    refine o_load hk ts_199 rfl (hm.cell_blk (i:=1) rfl rfl) rfl fun a hk=>?_
    refine oM0 hk rfl rfl fun a hk=>?_
    refine o_build1 hk hm rt_199 rfl rfl rfl rfl rfl rfl fun a bN w hk hm=>?_
    refine o_append (i:=3) hk hm rt_199 rfl rfl rfl (src_cells (k:=1) (news:=[.int .u32 kk]) te_199 rfl (hm.cells_blk (i:=0) rfl rfl) rfl) (by unfold maxLen; omega) (by omega) rfl fun a v' w hk hm _=>?_
    have hone:v'.oneCell' = true:=row_one (hm.row (i:=3) rfl)
    refine o_store (i:=2) hk hm ts_199 rfl rfl (cells1 hone) rfl (one1 hone) rfl (Nat.le_refl 1) fun a w hk hm=>?_
    refine c_endQ ?_
    refine cN0 (cT0 ⟨_,collect_less hcol hnd he,seen.push e.born,clk,col ++ [e],v',ds ++ [kk],rfl,Nat.le_refl _,hk.sub ⟨rfl,rfl,rfl,rfl,trivial⟩,?_,collect_step hcol hnd he,?_⟩)
    · have hm:=hm.pick [1,2,3,4,5] rfl rfl
      exact hm.rowEq (i:=2) (n':=(col ++ [e]).length) (xs':=u32s (ds ++ [kk])) rfl (by simp) (by simp [u32s])
    · simp [hds,hkk,u32s]
  -- all are met: they are sorted
  refine o_extract hk rfl rfl rfl fun a hk=>?_
  refine cE0 ?_
  refine wp_seq ?_
  refine c_condF hk rfl ?_
  refine wp_exit ?_
  refine c_thenExit (c_thenExit (c_inSame ?_))
  refine cT0 ?_
  obtain ⟨ds0,hd0,hperm⟩:=keys_perm hkv hkl (collect_end hcol hz)
  obtain rfl:=u32s_inj (hds.symm.trans hd0)
  have hcu:col.length = u.length:=by
    have h1:col.length = es.toList.length:=(collect_end hcol hz).length_eq
    have h2:es.toList.length = es.size:=Array.length_toList
    omega
  obtain ⟨hpw,_⟩:=rising_pair hris
  have hperm:ds.Perm ((us.map (·.1)).map fun (k:Nat)=>(k:Int)):=hperm.trans ((hpm.symm.map _).map _)
  have hm:=hm.rowEq (i:=2) (n':=u.length) (xs':=u32s ds) rfl hcu rfl
  have hm:Mem w0 Nob Y [.obj it (.mapIter (some r) clk seen c0),.blk bA [v] 199,.row 65 1 v u.length (u32s ds),.cel b off [.map (some r)],.rep (ddTagMap u) [.map (some r)]] w:=hm
  have hrow:=hm.row (i:=2) rfl
  have hcA:w.cell? ⟨bA,0,none⟩ = some v:=hm.cell_blk (i:=1) rfl rfl
  refine cR0 ?_
  refine o_load hk ts_199 rfl hcA rfl fun a hk=>?_
  refine o_makeIface hk te_199 rfl rfl fun a hk=>?_
  refine o_makeFunc (xs:=[.tmp 4]) (vs:=[.pointer (some ⟨bA,0,none⟩)]) hk ⟨rfl,trivial⟩ rfl fun a hk=>?_
  have hsort:=sortU32 (P:=Tryz.prog) sa6 (t:=199) (e:=65) (i:=siT) (ie:=siE) (by kernel_rfl) (by kernel_rfl) (by kernel_rfl) (by kernel_rfl) (ke:=10) (fun _=>by kernel_rfl) (by kernel_rfl) (fun _=>by kernel_rfl) (g:=160) (lb:=#[.pointer (some ⟨bA,0,none⟩)])
    (fun args w=>callFunc_run cb_160 args w) siF siF_ok true siX hrow (by omega) hperm hpw
    (fun blk cap hv=>by
      subst hv
      refine lessReads blk cap u.length bA w ds hrow hcA ?_
      intro hAb
      have h1:=muts_apart hm.nodup (i:=1) (j:=2) (by decide) rfl rfl bA (by simp [Ent.mut])
      exact h1 (by simp [Ent.mut,Value.ownBlock,hAb]))
  refine o_call (vs:=[.iface 199 v,.func (.func 160) #[] #[.pointer (some ⟨bA,0,none⟩)]]) hk cb_159 (ret_of_calls rfl hsort) ⟨rfl,rfl,trivial⟩ rfl fun v1 w1 a hR1 hk=>?_
  obtain ⟨_,hag1,hrow1⟩:=hR1
  have hm:=hm.rowStep (i:=2) rfl hag1 hrow1 (fun k hk=>.inl hk)
  refine cE0 ?_
  refine cR0 ?_
  refine o_load hk ts_199 rfl (hm.cell_blk (i:=1) rfl rfl) rfl fun a hk=>?_
  obtain ⟨pv,cap,rfl⟩:=row_form hrow1
  obtain ⟨gR,rfl⟩:=row_ptr hrow1 (by omega)
  refine oL0 hk te_199 rfl rfl fun a hk=>?_
  refine oM0 hk rfl rfl fun a hk=>?_
  refine cE0 ?_
  have hgR:=hm.own gR (muts_mem (eA0 (i:=2) rfl) (by simp [Ent.mut,Value.ownBlock]))
  have hgR0 : ¬ gR < w0.heap.size:=fun h=>(hgR.2 h).elim
  have hag0:Agr Nob w0 w1:=hm.agr
  have hbl:b < w0.heap.size:=cell_lt (hC 0 _ rfl).2
  have hbY : ¬ Y b:=(hC 0 _ rfl).1
  refine c_range (n:=53) (i:=39) (ln:=38) (L0:=[(37,.slice (some ⟨gR,0,none⟩) u.length cap),(0,.pointer (some ⟨b,off,none⟩)),(1,.func (.func g) #[] lb.toArray)]) u.length (by omega) (fun k L w=>L = [(37,.slice (some ⟨gR,0,none⟩) u.length cap),(0,.pointer (some ⟨b,off,none⟩)),(1,.func (.func g) #[] lb.toArray)] ∧ J w1.heap.size k w ∧ Agr (fun i=>(i < w0.heap.size ∧ X i) ∨ w1.heap.size ≤ i) w1 w)
    (hk.sub ⟨rfl,rfl,rfl,rfl,rfl,trivial⟩) ⟨rfl,h0 w1 hag0,Agr.refl _ _⟩ rfl rfl rfl rfl rfl rfl rfl ?_ rfl ?_
  · rintro k L a w hku ⟨rfl,hJ,hag⟩ hk
    have hku2:k < us.length:=by omega
    have hk0:us[k]? = some us[k]:=List.getElem?_eq_getElem hku2
    obtain ⟨ik,hik⟩:=List.mem_iff_getElem?.1 (hpm.mem_iff.1 (List.getElem_mem hku2))
    obtain ⟨x,hx,hxr⟩:=hvs ik _ hik
    have hblk:∀ i,i < w0.heap.size → ¬ Y i → w.heap[i]? = w0.heap[i]?:=fun i hi hy=>by
      rw [hag.block i (Nat.lt_of_lt_of_le hi hag0.size) (by rintro (⟨_,h⟩ | h); exact hy (hXY i hi h); exact absurd hi (Nat.not_lt.2 (Nat.le_trans hag0.size h)))]
      exact hag0.block i hi id
    have hgw:w.heap[gR]? = w1.heap[gR]?:=hag.block gR hgR.1 (by rintro (⟨h,_⟩ | h); exact hgR0 h; exact absurd hgR.1 (Nat.not_lt.2 h))
    have hcell:w.cell? ⟨gR,0 + k * 1,none⟩ = some (.int .u32 (us[k].1:Int)):=by
      have h1:=hrow1.cells (g:=gR) rfl k (.int .u32 (us[k].1:Int)) (by simp [u32s,hku2])
      rw [Addr.add_lit] at h1
      rw [Nat.mul_one,World.cell?_of_block (w:=w1) (w':=w) (a:=⟨gR,0 + k,none⟩) hgw]
      exact h1
    refine cR0 ?_
    refine oI0 (j:=k) hk te_199 ts_65 rfl rfl hku rfl fun a hk=>?_
    refine o_load hk ts_65 rfl hcell rfl fun a hk=>?_
    refine oA0 hk rfl rfl fun a hk=>?_
    refine cE0 ?_
    refine c_reg ?_
    refine oM0 hk rfl rfl fun a hk=>?_
    refine oM0 hk rfl rfl fun a hk=>?_
    refine oM0 hk rfl rfl fun a hk=>?_
    refine oN0 hk rfl rfl fun a hk=>?_
    refine oF0 hk fo_72_0 rfl rfl fun a hk=>?_
    have hcm:w.cell? ⟨b,off + 0,none⟩ = some (.map (some r)):=by
      rw [World.cell?_of_block (w:=w0) (w':=w) (a:=⟨b,off + 0,none⟩) (hblk b hbl hbY)]
      exact (hC 0 _ rfl).2
    refine o_load hk ts_70 rfl hcm rfl fun a hk=>?_
    refine oM0 hk rfl rfl fun a hk=>?_
    refine o_lookup (j:=ik) hk mt_70 rfl rfl (hMA.move (hblk r hrlt hYr)) (keyAt_of hndk (by rw [List.getElem?_map,hik]; rfl)) rfl fun a hk=>?_
    have hxv:vs.getD ik undef = x:=by rw [List.getD_eq_getElem?_getD,hx]; rfl
    rw [hxv] at hk
    have hxw:Rep w (Ea.Yw Y w0) (ddBs us[k].2) [x]:=Rep.move (fun i hi hy=>⟨hblk i hi hy,fun h=>h.elim hy (fun h2=>by omega)⟩) _ _ hxr
    refine o_callV (vs:=[.int .u32 (us[k].1:Int),x]) hk rfl hg (hstep w1.heap.size k us[k] x w hk0 hag0.size hag.size hJ hxw) ⟨rfl,rfl,trivial⟩ rfl fun v2 w2 a hR2 hk=>?_
    refine c_endQ ?_
    refine cN0 (c_round (L':=[(37,.slice (some ⟨gR,0,none⟩) u.length cap),(0,.pointer (some ⟨b,off,none⟩)),(1,.func (.func g) #[] lb.toArray)]) hk ⟨rfl,rfl,rfl,rfl,rfl,trivial⟩ rfl ⟨rfl,hR2.1,hag.trans hR2.2 (fun _ _ h=>h) (fun _ _ h=>h)⟩)
  · rintro L a w ⟨rfl,hJ,hag⟩ hk
    exact b_endNone rfl hk ⟨w1.heap.size,hag0.size,hag.size,hlk ▸ hJ,hag0.trans hag (fun _ _ h=>h.elim) (fun i hi h=>h.elim id (fun h2=>absurd hi (Nat.not_lt.2 (Nat.le_trans hag0.size h2))))⟩
theorem each_c:EachOk Tryz.prog 156:=each_cP.ok
theorem clo_c {w:World} {Y:Nat → Prop} {B key m:Nat} {vk x:Value} {ys:List Value} {val:List UInt8} (hB:w.heap[B]? = some (.cells #[vk] 24 (0,0))) (hrow:w.ownsRow 0 5 1 vk m ys) (hne:vk.ownBlock ≠ some B)
    (hYB:Y B) (hY:∀ k,vk.ownBlock = some k → Y k) (hR:Rep w Y (ddBs val) [x]) (hkey:key < 4294967296) (hval:val.length ≤ 32767) (hroom:m + (tagP key val).length ≤ room) :
    Ret Tryz.prog 157 [.int .u32 (key:Int),x,.pointer (some ⟨B,0,none⟩)] w fun _ w'=>∃ vk',w'.heap[B]? = some (.cells #[vk'] 24 (0,0)) ∧ w'.ownsRow 0 5 1 vk' (m + (tagP key val).length) (ys ++ bv (tagP key val)) ∧
      (∀ k,vk'.ownBlock = some k → vk.ownBlock = some k ∨ w.heap.size ≤ k) ∧ vk'.ownBlock ≠ some B ∧ Agr (fun i=>i = B ∨ vk.ownBlock = some i) w w':=by
  have hBl:B < w.heap.size:=(Array.getElem?_eq_some_iff.1 hB).1
  obtain ⟨px,capx,rfl⟩:=rep_sl_len hR
  rw [List.length_map] at hR ⊢
  unfold tagP at hroom ⊢
  simp only [List.length_append] at hroom
  refine c_call Tryz.func157 rfl rfl fun a hk=>?_
  have hk:Kn 16 [(0,.int .u32 (key:Int)),(1,.slice px val.length capx),(2,.pointer (some ⟨B,0,none⟩))] a:=hk
  have hm:Mem w (fun i=>i = B ∨ vk.ownBlock = some i) Y [.blk B [vk] 24,.row 5 1 vk m ys,.rep (ddBs val) [.slice px val.length capx]] w:=by
    refine Mem.startX ?_ ?_ ?_ ?_
    · rintro b (rfl | hb)
      · exact hYB
      · exact hY b hb
    · simp only [muts,Ent.mut,List.append_nil,List.singleton_append,List.nodup_cons]
      refine ⟨?_,by cases vk.ownBlock <;> simp⟩
      intro hb
      exact hne (by simpa using hb)
    · intro b hb
      simp only [muts,Ent.mut,List.append_nil,List.singleton_append,List.mem_cons] at hb
      rcases hb with rfl | hb
      · exact ⟨hBl,.inl rfl⟩
      · have hb':vk.ownBlock = some b:=by simpa using hb
        exact ⟨(hrow.lt b hb').2,.inr hb'⟩
    · simp only [List.forall_mem_cons,List.not_mem_nil,false_imp_iff,implies_true,and_true]
      exact ⟨hB,hrow,hR⟩
  refine cR0 ?_
  refine o_load hk ts_24 rfl (hm.cell_blk (i:=0) rfl rfl) rfl fun a hk=>?_
  refine oM0 hk rfl rfl fun a hk=>?_
  refine o_call hk cb_151 (appendUvarint_ok (hm.row (i:=1) rfl) key hkey (by omega)) ⟨rfl,rfl,trivial⟩ rfl fun v1 w1 a hR1 hk=>?_
  have hm:=hm.rowCall (i:=1) rfl hR1
  have h1:v1.oneCell' = true:=row_one (hm.row (i:=1) rfl)
  refine o_store (i:=0) hk hm ts_24 rfl rfl (cells1 h1) rfl (one1 h1) rfl (Nat.le_refl 1) fun a w1 hk hm=>?_
  refine cE0 ?_
  refine cR0 ?_
  refine o_load hk ts_24 rfl (hm.cell_blk (i:=0) rfl rfl) rfl fun a hk=>?_
  refine oM0 hk rfl rfl fun a hk=>?_
  refine oL0 hk te_24 rfl rfl fun a hk=>?_
  refine o_convInt (c:=(val.length:Int)) hk un_3 ti_65 rfl (by rw [IntKind.wrap_u32]; omega) rfl fun a hk=>?_
  refine o_call hk cb_151 (appendUvarint_ok (hm.row (i:=1) rfl) val.length (by omega) (by omega)) ⟨rfl,rfl,trivial⟩ rfl fun v2 w2 a hR2 hk=>?_
  have hm:=hm.rowCall (i:=1) rfl hR2
  have h2:v2.oneCell' = true:=row_one (hm.row (i:=1) rfl)
  refine o_store (i:=0) hk hm ts_24 rfl rfl (cells1 h2) rfl (one1 h2) rfl (Nat.le_refl 1) fun a w2 hk hm=>?_
  refine cE0 ?_
  refine c_reg ?_
  refine o_load hk ts_24 rfl (hm.cell_blk (i:=0) rfl rfl) rfl fun a hk=>?_
  refine oM0 hk rfl rfl fun a hk=>?_
  have hsrc:=src_bs (P:=Tryz.prog) te_24 (hm.rep (i:=2) rfl)
  refine o_append (i:=1) hk hm rt_24 rfl rfl rfl hsrc (room_len (by omega)) (room_by (by omega)) rfl fun a v3 w3 hk hm _=>?_
  have h3:v3.oneCell' = true:=row_one (hm.row (i:=1) rfl)
  refine o_store (i:=0) hk hm ts_24 rfl rfl (cells1 h3) rfl (one1 h3) rfl (Nat.le_refl 1) fun a w3 hk hm=>?_
  refine c_endQ ?_
  refine b_endNone rfl hk ⟨v3,hm.all _ (eA0 (i:=0) rfl),?_,?_,?_,hm.agr⟩
  · have hr:=hm.row (i:=1) rfl
    have e1:m + (uvarint key).length + (uvarint val.length).length + val.length = m + (uvarint key ++ uvarint val.length ++ val).length:=by simp only [List.length_append]; omega
    have e2:ys ++ bv (uvarint key) ++ bv (uvarint val.length) ++ bv val = ys ++ bv (uvarint key ++ uvarint val.length ++ val):=by simp only [bv_append,List.append_assoc]
    rw [e1,e2] at hr
    exact hr
  · intro k hkk
    have hb:=hm.own k (muts_mem (eA0 (i:=1) rfl) (by simp [Ent.mut,hkk]))
    have hkB:=muts_apart hm.nodup (i:=0) (j:=1) (by decide) rfl rfl B (by simp [Ent.mut])
    by_cases hlt:k < w.heap.size
    · rcases hb.2 hlt with rfl | h
      · exact absurd (by simp [Ent.mut,hkk]) hkB
      · exact .inl h
    · exact .inr (by omega)
  · intro hkk
    exact muts_apart hm.nodup (i:=0) (j:=1) (by decide) rfl rfl B (by simp [Ent.mut]) (by simp [Ent.mut,hkk])
theorem tagsAppendEach_ok:Ea.Ok Tryz.prog 5 153 .tagEach:=by
  intro w0 Y b off v c n xs u hrow hY hu hC hR hroom
  refine c_call Tryz.func153 rfl rfl fun a hk=>?_
  have hk:Kn 9 [(0,.pointer (some ⟨b,off,none⟩)),(1,v)] a:=hk
  have hm:Mem w0 (fun k=>v.ownBlock = some k) Y [.row 5 1 v n xs,.cel b off [c],.rep (ddTagMap u) [c]] w0:=Mem.startRow hrow hY rfl (by simp only [List.forall_mem_cons,List.not_mem_nil,false_imp_iff,implies_true,and_true]; exact ⟨hC,hR⟩)
  refine cR0 ?_
  have hv1:v.oneCell' = true:=row_one hrow
  refine o_box hk hm rfl (cells1 hv1) rfl fun a B w1 hk hm=>?_
  refine oA0 hk rfl rfl fun a hk=>?_
  refine cE0 ?_
  refine cR0 ?_
  refine oM0 hk rfl rfl fun a hk=>?_
  refine o_makeFunc (xs:=[.tmp 3]) (vs:=[.pointer (some ⟨B,0,none⟩)]) hk ⟨rfl,trivial⟩ rfl fun a hk=>?_
  have hBb:w1.heap[B]? = some (.cells #[v] 24 (0,0)):=hm.all _ (eA0 (i:=0) rfl)
  have hrow1:=hm.row (i:=1) rfl
  have hvB:v.ownBlock ≠ some B:=fun h=>muts_apart hm.nodup (i:=0) (j:=1) (by decide) rfl rfl B (by simp [Ent.mut]) (by simp [Ent.mut,h])
  have hBl:=hm.own B (muts_mem (eA0 (i:=0) rfl) (by simp [Ent.mut]))
  have hB0:w0.heap.size ≤ B:=by
    rcases Nat.lt_or_ge B w0.heap.size with h | h
    · exact absurd (hBl.2 h) hvB
    · exact h
  have hEach:=each_c (w0:=w1) (Y:=Yof w0 Y [.blk B [v] 24,.row 5 1 v n xs,.cel b off [c],.rep (ddTagMap u) [c]]) (X:=fun k=>k = B ∨ v.ownBlock = some k) (b:=b) (off:=off) (c:=c) (u:=u) (g:=157) (lb:=[.pointer (some ⟨B,0,none⟩)])
    (fun S k w=>w1.heap.size ≤ S ∧ S ≤ w.heap.size ∧ ∃ vk,w.heap[B]? = some (.cells #[vk] 24 (0,0)) ∧ w.ownsRow 0 5 1 vk (n + ((u.take k).flatMap fun p=>tagP p.1 p.2).length) (xs ++ bv ((u.take k).flatMap fun p=>tagP p.1 p.2)) ∧ (∀ i,vk.ownBlock = some i → v.ownBlock = some i ∨ S ≤ i) ∧ vk.ownBlock ≠ some B)
    hu (hm.all _ (eA0 (i:=2) rfl)) (hm.rep (i:=3) rfl) ?_ cb_157 ?_ ?_
  rotate_left
  · rintro k _ (rfl | hk)
    · exact .inr (by simp [muts,Ent.mut])
    · exact .inr (by simp [muts,Ent.mut,hk])
  · intro w2 hag
    refine ⟨hag.size,Nat.le_refl _,v,(hag.block B hBl.1 id).trans hBb,?_,fun i hi=>.inl hi,hvB⟩
    simp only [List.take_zero,List.flatMap_nil,List.length_nil,Nat.add_zero,bv,List.map_nil,List.append_nil]
    exact Ent.holds_move (e:=.row 5 1 v n xs) (Y:=fun _=>True) (Y':=fun _=>True) (fun i _ hy=>absurd trivial hy) hrow1 (fun b hb=>hag.block b (hrow1.lt b (by simpa [Ent.mut] using hb)).2 id)
  · rintro S k p x w hp hS1 hS2 ⟨_,_,vk,hvk,hrk,hok,hnk⟩ hxr
    have hklt:k < u.length:=(List.getElem?_eq_some_iff.1 hp).1
    have hpu:=hu.2.2 p (List.mem_of_getElem? hp)
    have hgd:u.getD k (0,[]) = p:=by rw [List.getD_eq_getElem?_getD,hp]; rfl
    have hroomk:=flatMap_take_le (fun p:Nat × List UInt8=>tagP p.1 p.2) u k (0,[]) hklt
    rw [hgd] at hroomk
    have hsucc:=flatMap_take_succ (fun p:Nat × List UInt8=>tagP p.1 p.2) u k (0,[]) hklt
    rw [hgd] at hsucc
    have hYk:∀ i,vk.ownBlock = some i → Ea.Yw (Yof w0 Y [.blk B [v] 24,.row 5 1 v n xs,.cel b off [c],.rep (ddTagMap u) [c]]) w1 i:=fun i hi=>by
      rcases hok i hi with h | h
      · exact .inl (.inr (by simp [muts,Ent.mut,h]))
      · exact .inr (by omega)
    refine Ret.mono (clo_c (key:=p.1) (val:=p.2) hvk hrk hnk (.inl (.inr (by simp [muts,Ent.mut]))) hYk hxr hpu.1 hpu.2 (by omega)) ?_
    rintro _ w' ⟨vk',g1,g2,g3,g4,g5⟩
    refine ⟨⟨hS1,Nat.le_trans hS2 g5.size,vk',g1,?_,fun i hi=>?_,g4⟩,g5.mono fun i hi hx=>?_⟩
    · rw [hsucc,List.length_append,bv_append,← Nat.add_assoc,← List.append_assoc]
      exact g2
    · rcases g3 i hi with h | h
      · exact hok i h
      · exact .inr (Nat.le_trans hS2 h)
    · rcases hx with rfl | hx
      · exact .inl ⟨hBl.1,.inl rfl⟩
      · rcases hok i hx with h | h
        · exact .inl ⟨(hrow1.lt i h).2,.inr h⟩
        · exact .inr h
  refine o_call (vs:=[.pointer (some ⟨b,off,none⟩),.func (.func 157) #[] #[.pointer (some ⟨B,0,none⟩)]]) hk cb_156 hEach ⟨rfl,rfl,trivial⟩ rfl fun v2 w2 a hR2 hk=>?_
  obtain ⟨S,hS1,hS2,⟨_,_,vk,hvk,hrk,hok,hnk⟩,hag⟩:=hR2
  rw [List.take_length] at hrk
  refine cE0 ?_
  refine cR0 ?_
  refine o_load hk ts_24 rfl (v:=vk) (by simp [World.cell?,hvk]) rfl fun a hk=>?_
  refine oA0 hk rfl rfl fun a hk=>?_
  refine cE0 ?_
  refine wp_ret ?_
  refine bT0 rfl hk rfl ⟨?_,hrk,fun i hi=>?_⟩
  · refine hm.agr.trans hag (fun _ _ x=>x) (fun i hi hx=>?_)
    rcases hx.2 with rfl | h
    · omega
    · exact h
  · rcases hok i hi with h | h
    · exact .inl h
    · exact .inr (Nat.le_trans hm.agr.size (Nat.le_trans hS1 h))
end Go.Proofs.YthblgheenamnhaaGreatDoorR
