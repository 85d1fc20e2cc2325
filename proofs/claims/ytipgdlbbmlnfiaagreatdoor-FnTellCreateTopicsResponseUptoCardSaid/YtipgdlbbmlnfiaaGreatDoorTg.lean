/- Tags: their order. No statement of the seat stands here. -/
import Derived.Test.YtipgdlbbmlnfiaaGreatDoorL5
import Derived.Test.YtipgdlbbmlnfiaaGreatDoorFa
import Derived.Deep.QuietTactic
import Derived.Ground.GgsProg
import Derived.Lib.RowBridge
import Derived.WalkKit
import Derived.Test.YtipgdlbbmlnfiaaGreatDoorRows
import Derived.KernelRfl
namespace Go.Proofs.YtipgdlbbmlnfiaaGreatDoor
open Go Go.Mk Go.Shelf Go.Proofs
def aYX:Go.Shelf.Ren:=⟨fun|6=>116|10=>149|11=>150|12=>151|13=>152|14=>153|24=>169|25=>170|26=>171|27=>172|28=>173|29=>174|30=>175|31=>176|32=>177|33=>178|34=>181|35=>182|36=>183|37=>184|38=>185|39=>186|n=>n,fun|20=>20|26=>159|35=>192|0=>0|37=>194|3=>3|41=>162|44=>199|49=>64|51=>104|4=>4|54=>210|53=>209|58=>214|5=>5|9=>9|60=>217|64=>220|66=>222|67=>223|17=>17|32=>189|33=>190|82=>238|12=>12|75=>231|76=>232|77=>233|78=>234|79=>235|80=>236|n=>n,fun|n=>n⟩
theorem sa6:Go.Proofs.LaysGg.n6 Tryz.prog aYX:={
  mixed:=by kernel_rfl,
  f6:=Tryz.func116.trans (congrArg some (by kernel_rfl)),
  f10:=Tryz.func149.trans (congrArg some (by kernel_rfl)),
  f11:=Tryz.func150.trans (congrArg some (by kernel_rfl)),
  f12:=Tryz.func151.trans (congrArg some (by kernel_rfl)),
  f13:=Tryz.func152.trans (congrArg some (by kernel_rfl)),
  f14:=Tryz.func153.trans (congrArg some (by kernel_rfl)),
  f24:=Tryz.func169.trans (congrArg some (by kernel_rfl)),
  f25:=Tryz.func170.trans (congrArg some (by kernel_rfl)),
  f26:=Tryz.func171.trans (congrArg some (by kernel_rfl)),
  f27:=Tryz.func172.trans (congrArg some (by kernel_rfl)),
  f28:=Tryz.func173.trans (congrArg some (by kernel_rfl)),
  f29:=Tryz.func174.trans (congrArg some (by kernel_rfl)),
  f30:=Tryz.func175.trans (congrArg some (by kernel_rfl)),
  f31:=Tryz.func176.trans (congrArg some (by kernel_rfl)),
  f32:=Tryz.func177.trans (congrArg some (by kernel_rfl)),
  f33:=Tryz.func178.trans (congrArg some (by kernel_rfl)),
  f34:=Tryz.func181.trans (congrArg some (by kernel_rfl)),
  f35:=Tryz.func182.trans (congrArg some (by kernel_rfl)),
  f36:=Tryz.func183.trans (congrArg some (by kernel_rfl)),
  f37:=Tryz.func184.trans (congrArg some (by kernel_rfl)),
  f38:=Tryz.func185.trans (congrArg some (by kernel_rfl)),
  f39:=Tryz.func186.trans (congrArg some (by kernel_rfl)),
  t0:=Tryz.underlying0,
  a0:=Tryz.isAgg0,
  z0:=Tryz.sizeOf0,
  v0:=Tryz.zeroValue0,
  i0:=by kernel_rfl,
  t3:=Tryz.underlying3,
  a3:=Tryz.isAgg3,
  z3:=Tryz.sizeOf3,
  v3:=Tryz.zeroValue3,
  i3:=by kernel_rfl,
  t4:=Tryz.underlying4,
  a4:=Tryz.isAgg4,
  z4:=Tryz.sizeOf4,
  v4:=Tryz.zeroValue4,
  i4:=by kernel_rfl,
  t5:=Tryz.underlying5,
  a5:=Tryz.isAgg5,
  z5:=Tryz.sizeOf5,
  v5:=Tryz.zeroValue5,
  i5:=by kernel_rfl,
  t9:=Tryz.underlying9,
  a9:=Tryz.isAgg9,
  z9:=Tryz.sizeOf9,
  v9:=Tryz.zeroValue9,
  i9:=by kernel_rfl,
  t12:=Tryz.underlying12,
  a12:=Tryz.isAgg12,
  z12:=Tryz.sizeOf12,
  v12:=Tryz.zeroValue12,
  i12:=by kernel_rfl,
  t17:=Tryz.underlying17,
  a17:=Tryz.isAgg17,
  z17:=Tryz.sizeOf17,
  v17:=Tryz.zeroValue17,
  i17:=by kernel_rfl,
  t20:=Tryz.underlying20,
  a20:=Tryz.isAgg20,
  z20:=Tryz.sizeOf20,
  v20:=Tryz.zeroValue20,
  i20:=by kernel_rfl,
  t26:=Tryz.underlying159,
  a26:=Tryz.isAgg159,
  z26:=Tryz.sizeOf159,
  v26:=Tryz.zeroValue159,
  i26:=by kernel_rfl,
  t32:=Tryz.underlying189,
  a32:=Tryz.isAgg189,
  z32:=Tryz.sizeOf189,
  v32:=Tryz.zeroValue189,
  i32:=by kernel_rfl,
  t33:=Tryz.underlying190,
  a33:=Tryz.isAgg190,
  z33:=Tryz.sizeOf190,
  v33:=Tryz.zeroValue190,
  i33:=by kernel_rfl,
  t35:=Tryz.underlying192,
  a35:=Tryz.isAgg192,
  z35:=Tryz.sizeOf192,
  v35:=Tryz.zeroValue192,
  i35:=by kernel_rfl,
  t37:=Tryz.underlying194,
  a37:=Tryz.isAgg194,
  z37:=Tryz.sizeOf194,
  v37:=Tryz.zeroValue194,
  i37:=by kernel_rfl,
  t41:=Tryz.underlying162,
  a41:=Tryz.isAgg162,
  z41:=Tryz.sizeOf162,
  v41:=Tryz.zeroValue162,
  i41:=by kernel_rfl,
  t44:=Tryz.underlying199,
  a44:=Tryz.isAgg199,
  z44:=Tryz.sizeOf199,
  v44:=Tryz.zeroValue199,
  i44:=by kernel_rfl,
  t49:=Tryz.underlying64,
  a49:=Tryz.isAgg64,
  z49:=Tryz.sizeOf64,
  v49:=Tryz.zeroValue64,
  i49:=by kernel_rfl,
  t51:=Tryz.underlying104,
  a51:=Tryz.isAgg104,
  z51:=Tryz.sizeOf104,
  v51:=Tryz.zeroValue104,
  i51:=by kernel_rfl,
  t53:=Tryz.underlying209,
  a53:=Tryz.isAgg209,
  z53:=Tryz.sizeOf209,
  v53:=Tryz.zeroValue209,
  i53:=by kernel_rfl,
  t54:=Tryz.underlying210,
  a54:=Tryz.isAgg210,
  z54:=Tryz.sizeOf210,
  v54:=Tryz.zeroValue210,
  i54:=by kernel_rfl,
  t58:=Tryz.underlying214,
  a58:=Tryz.isAgg214,
  z58:=Tryz.sizeOf214,
  v58:=Tryz.zeroValue214,
  i58:=by kernel_rfl,
  t60:=Tryz.underlying217,
  a60:=Tryz.isAgg217,
  z60:=Tryz.sizeOf217,
  v60:=Tryz.zeroValue217,
  i60:=by kernel_rfl,
  t64:=Tryz.underlying220,
  a64:=Tryz.isAgg220,
  z64:=Tryz.sizeOf220,
  v64:=Tryz.zeroValue220,
  i64:=by kernel_rfl,
  t66:=Tryz.underlying222,
  a66:=Tryz.isAgg222,
  z66:=Tryz.sizeOf222,
  v66:=Tryz.zeroValue222,
  i66:=by kernel_rfl,
  t67:=Tryz.underlying223,
  a67:=Tryz.isAgg223,
  z67:=Tryz.sizeOf223,
  v67:=Tryz.zeroValue223,
  i67:=by kernel_rfl,
  t75:=Tryz.underlying231,
  a75:=Tryz.isAgg231,
  z75:=Tryz.sizeOf231,
  v75:=Tryz.zeroValue231,
  i75:=by kernel_rfl,
  t76:=Tryz.underlying232,
  a76:=Tryz.isAgg232,
  z76:=Tryz.sizeOf232,
  v76:=Tryz.zeroValue232,
  i76:=by kernel_rfl,
  t77:=Tryz.underlying233,
  a77:=Tryz.isAgg233,
  z77:=Tryz.sizeOf233,
  v77:=Tryz.zeroValue233,
  i77:=by kernel_rfl,
  t78:=Tryz.underlying234,
  a78:=Tryz.isAgg234,
  z78:=Tryz.sizeOf234,
  v78:=Tryz.zeroValue234,
  i78:=by kernel_rfl,
  t79:=Tryz.underlying235,
  a79:=Tryz.isAgg235,
  z79:=Tryz.sizeOf235,
  v79:=Tryz.zeroValue235,
  i79:=by kernel_rfl,
  t80:=Tryz.underlying236,
  a80:=Tryz.isAgg236,
  z80:=Tryz.sizeOf236,
  v80:=Tryz.zeroValue236,
  i80:=by kernel_rfl,
  t82:=Tryz.underlying238,
  a82:=Tryz.isAgg238,
  z82:=Tryz.sizeOf238,
  v82:=Tryz.zeroValue238,
  i82:=by kernel_rfl }
noncomputable def siT:TypeInfo:=(Tryz.prog.info? 157).get (by kernel_rfl)
noncomputable def siE:TypeInfo:=(Tryz.prog.info? 64).get (by kernel_rfl)
theorem siK (n:Nat)(h2 : 2≤n):Lib.swapperK n siE 10=6:=by
  have a:siE.hasPointers=false:=by kernel_rfl
  have b:siE.bytes=4:=by kernel_rfl
  have c:(n==0)=false:=by simp;omega
  have d:(n==1)=false:=by simp;omega
  simp[Lib.swapperK,a,b,c,d]
def siF (n:Nat):Nat:=if n=0 then 160 else if n=1 then 161 else 165
theorem bAU (n : Nat) : Tryz.prog.funcs.findIdx? (·.name == "internal/reflectlite" ++ ".Swapper$" ++ toString (Lib.swapperK n siE 10)) = some (siF n) := by
  by_cases h0:n=0
  · subst h0;kernel_rfl
  · by_cases h1:n=1
    · subst h1;kernel_rfl
    · rw[siK n (by omega)]
      unfold siF
      rw[if_neg h0,if_neg h1]
      kernel_rfl
theorem siX (n:Nat)(h2 : 2≤n)(args:Array Value)(W:World):(callFunc (siF n) args).run Tryz.prog W=((Extern.ReflectliteSwapper.swap true args).run Tryz.prog W).andThen fun v w'=>.ok (.value v) w':=by
  unfold siF
  rw[if_neg (by omega),if_neg (by omega)]
  exact run_callFunc_extern Tryz.func165 (by kernel_rfl) (by kernel_rfl) (by kernel_rfl) (e:=Extern.ReflectliteSwapper.swap true) (by kernel_rfl) args W
set_option maxHeartbeats 2000000 in
/-- the closure that sorts: it reads the captured slice -/
theorem aZG (blk off c Bs size:Nat)(W:World)(G:Nat→Int)(hs:W.cell? ⟨Bs,0,none⟩=some (.slice (some ⟨blk,off,none⟩) size c))
    (hc:∀ t,t<size→W.cell? ⟨blk,off+t,none⟩=some (.int .u32 (G t))) (i j:Nat) (hi:i<size) (hj:j<size) :
    Calls Tryz.prog 117 #[.int .i64 i,.int .i64 j,.pointer (some ⟨Bs,0,none⟩)] W fun e w'=>e=.returned (.bool (decide (G i<G j)))∧∃ q,w'=W.drewN q:=by
  have ci:=hc i hi
  have cj:=hc j hj
  go_enter Tryz.func117,Tryz.ntmps117
  go_wp2
  go_quiet (fail)
  go_wp2
  go_ret
  exact⟨rfl,nq,rfl⟩
open Go.Sort Go.Proofs in
/-- .. as the sort asks it, the captured slice lying in a block of its own -/
theorem aUU (blk cap n Bs:Nat)(W:World)(ds:List Int)(hrow:W.ownsRow 0 64 1 (.slice (some ⟨blk,0,none⟩) n cap) n (aJ1 ds))(hs:W.cell? ⟨Bs,0,none⟩=some (.slice (some ⟨blk,0,none⟩) n cap))(hne:Bs≠blk) :
    LessReads Tryz.prog 117 #[.pointer (some ⟨Bs,0,none⟩)] (Value.int .u32) ltInt blk 0 n W:=by
  obtain⟨hH,hsz⟩:=aPs hrow
  have hb1:blk<W.heap.size:=(hrow.lt blk rfl).2
  have hb2:Bs<W.heap.size:=aIv hs
  intro m os dk hdk i j hi hj
  have e:sortWorld (Value.int .u32) W blk 0 m dk os=putRow (Value.int .u32) (grow (Sort.ahead W m) os) blk 0 dk:=by
    unfold sortWorld;rw[putRow_grow _ (Sort.ahead W m) _ blk 0 _ hb1]
  have hHg:Holds (Value.int .u32) (grow (Sort.ahead W m) os) blk 0 ds.toArray:=holds_grow _ _ _ blk 0 _ hb1 (holds_ahead _ _ _ _ _ _ hH)
  refine aZG blk 0 cap Bs n _ (fun t=>dk[t]!) ?_ (fun t ht=>?_) i j hi hj
  · rw[e,cell?_putRow_other _ _ blk 0 dk _ (Or.inl hne),cell?_grow _ _ _ hb2]
    exact hs
  · rw[e];exact cell?_putRow _ _ blk 0 ds.toArray dk hHg (by rw[hsz];exact hdk) t (by omega)
set_option maxHeartbeats 4000000 in
theorem aEz:bAC Tryz.prog 67:=by
  intro w0 Y X b off c u us g lb J hndk hul hpm hris hC hR hXY hg h0 hstep
  have hlk:us.length=u.length:=hpm.length_eq
  obtain⟨p,rfl,hlen⟩:=aQa hR
  refine aAy Tryz.func67 rfl rfl fun a hk=>?_
  have hk:Kn 53 [(0,.pointer (some ⟨b,off,none⟩)),(1,.func (.func g) #[] lb.toArray)] a:=hk
  have hm:Mem w0 Nob Y [.cel b off [.map p],.rep (aAN u) [.map p]] w0:=Mem.start rfl (by simp only[List.forall_mem_cons,List.not_mem_nil,false_imp_iff,implies_true,and_true];exact⟨hC,hR⟩)
  refine wp_seq ?_
  refine cR0 ?_
  refine oM0 hk rfl rfl fun a hk=>?_
  refine oN0 hk rfl rfl fun a hk=>?_
  refine oF0 hk aJo rfl rfl fun a hk=>?_
  refine aAq hk aPQ rfl (hm.cell_cel (i:=0) (j:=0) rfl rfl) rfl fun a hk=>?_
  refine aRW hk aSJ rfl hlen rfl fun a hk=>?_
  refine aAx hk rfl rfl rfl rfl fun a hk=>?_
  refine cE0 ?_
  refine aAA hk rfl (fun hc=>?_) (fun hc=>?_)
  · refine wp_ret ?_
    refine cQ0 ?_
    have hu0:u.length=0:=by have:=eq_of_beq hc;omega
    refine aUa rfl hk ⟨w0.heap.size,Nat.le_refl _,Nat.le_refl _,?_,Agr.refl _ _⟩
    rw[hlk,hu0]
    exact h0 w0 (Agr.refl _ _)
  refine wp_skip ?_
  refine cT0 ?_
  have hun:u.length≠0:=by rintro h;rw[h] at hc;simp at hc
  obtain⟨r,vs,rfl,hYr,hMA,hvl,hvs⟩ : ∃ r vs,p=some r∧¬ Y r∧aGE w0 r (u.map (·.1)) vs∧vs.length=u.length∧∀ (i:Nat) (p:Nat × List UInt8),u[i]?=some p→∃ x,vs[i]?=some x∧Rep w0 Y (aDJ p.2) [x]:=by
    rcases aRf hR with ⟨rfl,_⟩|⟨r,vs,h1,h2⟩
    · exact absurd rfl hun
    · exact⟨r,vs,by simpa using h1,h2⟩
  have hMA':=hMA
  obtain⟨es,clk,hes,hkv,hkl,hnd,hbn⟩:=hMA'
  have hrlt:r<w0.heap.size:=hMA.lt
  have hesl:es.size=u.length:=by
    have h1:=congrArg List.length hkv
    simp only[List.length_map,List.length_zip] at h1
    rw[Array.length_toList] at h1
    omega
  refine cR0 ?_
  refine oM0 hk rfl rfl fun a hk=>?_
  refine oN0 hk rfl rfl fun a hk=>?_
  refine oF0 hk aJo rfl rfl fun a hk=>?_
  refine aAq hk aPQ rfl (hm.cell_cel (i:=0) (j:=0) rfl rfl) rfl fun a hk=>?_
  refine aRW hk aSJ rfl hlen rfl fun a hk=>?_
  refine aXZ (cap:=u.length) hk hm aUp bBm rfl (by unfold maxLen;omega) (by omega) rfl fun a bR w hbR hk hm=>?_
  refine aA5 hk hm bAw rfl rfl fun a bA w hk hm=>?_
  refine aAz (i:=0) hk hm aQc rfl rfl rfl rfl rfl rfl (Nat.le_refl 1) fun a w hk hm=>?_
  refine cE0 ?_
  refine wp_seq ?_
  refine cR0 ?_
  refine oM0 hk rfl rfl fun a hk=>?_
  refine oN0 hk rfl rfl fun a hk=>?_
  refine oF0 hk aJo rfl rfl fun a hk=>?_
  refine aAq hk aPQ rfl (hm.cell_cel (i:=2) (j:=0) rfl rfl) rfl fun a hk=>?_
  have hesw:w.heap[r]?=some (.map es clk):=(hm.agr.block r hrlt id).trans hes
  refine aYI hk hm aSJ rfl hesw rfl fun a it w hit hk hm=>?_
  refine cE0 ?_
  clear hesw hit
  refine aL3 (fun gm a w=>∃ seen c0 col v ds,gm=(leftOf es seen).size∧clk≤c0∧Kn 53 [(0,.pointer (some ⟨b,off,none⟩)),(1,.func (.func g) #[] lb.toArray),(4,.pointer (some ⟨bA,0,none⟩)),(24,.pointer (some ⟨it,0,none⟩))] a ∧
    Mem w0 Nob Y [.obj it (.mapIter (some r) clk seen c0),.blk bA [v] 157,.row 64 1 v col.length (aJ1 ds),.cel b off [.map (some r)],.rep (aAN u) [.map (some r)]] w∧aKH es seen col∧col.map (·.key)=aJ1 ds) (leftOf es #[]).size ?_ ?_
  · exact⟨#[],clk,[],_,[],rfl,Nat.le_refl _,hk.sub ⟨rfl,rfl,rfl,rfl,trivial⟩,hm,aOW es,rfl⟩
  clear hm hk
  rintro gm a w ⟨seen,c0,col,v,ds,rfl,hcc,hk,hm,hcol,hds⟩
  have hesw:w.heap[r]?=some (.map es clk):=(hm.agr.block r hrlt id).trans hes
  have hcl:=aQt hcol
  refine cR0 ?_
  refine bAH (i:=0) hk hm rfl rfl hesw hbn hcc rfl (fun hz a hk=>?_) (fun e he a w hk hm=>?_)
  rotate_left
  · -- a key more
    refine aDb hk rfl rfl rfl fun a hk=>?_
    refine cE0 ?_
    refine wp_seq ?_
    refine aEm hk rfl ?_
    refine wp_skip ?_
    refine cT0 ?_
    refine wp_block ?_
    have hesw2:w.heap[r]?=some (.map es clk):=(hm.agr.block r hrlt id).trans hes
    obtain⟨kk,hkk⟩:=aYG hkv hkl (aSm he)
    have hlt2:col.length<es.size:=by
      have h1:=hcol.2.length_eq
      have h2 : 0<(leftOf es seen).toList.length:=List.length_pos_of_mem he
      simp only[List.length_append,Array.length_toList] at h1 h2
      omega
    refine cR0 ?_
    refine aZi (i:=0) hk hm rfl rfl hesw2 (aSm he) hnd rfl fun a hk=>?_
    refine aDb hk rfl rfl rfl fun a hk=>?_
    refine oA0 hk rfl rfl fun a hk=>?_
    refine cE0 ?_
    rw[hkk] at hk
    refine aC2 ?_
    refine aAq hk aQc rfl (hm.cell_blk (i:=1) rfl rfl) rfl fun a hk=>?_
    refine oM0 hk rfl rfl fun a hk=>?_
    refine aLg hk hm aUp rfl rfl rfl rfl rfl rfl fun a bN w hk hm=>?_
    refine aBs (i:=3) hk hm aUp rfl rfl rfl (aDP (k:=1) (news:=[.int .u32 kk]) aRH rfl (hm.cells_blk (i:=0) rfl rfl) rfl) (by unfold maxLen;omega) (by omega) rfl fun a v' w hk hm _=>?_
    have hone:v'.oneCell'=true:=aHV (hm.row (i:=3) rfl)
    refine aAz (i:=2) hk hm aQc rfl rfl (aE7 hone) rfl (aVT hone) rfl (Nat.le_refl 1) fun a w hk hm=>?_
    refine aAb ?_
    refine cN0 (cT0 ⟨_,aP2 hcol hnd he,seen.push e.born,clk,col++[e],v',ds++[kk],rfl,Nat.le_refl _,hk.sub ⟨rfl,rfl,rfl,rfl,trivial⟩,?_,aLT hcol hnd he,?_⟩)
    · have hm:=hm.pick [1,2,3,4,5] rfl rfl
      exact hm.rowEq (i:=2) (n':=(col++[e]).length) (xs':=aJ1 (ds++[kk])) rfl (by simp) (by simp[aJ1])
    · simp[hds,hkk,aJ1]
  -- all are met: they are sorted
  refine aDb hk rfl rfl rfl fun a hk=>?_
  refine cE0 ?_
  refine wp_seq ?_
  refine aB9 hk rfl ?_
  refine wp_exit ?_
  refine aBd (aBd (aD9 ?_))
  refine cT0 ?_
  obtain⟨ds0,hd0,hperm⟩:=aU6 hkv hkl (aMN hcol hz)
  obtain rfl:=aRX (hds.symm.trans hd0)
  have hcu:col.length=u.length:=by
    have h1:col.length=es.toList.length:=(aMN hcol hz).length_eq
    have h2:es.toList.length=es.size:=Array.length_toList
    omega
  obtain⟨hpw,_⟩:=aKg hris
  have hperm:ds.Perm ((us.map (·.1)).map fun (k:Nat)=>(k:Int)):=hperm.trans ((hpm.symm.map _).map _)
  have hm:=hm.rowEq (i:=2) (n':=u.length) (xs':=aJ1 ds) rfl hcu rfl
  have hm:Mem w0 Nob Y [.obj it (.mapIter (some r) clk seen c0),.blk bA [v] 157,.row 64 1 v u.length (aJ1 ds),.cel b off [.map (some r)],.rep (aAN u) [.map (some r)]] w:=hm
  have hrow:=hm.row (i:=2) rfl
  have hcA:w.cell? ⟨bA,0,none⟩=some v:=hm.cell_blk (i:=1) rfl rfl
  refine cR0 ?_
  refine aAq hk aQc rfl hcA rfl fun a hk=>?_
  refine aQK hk aRH rfl rfl fun a hk=>?_
  refine aOe (xs:=[.tmp 4]) (vs:=[.pointer (some ⟨bA,0,none⟩)]) hk ⟨rfl,trivial⟩ rfl fun a hk=>?_
  have hsort:=aX6 (P:=Tryz.prog) sa6 (t:=157) (e:=64) (i:=siT) (ie:=siE) (by kernel_rfl) (by kernel_rfl) (by kernel_rfl) (by kernel_rfl) (ke:=10) (fun _=>by kernel_rfl) (by kernel_rfl) (fun _=>by kernel_rfl) (g:=117) (lb:=#[.pointer (some ⟨bA,0,none⟩)])
    (fun args w=>aJn bAI args w) siF bAU true siX hrow (by omega) hperm hpw
    (fun blk cap hv=>by
      subst hv
      refine aUU blk cap u.length bA w ds hrow hcA ?_
      intro hAb
      have h1:=aEt hm.nodup (i:=1) (j:=2) (by decide) rfl rfl bA (by simp[Ent.mut])
      exact h1 (by simp[Ent.mut,Value.ownBlock,hAb]))
  refine aAk (vs:=[.iface 157 v,.func (.func 117) #[] #[.pointer (some ⟨bA,0,none⟩)]]) hk aZQ (aP5 rfl hsort) ⟨rfl,rfl,trivial⟩ rfl fun v1 w1 a hR1 hk=>?_
  obtain⟨_,hag1,hrow1⟩:=hR1
  have hm:=hm.rowStep (i:=2) rfl hag1 hrow1 (fun k hk=>.inl hk)
  refine cE0 ?_
  refine cR0 ?_
  refine aAq hk aQc rfl (hm.cell_blk (i:=1) rfl rfl) rfl fun a hk=>?_
  obtain⟨pv,cap,rfl⟩:=aDx hrow1
  obtain⟨gR,rfl⟩:=aLC hrow1 (by omega)
  refine oL0 hk aRH rfl rfl fun a hk=>?_
  refine oM0 hk rfl rfl fun a hk=>?_
  refine cE0 ?_
  have hgR:=hm.own gR (aBI (eA0 (i:=2) rfl) (by simp[Ent.mut,Value.ownBlock]))
  have hgR0 : ¬ gR<w0.heap.size:=fun h=>(hgR.2 h).elim
  have hag0:Agr Nob w0 w1:=hm.agr
  have hbl:b<w0.heap.size:=aIv (hC 0 _ rfl).2
  have hbY : ¬ Y b:=(hC 0 _ rfl).1
  refine aCF (n:=53) (i:=39) (ln:=38) (L0:=[(37,.slice (some ⟨gR,0,none⟩) u.length cap),(0,.pointer (some ⟨b,off,none⟩)),(1,.func (.func g) #[] lb.toArray)]) u.length (by omega) (fun k L w=>L=[(37,.slice (some ⟨gR,0,none⟩) u.length cap),(0,.pointer (some ⟨b,off,none⟩)),(1,.func (.func g) #[] lb.toArray)]∧J w1.heap.size k w∧Agr (fun i=>(i<w0.heap.size∧X i)∨w1.heap.size≤i) w1 w)
    (hk.sub ⟨rfl,rfl,rfl,rfl,rfl,trivial⟩) ⟨rfl,h0 w1 hag0,Agr.refl _ _⟩ rfl rfl rfl rfl rfl rfl rfl ?_ rfl ?_
  · rintro k L a w hku ⟨rfl,hJ,hag⟩ hk
    have hku2:k<us.length:=by omega
    have hk0:us[k]?=some us[k]:=List.getElem?_eq_getElem hku2
    obtain⟨ik,hik⟩:=List.mem_iff_getElem?.1 (hpm.mem_iff.1 (List.getElem_mem hku2))
    obtain⟨x,hx,hxr⟩:=hvs ik _ hik
    have hblk:∀ i,i<w0.heap.size→¬ Y i→w.heap[i]?=w0.heap[i]?:=fun i hi hy=>by
      rw[hag.block i (Nat.lt_of_lt_of_le hi hag0.size) (by rintro (⟨_,h⟩|h);exact hy (hXY i hi h);exact absurd hi (Nat.not_lt.2 (Nat.le_trans hag0.size h)))]
      exact hag0.block i hi id
    have hgw:w.heap[gR]?=w1.heap[gR]?:=hag.block gR hgR.1 (by rintro (⟨h,_⟩|h);exact hgR0 h;exact absurd hgR.1 (Nat.not_lt.2 h))
    have hcell:w.cell? ⟨gR,0+k*1,none⟩=some (.int .u32 (us[k].1:Int)):=by
      have h1:=hrow1.cells (g:=gR) rfl k (.int .u32 (us[k].1:Int)) (by simp[aJ1,hku2])
      rw[Addr.add_lit] at h1
      rw[Nat.mul_one,World.cell?_of_block (w:=w1) (w':=w) (a:=⟨gR,0+k,none⟩) hgw]
      exact h1
    refine cR0 ?_
    refine oI0 (j:=k) hk aRH aLv rfl rfl hku rfl fun a hk=>?_
    refine aAq hk aLv rfl hcell rfl fun a hk=>?_
    refine oA0 hk rfl rfl fun a hk=>?_
    refine cE0 ?_
    refine aC2 ?_
    refine oM0 hk rfl rfl fun a hk=>?_
    refine oM0 hk rfl rfl fun a hk=>?_
    refine oM0 hk rfl rfl fun a hk=>?_
    refine oN0 hk rfl rfl fun a hk=>?_
    refine oF0 hk aJo rfl rfl fun a hk=>?_
    have hcm:w.cell? ⟨b,off+0,none⟩=some (.map (some r)):=by
      rw[World.cell?_of_block (w:=w0) (w':=w) (a:=⟨b,off+0,none⟩) (hblk b hbl hbY)]
      exact (hC 0 _ rfl).2
    refine aAq hk aPQ rfl hcm rfl fun a hk=>?_
    refine oM0 hk rfl rfl fun a hk=>?_
    refine aWH (j:=ik) hk aSJ rfl rfl (hMA.move (hblk r hrlt hYr)) (aWs hndk (by rw[List.getElem?_map,hik];rfl)) rfl fun a hk=>?_
    have hxv:vs.getD ik undef=x:=by rw[List.getD_eq_getElem?_getD,hx];rfl
    rw[hxv] at hk
    have hxw:Rep w (Ea.Yw Y w0) (aDJ us[k].2) [x]:=Rep.move (fun i hi hy=>⟨hblk i hi hy,fun h=>h.elim hy (fun h2=>by omega)⟩) _ _ hxr
    refine aYK (vs:=[.int .u32 (us[k].1:Int),x]) hk rfl hg (hstep w1.heap.size k us[k] x w hk0 hag0.size hag.size hJ hxw) ⟨rfl,rfl,trivial⟩ rfl fun v2 w2 a hR2 hk=>?_
    refine aAb ?_
    refine cN0 (aBb (L':=[(37,.slice (some ⟨gR,0,none⟩) u.length cap),(0,.pointer (some ⟨b,off,none⟩)),(1,.func (.func g) #[] lb.toArray)]) hk ⟨rfl,rfl,rfl,rfl,rfl,trivial⟩ rfl ⟨rfl,hR2.1,hag.trans hR2.2 (fun _ _ h=>h) (fun _ _ h=>h)⟩)
  · rintro L a w ⟨rfl,hJ,hag⟩ hk
    exact aB4 rfl hk ⟨w1.heap.size,hag0.size,hag.size,hlk ▸ hJ,hag0.trans hag (fun _ _ h=>h.elim) (fun i hi h=>h.elim id (fun h2=>absurd hi (Nat.not_lt.2 (Nat.le_trans hag0.size h2))))⟩
end Go.Proofs.YtipgdlbbmlnfiaaGreatDoor
