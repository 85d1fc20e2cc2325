/- Walks of functions that the seat's laws reach. -/
import Derived.Test.YtipgdlbbmlnfiaaGreatDoorL2
import Derived.Test.YtipgdlbbmlnfiaaGreatDoorRows
import Derived.Test.YtipgdlbbmlnfiaaGreatDoorFa
namespace Go.Proofs.YtipgdlbbmlnfiaaGreatDoor
open Go Go.Mk
theorem aOi {w0:World}{Y:Nat→Prop}{l:List UInt8}{b off cap:Nat}(hC:Cel w0 Y b off (bv l))(hl : 2≤l.length):Ret Tryz.prog 144 [.agg #[],.slice (some ⟨b,off,none⟩) l.length cap] w0 fun v w'=>Agr Nob w0 w'∧v=.int .u16 ((be (l.take 2):Nat):Int):=by
 refine aAy Tryz.func144 rfl rfl fun a hk=>?_
 have hk:Kn 18 [(0,.agg #[]),(1,.slice (some ⟨b,off,none⟩) l.length cap)] a:=hk
 have hm:Mem w0 Nob Y [.cel b off (bv l)] w0:=Mem.start rfl (by simp only[List.forall_mem_cons,List.not_mem_nil,false_imp_iff,implies_true,and_true];exact hC)
 refine cR0 ?_
 refine aFB hk hm rfl rfl rfl fun a b1 w hk hm=>?_
 refine oA0 hk rfl rfl fun a hk=>?_
 refine cE0 ?_
 refine cR0 ?_
 refine oM0 hk rfl rfl fun a hk=>?_
 refine oI0 (j:=1) hk aA9 aDQ rfl rfl (by omega) rfl fun a hk=>?_
 refine aAq hk aDQ rfl (hm.cell_cel (i:=1) (j:=1) rfl (aFc (by omega))) rfl fun a hk=>?_
 refine cE0 ?_
 refine wp_seq ?_
 refine aAW (K:=10) mixed hm fun w hm=>?_
 refine aAh (i:=0) rfl rfl rfl (by kernel_rfl) (fun _ _ _ h=>h) hk rfl (fun w hm=>aA6 hk rfl) hm fun a hk=>?_
 refine aAh (i:=1) rfl rfl rfl (by kernel_rfl) (fun _ _ _ h=>h) hk rfl (fun w hm=>aA4 (j:=1) hk aA9 aDQ rfl rfl (by omega)) hm fun a hk=>?_
 refine aAh (i:=2) rfl rfl rfl (by kernel_rfl) (fun _ _ _ h=>h) hk rfl (fun w hm=>aAL hk aDQ rfl (hm.cell_cel (i:=1) (j:=1) rfl (aFc (by omega)))) hm fun a hk=>?_
 refine aAh (i:=3) rfl rfl rfl (by kernel_rfl) (fun _ _ _ h=>h) hk rfl (fun w hm=>aDR (c:=(((l.getD 1 0).toNat:Nat):Int)) hk (Option.isSome_iff_exists.1 aNF) aXX rfl (aBe rfl (by have:=(l.getD 1 0).toNat_lt;simp only[IntKind.bits];omega))) hm fun a hk=>?_
 refine aAt (k:=4) (by kernel_rfl) rfl rfl ?_
 refine oM0 hk rfl rfl fun a hk=>?_
 refine aAb (cT0 ⟨fun _=>hm,?_⟩)
 refine aAt (k:=5) (by kernel_rfl) rfl rfl ?_
 refine oI0 (j:=0) hk aA9 aDQ rfl rfl (by omega) rfl fun a hk=>?_
 refine aAb (cT0 ⟨fun _=>hm,?_⟩)
 refine aAt (k:=6) (by kernel_rfl) rfl rfl ?_
 refine aAq hk aDQ rfl (hm.cell_cel (i:=1) (j:=0) rfl (aFc (by omega))) rfl fun a hk=>?_
 refine aAb (cT0 ⟨fun _=>hm,?_⟩)
 refine aAt (k:=7) (by kernel_rfl) rfl rfl ?_
 refine aAG (c:=(((l.getD 0 0).toNat:Nat):Int)) hk aNF aXX rfl (aBe rfl (by have:=(l.getD 0 0).toNat_lt;simp only[IntKind.bits];omega)) rfl fun a hk=>?_
 refine aAb (cT0 ⟨fun _=>hm,?_⟩)
 refine aAt (k:=8) (by kernel_rfl) rfl rfl ?_
 refine aQ9 (s:=8) (c:=(((l.getD 0 0).toNat*2 ^ 8:Nat):Int)) hk rfl rfl (by have:=(l.getD 0 0).toNat_lt;rw[← aDH];exact aBe rfl (by simp only[IntKind.bits];omega)) rfl fun a hk=>?_
 refine aAb (cT0 ⟨fun _=>hm,?_⟩)
 refine aAt (k:=9) (by kernel_rfl) rfl rfl ?_
 refine aDc (c:=((((l.getD 1 0).toNat+(l.getD 0 0).toNat*2 ^ 8):Nat):Int)) hk rfl rfl (by have h0:=(l.getD 0 0).toNat_lt;have h1:=(l.getD 1 0).toNat_lt;exact aE4 rfl ((l.getD 1 0).toNat) ((l.getD 0 0).toNat) 8 (by omega) (by simp only[IntKind.bits];omega)) rfl fun a hk=>?_
 refine aAb (cT0 ⟨fun _=>hm,?_⟩)
 refine aAt (k:=10) (by kernel_rfl) rfl rfl ?_
 refine oA0 hk rfl rfl fun a hk=>?_
 refine aAb (cT0 ⟨fun h=>Bool.noConfusion (show true=false from h),?_⟩)
 refine aBh (by kernel_rfl) ?_ _
 refine cT0 ?_
 refine wp_ret ?_
 refine bT0 rfl hk rfl ?_
 exact⟨hm.agr,by rw[aVS hl]⟩
set_option maxRecDepth 100000 in
theorem aTj {w0:World}{Y:Nat→Prop}{l:List UInt8}{b off cap:Nat}(hC:Cel w0 Y b off (bv l))(hl : 4≤l.length):Ret Tryz.prog 146 [.agg #[],.slice (some ⟨b,off,none⟩) l.length cap] w0 fun v w'=>Agr Nob w0 w'∧v=.int .u32 ((be (l.take 4):Nat):Int):=by
 refine aAy Tryz.func146 rfl rfl fun a hk=>?_
 have hk:Kn 30 [(0,.agg #[]),(1,.slice (some ⟨b,off,none⟩) l.length cap)] a:=hk
 have hm:Mem w0 Nob Y [.cel b off (bv l)] w0:=Mem.start rfl (by simp only[List.forall_mem_cons,List.not_mem_nil,false_imp_iff,implies_true,and_true];exact hC)
 refine cR0 ?_
 refine aFB hk hm rfl rfl rfl fun a b1 w hk hm=>?_
 refine oA0 hk rfl rfl fun a hk=>?_
 refine cE0 ?_
 refine cR0 ?_
 refine oM0 hk rfl rfl fun a hk=>?_
 refine oI0 (j:=3) hk aA9 aDQ rfl rfl (by omega) rfl fun a hk=>?_
 refine aAq hk aDQ rfl (hm.cell_cel (i:=1) (j:=3) rfl (aFc (by omega))) rfl fun a hk=>?_
 refine cE0 ?_
 refine wp_seq ?_
 refine aAW (K:=22) mixed hm fun w hm=>?_
 refine aAh (i:=0) rfl rfl rfl (by kernel_rfl) (fun _ _ _ h=>h) hk rfl (fun w hm=>aA6 hk rfl) hm fun a hk=>?_
 refine aAh (i:=1) rfl rfl rfl (by kernel_rfl) (fun _ _ _ h=>h) hk rfl (fun w hm=>aA4 (j:=3) hk aA9 aDQ rfl rfl (by omega)) hm fun a hk=>?_
 refine aAh (i:=2) rfl rfl rfl (by kernel_rfl) (fun _ _ _ h=>h) hk rfl (fun w hm=>aAL hk aDQ rfl (hm.cell_cel (i:=1) (j:=3) rfl (aFc (by omega)))) hm fun a hk=>?_
 refine aAh (i:=3) rfl rfl rfl (by kernel_rfl) (fun _ _ _ h=>h) hk rfl (fun w hm=>aDR (c:=(((l.getD 3 0).toNat:Nat):Int)) hk (Option.isSome_iff_exists.1 aNF) aNJ rfl (aBe rfl (by have:=(l.getD 3 0).toNat_lt;simp only[IntKind.bits];omega))) hm fun a hk=>?_
 refine aAh (i:=4) rfl rfl rfl (by kernel_rfl) (fun _ _ _ h=>h) hk rfl (fun w hm=>aA6 hk rfl) hm fun a hk=>?_
 refine aAh (i:=5) rfl rfl rfl (by kernel_rfl) (fun _ _ _ h=>h) hk rfl (fun w hm=>aA4 (j:=2) hk aA9 aDQ rfl rfl (by omega)) hm fun a hk=>?_
 refine aAh (i:=6) rfl rfl rfl (by kernel_rfl) (fun _ _ _ h=>h) hk rfl (fun w hm=>aAL hk aDQ rfl (hm.cell_cel (i:=1) (j:=2) rfl (aFc (by omega)))) hm fun a hk=>?_
 refine aAh (i:=7) rfl rfl rfl (by kernel_rfl) (fun _ _ _ h=>h) hk rfl (fun w hm=>aDR (c:=(((l.getD 2 0).toNat:Nat):Int)) hk (Option.isSome_iff_exists.1 aNF) aNJ rfl (aBe rfl (by have:=(l.getD 2 0).toNat_lt;simp only[IntKind.bits];omega))) hm fun a hk=>?_
 refine aAh (i:=8) rfl rfl rfl (by kernel_rfl) (fun _ _ _ h=>h) hk rfl (fun w hm=>aQg (s:=8) (c:=(((l.getD 2 0).toNat*2 ^ 8:Nat):Int)) hk rfl rfl (by have:=(l.getD 2 0).toNat_lt;rw[← aDH];exact aBe rfl (by simp only[IntKind.bits];omega))) hm fun a hk=>?_
 refine aAh (i:=9) rfl rfl rfl (by kernel_rfl) (fun _ _ _ h=>h) hk rfl (fun w hm=>aJu (c:=((((l.getD 3 0).toNat+(l.getD 2 0).toNat*2 ^ 8):Nat):Int)) hk rfl rfl (by have h0:=(l.getD 0 0).toNat_lt;have h1:=(l.getD 1 0).toNat_lt;have h2:=(l.getD 2 0).toNat_lt;have h3:=(l.getD 3 0).toNat_lt;exact aE4 rfl ((l.getD 3 0).toNat) ((l.getD 2 0).toNat) 8 (by omega) (by simp only[IntKind.bits];omega))) hm fun a hk=>?_
 refine aAh (i:=10) rfl rfl rfl (by kernel_rfl) (fun _ _ _ h=>h) hk rfl (fun w hm=>aA6 hk rfl) hm fun a hk=>?_
 refine aAh (i:=11) rfl rfl rfl (by kernel_rfl) (fun _ _ _ h=>h) hk rfl (fun w hm=>aA4 (j:=1) hk aA9 aDQ rfl rfl (by omega)) hm fun a hk=>?_
 refine aAh (i:=12) rfl rfl rfl (by kernel_rfl) (fun _ _ _ h=>h) hk rfl (fun w hm=>aAL hk aDQ rfl (hm.cell_cel (i:=1) (j:=1) rfl (aFc (by omega)))) hm fun a hk=>?_
 refine aAh (i:=13) rfl rfl rfl (by kernel_rfl) (fun _ _ _ h=>h) hk rfl (fun w hm=>aDR (c:=(((l.getD 1 0).toNat:Nat):Int)) hk (Option.isSome_iff_exists.1 aNF) aNJ rfl (aBe rfl (by have:=(l.getD 1 0).toNat_lt;simp only[IntKind.bits];omega))) hm fun a hk=>?_
 refine aAh (i:=14) rfl rfl rfl (by kernel_rfl) (fun _ _ _ h=>h) hk rfl (fun w hm=>aQg (s:=16) (c:=(((l.getD 1 0).toNat*2 ^ 16:Nat):Int)) hk rfl rfl (by have:=(l.getD 1 0).toNat_lt;rw[← aDH];exact aBe rfl (by simp only[IntKind.bits];omega))) hm fun a hk=>?_
 refine aAh (i:=15) rfl rfl rfl (by kernel_rfl) (fun _ _ _ h=>h) hk rfl (fun w hm=>aJu (c:=(((((l.getD 3 0).toNat+(l.getD 2 0).toNat*2 ^ 8)+(l.getD 1 0).toNat*2 ^ 16):Nat):Int)) hk rfl rfl (by have h0:=(l.getD 0 0).toNat_lt;have h1:=(l.getD 1 0).toNat_lt;have h2:=(l.getD 2 0).toNat_lt;have h3:=(l.getD 3 0).toNat_lt;exact aE4 rfl ((l.getD 3 0).toNat+(l.getD 2 0).toNat*2 ^ 8) ((l.getD 1 0).toNat) 16 (by omega) (by simp only[IntKind.bits];omega))) hm fun a hk=>?_
 refine aAt (k:=16) (by kernel_rfl) rfl rfl ?_
 refine oM0 hk rfl rfl fun a hk=>?_
 refine aAb (cT0 ⟨fun _=>hm,?_⟩)
 refine aAt (k:=17) (by kernel_rfl) rfl rfl ?_
 refine oI0 (j:=0) hk aA9 aDQ rfl rfl (by omega) rfl fun a hk=>?_
 refine aAb (cT0 ⟨fun _=>hm,?_⟩)
 refine aAt (k:=18) (by kernel_rfl) rfl rfl ?_
 refine aAq hk aDQ rfl (hm.cell_cel (i:=1) (j:=0) rfl (aFc (by omega))) rfl fun a hk=>?_
 refine aAb (cT0 ⟨fun _=>hm,?_⟩)
 refine aAt (k:=19) (by kernel_rfl) rfl rfl ?_
 refine aAG (c:=(((l.getD 0 0).toNat:Nat):Int)) hk aNF aNJ rfl (aBe rfl (by have:=(l.getD 0 0).toNat_lt;simp only[IntKind.bits];omega)) rfl fun a hk=>?_
 refine aAb (cT0 ⟨fun _=>hm,?_⟩)
 refine aAt (k:=20) (by kernel_rfl) rfl rfl ?_
 refine aQ9 (s:=24) (c:=(((l.getD 0 0).toNat*2 ^ 24:Nat):Int)) hk rfl rfl (by have:=(l.getD 0 0).toNat_lt;rw[← aDH];exact aBe rfl (by simp only[IntKind.bits];omega)) rfl fun a hk=>?_
 refine aAb (cT0 ⟨fun _=>hm,?_⟩)
 refine aAt (k:=21) (by kernel_rfl) rfl rfl ?_
 refine aDc (c:=((((((l.getD 3 0).toNat+(l.getD 2 0).toNat*2 ^ 8)+(l.getD 1 0).toNat*2 ^ 16)+(l.getD 0 0).toNat*2 ^ 24):Nat):Int)) hk rfl rfl (by have h0:=(l.getD 0 0).toNat_lt;have h1:=(l.getD 1 0).toNat_lt;have h2:=(l.getD 2 0).toNat_lt;have h3:=(l.getD 3 0).toNat_lt;exact aE4 rfl (((l.getD 3 0).toNat+(l.getD 2 0).toNat*2 ^ 8)+(l.getD 1 0).toNat*2 ^ 16) ((l.getD 0 0).toNat) 24 (by omega) (by simp only[IntKind.bits];omega)) rfl fun a hk=>?_
 refine aAb (cT0 ⟨fun _=>hm,?_⟩)
 refine aAt (k:=22) (by kernel_rfl) rfl rfl ?_
 refine oA0 hk rfl rfl fun a hk=>?_
 refine aAb (cT0 ⟨fun h=>Bool.noConfusion (show true=false from h),?_⟩)
 refine aBh (by kernel_rfl) ?_ _
 refine cT0 ?_
 refine wp_ret ?_
 refine bT0 rfl hk rfl ?_
 exact⟨hm.agr,by rw[aWW hl]⟩
set_option maxRecDepth 100000 in
theorem aSI {w0:World}{Y:Nat→Prop}{l:List UInt8}{b off cap:Nat}(hC:Cel w0 Y b off (bv l))(hl : 8≤l.length):Ret Tryz.prog 179 [.agg #[],.slice (some ⟨b,off,none⟩) l.length cap] w0 fun v w'=>Agr Nob w0 w'∧v=.int .u64 ((be (l.take 8):Nat):Int):=by
 refine aAy Tryz.func179 rfl rfl fun a hk=>?_
 have hk:Kn 54 [(0,.agg #[]),(1,.slice (some ⟨b,off,none⟩) l.length cap)] a:=hk
 have hm:Mem w0 Nob Y [.cel b off (bv l)] w0:=Mem.start rfl (by simp only[List.forall_mem_cons,List.not_mem_nil,false_imp_iff,implies_true,and_true];exact hC)
 refine cR0 ?_
 refine aFB hk hm rfl rfl rfl fun a b1 w hk hm=>?_
 refine oA0 hk rfl rfl fun a hk=>?_
 refine cE0 ?_
 refine cR0 ?_
 refine oM0 hk rfl rfl fun a hk=>?_
 refine oI0 (j:=7) hk aA9 aDQ rfl rfl (by omega) rfl fun a hk=>?_
 refine aAq hk aDQ rfl (hm.cell_cel (i:=1) (j:=7) rfl (aFc (by omega))) rfl fun a hk=>?_
 refine cE0 ?_
 refine wp_seq ?_
 refine aAW (K:=46) mixed hm fun w hm=>?_
 refine aAh (i:=0) rfl rfl rfl (by kernel_rfl) (fun _ _ _ h=>h) hk rfl (fun w hm=>aA6 hk rfl) hm fun a hk=>?_
 refine aAh (i:=1) rfl rfl rfl (by kernel_rfl) (fun _ _ _ h=>h) hk rfl (fun w hm=>aA4 (j:=7) hk aA9 aDQ rfl rfl (by omega)) hm fun a hk=>?_
 refine aAh (i:=2) rfl rfl rfl (by kernel_rfl) (fun _ _ _ h=>h) hk rfl (fun w hm=>aAL hk aDQ rfl (hm.cell_cel (i:=1) (j:=7) rfl (aFc (by omega)))) hm fun a hk=>?_
 refine aAh (i:=3) rfl rfl rfl (by kernel_rfl) (fun _ _ _ h=>h) hk rfl (fun w hm=>aDR (c:=(((l.getD 7 0).toNat:Nat):Int)) hk (Option.isSome_iff_exists.1 aNF) aHE rfl (aBe rfl (by have:=(l.getD 7 0).toNat_lt;simp only[IntKind.bits];omega))) hm fun a hk=>?_
 refine aAh (i:=4) rfl rfl rfl (by kernel_rfl) (fun _ _ _ h=>h) hk rfl (fun w hm=>aA6 hk rfl) hm fun a hk=>?_
 refine aAh (i:=5) rfl rfl rfl (by kernel_rfl) (fun _ _ _ h=>h) hk rfl (fun w hm=>aA4 (j:=6) hk aA9 aDQ rfl rfl (by omega)) hm fun a hk=>?_
 refine aAh (i:=6) rfl rfl rfl (by kernel_rfl) (fun _ _ _ h=>h) hk rfl (fun w hm=>aAL hk aDQ rfl (hm.cell_cel (i:=1) (j:=6) rfl (aFc (by omega)))) hm fun a hk=>?_
 refine aAh (i:=7) rfl rfl rfl (by kernel_rfl) (fun _ _ _ h=>h) hk rfl (fun w hm=>aDR (c:=(((l.getD 6 0).toNat:Nat):Int)) hk (Option.isSome_iff_exists.1 aNF) aHE rfl (aBe rfl (by have:=(l.getD 6 0).toNat_lt;simp only[IntKind.bits];omega))) hm fun a hk=>?_
 refine aAh (i:=8) rfl rfl rfl (by kernel_rfl) (fun _ _ _ h=>h) hk rfl (fun w hm=>aQg (s:=8) (c:=(((l.getD 6 0).toNat*2 ^ 8:Nat):Int)) hk rfl rfl (by have:=(l.getD 6 0).toNat_lt;rw[← aDH];exact aBe rfl (by simp only[IntKind.bits];omega))) hm fun a hk=>?_
 refine aAh (i:=9) rfl rfl rfl (by kernel_rfl) (fun _ _ _ h=>h) hk rfl (fun w hm=>aJu (c:=((((l.getD 7 0).toNat+(l.getD 6 0).toNat*2 ^ 8):Nat):Int)) hk rfl rfl (by have h0:=(l.getD 0 0).toNat_lt;have h1:=(l.getD 1 0).toNat_lt;have h2:=(l.getD 2 0).toNat_lt;have h3:=(l.getD 3 0).toNat_lt;have h4:=(l.getD 4 0).toNat_lt;have h5:=(l.getD 5 0).toNat_lt;have h6:=(l.getD 6 0).toNat_lt;have h7:=(l.getD 7 0).toNat_lt;exact aE4 rfl ((l.getD 7 0).toNat) ((l.getD 6 0).toNat) 8 (by omega) (by simp only[IntKind.bits];omega))) hm fun a hk=>?_
 refine aAh (i:=10) rfl rfl rfl (by kernel_rfl) (fun _ _ _ h=>h) hk rfl (fun w hm=>aA6 hk rfl) hm fun a hk=>?_
 refine aAh (i:=11) rfl rfl rfl (by kernel_rfl) (fun _ _ _ h=>h) hk rfl (fun w hm=>aA4 (j:=5) hk aA9 aDQ rfl rfl (by omega)) hm fun a hk=>?_
 refine aAh (i:=12) rfl rfl rfl (by kernel_rfl) (fun _ _ _ h=>h) hk rfl (fun w hm=>aAL hk aDQ rfl (hm.cell_cel (i:=1) (j:=5) rfl (aFc (by omega)))) hm fun a hk=>?_
 refine aAh (i:=13) rfl rfl rfl (by kernel_rfl) (fun _ _ _ h=>h) hk rfl (fun w hm=>aDR (c:=(((l.getD 5 0).toNat:Nat):Int)) hk (Option.isSome_iff_exists.1 aNF) aHE rfl (aBe rfl (by have:=(l.getD 5 0).toNat_lt;simp only[IntKind.bits];omega))) hm fun a hk=>?_
 refine aAh (i:=14) rfl rfl rfl (by kernel_rfl) (fun _ _ _ h=>h) hk rfl (fun w hm=>aQg (s:=16) (c:=(((l.getD 5 0).toNat*2 ^ 16:Nat):Int)) hk rfl rfl (by have:=(l.getD 5 0).toNat_lt;rw[← aDH];exact aBe rfl (by simp only[IntKind.bits];omega))) hm fun a hk=>?_
 refine aAh (i:=15) rfl rfl rfl (by kernel_rfl) (fun _ _ _ h=>h) hk rfl (fun w hm=>aJu (c:=(((((l.getD 7 0).toNat+(l.getD 6 0).toNat*2 ^ 8)+(l.getD 5 0).toNat*2 ^ 16):Nat):Int)) hk rfl rfl (by have h0:=(l.getD 0 0).toNat_lt;have h1:=(l.getD 1 0).toNat_lt;have h2:=(l.getD 2 0).toNat_lt;have h3:=(l.getD 3 0).toNat_lt;have h4:=(l.getD 4 0).toNat_lt;have h5:=(l.getD 5 0).toNat_lt;have h6:=(l.getD 6 0).toNat_lt;have h7:=(l.getD 7 0).toNat_lt;exact aE4 rfl ((l.getD 7 0).toNat+(l.getD 6 0).toNat*2 ^ 8) ((l.getD 5 0).toNat) 16 (by omega) (by simp only[IntKind.bits];omega))) hm fun a hk=>?_
 refine aAh (i:=16) rfl rfl rfl (by kernel_rfl) (fun _ _ _ h=>h) hk rfl (fun w hm=>aA6 hk rfl) hm fun a hk=>?_
 refine aAh (i:=17) rfl rfl rfl (by kernel_rfl) (fun _ _ _ h=>h) hk rfl (fun w hm=>aA4 (j:=4) hk aA9 aDQ rfl rfl (by omega)) hm fun a hk=>?_
 refine aAh (i:=18) rfl rfl rfl (by kernel_rfl) (fun _ _ _ h=>h) hk rfl (fun w hm=>aAL hk aDQ rfl (hm.cell_cel (i:=1) (j:=4) rfl (aFc (by omega)))) hm fun a hk=>?_
 refine aAh (i:=19) rfl rfl rfl (by kernel_rfl) (fun _ _ _ h=>h) hk rfl (fun w hm=>aDR (c:=(((l.getD 4 0).toNat:Nat):Int)) hk (Option.isSome_iff_exists.1 aNF) aHE rfl (aBe rfl (by have:=(l.getD 4 0).toNat_lt;simp only[IntKind.bits];omega))) hm fun a hk=>?_
 refine aAh (i:=20) rfl rfl rfl (by kernel_rfl) (fun _ _ _ h=>h) hk rfl (fun w hm=>aQg (s:=24) (c:=(((l.getD 4 0).toNat*2 ^ 24:Nat):Int)) hk rfl rfl (by have:=(l.getD 4 0).toNat_lt;rw[← aDH];exact aBe rfl (by simp only[IntKind.bits];omega))) hm fun a hk=>?_
 refine aAh (i:=21) rfl rfl rfl (by kernel_rfl) (fun _ _ _ h=>h) hk rfl (fun w hm=>aJu (c:=((((((l.getD 7 0).toNat+(l.getD 6 0).toNat*2 ^ 8)+(l.getD 5 0).toNat*2 ^ 16)+(l.getD 4 0).toNat*2 ^ 24):Nat):Int)) hk rfl rfl (by have h0:=(l.getD 0 0).toNat_lt;have h1:=(l.getD 1 0).toNat_lt;have h2:=(l.getD 2 0).toNat_lt;have h3:=(l.getD 3 0).toNat_lt;have h4:=(l.getD 4 0).toNat_lt;have h5:=(l.getD 5 0).toNat_lt;have h6:=(l.getD 6 0).toNat_lt;have h7:=(l.getD 7 0).toNat_lt;exact aE4 rfl (((l.getD 7 0).toNat+(l.getD 6 0).toNat*2 ^ 8)+(l.getD 5 0).toNat*2 ^ 16) ((l.getD 4 0).toNat) 24 (by omega) (by simp only[IntKind.bits];omega))) hm fun a hk=>?_
 refine aAh (i:=22) rfl rfl rfl (by kernel_rfl) (fun _ _ _ h=>h) hk rfl (fun w hm=>aA6 hk rfl) hm fun a hk=>?_
 refine aAh (i:=23) rfl rfl rfl (by kernel_rfl) (fun _ _ _ h=>h) hk rfl (fun w hm=>aA4 (j:=3) hk aA9 aDQ rfl rfl (by omega)) hm fun a hk=>?_
 refine aAh (i:=24) rfl rfl rfl (by kernel_rfl) (fun _ _ _ h=>h) hk rfl (fun w hm=>aAL hk aDQ rfl (hm.cell_cel (i:=1) (j:=3) rfl (aFc (by omega)))) hm fun a hk=>?_
 refine aAh (i:=25) rfl rfl rfl (by kernel_rfl) (fun _ _ _ h=>h) hk rfl (fun w hm=>aDR (c:=(((l.getD 3 0).toNat:Nat):Int)) hk (Option.isSome_iff_exists.1 aNF) aHE rfl (aBe rfl (by have:=(l.getD 3 0).toNat_lt;simp only[IntKind.bits];omega))) hm fun a hk=>?_
 refine aAh (i:=26) rfl rfl rfl (by kernel_rfl) (fun _ _ _ h=>h) hk rfl (fun w hm=>aQg (s:=32) (c:=(((l.getD 3 0).toNat*2 ^ 32:Nat):Int)) hk rfl rfl (by have:=(l.getD 3 0).toNat_lt;rw[← aDH];exact aBe rfl (by simp only[IntKind.bits];omega))) hm fun a hk=>?_
 refine aAh (i:=27) rfl rfl rfl (by kernel_rfl) (fun _ _ _ h=>h) hk rfl (fun w hm=>aJu (c:=(((((((l.getD 7 0).toNat+(l.getD 6 0).toNat*2 ^ 8)+(l.getD 5 0).toNat*2 ^ 16)+(l.getD 4 0).toNat*2 ^ 24)+(l.getD 3 0).toNat*2 ^ 32):Nat):Int)) hk rfl rfl (by have h0:=(l.getD 0 0).toNat_lt;have h1:=(l.getD 1 0).toNat_lt;have h2:=(l.getD 2 0).toNat_lt;have h3:=(l.getD 3 0).toNat_lt;have h4:=(l.getD 4 0).toNat_lt;have h5:=(l.getD 5 0).toNat_lt;have h6:=(l.getD 6 0).toNat_lt;have h7:=(l.getD 7 0).toNat_lt;exact aE4 rfl ((((l.getD 7 0).toNat+(l.getD 6 0).toNat*2 ^ 8)+(l.getD 5 0).toNat*2 ^ 16)+(l.getD 4 0).toNat*2 ^ 24) ((l.getD 3 0).toNat) 32 (by omega) (by simp only[IntKind.bits];omega))) hm fun a hk=>?_
 refine aAh (i:=28) rfl rfl rfl (by kernel_rfl) (fun _ _ _ h=>h) hk rfl (fun w hm=>aA6 hk rfl) hm fun a hk=>?_
 refine aAh (i:=29) rfl rfl rfl (by kernel_rfl) (fun _ _ _ h=>h) hk rfl (fun w hm=>aA4 (j:=2) hk aA9 aDQ rfl rfl (by omega)) hm fun a hk=>?_
 refine aAh (i:=30) rfl rfl rfl (by kernel_rfl) (fun _ _ _ h=>h) hk rfl (fun w hm=>aAL hk aDQ rfl (hm.cell_cel (i:=1) (j:=2) rfl (aFc (by omega)))) hm fun a hk=>?_
 refine aAh (i:=31) rfl rfl rfl (by kernel_rfl) (fun _ _ _ h=>h) hk rfl (fun w hm=>aDR (c:=(((l.getD 2 0).toNat:Nat):Int)) hk (Option.isSome_iff_exists.1 aNF) aHE rfl (aBe rfl (by have:=(l.getD 2 0).toNat_lt;simp only[IntKind.bits];omega))) hm fun a hk=>?_
 refine aAh (i:=32) rfl rfl rfl (by kernel_rfl) (fun _ _ _ h=>h) hk rfl (fun w hm=>aQg (s:=40) (c:=(((l.getD 2 0).toNat*2 ^ 40:Nat):Int)) hk rfl rfl (by have:=(l.getD 2 0).toNat_lt;rw[← aDH];exact aBe rfl (by simp only[IntKind.bits];omega))) hm fun a hk=>?_
 refine aAh (i:=33) rfl rfl rfl (by kernel_rfl) (fun _ _ _ h=>h) hk rfl (fun w hm=>aJu (c:=((((((((l.getD 7 0).toNat+(l.getD 6 0).toNat*2 ^ 8)+(l.getD 5 0).toNat*2 ^ 16)+(l.getD 4 0).toNat*2 ^ 24)+(l.getD 3 0).toNat*2 ^ 32)+(l.getD 2 0).toNat*2 ^ 40):Nat):Int)) hk rfl rfl (by have h0:=(l.getD 0 0).toNat_lt;have h1:=(l.getD 1 0).toNat_lt;have h2:=(l.getD 2 0).toNat_lt;have h3:=(l.getD 3 0).toNat_lt;have h4:=(l.getD 4 0).toNat_lt;have h5:=(l.getD 5 0).toNat_lt;have h6:=(l.getD 6 0).toNat_lt;have h7:=(l.getD 7 0).toNat_lt;exact aE4 rfl (((((l.getD 7 0).toNat+(l.getD 6 0).toNat*2 ^ 8)+(l.getD 5 0).toNat*2 ^ 16)+(l.getD 4 0).toNat*2 ^ 24)+(l.getD 3 0).toNat*2 ^ 32) ((l.getD 2 0).toNat) 40 (by omega) (by simp only[IntKind.bits];omega))) hm fun a hk=>?_
 refine aAh (i:=34) rfl rfl rfl (by kernel_rfl) (fun _ _ _ h=>h) hk rfl (fun w hm=>aA6 hk rfl) hm fun a hk=>?_
 refine aAh (i:=35) rfl rfl rfl (by kernel_rfl) (fun _ _ _ h=>h) hk rfl (fun w hm=>aA4 (j:=1) hk aA9 aDQ rfl rfl (by omega)) hm fun a hk=>?_
 refine aAh (i:=36) rfl rfl rfl (by kernel_rfl) (fun _ _ _ h=>h) hk rfl (fun w hm=>aAL hk aDQ rfl (hm.cell_cel (i:=1) (j:=1) rfl (aFc (by omega)))) hm fun a hk=>?_
 refine aAh (i:=37) rfl rfl rfl (by kernel_rfl) (fun _ _ _ h=>h) hk rfl (fun w hm=>aDR (c:=(((l.getD 1 0).toNat:Nat):Int)) hk (Option.isSome_iff_exists.1 aNF) aHE rfl (aBe rfl (by have:=(l.getD 1 0).toNat_lt;simp only[IntKind.bits];omega))) hm fun a hk=>?_
 refine aAh (i:=38) rfl rfl rfl (by kernel_rfl) (fun _ _ _ h=>h) hk rfl (fun w hm=>aQg (s:=48) (c:=(((l.getD 1 0).toNat*2 ^ 48:Nat):Int)) hk rfl rfl (by have:=(l.getD 1 0).toNat_lt;rw[← aDH];exact aBe rfl (by simp only[IntKind.bits];omega))) hm fun a hk=>?_
 refine aAh (i:=39) rfl rfl rfl (by kernel_rfl) (fun _ _ _ h=>h) hk rfl (fun w hm=>aJu (c:=(((((((((l.getD 7 0).toNat+(l.getD 6 0).toNat*2 ^ 8)+(l.getD 5 0).toNat*2 ^ 16)+(l.getD 4 0).toNat*2 ^ 24)+(l.getD 3 0).toNat*2 ^ 32)+(l.getD 2 0).toNat*2 ^ 40)+(l.getD 1 0).toNat*2 ^ 48):Nat):Int)) hk rfl rfl (by have h0:=(l.getD 0 0).toNat_lt;have h1:=(l.getD 1 0).toNat_lt;have h2:=(l.getD 2 0).toNat_lt;have h3:=(l.getD 3 0).toNat_lt;have h4:=(l.getD 4 0).toNat_lt;have h5:=(l.getD 5 0).toNat_lt;have h6:=(l.getD 6 0).toNat_lt;have h7:=(l.getD 7 0).toNat_lt;exact aE4 rfl ((((((l.getD 7 0).toNat+(l.getD 6 0).toNat*2 ^ 8)+(l.getD 5 0).toNat*2 ^ 16)+(l.getD 4 0).toNat*2 ^ 24)+(l.getD 3 0).toNat*2 ^ 32)+(l.getD 2 0).toNat*2 ^ 40) ((l.getD 1 0).toNat) 48 (by omega) (by simp only[IntKind.bits];omega))) hm fun a hk=>?_
 refine aAt (k:=40) (by kernel_rfl) rfl rfl ?_
 refine oM0 hk rfl rfl fun a hk=>?_
 refine aAb (cT0 ⟨fun _=>hm,?_⟩)
 refine aAt (k:=41) (by kernel_rfl) rfl rfl ?_
 refine oI0 (j:=0) hk aA9 aDQ rfl rfl (by omega) rfl fun a hk=>?_
 refine aAb (cT0 ⟨fun _=>hm,?_⟩)
 refine aAt (k:=42) (by kernel_rfl) rfl rfl ?_
 refine aAq hk aDQ rfl (hm.cell_cel (i:=1) (j:=0) rfl (aFc (by omega))) rfl fun a hk=>?_
 refine aAb (cT0 ⟨fun _=>hm,?_⟩)
 refine aAt (k:=43) (by kernel_rfl) rfl rfl ?_
 refine aAG (c:=(((l.getD 0 0).toNat:Nat):Int)) hk aNF aHE rfl (aBe rfl (by have:=(l.getD 0 0).toNat_lt;simp only[IntKind.bits];omega)) rfl fun a hk=>?_
 refine aAb (cT0 ⟨fun _=>hm,?_⟩)
 refine aAt (k:=44) (by kernel_rfl) rfl rfl ?_
 refine aQ9 (s:=56) (c:=(((l.getD 0 0).toNat*2 ^ 56:Nat):Int)) hk rfl rfl (by have:=(l.getD 0 0).toNat_lt;rw[← aDH];exact aBe rfl (by simp only[IntKind.bits];omega)) rfl fun a hk=>?_
 refine aAb (cT0 ⟨fun _=>hm,?_⟩)
 refine aAt (k:=45) (by kernel_rfl) rfl rfl ?_
 refine aDc (c:=((((((((((l.getD 7 0).toNat+(l.getD 6 0).toNat*2 ^ 8)+(l.getD 5 0).toNat*2 ^ 16)+(l.getD 4 0).toNat*2 ^ 24)+(l.getD 3 0).toNat*2 ^ 32)+(l.getD 2 0).toNat*2 ^ 40)+(l.getD 1 0).toNat*2 ^ 48)+(l.getD 0 0).toNat*2 ^ 56):Nat):Int)) hk rfl rfl (by have h0:=(l.getD 0 0).toNat_lt;have h1:=(l.getD 1 0).toNat_lt;have h2:=(l.getD 2 0).toNat_lt;have h3:=(l.getD 3 0).toNat_lt;have h4:=(l.getD 4 0).toNat_lt;have h5:=(l.getD 5 0).toNat_lt;have h6:=(l.getD 6 0).toNat_lt;have h7:=(l.getD 7 0).toNat_lt;exact aE4 rfl (((((((l.getD 7 0).toNat+(l.getD 6 0).toNat*2 ^ 8)+(l.getD 5 0).toNat*2 ^ 16)+(l.getD 4 0).toNat*2 ^ 24)+(l.getD 3 0).toNat*2 ^ 32)+(l.getD 2 0).toNat*2 ^ 40)+(l.getD 1 0).toNat*2 ^ 48) ((l.getD 0 0).toNat) 56 (by omega) (by simp only[IntKind.bits];omega)) rfl fun a hk=>?_
 refine aAb (cT0 ⟨fun _=>hm,?_⟩)
 refine aAt (k:=46) (by kernel_rfl) rfl rfl ?_
 refine oA0 hk rfl rfl fun a hk=>?_
 refine aAb (cT0 ⟨fun h=>Bool.noConfusion (show true=false from h),?_⟩)
 refine aBh (by kernel_rfl) ?_ _
 refine cT0 ?_
 refine wp_ret ?_
 refine bT0 rfl hk rfl ?_
 exact⟨hm.agr,by rw[aVU hl]⟩
end Go.Proofs.YtipgdlbbmlnfiaaGreatDoor
