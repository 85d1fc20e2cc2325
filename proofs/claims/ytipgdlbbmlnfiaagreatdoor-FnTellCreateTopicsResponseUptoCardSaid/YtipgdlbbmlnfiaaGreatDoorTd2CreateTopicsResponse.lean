/- Walks of functions that the seat's laws reach. -/
import Derived.Test.YtipgdlbbmlnfiaaGreatDoorL5
import Derived.Test.YtipgdlbbmlnfiaaGreatDoorRows
import Derived.Test.YtipgdlbbmlnfiaaGreatDoorFa
import Derived.Test.YtipgdlbbmlnfiaaGreatDoorRkCreateTopicsResponse
import Derived.Test.YtipgdlbbmlnfiaaGreatDoorTlCreateTopicsResponse
namespace Go.Proofs.YtipgdlbbmlnfiaaGreatDoor
open Go Go.Mk
theorem aF4 {w0:World}{Y:Nat→Prop}{g:Nat}{V:Int}{x0:Value}{cs:List Value}(hb:w0.heap[g]?=some (.cells (x0::cs).toArray 134 (0,0)))(hg:Y g):Ret Tryz.prog 58 [.pointer (some ⟨g,0,none⟩),.int .i16 V] w0 fun _ w'=>Agr (fun k=>k=g) w0 w'∧w'.heap[g]?=some (.cells (.int .i16 V::cs).toArray 134 (0,0)):=by
 refine aAy Tryz.func58 rfl rfl fun a hk=>?_
 have hk:Kn 8 [(0,.pointer (some ⟨g,0,none⟩)),(1,.int .i16 V)] a:=hk
 have hm:Mem w0 (fun k=>k=g) Y [.blk g (x0::cs) 134] w0:=Mem.startBlk hb hg rfl (by simp)
 refine aC2 ?_
 refine oM0 hk rfl rfl fun a hk=>?_
 refine oM0 hk rfl rfl fun a hk=>?_
 refine oN0 hk rfl rfl fun a hk=>?_
 refine oF0 hk aW2 rfl rfl fun a hk=>?_
 refine aAz (i:=0) hk hm aMb rfl rfl rfl rfl rfl rfl (Nat.succ_le_succ (Nat.zero_le _)) fun a w hk hm=>?_
 refine aAb ?_
 refine aB4 rfl hk ?_
 have hz:=hm.all _ (eA0 (i:=0) rfl)
 simp only[Ent.holds] at hz
 exact⟨hm.agr,hz⟩
theorem aQx {cs:List Value}(h:cs.length=4):∃ x0 x1 x2 x3,cs=[x0,x1,x2,x3]:=by
 match cs,h with
 | [x0,x1,x2,x3],_=>exact⟨x0,x1,x2,x3,rfl⟩
theorem aGT {w0:World}{Y:Nat→Prop}{g:Nat}{cs:List Value}(hb:w0.heap[g]?=some (.cells cs.toArray 134 (0,0)))(hl:cs.length=4)(hg:Y g):Ret Tryz.prog 90 [.pointer (some ⟨g,0,none⟩)] w0 fun _ w'=>Agr (fun k=>k=g) w0 w'∧∃ cs':List Value,cs'.length=4∧w'.heap[g]?=some (.cells cs'.toArray 134 (0,0)):=by
 obtain⟨x0,x1,x2,x3,rfl⟩:=aQx hl
 refine aAy Tryz.func90 rfl rfl fun a hk=>?_
 have hk:Kn 2 [(0,.pointer (some ⟨g,0,none⟩))] a:=hk
 have hm:Mem w0 (fun k=>k=g) Y [.blk g [x0,x1,x2,x3] 134] w0:=Mem.startBlk hb hg rfl (by simp)
 refine wp_skip ?_
 refine aB4 rfl hk ?_
 have hz:=hm.all _ (eA0 (i:=0) rfl)
 simp only[Ent.holds] at hz
 exact⟨hm.agr,_,rfl,hz⟩
theorem aHo {w0:World}{Y:Nat→Prop}:Ret Tryz.prog 55 [] w0 fun v w'=>Agr Nob w0 w'∧∃ b,v=.pointer (some ⟨b,0,none⟩):=by
 refine aAy Tryz.func55 rfl rfl fun a hk=>?_
 have hk:Kn 3 [] a:=hk
 have hm:Mem w0 Nob Y [] w0:=Mem.start rfl (by simp)
 refine cR0 ?_
 refine oA0 hk rfl rfl fun a hk=>?_
 refine cE0 ?_
 refine cR0 ?_
 refine aA5 hk hm aXm rfl rfl fun a b1 w hk hm=>?_
 refine cE0 ?_
 refine cR0 ?_
 refine aAk hk aYS (aGT (hm.all _ (eA0 (i:=0) rfl)) rfl (Y:=Yof w0 Y [.blk b1 [.int .i16 0,.int .i32 0,.slice none 0 0,.map none] 134]) (aE2 (i:=0) rfl)) ⟨rfl,trivial⟩ rfl fun v w a hR hk=>?_
 obtain⟨hp,cs1,hl1,hb1⟩:=hR
 have hm:=hm.write (i:=0) rfl hp hb1
 refine cE0 ?_
 refine cR0 ?_
 refine oA0 hk rfl rfl fun a hk=>?_
 refine cE0 ?_
 refine wp_ret ?_
 refine bT0 rfl hk rfl ?_
 exact⟨hm.agr,_,rfl⟩
theorem aF1 {w0:World}{Y:Nat→Prop}{b:Nat}:Ret Tryz.prog 56 [.pointer (some ⟨b,0,none⟩)] w0 fun v w'=>Agr Nob w0 w'∧v=.int .i16 7:=by
 refine aAy Tryz.func56 rfl rfl fun a hk=>?_
 have hk:Kn 3 [(0,.pointer (some ⟨b,0,none⟩))] a:=hk
 have hm:Mem w0 Nob Y [] w0:=Mem.start rfl (by simp)
 refine cR0 ?_
 refine oA0 hk rfl rfl fun a hk=>?_
 refine cE0 ?_
 refine cR0 ?_
 refine oA0 hk rfl rfl fun a hk=>?_
 refine cE0 ?_
 refine wp_ret ?_
 refine bT0 rfl hk rfl ?_
 exact⟨hm.agr,rfl⟩
theorem aIg {w0:World}{Y:Nat→Prop}:Ret Tryz.prog 22 [] w0 fun v w'=>Agr Nob w0 w'∧v=.int .i64 7:=by
 refine aAy Tryz.func22 rfl rfl fun a hk=>?_
 have hk:Kn 4 [] a:=hk
 have hm:Mem w0 Nob Y [] w0:=Mem.start rfl (by simp)
 refine cR0 ?_
 refine oA0 hk rfl rfl fun a hk=>?_
 refine cE0 ?_
 refine cR0 ?_
 refine aAk hk aZZ (aHo (Y:=Y)) trivial rfl fun v w a hR hk=>?_
 obtain⟨hp,b0,rfl⟩:=hR
 have hm:=hm.pure hp
 refine aAk hk bBJ (aF1 (Y:=Y)) ⟨rfl,trivial⟩ rfl fun v w a hR hk=>?_
 obtain⟨hp,rfl⟩:=hR
 have hm:=hm.pure hp
 refine aAG (c:=7) hk aKQ aTb rfl rfl rfl fun a hk=>?_
 refine oA0 hk rfl rfl fun a hk=>?_
 refine cE0 ?_
 refine wp_ret ?_
 refine bT0 rfl hk rfl ?_
 exact⟨hm.agr,rfl⟩
theorem aIi:(List.range 8).all (fun k=>aL8 aAe ((k:Nat):Int) (decide (((k:Nat):Int)≥5))&&aTo aAe ((k:Nat):Int) (decide (((k:Nat):Int)≥5)))=true:=by kernel_rfl
theorem aG8 {w0:World}{Y:Nat→Prop}{t:T}{sv gv:Value}(k:Nat)(h1:k≤7)(hsn:t.sane=true)(hS:Rep w0 Y (aDJ (aBk aAe ((k:Nat):Int) (decide (((k:Nat):Int)≥5)) t)) [sv])(hroom:(aBk aAe ((k:Nat):Int) (decide (((k:Nat):Int)≥5)) t).length≤room)(hlen:(aBk aAe ((k:Nat):Int) (decide (((k:Nat):Int)≥5)) t).length<4294967296)(hG:Cel w0 Y 1 0 [gv]) :
  Ret Tryz.prog 24 [.int .i64 ((k:Nat):Int),sv] w0 fun v w'=>Agr Nob w0 w'∧∃ c',v=.tuple #[.agg c'.toArray,.bool true]∧Rep w' (fun b=>b<w0.heap.size∧Y b) (ddT (aCo aAe (aGb aAe ((k:Nat):Int) (decide (((k:Nat):Int)≥5)) t))) c':=by
 have hq:=Ea.all_range aIi (k:=k) (by omega)
 rw[Bool.and_eq_true] at hq
 have hpos:=aJb (fs:=aAe) hq.2 t
 have hL:=aJZ (fs:=aAe) rfl hq.1 t hsn hlen
 refine aAy Tryz.func24 rfl rfl fun a hk=>?_
 have hk:Kn 20 [(0,.int .i64 ((k:Nat):Int)),(1,sv)] a:=hk
 have hm:Mem w0 Nob Y [.rep (aDJ (aBk aAe ((k:Nat):Int) (decide (((k:Nat):Int)≥5)) t)) [sv],.cel 1 0 [gv]] w0:=Mem.start rfl (by simp only[List.forall_mem_cons,List.not_mem_nil,false_imp_iff,implies_true,and_true];exact⟨hS,hG⟩)
 refine cR0 ?_
 refine aA5 (cs:=zT) hk hm aJ3 rfl rfl fun a rb w hk hm=>?_
 refine oA0 hk rfl rfl fun a hk=>?_
 refine cE0 ?_
 refine cR0 ?_
 refine aAk hk aZZ aGQ trivial rfl fun v w1 a hR hk=>?_
 obtain⟨ag,lt,rfl,hb⟩:=hR
 have hm:=hm.newBlk ag lt hb
 obtain⟨g,hg⟩ : ∃ g,g=w.heap.size:=⟨_,rfl⟩
 rw[← hg] at hk hm
 refine oA0 hk rfl rfl fun a hk=>?_
 refine cE0 ?_
 refine cR0 ?_
 refine oM0 hk rfl rfl fun a hk=>?_
 refine oM0 hk rfl rfl fun a hk=>?_
 refine aAG (c:=((k:Nat):Int)) hk aVd aSU rfl (by simp only[IntKind.wrap,IntKind.bits,IntKind.signed];simp;omega) rfl fun a hk=>?_
 refine aAk hk bBY (aF4 (hm.all _ (eA0 (i:=0) rfl)) (hm.yofBlk (i:=0) rfl)) ⟨rfl,rfl,trivial⟩ rfl fun v w a hR hk=>?_
 obtain⟨hp,hb1⟩:=hR
 have hm:=hm.write (i:=0) rfl hp hb1
 refine cE0 ?_
 refine wp_seq ?_
 refine cR0 ?_
 refine oM0 hk rfl rfl fun a hk=>?_
 refine oM0 hk rfl rfl fun a hk=>?_
 have hm:=hm.addNil 5 1
 refine aBs (i:=0) hk hm aEZ rfl rfl rfl (aLb aA9 (hm.rep (i:=3) rfl)) (aCK (by omega)) (aD3 (by omega)) rfl fun a v1 w hk hm _=>?_
 have hm:=hm.freezeBytes (i:=0) (s:=aBk aAe ((k:Nat):Int) (decide (((k:Nat):Int)≥5)) t) rfl (Nat.zero_add _)
 refine aAk hk bBW (aGJ k h1 (hm.all _ (eA0 (i:=1) rfl)) (aKR (hm.rep (i:=0) rfl) hpos) (hm.yofBlk (i:=1) rfl) (hm.all _ (eA0 (i:=4) rfl) 0 _ rfl) hL) ⟨rfl,rfl,trivial⟩ rfl fun x w a hR hk=>?_
 obtain⟨hp,rfl,c',hb2,hR2⟩:=aJL rfl hq.1 hsn hlen hR
 have hm:=hm.blkCall (i:=1) rfl hp hb2 hR2
 refine aIo hk (show aJq Tryz.prog 55=true by kernel_rfl) rfl rfl fun a hk=>?_
 refine cE0 ?_
 refine aB9 hk rfl ?_
 refine wp_skip ?_
 refine cT0 ?_
 refine cR0 ?_
 refine oM0 hk rfl rfl fun a hk=>?_
 have hm:=hm.freezeBlk (i:=2) rfl id
 have hcel:Cel w _ g (0+1) c':=(show Cel w _ g 0 (.int .i16 ((k:Nat):Int)::c') from hm.all _ (eA0 (i:=2) rfl)).tl
 refine aAk hk bBI (aHZ hcel (hm.rep (i:=0) rfl) (aK2 _ (aDX rfl (by decide) t))) ⟨rfl,trivial⟩ rfl fun v w a hR hk=>?_
 obtain⟨hp2,c2,rfl,hR3⟩:=hR
 have hm:=hm.result hp2 hR3
 obtain⟨c1,c3,c4,c5,hc2⟩:=aLV (hm.rep (i:=0) rfl)
 have hcl:c2.length=5:=by rw[hc2];rfl
 refine aAz (i:=4) (b:=rb) (off:=0) (v:=.agg c2.toArray) (vs:=c2) (cs:=zT) hk hm aFJ rfl rfl (by simp[cellsOf]) hcl (aEK (hm.rep (i:=0) rfl)) rfl (by rw[hcl];exact Nat.le_refl 5) fun a w hk hm=>?_
 rw[aHc (by rw[hcl];rfl)] at hm
 refine oA0 hk rfl rfl fun a hk=>?_
 refine cE0 ?_
 refine wp_ret ?_
 refine aHN (i:=4) (cs:=c2) rfl (by rw[hcl];exact aFJ) hk hm rfl rfl rfl ⟨hm.agr,c2,rfl,hm.out (hm.rep (i:=0) rfl)⟩
end Go.Proofs.YtipgdlbbmlnfiaaGreatDoor
