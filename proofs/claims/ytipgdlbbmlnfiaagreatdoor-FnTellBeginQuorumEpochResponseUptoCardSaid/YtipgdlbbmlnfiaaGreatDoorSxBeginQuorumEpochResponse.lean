/- Walks of functions that the seat's laws reach. -/
import Derived.Test.YtipgdlbbmlnfiaaGreatDoorL2
import Derived.Test.YtipgdlbbmlnfiaaGreatDoorRows
import Derived.Test.YtipgdlbbmlnfiaaGreatDoorFa
import Derived.Test.YtipgdlbbmlnfiaaGreatDoorSch
import Derived.Test.YtipgdlbbmlnfiaaGreatDoorSi
namespace Go.Proofs.YtipgdlbbmlnfiaaGreatDoor
open Go Go.Mk
theorem aDh {w0:World}{Y:Nat→Prop}:Ret Tryz.prog 63 [] w0 fun v w'=>Agr Nob w0 w'∧∃ p cap,v=.slice p aAg.length cap∧Rep w' (fun b=>b<w0.heap.size∧Y b) (.sl false 8 (aAg.map aBg)) [.slice p aAg.length cap]:=by
  refine aAy Tryz.func63 rfl rfl fun a hk=>?_
  have hk:Kn 6 [] a:=hk
  have hm:Mem w0 Nob Y [] w0:=Mem.start rfl (by simp)
  refine cR0 ?_
  refine oA0 hk rfl rfl fun a hk=>?_
  refine cE0 ?_
  refine cR0 ?_
  refine aAJ (r:=[.int .i64 3,.int .i64 0,.int .i64 (-1),.int .i64 (-1),.int .i64 (-1),.int .i64 0,.int .i64 0,.slice none 0 0]) hk aBm rfl aBo ⟨_,_,_,rfl,rfl,aAZ,rfl,_,_,_,rfl,rfl,aAY,rfl,_,_,_,rfl,rfl,aA2,rfl,_,_,_,rfl,rfl,aA1,rfl,rfl⟩ rfl fun a hk=>?_
  refine aAJ (r:=[.int .i64 2,.int .i64 0,.int .i64 (-1),.int .i64 (-1),.int .i64 (-1),.int .i64 0,.int .i64 0,.slice none 0 0]) hk aBm rfl aBo ⟨_,_,_,rfl,rfl,aAZ,rfl,_,_,_,rfl,rfl,aAY,rfl,_,_,_,rfl,rfl,aA2,rfl,_,_,_,rfl,rfl,aA1,rfl,rfl⟩ rfl fun a hk=>?_
  refine aAJ (r:=[.int .i64 3,.int .i64 0,.int .i64 (-1),.int .i64 (-1),.int .i64 (-1),.int .i64 0,.int .i64 0,.slice none 0 0]) hk aBm rfl aBo ⟨_,_,_,rfl,rfl,aAZ,rfl,_,_,_,rfl,rfl,aAY,rfl,_,_,_,rfl,rfl,aA2,rfl,_,_,_,rfl,rfl,aA1,rfl,rfl⟩ rfl fun a hk=>?_
  refine aAJ (r:=[.int .i64 3,.int .i64 0,.int .i64 (-1),.int .i64 (-1),.int .i64 (-1),.int .i64 0,.int .i64 0,.slice none 0 0]) hk aBm rfl aBo ⟨_,_,_,rfl,rfl,aAZ,rfl,_,_,_,rfl,rfl,aAY,rfl,_,_,_,rfl,rfl,aA2,rfl,_,_,_,rfl,rfl,aA1,rfl,rfl⟩ rfl fun a hk=>?_
  refine aAP (r:=[.int .i64 3,.int .i64 0,.int .i64 (-1),.int .i64 (-1),.int .i64 (-1),.int .i64 0,.int .i64 0,.slice none 0 0,.int .i64 2,.int .i64 0,.int .i64 (-1),.int .i64 (-1),.int .i64 (-1),.int .i64 0,.int .i64 0,.slice none 0 0,.int .i64 3,.int .i64 0,.int .i64 (-1),.int .i64 (-1),.int .i64 (-1),.int .i64 0,.int .i64 0,.slice none 0 0,.int .i64 3,.int .i64 0,.int .i64 (-1),.int .i64 (-1),.int .i64 (-1),.int .i64 0,.int .i64 0,.slice none 0 0]) hk hm aI6 aBm rfl rfl rfl ⟨_,_,_,rfl,rfl,rfl,rfl,_,_,_,rfl,rfl,rfl,rfl,_,_,_,rfl,rfl,rfl,rfl,_,_,_,rfl,rfl,rfl,rfl,aJU (by kernel_rfl)⟩ rfl fun a b1 w hk hm=>?_
  refine oA0 hk rfl rfl fun a hk=>?_
  refine cE0 ?_
  refine wp_ret ?_
  refine bT0 rfl hk rfl ?_
  have hm:=hm.freezeLit (i:=0) (n:=4) (sz:=8) (l:=aAg.map aBg) rfl id rfl rfl (by decide) (show aBf _ _ 8 [aBg (.mk 3 0 (-1) (-1) (-1) 0 0 []),aBg (.mk 2 0 (-1) (-1) (-1) 0 0 []),aBg (.mk 3 0 (-1) (-1) (-1) 0 0 []),aBg (.mk 3 0 (-1) (-1) (-1) 0 0 [])] _ from aBf.consC (c1:=[.int .i64 3,.int .i64 0,.int .i64 (-1),.int .i64 (-1),.int .i64 (-1),.int .i64 0,.int .i64 0,.slice none 0 0]) rfl (aAF (aAS)) (aBf.consC (c1:=[.int .i64 2,.int .i64 0,.int .i64 (-1),.int .i64 (-1),.int .i64 (-1),.int .i64 0,.int .i64 0,.slice none 0 0]) rfl (aAF (aAS)) (aBf.consC (c1:=[.int .i64 3,.int .i64 0,.int .i64 (-1),.int .i64 (-1),.int .i64 (-1),.int .i64 0,.int .i64 0,.slice none 0 0]) rfl (aAF (aAS)) (aBf.consC (c1:=[.int .i64 3,.int .i64 0,.int .i64 (-1),.int .i64 (-1),.int .i64 (-1),.int .i64 0,.int .i64 0,.slice none 0 0]) rfl (aAF (aAS)) (aBf.nil _ _ _)))))
  exact⟨hm.agr,_,_,rfl,hm.out (hm.rep (i:=0) rfl)⟩
theorem aEF {w0:World}{Y:Nat→Prop}:Ret Tryz.prog 28 [] w0 fun v w'=>Agr Nob w0 w'∧∃ p cap,v=.slice p aAp.length cap∧Rep w' (fun b=>b<w0.heap.size∧Y b) (.sl false 8 (aAp.map aBg)) [.slice p aAp.length cap]:=by
  refine aAy Tryz.func28 rfl rfl fun a hk=>?_
  have hk:Kn 5 [] a:=hk
  have hm:Mem w0 Nob Y [] w0:=Mem.start rfl (by simp)
  refine cR0 ?_
  refine oA0 hk rfl rfl fun a hk=>?_
  refine cE0 ?_
  refine cR0 ?_
  refine aAJ (r:=[.int .i64 8,.int .i64 0,.int .i64 (-1),.int .i64 (-1),.int .i64 (-1),.int .i64 0,.int .i64 0,.slice none 0 0]) hk aBm rfl aBo ⟨_,_,_,rfl,rfl,aAZ,rfl,_,_,_,rfl,rfl,aAY,rfl,_,_,_,rfl,rfl,aA2,rfl,_,_,_,rfl,rfl,aA1,rfl,rfl⟩ rfl fun a hk=>?_
  refine aAk hk bBU (aDh (Y:=Yof w0 Y [])) trivial rfl fun v w a hR hk=>?_
  obtain⟨hp,ps1,caps1,rfl,hR⟩:=hR
  have hm:=hm.result hp hR
  refine aAJ (r:=[.int .i64 11,.int .i64 0,.int .i64 (-1),.int .i64 (-1),.int .i64 (-1),.int .i64 0,.int .i64 10,.slice ps1 aAg.length caps1]) hk aBm rfl aBo ⟨_,_,_,rfl,rfl,aAZ,rfl,_,_,_,rfl,rfl,aAY,rfl,_,_,_,rfl,rfl,aA2,rfl,_,_,_,rfl,rfl,aA1,rfl,_,_,_,rfl,rfl,aHY,rfl,_,_,_,rfl,rfl,aG7,rfl,rfl⟩ rfl fun a hk=>?_
  refine aAP (r:=[.int .i64 8,.int .i64 0,.int .i64 (-1),.int .i64 (-1),.int .i64 (-1),.int .i64 0,.int .i64 0,.slice none 0 0,.int .i64 11,.int .i64 0,.int .i64 (-1),.int .i64 (-1),.int .i64 (-1),.int .i64 0,.int .i64 10,.slice ps1 aAg.length caps1]) hk hm aI6 aBm rfl rfl rfl ⟨_,_,_,rfl,rfl,rfl,rfl,_,_,_,rfl,rfl,rfl,rfl,rfl⟩ rfl fun a b1 w hk hm=>?_
  refine oA0 hk rfl rfl fun a hk=>?_
  refine cE0 ?_
  refine wp_ret ?_
  refine bT0 rfl hk rfl ?_
  have hm:=hm.freezeLit (i:=0) (n:=2) (sz:=8) (l:=aAp.map aBg) rfl id rfl rfl (by decide) (show aBf _ _ 8 [aBg (.mk 8 0 (-1) (-1) (-1) 0 0 []),aBg (.mk 11 0 (-1) (-1) (-1) 0 10 aAg)] _ from aBf.consC (c1:=[.int .i64 8,.int .i64 0,.int .i64 (-1),.int .i64 (-1),.int .i64 (-1),.int .i64 0,.int .i64 0,.slice none 0 0]) rfl (aAF (aAS)) (aBf.consC (c1:=[.int .i64 11,.int .i64 0,.int .i64 (-1),.int .i64 (-1),.int .i64 (-1),.int .i64 0,.int .i64 10,.slice ps1 aAg.length caps1]) rfl (aAF (hm.rep (i:=1) rfl)) (aBf.nil _ _ _)))
  exact⟨hm.agr,_,_,rfl,hm.out (hm.rep (i:=0) rfl)⟩
theorem aDG {w0:World}{Y:Nat→Prop}:Ret Tryz.prog 29 [] w0 fun v w'=>Agr Nob w0 w'∧∃ p cap,v=.slice p aAi.length cap∧Rep w' (fun b=>b<w0.heap.size∧Y b) (.sl false 8 (aAi.map aBg)) [.slice p aAi.length cap]:=by
  refine aAy Tryz.func29 rfl rfl fun a hk=>?_
  have hk:Kn 5 [] a:=hk
  have hm:Mem w0 Nob Y [] w0:=Mem.start rfl (by simp)
  refine cR0 ?_
  refine oA0 hk rfl rfl fun a hk=>?_
  refine cE0 ?_
  refine cR0 ?_
  refine aAJ (r:=[.int .i64 3,.int .i64 1,.int .i64 (-1),.int .i64 (-1),.int .i64 (-1),.int .i64 0,.int .i64 0,.slice none 0 0]) hk aBm rfl aBo ⟨_,_,_,rfl,rfl,aAZ,rfl,_,_,_,rfl,rfl,aGy,rfl,_,_,_,rfl,rfl,aAY,rfl,_,_,_,rfl,rfl,aA2,rfl,_,_,_,rfl,rfl,aA1,rfl,rfl⟩ rfl fun a hk=>?_
  refine aAJ (r:=[.int .i64 8,.int .i64 1,.int .i64 (-1),.int .i64 (-1),.int .i64 (-1),.int .i64 0,.int .i64 0,.slice none 0 0]) hk aBm rfl aBo ⟨_,_,_,rfl,rfl,aAZ,rfl,_,_,_,rfl,rfl,aGy,rfl,_,_,_,rfl,rfl,aAY,rfl,_,_,_,rfl,rfl,aA2,rfl,_,_,_,rfl,rfl,aA1,rfl,rfl⟩ rfl fun a hk=>?_
  refine aAJ (r:=[.int .i64 5,.int .i64 1,.int .i64 (-1),.int .i64 (-1),.int .i64 (-1),.int .i64 0,.int .i64 0,.slice none 0 0]) hk aBm rfl aBo ⟨_,_,_,rfl,rfl,aAZ,rfl,_,_,_,rfl,rfl,aGy,rfl,_,_,_,rfl,rfl,aAY,rfl,_,_,_,rfl,rfl,aA2,rfl,_,_,_,rfl,rfl,aA1,rfl,rfl⟩ rfl fun a hk=>?_
  refine aAP (r:=[.int .i64 3,.int .i64 1,.int .i64 (-1),.int .i64 (-1),.int .i64 (-1),.int .i64 0,.int .i64 0,.slice none 0 0,.int .i64 8,.int .i64 1,.int .i64 (-1),.int .i64 (-1),.int .i64 (-1),.int .i64 0,.int .i64 0,.slice none 0 0,.int .i64 5,.int .i64 1,.int .i64 (-1),.int .i64 (-1),.int .i64 (-1),.int .i64 0,.int .i64 0,.slice none 0 0]) hk hm aI6 aBm rfl rfl rfl ⟨_,_,_,rfl,rfl,rfl,rfl,_,_,_,rfl,rfl,rfl,rfl,_,_,_,rfl,rfl,rfl,rfl,rfl⟩ rfl fun a b1 w hk hm=>?_
  refine oA0 hk rfl rfl fun a hk=>?_
  refine cE0 ?_
  refine wp_ret ?_
  refine bT0 rfl hk rfl ?_
  have hm:=hm.freezeLit (i:=0) (n:=3) (sz:=8) (l:=aAi.map aBg) rfl id rfl rfl (by decide) (show aBf _ _ 8 [aBg (.mk 3 1 (-1) (-1) (-1) 0 0 []),aBg (.mk 8 1 (-1) (-1) (-1) 0 0 []),aBg (.mk 5 1 (-1) (-1) (-1) 0 0 [])] _ from aBf.consC (c1:=[.int .i64 3,.int .i64 1,.int .i64 (-1),.int .i64 (-1),.int .i64 (-1),.int .i64 0,.int .i64 0,.slice none 0 0]) rfl (aAF (aAS)) (aBf.consC (c1:=[.int .i64 8,.int .i64 1,.int .i64 (-1),.int .i64 (-1),.int .i64 (-1),.int .i64 0,.int .i64 0,.slice none 0 0]) rfl (aAF (aAS)) (aBf.consC (c1:=[.int .i64 5,.int .i64 1,.int .i64 (-1),.int .i64 (-1),.int .i64 (-1),.int .i64 0,.int .i64 0,.slice none 0 0]) rfl (aAF (aAS)) (aBf.nil _ _ _))))
  exact⟨hm.agr,_,_,rfl,hm.out (hm.rep (i:=0) rfl)⟩
theorem aGi {w0:World}{Y:Nat→Prop}:Ret Tryz.prog 9 [] w0 fun v w'=>Agr Nob w0 w'∧∃ p cap,v=.agg #[.slice p aAa.length cap,.int .i64 1]∧Rep w' (fun b=>b<w0.heap.size∧Y b) (.sl false 8 (aAa.map aBg)) [.slice p aAa.length cap]:=by
  refine aAy Tryz.func9 rfl rfl fun a hk=>?_
  have hk:Kn 8 [] a:=hk
  have hm:Mem w0 Nob Y [] w0:=Mem.start rfl (by simp)
  refine cR0 ?_
  refine aA5 hk hm aMa rfl rfl fun a b1 w hk hm=>?_
  refine cE0 ?_
  refine cR0 ?_
  refine aAJ (r:=[.int .i64 2,.int .i64 0,.int .i64 (-1),.int .i64 (-1),.int .i64 (-1),.int .i64 0,.int .i64 0,.slice none 0 0]) hk aBm rfl aBo ⟨_,_,_,rfl,rfl,aAZ,rfl,_,_,_,rfl,rfl,aAY,rfl,_,_,_,rfl,rfl,aA2,rfl,_,_,_,rfl,rfl,aA1,rfl,rfl⟩ rfl fun a hk=>?_
  refine aAk hk bBr (aEF (Y:=Yof w0 Y [.blk b1 [.slice none 0 0,.int .i64 0] 31])) trivial rfl fun v w a hR hk=>?_
  obtain⟨hp,ps1,caps1,rfl,hR⟩:=hR
  have hm:=hm.result hp hR
  refine aAJ (r:=[.int .i64 11,.int .i64 0,.int .i64 (-1),.int .i64 (-1),.int .i64 (-1),.int .i64 0,.int .i64 10,.slice ps1 aAp.length caps1]) hk aBm rfl aBo ⟨_,_,_,rfl,rfl,aAZ,rfl,_,_,_,rfl,rfl,aAY,rfl,_,_,_,rfl,rfl,aA2,rfl,_,_,_,rfl,rfl,aA1,rfl,_,_,_,rfl,rfl,aHY,rfl,_,_,_,rfl,rfl,aG7,rfl,rfl⟩ rfl fun a hk=>?_
  refine aAk hk bB0 (aDG (Y:=Yof w0 Y [.rep (.sl false 8 (aAp.map aBg)) [.slice ps1 aAp.length caps1],.blk b1 [.slice none 0 0,.int .i64 0] 31])) trivial rfl fun v w a hR hk=>?_
  obtain⟨hp,ps2,caps2,rfl,hR⟩:=hR
  have hm:=hm.result hp hR
  refine aAJ (r:=[.int .i64 11,.int .i64 0,.int .i64 (-1),.int .i64 (-1),.int .i64 0,.int .i64 0,.int .i64 10,.slice ps2 aAi.length caps2]) hk aBm rfl aBo ⟨_,_,_,rfl,rfl,aAZ,rfl,_,_,_,rfl,rfl,aAY,rfl,_,_,_,rfl,rfl,aA2,rfl,_,_,_,rfl,rfl,aA1,rfl,_,_,_,rfl,rfl,aHY,rfl,_,_,_,rfl,rfl,aG7,rfl,rfl⟩ rfl fun a hk=>?_
  refine aAP (r:=[.int .i64 2,.int .i64 0,.int .i64 (-1),.int .i64 (-1),.int .i64 (-1),.int .i64 0,.int .i64 0,.slice none 0 0,.int .i64 11,.int .i64 0,.int .i64 (-1),.int .i64 (-1),.int .i64 (-1),.int .i64 0,.int .i64 10,.slice ps1 aAp.length caps1,.int .i64 11,.int .i64 0,.int .i64 (-1),.int .i64 (-1),.int .i64 0,.int .i64 0,.int .i64 10,.slice ps2 aAi.length caps2]) hk hm aI6 aBm rfl rfl rfl ⟨_,_,_,rfl,rfl,rfl,rfl,_,_,_,rfl,rfl,rfl,rfl,_,_,_,rfl,rfl,rfl,rfl,rfl⟩ rfl fun a b2 w hk hm=>?_
  refine aAJ (r:=[.slice (some ⟨b2,0,none⟩) 3 3,.int .i64 1]) hk aMa rfl aRt ⟨_,_,_,rfl,rfl,aOw,rfl,_,_,_,rfl,rfl,aO1,rfl,rfl⟩ rfl fun a hk=>?_
  refine aAz (i:=3) hk hm aIq rfl rfl rfl rfl rfl rfl (Nat.le_of_ble_eq_true rfl) fun a w hk hm=>?_
  refine cE0 ?_
  refine wp_ret ?_
  refine aDf (i:=3) (cs:=[.slice (some ⟨b2,0,none⟩) 3 3,.int .i64 1]) rfl aIq hk hm rfl rfl ?_
  have hm:=hm.freezeLit (i:=0) (n:=3) (sz:=8) (l:=aAa.map aBg) rfl id rfl rfl (by decide) (show aBf _ _ 8 [aBg (.mk 2 0 (-1) (-1) (-1) 0 0 []),aBg (.mk 11 0 (-1) (-1) (-1) 0 10 aAp),aBg (.mk 11 0 (-1) (-1) 0 0 10 aAi)] _ from aBf.consC (c1:=[.int .i64 2,.int .i64 0,.int .i64 (-1),.int .i64 (-1),.int .i64 (-1),.int .i64 0,.int .i64 0,.slice none 0 0]) rfl (aAF (aAS)) (aBf.consC (c1:=[.int .i64 11,.int .i64 0,.int .i64 (-1),.int .i64 (-1),.int .i64 (-1),.int .i64 0,.int .i64 10,.slice ps1 aAp.length caps1]) rfl (aAF (hm.rep (i:=2) rfl)) (aBf.consC (c1:=[.int .i64 11,.int .i64 0,.int .i64 (-1),.int .i64 (-1),.int .i64 0,.int .i64 0,.int .i64 10,.slice ps2 aAi.length caps2]) rfl (aAF (hm.rep (i:=1) rfl)) (aBf.nil _ _ _))))
  exact⟨hm.agr,_,_,rfl,hm.out (hm.rep (i:=0) rfl)⟩
end Go.Proofs.YtipgdlbbmlnfiaaGreatDoor
