/- Walks of functions that the seat's laws reach. -/
import Derived.Test.YtipgdlbbmlnfiaaGreatDoorL2
import Derived.Test.YtipgdlbbmlnfiaaGreatDoorRows
import Derived.Test.YtipgdlbbmlnfiaaGreatDoorFa
import Derived.Test.YtipgdlbbmlnfiaaGreatDoorSch
import Derived.Test.YtipgdlbbmlnfiaaGreatDoorSi
namespace Go.Proofs.YtipgdlbbmlnfiaaGreatDoor
open Go Go.Mk
theorem aDL {w0:World}{Y:Nat→Prop}:Ret Tryz.prog 79 [] w0 fun v w'=>Agr Nob w0 w'∧∃ p cap,v=.slice p aAj.length cap∧Rep w' (fun b=>b<w0.heap.size∧Y b) (.sl false 8 (aAj.map aBg)) [.slice p aAj.length cap]:=by
  refine aAy Tryz.func79 rfl rfl fun a hk=>?_
  have hk:Kn 6 [] a:=hk
  have hm:Mem w0 Nob Y [] w0:=Mem.start rfl (by simp)
  refine cR0 ?_
  refine oA0 hk rfl rfl fun a hk=>?_
  refine cE0 ?_
  refine cR0 ?_
  refine aAJ (r:=[.int .i64 3,.int .i64 0,.int .i64 (-1),.int .i64 (-1),.int .i64 (-1),.int .i64 0,.int .i64 0,.slice none 0 0]) hk aBm rfl aBo ⟨_,_,_,rfl,rfl,aAZ,rfl,_,_,_,rfl,rfl,aAY,rfl,_,_,_,rfl,rfl,aA2,rfl,_,_,_,rfl,rfl,aA1,rfl,rfl⟩ rfl fun a hk=>?_
  refine aAJ (r:=[.int .i64 2,.int .i64 0,.int .i64 (-1),.int .i64 (-1),.int .i64 (-1),.int .i64 0,.int .i64 0,.slice none 0 0]) hk aBm rfl aBo ⟨_,_,_,rfl,rfl,aAZ,rfl,_,_,_,rfl,rfl,aAY,rfl,_,_,_,rfl,rfl,aA2,rfl,_,_,_,rfl,rfl,aA1,rfl,rfl⟩ rfl fun a hk=>?_
  refine aAJ (r:=[.int .i64 3,.int .i64 0,.int .i64 (-1),.int .i64 (-1),.int .i64 (-1),.int .i64 0,.int .i64 0,.slice none 0 0]) hk aBm rfl aBo ⟨_,_,_,rfl,rfl,aAZ,rfl,_,_,_,rfl,rfl,aAY,rfl,_,_,_,rfl,rfl,aA2,rfl,_,_,_,rfl,rfl,aA1,rfl,rfl⟩ rfl fun a hk=>?_
  refine aAJ (r:=[.int .i64 3,.int .i64 0,.int .i64 (-1),.int .i64 (-1),.int .i64 (-1),.int .i64 0,.int .i64 0,.slice none 0 0]) hk aBm rfl aBo ⟨_,_,_,rfl,rfl,aAZ,rfl,_,_,_,rfl,rfl,aAY,rfl,_,_,_,rfl,rfl,aA2,rfl,_,_,_,rfl,rfl,aA1,rfl,rfl⟩ rfl fun a hk=>?_
  refine aAP (r:=[.int .i64 3,.int .i64 0,.int .i64 (-1),.int .i64 (-1),.int .i64 (-1),.int .i64 0,.int .i64 0,.slice none 0 0,.int .i64 2,.int .i64 0,.int .i64 (-1),.int .i64 (-1),.int .i64 (-1),.int .i64 0,.int .i64 0,.slice none 0 0,.int .i64 3,.int .i64 0,.int .i64 (-1),.int .i64 (-1),.int .i64 (-1),.int .i64 0,.int .i64 0,.slice none 0 0,.int .i64 3,.int .i64 0,.int .i64 (-1),.int .i64 (-1),.int .i64 (-1),.int .i64 0,.int .i64 0,.slice none 0 0]) hk hm aI6 aBm rfl rfl rfl ⟨_,_,_,rfl,rfl,rfl,rfl,_,_,_,rfl,rfl,rfl,rfl,_,_,_,rfl,rfl,rfl,rfl,_,_,_,rfl,rfl,rfl,rfl,aJU (by kernel_rfl)⟩ rfl fun a b1 w hk hm=>?_
  refine oA0 hk rfl rfl fun a hk=>?_
  refine cE0 ?_
  refine wp_ret ?_
  refine bT0 rfl hk rfl ?_
  have hm:=hm.freezeLit (i:=0) (n:=4) (sz:=8) (l:=aAj.map aBg) rfl id rfl rfl (by decide) (show aBf _ _ 8 [aBg (.mk 3 0 (-1) (-1) (-1) 0 0 []),aBg (.mk 2 0 (-1) (-1) (-1) 0 0 []),aBg (.mk 3 0 (-1) (-1) (-1) 0 0 []),aBg (.mk 3 0 (-1) (-1) (-1) 0 0 [])] _ from aBf.consC (c1:=[.int .i64 3,.int .i64 0,.int .i64 (-1),.int .i64 (-1),.int .i64 (-1),.int .i64 0,.int .i64 0,.slice none 0 0]) rfl (aAF (aAS)) (aBf.consC (c1:=[.int .i64 2,.int .i64 0,.int .i64 (-1),.int .i64 (-1),.int .i64 (-1),.int .i64 0,.int .i64 0,.slice none 0 0]) rfl (aAF (aAS)) (aBf.consC (c1:=[.int .i64 3,.int .i64 0,.int .i64 (-1),.int .i64 (-1),.int .i64 (-1),.int .i64 0,.int .i64 0,.slice none 0 0]) rfl (aAF (aAS)) (aBf.consC (c1:=[.int .i64 3,.int .i64 0,.int .i64 (-1),.int .i64 (-1),.int .i64 (-1),.int .i64 0,.int .i64 0,.slice none 0 0]) rfl (aAF (aAS)) (aBf.nil _ _ _)))))
  exact⟨hm.agr,_,_,rfl,hm.out (hm.rep (i:=0) rfl)⟩
theorem aFj {w0:World}{Y:Nat→Prop}:Ret Tryz.prog 44 [] w0 fun v w'=>Agr Nob w0 w'∧∃ p cap,v=.slice p aAs.length cap∧Rep w' (fun b=>b<w0.heap.size∧Y b) (.sl false 8 (aAs.map aBg)) [.slice p aAs.length cap]:=by
  refine aAy Tryz.func44 rfl rfl fun a hk=>?_
  have hk:Kn 5 [] a:=hk
  have hm:Mem w0 Nob Y [] w0:=Mem.start rfl (by simp)
  refine cR0 ?_
  refine oA0 hk rfl rfl fun a hk=>?_
  refine cE0 ?_
  refine cR0 ?_
  refine aAJ (r:=[.int .i64 8,.int .i64 0,.int .i64 (-1),.int .i64 (-1),.int .i64 (-1),.int .i64 0,.int .i64 0,.slice none 0 0]) hk aBm rfl aBo ⟨_,_,_,rfl,rfl,aAZ,rfl,_,_,_,rfl,rfl,aAY,rfl,_,_,_,rfl,rfl,aA2,rfl,_,_,_,rfl,rfl,aA1,rfl,rfl⟩ rfl fun a hk=>?_
  refine aAk hk bBD (aDL (Y:=Yof w0 Y [])) trivial rfl fun v w a hR hk=>?_
  obtain⟨hp,ps1,caps1,rfl,hR⟩:=hR
  have hm:=hm.result hp hR
  refine aAJ (r:=[.int .i64 11,.int .i64 0,.int .i64 (-1),.int .i64 (-1),.int .i64 (-1),.int .i64 0,.int .i64 10,.slice ps1 aAj.length caps1]) hk aBm rfl aBo ⟨_,_,_,rfl,rfl,aAZ,rfl,_,_,_,rfl,rfl,aAY,rfl,_,_,_,rfl,rfl,aA2,rfl,_,_,_,rfl,rfl,aA1,rfl,_,_,_,rfl,rfl,aHY,rfl,_,_,_,rfl,rfl,aG7,rfl,rfl⟩ rfl fun a hk=>?_
  refine aAP (r:=[.int .i64 8,.int .i64 0,.int .i64 (-1),.int .i64 (-1),.int .i64 (-1),.int .i64 0,.int .i64 0,.slice none 0 0,.int .i64 11,.int .i64 0,.int .i64 (-1),.int .i64 (-1),.int .i64 (-1),.int .i64 0,.int .i64 10,.slice ps1 aAj.length caps1]) hk hm aI6 aBm rfl rfl rfl ⟨_,_,_,rfl,rfl,rfl,rfl,_,_,_,rfl,rfl,rfl,rfl,rfl⟩ rfl fun a b1 w hk hm=>?_
  refine oA0 hk rfl rfl fun a hk=>?_
  refine cE0 ?_
  refine wp_ret ?_
  refine bT0 rfl hk rfl ?_
  have hm:=hm.freezeLit (i:=0) (n:=2) (sz:=8) (l:=aAs.map aBg) rfl id rfl rfl (by decide) (show aBf _ _ 8 [aBg (.mk 8 0 (-1) (-1) (-1) 0 0 []),aBg (.mk 11 0 (-1) (-1) (-1) 0 10 aAj)] _ from aBf.consC (c1:=[.int .i64 8,.int .i64 0,.int .i64 (-1),.int .i64 (-1),.int .i64 (-1),.int .i64 0,.int .i64 0,.slice none 0 0]) rfl (aAF (aAS)) (aBf.consC (c1:=[.int .i64 11,.int .i64 0,.int .i64 (-1),.int .i64 (-1),.int .i64 (-1),.int .i64 0,.int .i64 10,.slice ps1 aAj.length caps1]) rfl (aAF (hm.rep (i:=1) rfl)) (aBf.nil _ _ _)))
  exact⟨hm.agr,_,_,rfl,hm.out (hm.rep (i:=0) rfl)⟩
theorem aD6 {w0:World}{Y:Nat→Prop}:Ret Tryz.prog 45 [] w0 fun v w'=>Agr Nob w0 w'∧∃ p cap,v=.slice p aAl.length cap∧Rep w' (fun b=>b<w0.heap.size∧Y b) (.sl false 8 (aAl.map aBg)) [.slice p aAl.length cap]:=by
  refine aAy Tryz.func45 rfl rfl fun a hk=>?_
  have hk:Kn 5 [] a:=hk
  have hm:Mem w0 Nob Y [] w0:=Mem.start rfl (by simp)
  refine cR0 ?_
  refine oA0 hk rfl rfl fun a hk=>?_
  refine cE0 ?_
  refine cR0 ?_
  refine aAJ (r:=[.int .i64 3,.int .i64 1,.int .i64 (-1),.int .i64 (-1),.int .i64 (-1),.int .i64 0,.int .i64 0,.slice none 0 0]) hk aBm rfl aBo ⟨_,_,_,rfl,rfl,aAZ,rfl,_,_,_,rfl,rfl,aGy,rfl,_,_,_,rfl,rfl,aAY,rfl,_,_,_,rfl,rfl,aA2,rfl,_,_,_,rfl,rfl,aA1,rfl,rfl⟩ rfl fun a hk=>?_
  refine aAJ (r:=[.int .i64 8,.int .i64 1,.int .i64 (-1),.int .i64 (-1),.int .i64 (-1),.int .i64 0,.int .i64 0,.slice none 0 0]) hk aBm rfl aBo ⟨_,_,_,rfl,rfl,aAZ,rfl,_,_,_,rfl,rfl,aGy,rfl,_,_,_,rfl,rfl,aAY,rfl,_,_,_,rfl,rfl,aA2,rfl,_,_,_,rfl,rfl,aA1,rfl,rfl⟩ rfl fun a hk=>?_
  refine aAJ (r:=[.int .i64 5,.int .i64 1,.int .i64 (-1),.int .i64 (-1),.int .i64 (-1),.int .i64 0,.int .i64 0,.slice none 0 0]) hk aBm rfl aBo ⟨_,_,_,rfl,rfl,aAZ,rfl,_,_,_,rfl,rfl,aGy,rfl,_,_,_,rfl,rfl,aAY,rfl,_,_,_,rfl,rfl,aA2,rfl,_,_,_,rfl,rfl,aA1,rfl,rfl⟩ rfl fun a hk=>?_
  refine aAP (r:=[.int .i64 3,.int .i64 1,.int .i64 (-1),.int .i64 (-1),.int .i64 (-1),.int .i64 0,.int .i64 0,.slice none 0 0,.int .i64 8,.int .i64 1,.int .i64 (-1),.int .i64 (-1),.int .i64 (-1),.int .i64 0,.int .i64 0,.slice none 0 0,.int .i64 5,.int .i64 1,.int .i64 (-1),.int .i64 (-1),.int .i64 (-1),.int .i64 0,.int .i64 0,.slice none 0 0]) hk hm aI6 aBm rfl rfl rfl ⟨_,_,_,rfl,rfl,rfl,rfl,_,_,_,rfl,rfl,rfl,rfl,_,_,_,rfl,rfl,rfl,rfl,rfl⟩ rfl fun a b1 w hk hm=>?_
  refine oA0 hk rfl rfl fun a hk=>?_
  refine cE0 ?_
  refine wp_ret ?_
  refine bT0 rfl hk rfl ?_
  have hm:=hm.freezeLit (i:=0) (n:=3) (sz:=8) (l:=aAl.map aBg) rfl id rfl rfl (by decide) (show aBf _ _ 8 [aBg (.mk 3 1 (-1) (-1) (-1) 0 0 []),aBg (.mk 8 1 (-1) (-1) (-1) 0 0 []),aBg (.mk 5 1 (-1) (-1) (-1) 0 0 [])] _ from aBf.consC (c1:=[.int .i64 3,.int .i64 1,.int .i64 (-1),.int .i64 (-1),.int .i64 (-1),.int .i64 0,.int .i64 0,.slice none 0 0]) rfl (aAF (aAS)) (aBf.consC (c1:=[.int .i64 8,.int .i64 1,.int .i64 (-1),.int .i64 (-1),.int .i64 (-1),.int .i64 0,.int .i64 0,.slice none 0 0]) rfl (aAF (aAS)) (aBf.consC (c1:=[.int .i64 5,.int .i64 1,.int .i64 (-1),.int .i64 (-1),.int .i64 (-1),.int .i64 0,.int .i64 0,.slice none 0 0]) rfl (aAF (aAS)) (aBf.nil _ _ _))))
  exact⟨hm.agr,_,_,rfl,hm.out (hm.rep (i:=0) rfl)⟩
theorem aGW {w0:World}{Y:Nat→Prop}:Ret Tryz.prog 17 [] w0 fun v w'=>Agr Nob w0 w'∧∃ p cap,v=.agg #[.slice p aAc.length cap,.int .i64 1]∧Rep w' (fun b=>b<w0.heap.size∧Y b) (.sl false 8 (aAc.map aBg)) [.slice p aAc.length cap]:=by
  refine aAy Tryz.func17 rfl rfl fun a hk=>?_
  have hk:Kn 8 [] a:=hk
  have hm:Mem w0 Nob Y [] w0:=Mem.start rfl (by simp)
  refine cR0 ?_
  refine aA5 hk hm aMa rfl rfl fun a b1 w hk hm=>?_
  refine cE0 ?_
  refine cR0 ?_
  refine aAJ (r:=[.int .i64 2,.int .i64 0,.int .i64 (-1),.int .i64 (-1),.int .i64 (-1),.int .i64 0,.int .i64 0,.slice none 0 0]) hk aBm rfl aBo ⟨_,_,_,rfl,rfl,aAZ,rfl,_,_,_,rfl,rfl,aAY,rfl,_,_,_,rfl,rfl,aA2,rfl,_,_,_,rfl,rfl,aA1,rfl,rfl⟩ rfl fun a hk=>?_
  refine aAk hk bBQ (aFj (Y:=Yof w0 Y [.blk b1 [.slice none 0 0,.int .i64 0] 31])) trivial rfl fun v w a hR hk=>?_
  obtain⟨hp,ps1,caps1,rfl,hR⟩:=hR
  have hm:=hm.result hp hR
  refine aAJ (r:=[.int .i64 11,.int .i64 0,.int .i64 (-1),.int .i64 (-1),.int .i64 (-1),.int .i64 0,.int .i64 10,.slice ps1 aAs.length caps1]) hk aBm rfl aBo ⟨_,_,_,rfl,rfl,aAZ,rfl,_,_,_,rfl,rfl,aAY,rfl,_,_,_,rfl,rfl,aA2,rfl,_,_,_,rfl,rfl,aA1,rfl,_,_,_,rfl,rfl,aHY,rfl,_,_,_,rfl,rfl,aG7,rfl,rfl⟩ rfl fun a hk=>?_
  refine aAk hk bBv (aD6 (Y:=Yof w0 Y [.rep (.sl false 8 (aAs.map aBg)) [.slice ps1 aAs.length caps1],.blk b1 [.slice none 0 0,.int .i64 0] 31])) trivial rfl fun v w a hR hk=>?_
  obtain⟨hp,ps2,caps2,rfl,hR⟩:=hR
  have hm:=hm.result hp hR
  refine aAJ (r:=[.int .i64 11,.int .i64 0,.int .i64 (-1),.int .i64 (-1),.int .i64 0,.int .i64 0,.int .i64 10,.slice ps2 aAl.length caps2]) hk aBm rfl aBo ⟨_,_,_,rfl,rfl,aAZ,rfl,_,_,_,rfl,rfl,aAY,rfl,_,_,_,rfl,rfl,aA2,rfl,_,_,_,rfl,rfl,aA1,rfl,_,_,_,rfl,rfl,aHY,rfl,_,_,_,rfl,rfl,aG7,rfl,rfl⟩ rfl fun a hk=>?_
  refine aAP (r:=[.int .i64 2,.int .i64 0,.int .i64 (-1),.int .i64 (-1),.int .i64 (-1),.int .i64 0,.int .i64 0,.slice none 0 0,.int .i64 11,.int .i64 0,.int .i64 (-1),.int .i64 (-1),.int .i64 (-1),.int .i64 0,.int .i64 10,.slice ps1 aAs.length caps1,.int .i64 11,.int .i64 0,.int .i64 (-1),.int .i64 (-1),.int .i64 0,.int .i64 0,.int .i64 10,.slice ps2 aAl.length caps2]) hk hm aI6 aBm rfl rfl rfl ⟨_,_,_,rfl,rfl,rfl,rfl,_,_,_,rfl,rfl,rfl,rfl,_,_,_,rfl,rfl,rfl,rfl,rfl⟩ rfl fun a b2 w hk hm=>?_
  refine aAJ (r:=[.slice (some ⟨b2,0,none⟩) 3 3,.int .i64 1]) hk aMa rfl aRt ⟨_,_,_,rfl,rfl,aOw,rfl,_,_,_,rfl,rfl,aO1,rfl,rfl⟩ rfl fun a hk=>?_
  refine aAz (i:=3) hk hm aIq rfl rfl rfl rfl rfl rfl (Nat.le_of_ble_eq_true rfl) fun a w hk hm=>?_
  refine cE0 ?_
  refine wp_ret ?_
  refine aDf (i:=3) (cs:=[.slice (some ⟨b2,0,none⟩) 3 3,.int .i64 1]) rfl aIq hk hm rfl rfl ?_
  have hm:=hm.freezeLit (i:=0) (n:=3) (sz:=8) (l:=aAc.map aBg) rfl id rfl rfl (by decide) (show aBf _ _ 8 [aBg (.mk 2 0 (-1) (-1) (-1) 0 0 []),aBg (.mk 11 0 (-1) (-1) (-1) 0 10 aAs),aBg (.mk 11 0 (-1) (-1) 0 0 10 aAl)] _ from aBf.consC (c1:=[.int .i64 2,.int .i64 0,.int .i64 (-1),.int .i64 (-1),.int .i64 (-1),.int .i64 0,.int .i64 0,.slice none 0 0]) rfl (aAF (aAS)) (aBf.consC (c1:=[.int .i64 11,.int .i64 0,.int .i64 (-1),.int .i64 (-1),.int .i64 (-1),.int .i64 0,.int .i64 10,.slice ps1 aAs.length caps1]) rfl (aAF (hm.rep (i:=2) rfl)) (aBf.consC (c1:=[.int .i64 11,.int .i64 0,.int .i64 (-1),.int .i64 (-1),.int .i64 0,.int .i64 0,.int .i64 10,.slice ps2 aAl.length caps2]) rfl (aAF (hm.rep (i:=1) rfl)) (aBf.nil _ _ _))))
  exact⟨hm.agr,_,_,rfl,hm.out (hm.rep (i:=0) rfl)⟩
end Go.Proofs.YtipgdlbbmlnfiaaGreatDoor
