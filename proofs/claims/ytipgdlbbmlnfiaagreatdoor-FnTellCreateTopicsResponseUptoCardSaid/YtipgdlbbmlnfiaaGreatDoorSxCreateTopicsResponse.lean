/- Walks of functions that the seat's laws reach. -/
import Derived.Test.YtipgdlbbmlnfiaaGreatDoorL2
import Derived.Test.YtipgdlbbmlnfiaaGreatDoorRows
import Derived.Test.YtipgdlbbmlnfiaaGreatDoorFa
import Derived.Test.YtipgdlbbmlnfiaaGreatDoorSch
import Derived.Test.YtipgdlbbmlnfiaaGreatDoorSi
namespace Go.Proofs.YtipgdlbbmlnfiaaGreatDoor
open Go Go.Mk
theorem aEs {w0:World}{Y:Nat→Prop}:Ret Tryz.prog 91 [] w0 fun v w'=>Agr Nob w0 w'∧∃ p cap,v=.slice p aAr.length cap∧Rep w' (fun b=>b<w0.heap.size∧Y b) (.sl false 8 (aAr.map aBg)) [.slice p aAr.length cap]:=by
  refine aAy Tryz.func91 rfl rfl fun a hk=>?_
  have hk:Kn 7 [] a:=hk
  have hm:Mem w0 Nob Y [] w0:=Mem.start rfl (by simp)
  refine cR0 ?_
  refine oA0 hk rfl rfl fun a hk=>?_
  refine cE0 ?_
  refine cR0 ?_
  refine aAJ (r:=[.int .i64 8,.int .i64 0,.int .i64 (-1),.int .i64 (-1),.int .i64 (-1),.int .i64 0,.int .i64 0,.slice none 0 0]) hk aBm rfl aBo ⟨_,_,_,rfl,rfl,aAZ,rfl,_,_,_,rfl,rfl,aAY,rfl,_,_,_,rfl,rfl,aA2,rfl,_,_,_,rfl,rfl,aA1,rfl,rfl⟩ rfl fun a hk=>?_
  refine aAJ (r:=[.int .i64 8,.int .i64 0,.int .i64 (-1),.int .i64 0,.int .i64 (-1),.int .i64 0,.int .i64 0,.slice none 0 0]) hk aBm rfl aBo ⟨_,_,_,rfl,rfl,aAZ,rfl,_,_,_,rfl,rfl,aAY,rfl,_,_,_,rfl,rfl,aA2,rfl,_,_,_,rfl,rfl,aA1,rfl,rfl⟩ rfl fun a hk=>?_
  refine aAJ (r:=[.int .i64 0,.int .i64 0,.int .i64 (-1),.int .i64 (-1),.int .i64 (-1),.int .i64 0,.int .i64 0,.slice none 0 0]) hk aBm rfl aBo ⟨_,_,_,rfl,rfl,aAZ,rfl,_,_,_,rfl,rfl,aAY,rfl,_,_,_,rfl,rfl,aA2,rfl,_,_,_,rfl,rfl,aA1,rfl,rfl⟩ rfl fun a hk=>?_
  refine aAJ (r:=[.int .i64 1,.int .i64 0,.int .i64 (-1),.int .i64 (-1),.int .i64 (-1),.int .i64 (-1),.int .i64 0,.slice none 0 0]) hk aBm rfl aBo ⟨_,_,_,rfl,rfl,aAZ,rfl,_,_,_,rfl,rfl,aAY,rfl,_,_,_,rfl,rfl,aA2,rfl,_,_,_,rfl,rfl,aA1,rfl,_,_,_,rfl,rfl,aNo,rfl,rfl⟩ rfl fun a hk=>?_
  refine aAJ (r:=[.int .i64 0,.int .i64 0,.int .i64 (-1),.int .i64 (-1),.int .i64 (-1),.int .i64 0,.int .i64 0,.slice none 0 0]) hk aBm rfl aBo ⟨_,_,_,rfl,rfl,aAZ,rfl,_,_,_,rfl,rfl,aAY,rfl,_,_,_,rfl,rfl,aA2,rfl,_,_,_,rfl,rfl,aA1,rfl,rfl⟩ rfl fun a hk=>?_
  refine aAP (r:=[.int .i64 8,.int .i64 0,.int .i64 (-1),.int .i64 (-1),.int .i64 (-1),.int .i64 0,.int .i64 0,.slice none 0 0,.int .i64 8,.int .i64 0,.int .i64 (-1),.int .i64 0,.int .i64 (-1),.int .i64 0,.int .i64 0,.slice none 0 0,.int .i64 0,.int .i64 0,.int .i64 (-1),.int .i64 (-1),.int .i64 (-1),.int .i64 0,.int .i64 0,.slice none 0 0,.int .i64 1,.int .i64 0,.int .i64 (-1),.int .i64 (-1),.int .i64 (-1),.int .i64 (-1),.int .i64 0,.slice none 0 0,.int .i64 0,.int .i64 0,.int .i64 (-1),.int .i64 (-1),.int .i64 (-1),.int .i64 0,.int .i64 0,.slice none 0 0]) hk hm aI6 aBm rfl rfl rfl ⟨_,_,_,rfl,rfl,rfl,rfl,_,_,_,rfl,rfl,rfl,rfl,_,_,_,rfl,rfl,rfl,rfl,_,_,_,rfl,rfl,rfl,rfl,_,_,_,rfl,rfl,rfl,rfl,aJU (by kernel_rfl)⟩ rfl fun a b1 w hk hm=>?_
  refine oA0 hk rfl rfl fun a hk=>?_
  refine cE0 ?_
  refine wp_ret ?_
  refine bT0 rfl hk rfl ?_
  have hm:=hm.freezeLit (i:=0) (n:=5) (sz:=8) (l:=aAr.map aBg) rfl id rfl rfl (by decide) (show aBf _ _ 8 [aBg (.mk 8 0 (-1) (-1) (-1) 0 0 []),aBg (.mk 8 0 (-1) 0 (-1) 0 0 []),aBg (.mk 0 0 (-1) (-1) (-1) 0 0 []),aBg (.mk 1 0 (-1) (-1) (-1) (-1) 0 []),aBg (.mk 0 0 (-1) (-1) (-1) 0 0 [])] _ from aBf.consC (c1:=[.int .i64 8,.int .i64 0,.int .i64 (-1),.int .i64 (-1),.int .i64 (-1),.int .i64 0,.int .i64 0,.slice none 0 0]) rfl (aAF (aAS)) (aBf.consC (c1:=[.int .i64 8,.int .i64 0,.int .i64 (-1),.int .i64 0,.int .i64 (-1),.int .i64 0,.int .i64 0,.slice none 0 0]) rfl (aAF (aAS)) (aBf.consC (c1:=[.int .i64 0,.int .i64 0,.int .i64 (-1),.int .i64 (-1),.int .i64 (-1),.int .i64 0,.int .i64 0,.slice none 0 0]) rfl (aAF (aAS)) (aBf.consC (c1:=[.int .i64 1,.int .i64 0,.int .i64 (-1),.int .i64 (-1),.int .i64 (-1),.int .i64 (-1),.int .i64 0,.slice none 0 0]) rfl (aAF (aAS)) (aBf.consC (c1:=[.int .i64 0,.int .i64 0,.int .i64 (-1),.int .i64 (-1),.int .i64 (-1),.int .i64 0,.int .i64 0,.slice none 0 0]) rfl (aAF (aAS)) (aBf.nil _ _ _))))))
  exact⟨hm.agr,_,_,rfl,hm.out (hm.rep (i:=0) rfl)⟩
theorem aFF {w0:World}{Y:Nat→Prop}:Ret Tryz.prog 57 [] w0 fun v w'=>Agr Nob w0 w'∧∃ p cap,v=.slice p aAw.length cap∧Rep w' (fun b=>b<w0.heap.size∧Y b) (.sl false 8 (aAw.map aBg)) [.slice p aAw.length cap]:=by
  refine aAy Tryz.func57 rfl rfl fun a hk=>?_
  have hk:Kn 11 [] a:=hk
  have hm:Mem w0 Nob Y [] w0:=Mem.start rfl (by simp)
  refine cR0 ?_
  refine oA0 hk rfl rfl fun a hk=>?_
  refine cE0 ?_
  refine cR0 ?_
  refine aAJ (r:=[.int .i64 8,.int .i64 0,.int .i64 (-1),.int .i64 (-1),.int .i64 (-1),.int .i64 0,.int .i64 0,.slice none 0 0]) hk aBm rfl aBo ⟨_,_,_,rfl,rfl,aAZ,rfl,_,_,_,rfl,rfl,aAY,rfl,_,_,_,rfl,rfl,aA2,rfl,_,_,_,rfl,rfl,aA1,rfl,rfl⟩ rfl fun a hk=>?_
  refine aAJ (r:=[.int .i64 7,.int .i64 7,.int .i64 (-1),.int .i64 (-1),.int .i64 (-1),.int .i64 0,.int .i64 0,.slice none 0 0]) hk aBm rfl aBo ⟨_,_,_,rfl,rfl,aAZ,rfl,_,_,_,rfl,rfl,aGy,rfl,_,_,_,rfl,rfl,aAY,rfl,_,_,_,rfl,rfl,aA2,rfl,_,_,_,rfl,rfl,aA1,rfl,rfl⟩ rfl fun a hk=>?_
  refine aAJ (r:=[.int .i64 2,.int .i64 0,.int .i64 (-1),.int .i64 (-1),.int .i64 (-1),.int .i64 0,.int .i64 0,.slice none 0 0]) hk aBm rfl aBo ⟨_,_,_,rfl,rfl,aAZ,rfl,_,_,_,rfl,rfl,aAY,rfl,_,_,_,rfl,rfl,aA2,rfl,_,_,_,rfl,rfl,aA1,rfl,rfl⟩ rfl fun a hk=>?_
  refine aAJ (r:=[.int .i64 8,.int .i64 1,.int .i64 (-1),.int .i64 1,.int .i64 (-1),.int .i64 0,.int .i64 0,.slice none 0 0]) hk aBm rfl aBo ⟨_,_,_,rfl,rfl,aAZ,rfl,_,_,_,rfl,rfl,aGy,rfl,_,_,_,rfl,rfl,aAY,rfl,_,_,_,rfl,rfl,aA2,rfl,_,_,_,rfl,rfl,aA1,rfl,rfl⟩ rfl fun a hk=>?_
  refine aAJ (r:=[.int .i64 2,.int .i64 0,.int .i64 (-1),.int .i64 (-1),.int .i64 0,.int .i64 0,.int .i64 0,.slice none 0 0]) hk aBm rfl aBo ⟨_,_,_,rfl,rfl,aAZ,rfl,_,_,_,rfl,rfl,aAY,rfl,_,_,_,rfl,rfl,aA2,rfl,_,_,_,rfl,rfl,aA1,rfl,rfl⟩ rfl fun a hk=>?_
  refine aAJ (r:=[.int .i64 3,.int .i64 5,.int .i64 (-1),.int .i64 (-1),.int .i64 (-1),.int .i64 (-1),.int .i64 0,.slice none 0 0]) hk aBm rfl aBo ⟨_,_,_,rfl,rfl,aAZ,rfl,_,_,_,rfl,rfl,aGy,rfl,_,_,_,rfl,rfl,aAY,rfl,_,_,_,rfl,rfl,aA2,rfl,_,_,_,rfl,rfl,aA1,rfl,_,_,_,rfl,rfl,aNo,rfl,rfl⟩ rfl fun a hk=>?_
  refine aAJ (r:=[.int .i64 2,.int .i64 5,.int .i64 (-1),.int .i64 (-1),.int .i64 (-1),.int .i64 (-1),.int .i64 0,.slice none 0 0]) hk aBm rfl aBo ⟨_,_,_,rfl,rfl,aAZ,rfl,_,_,_,rfl,rfl,aGy,rfl,_,_,_,rfl,rfl,aAY,rfl,_,_,_,rfl,rfl,aA2,rfl,_,_,_,rfl,rfl,aA1,rfl,_,_,_,rfl,rfl,aNo,rfl,rfl⟩ rfl fun a hk=>?_
  refine aAk hk bBX (aEs (Y:=Yof w0 Y [])) trivial rfl fun v w a hR hk=>?_
  obtain⟨hp,ps1,caps1,rfl,hR⟩:=hR
  have hm:=hm.result hp hR
  refine aAJ (r:=[.int .i64 11,.int .i64 5,.int .i64 (-1),.int .i64 5,.int .i64 (-1),.int .i64 0,.int .i64 10,.slice ps1 aAr.length caps1]) hk aBm rfl aBo ⟨_,_,_,rfl,rfl,aAZ,rfl,_,_,_,rfl,rfl,aGy,rfl,_,_,_,rfl,rfl,aAY,rfl,_,_,_,rfl,rfl,aA2,rfl,_,_,_,rfl,rfl,aA1,rfl,_,_,_,rfl,rfl,aHY,rfl,_,_,_,rfl,rfl,aG7,rfl,rfl⟩ rfl fun a hk=>?_
  refine aAP (r:=[.int .i64 8,.int .i64 0,.int .i64 (-1),.int .i64 (-1),.int .i64 (-1),.int .i64 0,.int .i64 0,.slice none 0 0,.int .i64 7,.int .i64 7,.int .i64 (-1),.int .i64 (-1),.int .i64 (-1),.int .i64 0,.int .i64 0,.slice none 0 0,.int .i64 2,.int .i64 0,.int .i64 (-1),.int .i64 (-1),.int .i64 (-1),.int .i64 0,.int .i64 0,.slice none 0 0,.int .i64 8,.int .i64 1,.int .i64 (-1),.int .i64 1,.int .i64 (-1),.int .i64 0,.int .i64 0,.slice none 0 0,.int .i64 2,.int .i64 0,.int .i64 (-1),.int .i64 (-1),.int .i64 0,.int .i64 0,.int .i64 0,.slice none 0 0,.int .i64 3,.int .i64 5,.int .i64 (-1),.int .i64 (-1),.int .i64 (-1),.int .i64 (-1),.int .i64 0,.slice none 0 0,.int .i64 2,.int .i64 5,.int .i64 (-1),.int .i64 (-1),.int .i64 (-1),.int .i64 (-1),.int .i64 0,.slice none 0 0,.int .i64 11,.int .i64 5,.int .i64 (-1),.int .i64 5,.int .i64 (-1),.int .i64 0,.int .i64 10,.slice ps1 aAr.length caps1]) hk hm aI6 aBm rfl rfl rfl ⟨_,_,_,rfl,rfl,rfl,rfl,_,_,_,rfl,rfl,rfl,rfl,_,_,_,rfl,rfl,rfl,rfl,_,_,_,rfl,rfl,rfl,rfl,_,_,_,rfl,rfl,rfl,rfl,_,_,_,rfl,rfl,rfl,rfl,_,_,_,rfl,rfl,rfl,rfl,_,_,_,rfl,rfl,rfl,rfl,aJU (by kernel_rfl)⟩ rfl fun a b1 w hk hm=>?_
  refine oA0 hk rfl rfl fun a hk=>?_
  refine cE0 ?_
  refine wp_ret ?_
  refine bT0 rfl hk rfl ?_
  have hm:=hm.freezeLit (i:=0) (n:=8) (sz:=8) (l:=aAw.map aBg) rfl id rfl rfl (by decide) (show aBf _ _ 8 [aBg (.mk 8 0 (-1) (-1) (-1) 0 0 []),aBg (.mk 7 7 (-1) (-1) (-1) 0 0 []),aBg (.mk 2 0 (-1) (-1) (-1) 0 0 []),aBg (.mk 8 1 (-1) 1 (-1) 0 0 []),aBg (.mk 2 0 (-1) (-1) 0 0 0 []),aBg (.mk 3 5 (-1) (-1) (-1) (-1) 0 []),aBg (.mk 2 5 (-1) (-1) (-1) (-1) 0 []),aBg (.mk 11 5 (-1) 5 (-1) 0 10 aAr)] _ from aBf.consC (c1:=[.int .i64 8,.int .i64 0,.int .i64 (-1),.int .i64 (-1),.int .i64 (-1),.int .i64 0,.int .i64 0,.slice none 0 0]) rfl (aAF (aAS)) (aBf.consC (c1:=[.int .i64 7,.int .i64 7,.int .i64 (-1),.int .i64 (-1),.int .i64 (-1),.int .i64 0,.int .i64 0,.slice none 0 0]) rfl (aAF (aAS)) (aBf.consC (c1:=[.int .i64 2,.int .i64 0,.int .i64 (-1),.int .i64 (-1),.int .i64 (-1),.int .i64 0,.int .i64 0,.slice none 0 0]) rfl (aAF (aAS)) (aBf.consC (c1:=[.int .i64 8,.int .i64 1,.int .i64 (-1),.int .i64 1,.int .i64 (-1),.int .i64 0,.int .i64 0,.slice none 0 0]) rfl (aAF (aAS)) (aBf.consC (c1:=[.int .i64 2,.int .i64 0,.int .i64 (-1),.int .i64 (-1),.int .i64 0,.int .i64 0,.int .i64 0,.slice none 0 0]) rfl (aAF (aAS)) (aBf.consC (c1:=[.int .i64 3,.int .i64 5,.int .i64 (-1),.int .i64 (-1),.int .i64 (-1),.int .i64 (-1),.int .i64 0,.slice none 0 0]) rfl (aAF (aAS)) (aBf.consC (c1:=[.int .i64 2,.int .i64 5,.int .i64 (-1),.int .i64 (-1),.int .i64 (-1),.int .i64 (-1),.int .i64 0,.slice none 0 0]) rfl (aAF (aAS)) (aBf.consC (c1:=[.int .i64 11,.int .i64 5,.int .i64 (-1),.int .i64 5,.int .i64 (-1),.int .i64 0,.int .i64 10,.slice ps1 aAr.length caps1]) rfl (aAF (hm.rep (i:=1) rfl)) (aBf.nil _ _ _)))))))))
  exact⟨hm.agr,_,_,rfl,hm.out (hm.rep (i:=0) rfl)⟩
theorem aHu {w0:World}{Y:Nat→Prop}:Ret Tryz.prog 23 [] w0 fun v w'=>Agr Nob w0 w'∧∃ p cap,v=.agg #[.slice p aAe.length cap,.int .i64 5]∧Rep w' (fun b=>b<w0.heap.size∧Y b) (.sl false 8 (aAe.map aBg)) [.slice p aAe.length cap]:=by
  refine aAy Tryz.func23 rfl rfl fun a hk=>?_
  have hk:Kn 6 [] a:=hk
  have hm:Mem w0 Nob Y [] w0:=Mem.start rfl (by simp)
  refine cR0 ?_
  refine aA5 hk hm aMa rfl rfl fun a b1 w hk hm=>?_
  refine cE0 ?_
  refine cR0 ?_
  refine aAJ (r:=[.int .i64 3,.int .i64 2,.int .i64 (-1),.int .i64 (-1),.int .i64 (-1),.int .i64 0,.int .i64 0,.slice none 0 0]) hk aBm rfl aBo ⟨_,_,_,rfl,rfl,aAZ,rfl,_,_,_,rfl,rfl,aGy,rfl,_,_,_,rfl,rfl,aAY,rfl,_,_,_,rfl,rfl,aA2,rfl,_,_,_,rfl,rfl,aA1,rfl,rfl⟩ rfl fun a hk=>?_
  refine aAk hk bB9 (aFF (Y:=Yof w0 Y [.blk b1 [.slice none 0 0,.int .i64 0] 31])) trivial rfl fun v w a hR hk=>?_
  obtain⟨hp,ps1,caps1,rfl,hR⟩:=hR
  have hm:=hm.result hp hR
  refine aAJ (r:=[.int .i64 11,.int .i64 0,.int .i64 (-1),.int .i64 (-1),.int .i64 (-1),.int .i64 0,.int .i64 10,.slice ps1 aAw.length caps1]) hk aBm rfl aBo ⟨_,_,_,rfl,rfl,aAZ,rfl,_,_,_,rfl,rfl,aAY,rfl,_,_,_,rfl,rfl,aA2,rfl,_,_,_,rfl,rfl,aA1,rfl,_,_,_,rfl,rfl,aHY,rfl,_,_,_,rfl,rfl,aG7,rfl,rfl⟩ rfl fun a hk=>?_
  refine aAP (r:=[.int .i64 3,.int .i64 2,.int .i64 (-1),.int .i64 (-1),.int .i64 (-1),.int .i64 0,.int .i64 0,.slice none 0 0,.int .i64 11,.int .i64 0,.int .i64 (-1),.int .i64 (-1),.int .i64 (-1),.int .i64 0,.int .i64 10,.slice ps1 aAw.length caps1]) hk hm aI6 aBm rfl rfl rfl ⟨_,_,_,rfl,rfl,rfl,rfl,_,_,_,rfl,rfl,rfl,rfl,rfl⟩ rfl fun a b2 w hk hm=>?_
  refine aAJ (r:=[.slice (some ⟨b2,0,none⟩) 2 2,.int .i64 5]) hk aMa rfl aRt ⟨_,_,_,rfl,rfl,aOw,rfl,_,_,_,rfl,rfl,aO1,rfl,rfl⟩ rfl fun a hk=>?_
  refine aAz (i:=2) hk hm aIq rfl rfl rfl rfl rfl rfl (Nat.le_of_ble_eq_true rfl) fun a w hk hm=>?_
  refine cE0 ?_
  refine wp_ret ?_
  refine aDf (i:=2) (cs:=[.slice (some ⟨b2,0,none⟩) 2 2,.int .i64 5]) rfl aIq hk hm rfl rfl ?_
  have hm:=hm.freezeLit (i:=0) (n:=2) (sz:=8) (l:=aAe.map aBg) rfl id rfl rfl (by decide) (show aBf _ _ 8 [aBg (.mk 3 2 (-1) (-1) (-1) 0 0 []),aBg (.mk 11 0 (-1) (-1) (-1) 0 10 aAw)] _ from aBf.consC (c1:=[.int .i64 3,.int .i64 2,.int .i64 (-1),.int .i64 (-1),.int .i64 (-1),.int .i64 0,.int .i64 0,.slice none 0 0]) rfl (aAF (aAS)) (aBf.consC (c1:=[.int .i64 11,.int .i64 0,.int .i64 (-1),.int .i64 (-1),.int .i64 (-1),.int .i64 0,.int .i64 10,.slice ps1 aAw.length caps1]) rfl (aAF (hm.rep (i:=1) rfl)) (aBf.nil _ _ _)))
  exact⟨hm.agr,_,_,rfl,hm.out (hm.rep (i:=0) rfl)⟩
end Go.Proofs.YtipgdlbbmlnfiaaGreatDoor
