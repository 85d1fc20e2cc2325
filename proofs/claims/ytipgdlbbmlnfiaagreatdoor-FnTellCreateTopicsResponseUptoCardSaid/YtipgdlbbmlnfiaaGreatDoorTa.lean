/- Walks of functions that the seat's laws reach. -/
import Derived.Test.YtipgdlbbmlnfiaaGreatDoorL4
import Derived.Test.YtipgdlbbmlnfiaaGreatDoorRows
import Derived.Test.YtipgdlbbmlnfiaaGreatDoorFa
import Derived.Test.YtipgdlbbmlnfiaaGreatDoorSa
namespace Go.Proofs.YtipgdlbbmlnfiaaGreatDoor
open Go Go.Mk
theorem aMz {w0:World}{Y:Nat→Prop}{n:Int}(k:Nat):Ret Tryz.prog 77 [.int .i64 (k:Int),.int .i64 n] w0 fun v w'=>Agr Nob w0 w'∧v=.int .i64 (aC3 k n):=by
  refine aAy Tryz.func77 rfl rfl fun a hk=>?_
  have hk:Kn 31 [(0,.int .i64 (k:Int)),(1,.int .i64 n)] a:=hk
  have hm:Mem w0 Nob Y [] w0:=Mem.start rfl (by simp)
  refine cR0 ?_
  refine oA0 hk rfl rfl fun a hk=>?_
  refine cE0 ?_
  refine wp_seq ?_
  refine cR0 ?_
  refine oM0 hk rfl rfl fun a hk=>?_
  refine cE0 ?_
  refine wp_block ?_
  refine cR0 ?_
  refine aAx hk rfl rfl rfl rfl fun a hk=>?_
  refine oA0 hk rfl rfl fun a hk=>?_
  refine cE0 ?_
  refine aAA hk rfl (fun hc=>?_) (fun hc=>?_)
  · have hc1:=eq_of_beq hc
    refine cR0 ?_
    refine oM0 hk rfl rfl fun a hk=>?_
    refine aDc (c:=n%2) hk rfl rfl (aOk n) rfl fun a hk=>?_
    refine oA0 hk rfl rfl fun a hk=>?_
    refine cE0 ?_
    refine wp_ret ?_
    refine aAE ?_
    refine cQ0 ?_
    refine bT0 rfl hk rfl ?_
    exact⟨hm.agr,by first|(have e:=aJP (n:=n) (k:=k) (by omega);rw[e])|(have e:=aJY (n:=n) (k:=k) (by omega);rw[e])|(have e:=aJM (n:=n) (k:=k) (by omega);rw[e])|(have e:=aJX (n:=n) (k:=k) (by omega);rw[e])|(have e:=aJ0 (n:=n) (k:=k) (by omega);rw[e])|(have e:=aJE (n:=n) (k:=k) (by omega) (by omega) (by omega) (by omega) (by omega);rw[e])⟩
  · have hc2:=beq_eq_false_iff_ne.1 hc
    refine cR0 ?_
    refine aAx hk rfl rfl rfl rfl fun a hk=>?_
    refine oA0 hk rfl rfl fun a hk=>?_
    refine cE0 ?_
    refine aAA hk rfl (fun hc=>?_) (fun hc=>?_)
    · have hc3:=eq_of_beq hc
      refine cR0 ?_
      refine oM0 hk rfl rfl fun a hk=>?_
      refine aAG (c:=IntKind.i8.wrap n) hk aZD aXH rfl rfl rfl fun a hk=>?_
      refine aAG (c:=(IntKind.i8.wrap n)) hk aXp aKJ rfl (aAU .i8 (by simp)) rfl fun a hk=>?_
      refine oA0 hk rfl rfl fun a hk=>?_
      refine cE0 ?_
      refine wp_ret ?_
      refine aAE ?_
      refine cQ0 ?_
      refine bT0 rfl hk rfl ?_
      exact⟨hm.agr,by first|(have e:=aJP (n:=n) (k:=k) (by omega);rw[e])|(have e:=aJY (n:=n) (k:=k) (by omega);rw[e])|(have e:=aJM (n:=n) (k:=k) (by omega);rw[e])|(have e:=aJX (n:=n) (k:=k) (by omega);rw[e])|(have e:=aJ0 (n:=n) (k:=k) (by omega);rw[e])|(have e:=aJE (n:=n) (k:=k) (by omega) (by omega) (by omega) (by omega) (by omega);rw[e])⟩
    · have hc4:=beq_eq_false_iff_ne.1 hc
      refine cR0 ?_
      refine aAx hk rfl rfl rfl rfl fun a hk=>?_
      refine oA0 hk rfl rfl fun a hk=>?_
      refine cE0 ?_
      refine aAA hk rfl (fun hc=>?_) (fun hc=>?_)
      · have hc5:=eq_of_beq hc
        refine cR0 ?_
        refine oM0 hk rfl rfl fun a hk=>?_
        refine aAG (c:=IntKind.i16.wrap n) hk aZD aSU rfl rfl rfl fun a hk=>?_
        refine aAG (c:=(IntKind.i16.wrap n)) hk aKQ aKJ rfl (aAU .i16 (by simp)) rfl fun a hk=>?_
        refine oA0 hk rfl rfl fun a hk=>?_
        refine cE0 ?_
        refine wp_ret ?_
        refine aAE ?_
        refine cQ0 ?_
        refine bT0 rfl hk rfl ?_
        exact⟨hm.agr,by first|(have e:=aJP (n:=n) (k:=k) (by omega);rw[e])|(have e:=aJY (n:=n) (k:=k) (by omega);rw[e])|(have e:=aJM (n:=n) (k:=k) (by omega);rw[e])|(have e:=aJX (n:=n) (k:=k) (by omega);rw[e])|(have e:=aJ0 (n:=n) (k:=k) (by omega);rw[e])|(have e:=aJE (n:=n) (k:=k) (by omega) (by omega) (by omega) (by omega) (by omega);rw[e])⟩
      · have hc6:=beq_eq_false_iff_ne.1 hc
        refine cR0 ?_
        refine aAx hk rfl rfl rfl rfl fun a hk=>?_
        refine oA0 hk rfl rfl fun a hk=>?_
        refine cE0 ?_
        refine aAA hk rfl (fun hc=>?_) (fun hc=>?_)
        · have hc7:=eq_of_beq hc
          refine cR0 ?_
          refine oM0 hk rfl rfl fun a hk=>?_
          refine aAG (c:=IntKind.i32.wrap n) hk aZD aYY rfl rfl rfl fun a hk=>?_
          refine aAG (c:=(IntKind.i32.wrap n)) hk aI7 aKJ rfl (aAU .i32 (by simp)) rfl fun a hk=>?_
          refine oA0 hk rfl rfl fun a hk=>?_
          refine cE0 ?_
          refine wp_ret ?_
          refine aAE ?_
          refine cQ0 ?_
          refine bT0 rfl hk rfl ?_
          exact⟨hm.agr,by first|(have e:=aJP (n:=n) (k:=k) (by omega);rw[e])|(have e:=aJY (n:=n) (k:=k) (by omega);rw[e])|(have e:=aJM (n:=n) (k:=k) (by omega);rw[e])|(have e:=aJX (n:=n) (k:=k) (by omega);rw[e])|(have e:=aJ0 (n:=n) (k:=k) (by omega);rw[e])|(have e:=aJE (n:=n) (k:=k) (by omega) (by omega) (by omega) (by omega) (by omega);rw[e])⟩
        · have hc8:=beq_eq_false_iff_ne.1 hc
          refine cR0 ?_
          refine aAx hk rfl rfl rfl rfl fun a hk=>?_
          refine oA0 hk rfl rfl fun a hk=>?_
          refine cE0 ?_
          refine aAA hk rfl (fun hc=>?_) (fun hc=>?_)
          · have hc9:=eq_of_beq hc
            refine cR0 ?_
            refine oM0 hk rfl rfl fun a hk=>?_
            refine aAG (c:=IntKind.u16.wrap n) hk aZD aXX rfl rfl rfl fun a hk=>?_
            refine aAG (c:=(IntKind.u16.wrap n)) hk aV4 aKJ rfl (aAU .u16 (by simp)) rfl fun a hk=>?_
            refine oA0 hk rfl rfl fun a hk=>?_
            refine cE0 ?_
            refine wp_ret ?_
            refine aAE ?_
            refine cQ0 ?_
            refine bT0 rfl hk rfl ?_
            exact⟨hm.agr,by first|(have e:=aJP (n:=n) (k:=k) (by omega);rw[e])|(have e:=aJY (n:=n) (k:=k) (by omega);rw[e])|(have e:=aJM (n:=n) (k:=k) (by omega);rw[e])|(have e:=aJX (n:=n) (k:=k) (by omega);rw[e])|(have e:=aJ0 (n:=n) (k:=k) (by omega);rw[e])|(have e:=aJE (n:=n) (k:=k) (by omega) (by omega) (by omega) (by omega) (by omega);rw[e])⟩
          · have hc10:=beq_eq_false_iff_ne.1 hc
            refine wp_skip ?_
            refine cN0 ?_
            refine cT0 ?_
            refine cR0 ?_
            refine oM0 hk rfl rfl fun a hk=>?_
            refine oA0 hk rfl rfl fun a hk=>?_
            refine cE0 ?_
            refine wp_ret ?_
            refine bT0 rfl hk rfl ?_
            exact⟨hm.agr,by first|(have e:=aJP (n:=n) (k:=k) (by omega);rw[e])|(have e:=aJY (n:=n) (k:=k) (by omega);rw[e])|(have e:=aJM (n:=n) (k:=k) (by omega);rw[e])|(have e:=aJX (n:=n) (k:=k) (by omega);rw[e])|(have e:=aJ0 (n:=n) (k:=k) (by omega);rw[e])|(have e:=aJE (n:=n) (k:=k) (by omega) (by omega) (by omega) (by omega) (by omega);rw[e])⟩
end Go.Proofs.YtipgdlbbmlnfiaaGreatDoor
