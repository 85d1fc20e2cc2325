/- Walks of functions that the seat's laws reach. -/
import Derived.Test.YtipgdlbbmlnfiaaGreatDoorL1
import Derived.Test.YtipgdlbbmlnfiaaGreatDoorRows
import Derived.Test.YtipgdlbbmlnfiaaGreatDoorFa
import Derived.Test.YtipgdlbbmlnfiaaGreatDoorSd
namespace Go.Proofs.YtipgdlbbmlnfiaaGreatDoor
open Go Go.Mk
def aNe (f:Fld):Prop:=∀ {w0:World} {Y:Nat→Prop} {t:T} {cf ct:List Value},Rep w0 Y (aBg f) cf→Rep w0 Y (ddT t) ct→t.sane=true →
  Ret Tryz.prog 36 [.agg cf.toArray,.agg ct.toArray] w0 fun v w'=>Agr Nob w0 w'∧v=.bool (aD8 f t)
theorem aSz {f:Fld}(hu:∀ g ∈ f.sub,aNe g)(hlen:f.sub.length≤1000)(hok:aIt f.sub=true):aNe f:=by
  intro w0 Y t cf ct hF hT hsn
  rw[aT0]
  have hss:=aBD hsn
  obtain⟨pf,capf,rfl,-⟩:=aIn hF
  obtain⟨pst,capst,pt,capt,put,caput,rfl⟩:=aB6 hT
  refine aAy Tryz.func36 rfl rfl fun a hk=>?_
  have hk:Kn 91 [(0,.agg #[.int .i64 ((f.kind:Nat):Int),.int .i64 f.fr,.int .i64 f.to,.int .i64 f.nu,.int .i64 f.tag,.int .i64 f.df,.int .i64 ((f.of:Nat):Int),.slice pf f.sub.length capf]),(1,.agg #[.int .i64 t.n,.slice pst t.s.length capst,.bool t.z,.slice pt t.l.length capt,.slice put t.u.length caput])] a:=hk
  have hm:Mem w0 Nob Y [.rep (aBg f) [.int .i64 ((f.kind:Nat):Int),.int .i64 f.fr,.int .i64 f.to,.int .i64 f.nu,.int .i64 f.tag,.int .i64 f.df,.int .i64 ((f.of:Nat):Int),.slice pf f.sub.length capf],.rep (ddT t) [.int .i64 t.n,.slice pst t.s.length capst,.bool t.z,.slice pt t.l.length capt,.slice put t.u.length caput]] w0:=Mem.start rfl (by simp only[List.forall_mem_cons,List.not_mem_nil,false_imp_iff,implies_true,and_true];exact⟨hF,hT⟩)
  refine cR0 ?_
  refine aFB hk hm rfl rfl rfl fun a b1 w hk hm=>?_
  refine aFB hk hm rfl rfl rfl fun a b2 w hk hm=>?_
  refine oA0 hk rfl rfl fun a hk=>?_
  refine cE0 ?_
  refine wp_seq ?_
  refine cR0 ?_
  refine oF0 hk aDD rfl rfl fun a hk=>?_
  refine aAq hk aF6 rfl (hm.cell_blk (i:=1) rfl rfl) rfl fun a hk=>?_
  refine cE0 ?_
  refine wp_block ?_
  refine cR0 ?_
  refine aAx hk rfl rfl rfl rfl fun a hk=>?_
  refine oA0 hk rfl rfl fun a hk=>?_
  refine cE0 ?_
  refine aAA hk rfl (fun hc=>?_) (fun hc=>?_)
  · have hc3:=eq_of_beq hc
    refine cR0 ?_
    refine oF0 hk aHm rfl rfl fun a hk=>?_
    refine aAq hk aOX rfl (hm.cell_blk (i:=0) rfl rfl) rfl fun a hk=>?_
    refine aDc (c:=t.n%2) hk rfl rfl (aOk _) rfl fun a hk=>?_
    refine oF0 hk aMZ rfl rfl fun a hk=>?_
    refine aAq hk aOX rfl (hm.cell_blk (i:=1) rfl rfl) rfl fun a hk=>?_
    refine aAx hk rfl rfl rfl rfl fun a hk=>?_
    refine oA0 hk rfl rfl fun a hk=>?_
    refine cE0 ?_
    refine wp_ret ?_
    refine aAE ?_
    refine cQ0 ?_
    refine bT0 rfl hk rfl ?_
    refine⟨hm.agr,congrArg Value.bool ?_⟩
    rw[if_pos (by omega)]
  · have hc4:=beq_eq_false_iff_ne.1 hc
    refine cR0 ?_
    refine aAx hk rfl rfl rfl rfl fun a hk=>?_
    refine oA0 hk rfl rfl fun a hk=>?_
    refine cE0 ?_
    refine aAA hk rfl (fun hc=>?_) (fun hc=>?_)
    · have hc5:=eq_of_beq hc
      refine wp_seq ?_
      refine cR0 ?_
      refine oF0 hk aDw rfl rfl fun a hk=>?_
      refine aAq hk aBy rfl (hm.cell_blk (i:=0) rfl rfl) rfl fun a hk=>?_
      refine oL0 hk aA9 rfl rfl fun a hk=>?_
      refine oM0 hk rfl rfl fun a hk=>?_
      refine cE0 ?_
      have hk7:f.kind=7:=by omega
      refine aCF (L0:=[(2,.pointer (some ⟨b1,0,none⟩)),(3,.pointer (some ⟨b2,0,none⟩)),(22,.slice pst t.s.length capst)]) (N:=t.s.length) (by omega) (fun k L w=>L=[(2,.pointer (some ⟨b1,0,none⟩)),(3,.pointer (some ⟨b2,0,none⟩)),(22,.slice pst t.s.length capst)]∧((t.s.take 16).take k).all (·==0)=true∧Mem w0 Nob Y [.blk b2 [.int .i64 t.n,.slice pst t.s.length capst,.bool t.z,.slice pt t.l.length capt,.slice put t.u.length caput] 26,.blk b1 [.int .i64 ((f.kind:Nat):Int),.int .i64 f.fr,.int .i64 f.to,.int .i64 f.nu,.int .i64 f.tag,.int .i64 f.df,.int .i64 ((f.of:Nat):Int),.slice pf f.sub.length capf] 51,.rep (aBg f) [.int .i64 ((f.kind:Nat):Int),.int .i64 f.fr,.int .i64 f.to,.int .i64 f.nu,.int .i64 f.tag,.int .i64 f.df,.int .i64 ((f.of:Nat):Int),.slice pf f.sub.length capf],.rep (ddT t) [.int .i64 t.n,.slice pst t.s.length capst,.bool t.z,.slice pt t.l.length capt,.slice put t.u.length caput]] w) (hk.sub ⟨rfl,rfl,rfl,rfl,rfl,trivial⟩) ⟨rfl,rfl,hm⟩ rfl rfl rfl rfl rfl rfl rfl (fun k L a w hlt hR hk=>?_) rfl (fun L a w hR hk=>?_)
      · obtain⟨rfl,hI0,hm⟩:=hR
        obtain⟨hltx,blx,offx,ex,hplx,helx,hRex,hCex⟩:=aBa (aD2 (hm.rep (i:=3) rfl)) (aBw ddB t.s k 0 hlt)
        obtain rfl:=aYd hRex
        have hm:=hm.add (e:=.rep (ddB (t.s.getD k 0)) [.int .u8 (((t.s.getD k 0).toNat:Nat):Int)]) rfl hRex
        have hm:=hm.add (e:=.cel blx (offx+k*1) [.int .u8 (((t.s.getD k 0).toNat:Nat):Int)]) rfl hCex
        refine cR0 ?_
        refine oM0 hk rfl rfl fun a hk=>?_
        refine oI0 (j:=k) (b:=blx) (off:=offx) hk aA9 aDQ (by rw[← hplx];rfl) rfl hltx rfl fun a hk=>?_
        refine aAq hk aDQ rfl (hm.cell_cel (i:=0) (j:=0) rfl rfl) rfl fun a hk=>?_
        refine oA0 hk rfl rfl fun a hk=>?_
        refine oA0 hk rfl rfl fun a hk=>?_
        refine cE0 ?_
        refine cR0 ?_
        refine oM0 hk rfl rfl fun a hk=>?_
        refine aAx hk rfl rfl rfl rfl fun a hk=>?_
        refine oM0 hk rfl rfl fun a hk=>?_
        rcases Bool.eq_false_or_eq_true (decide ((((k:Nat):Int):Int)<16)) with hb6|hb6
        · rw[hb6] at hk
          refine aAu (o':=_) hk ⟨_,_,_,rfl,rfl,rfl⟩ rfl ?_
          refine oM0 hk rfl rfl fun a hk=>?_
          refine aAu (o':=_) hk ⟨_,_,_,rfl,rfl,rfl⟩ rfl ?_
          refine aAx hk rfl rfl rfl rfl fun a hk=>?_
          refine aAI hk rfl rfl rfl rfl rfl fun a hk=>?_
          refine cE0 ?_
          refine aAA hk rfl (fun hc=>?_) (fun hc=>?_)
          · refine cR0 ?_
            refine oA0 hk rfl rfl fun a hk=>?_
            refine cE0 ?_
            refine wp_ret ?_
            refine aAE ?_
            refine aA7 ?_
            refine cQ0 ?_
            refine aAE ?_
            refine cQ0 ?_
            refine bT0 rfl hk rfl ?_
            refine⟨hm.agr,congrArg Value.bool ?_⟩
            rw[if_neg (by omega),if_pos hk7]
            exact (aQ3 hlt (by have:=of_decide_eq_true hb6;omega) (fun e=>by rw[e] at hc;simp at hc)).symm
          · refine wp_skip ?_
            refine cN0 ?_
            exact aBb (L':=[(2,.pointer (some ⟨b1,0,none⟩)),(3,.pointer (some ⟨b2,0,none⟩)),(22,.slice pst t.s.length capst)]) hk ⟨rfl,rfl,rfl,rfl,rfl,trivial⟩ rfl ⟨rfl,(aN3 hI0 hlt (fun _=>aRP (by have:=bne_eq_false_iff_eq.1 hc;simpa using this))),hm.tail.tail⟩
        · rw[hb6] at hk
          refine oS0 hk ⟨_,_,_,_,rfl,rfl,rfl,aAT⟩ rfl rfl fun a hk=>?_
          refine oS0 hk ⟨_,_,_,_,rfl,rfl,rfl,aAT⟩ rfl rfl fun a hk=>?_
          refine aAI hk rfl rfl rfl rfl rfl fun a hk=>?_
          refine cE0 ?_
          refine aB9 hk rfl ?_
          refine wp_skip ?_
          refine cN0 ?_
          exact aBb (L':=[(2,.pointer (some ⟨b1,0,none⟩)),(3,.pointer (some ⟨b2,0,none⟩)),(22,.slice pst t.s.length capst)]) hk ⟨rfl,rfl,rfl,rfl,rfl,trivial⟩ rfl ⟨rfl,(aN3 hI0 hlt (fun h=>absurd h (by have:=of_decide_eq_false hb6;omega))),hm.tail.tail⟩
      · obtain⟨rfl,hI0,hm⟩:=hR
        refine cT0 ?_
        refine cR0 ?_
        refine oA0 hk rfl rfl fun a hk=>?_
        refine cE0 ?_
        refine wp_ret ?_
        refine aAE ?_
        refine cQ0 ?_
        refine bT0 rfl hk rfl ?_
        refine⟨hm.agr,congrArg Value.bool ?_⟩
        rw[if_neg (by omega),if_pos hk7]
        exact (aT1 hI0 rfl).symm
    · have hc7:=beq_eq_false_iff_ne.1 hc
      refine wp_seq ?_
      refine cR0 ?_
      refine aAx hk rfl rfl rfl rfl fun a hk=>?_
      refine oA0 hk rfl rfl fun a hk=>?_
      refine cE0 ?_
      refine aAA hk rfl (fun hc=>?_) (fun hc=>?_)
      · have hc8:=eq_of_beq hc
        refine wp_skip ?_
        refine cT0 ?_
        refine aAA hk rfl (fun hc=>?_) (fun hc=>?_)
        · have hc9:=eq_of_beq hc
          refine wp_seq ?_
          refine cR0 ?_
          refine oF0 hk aEA rfl rfl fun a hk=>?_
          refine aAq hk aF6 rfl (hm.cell_blk (i:=1) rfl rfl) rfl fun a hk=>?_
          refine aAx hk rfl rfl rfl rfl fun a hk=>?_
          refine cE0 ?_
          refine aAA hk rfl (fun hc=>?_) (fun hc=>?_)
          · refine cR0 ?_
            refine oF0 hk aIY rfl rfl fun a hk=>?_
            refine aAq hk aHp rfl (hm.cell_blk (i:=0) rfl rfl) rfl fun a hk=>?_
            refine oA0 hk rfl rfl fun a hk=>?_
            refine cE0 ?_
            refine wp_ret ?_
            refine cQ0 ?_
            refine aAE ?_
            refine cQ0 ?_
            refine bT0 rfl hk rfl ?_
            refine⟨hm.agr,congrArg Value.bool ?_⟩
            rw[if_neg (by omega),if_neg (by omega),if_pos (by omega),if_pos (by simpa using hc)]
          · refine wp_skip ?_
            refine cT0 ?_
            refine cR0 ?_
            refine oF0 hk aDw rfl rfl fun a hk=>?_
            refine aAq hk aBy rfl (hm.cell_blk (i:=0) rfl rfl) rfl fun a hk=>?_
            refine oL0 hk aA9 rfl rfl fun a hk=>?_
            refine aAx hk rfl rfl rfl rfl fun a hk=>?_
            refine oA0 hk rfl rfl fun a hk=>?_
            refine cE0 ?_
            refine wp_ret ?_
            refine aAE ?_
            refine cQ0 ?_
            refine bT0 rfl hk rfl ?_
            refine⟨hm.agr,congrArg Value.bool ?_⟩
            rw[if_neg (by omega),if_neg (by omega),if_pos (by omega),if_neg (by simpa using hc)]
            exact Bool.eq_iff_iff.2 (by simp[List.isEmpty_iff])
        · have hc10:=beq_eq_false_iff_ne.1 hc
          refine cR0 ?_
          refine aAx hk rfl rfl rfl rfl fun a hk=>?_
          refine oA0 hk rfl rfl fun a hk=>?_
          refine cE0 ?_
          refine aAA hk rfl (fun hc=>?_) (fun hc=>?_)
          · have hc11:=eq_of_beq hc
            refine cR0 ?_
            refine oF0 hk aDB rfl rfl fun a hk=>?_
            refine aAq hk aIw rfl (hm.cell_blk (i:=0) rfl rfl) rfl fun a hk=>?_
            refine oL0 hk aGn rfl rfl fun a hk=>?_
            refine aAx hk rfl rfl rfl rfl fun a hk=>?_
            refine oA0 hk rfl rfl fun a hk=>?_
            refine cE0 ?_
            refine wp_ret ?_
            refine aAE ?_
            refine cQ0 ?_
            refine bT0 rfl hk rfl ?_
            refine⟨hm.agr,congrArg Value.bool ?_⟩
            rw[if_neg (by omega),if_neg (by omega),if_neg (by omega),if_pos (by omega)]
            exact Bool.eq_iff_iff.2 (by simp[List.isEmpty_iff])
          · have hc12:=beq_eq_false_iff_ne.1 hc
            refine cR0 ?_
            refine aAx hk rfl rfl rfl rfl fun a hk=>?_
            refine oA0 hk rfl rfl fun a hk=>?_
            refine cE0 ?_
            refine aAA hk rfl (fun hc=>?_) (fun hc=>?_)
            · have hc13:=eq_of_beq hc
              refine wp_seq ?_
              refine cR0 ?_
              refine oF0 hk aFv rfl rfl fun a hk=>?_
              refine aAq hk aIH rfl (hm.cell_blk (i:=1) rfl rfl) rfl fun a hk=>?_
              refine oL0 hk aKe rfl rfl fun a hk=>?_
              refine oM0 hk rfl rfl fun a hk=>?_
              refine cE0 ?_
              have hk10:f.kind=10:=by omega
              refine aCF (L0:=[(2,.pointer (some ⟨b1,0,none⟩)),(3,.pointer (some ⟨b2,0,none⟩)),(57,.slice pf f.sub.length capf)]) (N:=f.sub.length) (by omega) (fun k L w=>L=[(2,.pointer (some ⟨b1,0,none⟩)),(3,.pointer (some ⟨b2,0,none⟩)),(57,.slice pf f.sub.length capf)]∧(List.range k).all (aPf f.sub t)=true∧Mem w0 Nob Y [.blk b2 [.int .i64 t.n,.slice pst t.s.length capst,.bool t.z,.slice pt t.l.length capt,.slice put t.u.length caput] 26,.blk b1 [.int .i64 ((f.kind:Nat):Int),.int .i64 f.fr,.int .i64 f.to,.int .i64 f.nu,.int .i64 f.tag,.int .i64 f.df,.int .i64 ((f.of:Nat):Int),.slice pf f.sub.length capf] 51,.rep (aBg f) [.int .i64 ((f.kind:Nat):Int),.int .i64 f.fr,.int .i64 f.to,.int .i64 f.nu,.int .i64 f.tag,.int .i64 f.df,.int .i64 ((f.of:Nat):Int),.slice pf f.sub.length capf],.rep (ddT t) [.int .i64 t.n,.slice pst t.s.length capst,.bool t.z,.slice pt t.l.length capt,.slice put t.u.length caput]] w) (hk.sub ⟨rfl,rfl,rfl,rfl,rfl,trivial⟩) ⟨rfl,rfl,hm⟩ rfl rfl rfl rfl rfl rfl rfl (fun k L a w hlt hR hk=>?_) rfl (fun L a w hR hk=>?_)
              · obtain⟨rfl,hI0,hm⟩:=hR
                obtain⟨hlty,bly,offy,ey,hply,hely,hRey,hCey⟩:=aBa (aEB (hm.rep (i:=2) rfl)) (aBw aBg f.sub k aAm hlt)
                obtain⟨pfy,capfy,rfl,-⟩:=aIn hRey
                have hm:=hm.add (e:=.rep (aBg (f.sub.getD k aAm)) [.int .i64 (((f.sub.getD k aAm).kind:Nat):Int),.int .i64 ((f.sub.getD k aAm).fr),.int .i64 ((f.sub.getD k aAm).to),.int .i64 ((f.sub.getD k aAm).nu),.int .i64 ((f.sub.getD k aAm).tag),.int .i64 ((f.sub.getD k aAm).df),.int .i64 (((f.sub.getD k aAm).of:Nat):Int),.slice pfy ((f.sub.getD k aAm).sub.length) capfy]) rfl hRey
                have hm:=hm.add (e:=.cel bly (offy+k*8) [.int .i64 (((f.sub.getD k aAm).kind:Nat):Int),.int .i64 ((f.sub.getD k aAm).fr),.int .i64 ((f.sub.getD k aAm).to),.int .i64 ((f.sub.getD k aAm).nu),.int .i64 ((f.sub.getD k aAm).tag),.int .i64 ((f.sub.getD k aAm).df),.int .i64 (((f.sub.getD k aAm).of:Nat):Int),.slice pfy ((f.sub.getD k aAm).sub.length) capfy]) rfl hCey
                refine cR0 ?_
                refine oM0 hk rfl rfl fun a hk=>?_
                refine oI0 (j:=k) (b:=bly) (off:=offy) hk aKe aDq (by rw[← hply];rfl) rfl hlty rfl fun a hk=>?_
                refine aAM (cs:=[.int .i64 (((f.sub.getD k aAm).kind:Nat):Int),.int .i64 ((f.sub.getD k aAm).fr),.int .i64 ((f.sub.getD k aAm).to),.int .i64 ((f.sub.getD k aAm).nu),.int .i64 ((f.sub.getD k aAm).tag),.int .i64 ((f.sub.getD k aAm).df),.int .i64 (((f.sub.getD k aAm).of:Nat):Int),.slice pfy ((f.sub.getD k aAm).sub.length) capfy]) hk aDq rfl (hm.cells_cel (i:=0) (k:=0) rfl rfl) rfl fun a hk=>?_
                refine aA5 hk hm aBm rfl rfl fun a b14 w hk hm=>?_
                refine oA0 hk rfl rfl fun a hk=>?_
                refine aAz (i:=0) hk hm aDq rfl rfl rfl rfl rfl rfl (Nat.le_of_ble_eq_true rfl) fun a w hk hm=>?_
                refine cE0 ?_
                refine wp_seq ?_
                refine aAW (K:=5) mixed hm fun w hm=>?_
                refine aAh (i:=0) rfl rfl rfl (by kernel_rfl) (fun _ _ _ h=>h) hk rfl (fun w hm=>aBq (cs:=[.int .i64 (((f.sub.getD k aAm).kind:Nat):Int),.int .i64 ((f.sub.getD k aAm).fr),.int .i64 ((f.sub.getD k aAm).to),.int .i64 ((f.sub.getD k aAm).nu),.int .i64 ((f.sub.getD k aAm).tag),.int .i64 ((f.sub.getD k aAm).df),.int .i64 (((f.sub.getD k aAm).of:Nat):Int),.slice pfy ((f.sub.getD k aAm).sub.length) capfy]) hk aDq rfl (hm.cells_blk (i:=0) rfl rfl)) hm fun a hk=>?_
                refine aAh (i:=1) rfl rfl rfl (by kernel_rfl) (fun _ _ _ h=>h) hk rfl (fun w hm=>aBq (cs:=[.int .i64 t.n,.slice pst t.s.length capst,.bool t.z,.slice pt t.l.length capt,.slice put t.u.length caput]) hk aBF rfl (hm.cells_blk (i:=3) rfl rfl)) hm fun a hk=>?_
                refine aAt (k:=2) (by kernel_rfl) rfl rfl ?_
                refine oM0 hk rfl rfl fun a hk=>?_
                refine aAb (cT0 ⟨fun _=>hm,?_⟩)
                refine aAt (k:=3) (by kernel_rfl) rfl rfl ?_
                refine aAk hk aQz (aKc (t:=t) k (hm.rep (i:=6) rfl)) ⟨rfl,rfl,trivial⟩ rfl fun v w a hR hk=>?_
                obtain⟨hp,ca1,rfl,hR⟩:=hR
                obtain⟨psa1,capsa1,pa1,capa1,pua1,capua1,rfl⟩:=aB6 hR
                have hm:=hm.result hp hR
                refine aAb (cT0 ⟨fun _=>hm.tail,?_⟩)
                refine aAt (k:=4) (by kernel_rfl) rfl rfl ?_
                refine aAk hk aTO (hu (f.sub.getD k aAm) (aC9 hlt) (hm.rep (i:=3) rfl) (hm.rep (i:=0) rfl) (aIQ hsn k)) ⟨rfl,rfl,trivial⟩ rfl fun v w a hR hk=>?_
                obtain⟨hp,rfl⟩:=hR
                have hm:=hm.pure hp
                refine aAb (cT0 ⟨fun _=>hm.tail,?_⟩)
                refine aAt (k:=5) (by kernel_rfl) rfl rfl ?_
                refine aES hk rfl rfl fun a hk=>?_
                refine aAb (cT0 ⟨fun h=>Bool.noConfusion (show true=false from h),?_⟩)
                refine aBh (by kernel_rfl) ?_ _
                refine cT0 ?_
                refine aAA hk rfl (fun hc=>?_) (fun hc=>?_)
                · refine cR0 ?_
                  refine oA0 hk rfl rfl fun a hk=>?_
                  refine cE0 ?_
                  refine wp_ret ?_
                  refine aAE ?_
                  refine aA7 ?_
                  refine cQ0 ?_
                  refine aAE ?_
                  refine cQ0 ?_
                  refine bT0 rfl hk rfl ?_
                  refine⟨hm.agr,congrArg Value.bool ?_⟩
                  rw[if_neg (by omega),if_neg (by omega),if_neg (by omega),if_neg (by omega),if_pos hk10,aIB,aAR hlt ((Bool.not_eq_true' _).mp hc)]
                  rfl
                · refine wp_skip ?_
                  refine cN0 ?_
                  exact aBb (L':=[(2,.pointer (some ⟨b1,0,none⟩)),(3,.pointer (some ⟨b2,0,none⟩)),(57,.slice pf f.sub.length capf)]) hk ⟨rfl,rfl,rfl,rfl,rfl,trivial⟩ rfl ⟨rfl,(aAO hI0 ((Bool.not_eq_false' _).mp hc)),hm.tail.tail.tail.tail⟩
              · obtain⟨rfl,hI0,hm⟩:=hR
                refine cT0 ?_
                refine cR0 ?_
                refine oF0 hk aFv rfl rfl fun a hk=>?_
                refine aAq hk aIH rfl (hm.cell_blk (i:=1) rfl rfl) rfl fun a hk=>?_
                refine oF0 hk aGC rfl rfl fun a hk=>?_
                refine aAq hk aL7 rfl (hm.cell_blk (i:=0) rfl rfl) rfl fun a hk=>?_
                refine aAk hk aW1 (aLf (aEB (hm.rep (i:=2) rfl)) (aKl (hm.rep (i:=3) rfl)) (by omega) hok) ⟨rfl,rfl,trivial⟩ rfl fun v w a hR hk=>?_
                obtain⟨hp,puu,cuu,rfl,hR⟩:=hR
                have hm:=hm.result hp hR
                refine oL0 hk aE0 rfl rfl fun a hk=>?_
                refine aAx hk rfl rfl rfl rfl fun a hk=>?_
                refine oA0 hk rfl rfl fun a hk=>?_
                refine cE0 ?_
                refine wp_ret ?_
                refine aAE ?_
                refine cQ0 ?_
                refine bT0 rfl hk rfl ?_
                refine⟨hm.agr,congrArg Value.bool ?_⟩
                rw[if_neg (by omega),if_neg (by omega),if_neg (by omega),if_neg (by omega),if_pos hk10,aIB,hI0,Bool.true_and]
                exact Bool.eq_iff_iff.2 (by simp[List.isEmpty_iff])
            · have hc15:=beq_eq_false_iff_ne.1 hc
              refine wp_skip ?_
              refine cN0 ?_
              refine cT0 ?_
              refine wp_seq ?_
              refine aAW (K:=13) mixed hm fun w hm=>?_
              refine aAh (i:=0) rfl rfl rfl (by kernel_rfl) (fun _ _ _ h=>h) hk rfl (fun w hm=>rF0 hk aHm rfl) hm fun a hk=>?_
              refine aAh (i:=1) rfl rfl rfl (by kernel_rfl) (fun _ _ _ h=>h) hk rfl (fun w hm=>aAL hk aOX rfl (hm.cell_blk (i:=0) rfl rfl)) hm fun a hk=>?_
              refine aAh (i:=2) rfl rfl rfl (by kernel_rfl) (fun _ _ _ h=>h) hk rfl (fun w hm=>rF0 hk aDD rfl) hm fun a hk=>?_
              refine aAh (i:=3) rfl rfl rfl (by kernel_rfl) (fun _ _ _ h=>h) hk rfl (fun w hm=>aAL hk aF6 rfl (hm.cell_blk (i:=1) rfl rfl)) hm fun a hk=>?_
              refine aAh (i:=6) rfl rfl rfl (by kernel_rfl) (fun _ _ _ h=>h) hk rfl (fun w hm=>rF0 hk aMZ rfl) hm fun a hk=>?_
              refine aAh (i:=7) rfl rfl rfl (by kernel_rfl) (fun _ _ _ h=>h) hk rfl (fun w hm=>aAL hk aOX rfl (hm.cell_blk (i:=1) rfl rfl)) hm fun a hk=>?_
              refine aAh (i:=8) rfl rfl rfl (by kernel_rfl) (fun _ _ _ h=>h) hk rfl (fun w hm=>rF0 hk aDD rfl) hm fun a hk=>?_
              refine aAh (i:=9) rfl rfl rfl (by kernel_rfl) (fun _ _ _ h=>h) hk rfl (fun w hm=>aAL hk aF6 rfl (hm.cell_blk (i:=1) rfl rfl)) hm fun a hk=>?_
              refine aAt (k:=4) (by kernel_rfl) rfl rfl ?_
              refine aAk hk aVa (aNq (Y:=Y) f.kind) ⟨rfl,trivial⟩ rfl fun v w a hR hk=>?_
              obtain⟨hp,rfl⟩:=hR
              have hm:=hm.pure hp
              refine aAb (cT0 ⟨fun _=>hm,?_⟩)
              refine aAt (k:=5) (by kernel_rfl) rfl rfl ?_
              refine aAk hk aPb (aIL (Y:=Y) t.n (width f.kind) (aHK _)) ⟨rfl,rfl,trivial⟩ rfl fun v16 w a hR hk=>?_
              have hm:=hm.rowNew hR
              refine aAb (cT0 ⟨fun _=>hm.tail,?_⟩)
              refine aAt (k:=10) (by kernel_rfl) rfl rfl ?_
              refine aAk hk aVa (aNq (Y:=Y) f.kind) ⟨rfl,trivial⟩ rfl fun v w a hR hk=>?_
              obtain⟨hp,rfl⟩:=hR
              have hm:=hm.pure hp
              refine aAb (cT0 ⟨fun _=>hm.tail,?_⟩)
              refine aAt (k:=11) (by kernel_rfl) rfl rfl ?_
              refine aAk hk aPb (aIL (Y:=Y) f.df (width f.kind) (aHK _)) ⟨rfl,rfl,trivial⟩ rfl fun v17 w a hR hk=>?_
              have hm:=hm.rowNew hR
              refine aAb (cT0 ⟨fun _=>hm.tail.tail,?_⟩)
              refine aAt (k:=12) (by kernel_rfl) rfl rfl ?_
              obtain⟨pz0,cz0,rfl⟩:=aDx (hm.row (i:=1) rfl)
              have hm:=hm.freezeBytes (i:=1) rfl rfl
              obtain⟨pz1,cz1,rfl⟩:=aDx (hm.row (i:=0) rfl)
              have hm:=hm.freezeBytes (i:=0) rfl rfl
              refine aAk hk aPY (aLQ (hm.rep (i:=1) rfl) (hm.rep (i:=0) rfl) (by have:=aHK f.kind;rw[aBL];omega)) ⟨rfl,rfl,trivial⟩ rfl fun v w a hR hk=>?_
              obtain⟨hp,rfl⟩:=hR
              have hm:=hm.pure hp
              refine aAb (cT0 ⟨fun _=>hm.tail.tail,?_⟩)
              refine aAt (k:=13) (by kernel_rfl) rfl rfl ?_
              refine oA0 hk rfl rfl fun a hk=>?_
              refine aAb (cT0 ⟨fun h=>Bool.noConfusion (show true=false from h),?_⟩)
              refine aBh (by kernel_rfl) ?_ _
              refine cT0 ?_
              refine wp_ret ?_
              refine bT0 rfl hk rfl ?_
              refine⟨hm.agr,congrArg Value.bool ?_⟩
              rw[if_neg (by omega),if_neg (by omega),if_neg (by omega),if_neg (by omega),if_neg (by omega)]
              exact Bool.eq_iff_iff.2 (by simp)
      · have hc18:=beq_eq_false_iff_ne.1 hc
        refine aC2 ?_
        refine aAx hk rfl rfl rfl rfl fun a hk=>?_
        refine oA0 hk rfl rfl fun a hk=>?_
        refine aAb ?_
        refine cT0 ?_
        refine aAA hk rfl (fun hc=>?_) (fun hc=>?_)
        · have hc19:=eq_of_beq hc
          refine wp_seq ?_
          refine cR0 ?_
          refine oF0 hk aEA rfl rfl fun a hk=>?_
          refine aAq hk aF6 rfl (hm.cell_blk (i:=1) rfl rfl) rfl fun a hk=>?_
          refine aAx hk rfl rfl rfl rfl fun a hk=>?_
          refine cE0 ?_
          refine aAA hk rfl (fun hc=>?_) (fun hc=>?_)
          · refine cR0 ?_
            refine oF0 hk aIY rfl rfl fun a hk=>?_
            refine aAq hk aHp rfl (hm.cell_blk (i:=0) rfl rfl) rfl fun a hk=>?_
            refine oA0 hk rfl rfl fun a hk=>?_
            refine cE0 ?_
            refine wp_ret ?_
            refine cQ0 ?_
            refine aAE ?_
            refine cQ0 ?_
            refine bT0 rfl hk rfl ?_
            refine⟨hm.agr,congrArg Value.bool ?_⟩
            rw[if_neg (by omega),if_neg (by omega),if_pos (by omega),if_pos (by simpa using hc)]
          · refine wp_skip ?_
            refine cT0 ?_
            refine cR0 ?_
            refine oF0 hk aDw rfl rfl fun a hk=>?_
            refine aAq hk aBy rfl (hm.cell_blk (i:=0) rfl rfl) rfl fun a hk=>?_
            refine oL0 hk aA9 rfl rfl fun a hk=>?_
            refine aAx hk rfl rfl rfl rfl fun a hk=>?_
            refine oA0 hk rfl rfl fun a hk=>?_
            refine cE0 ?_
            refine wp_ret ?_
            refine aAE ?_
            refine cQ0 ?_
            refine bT0 rfl hk rfl ?_
            refine⟨hm.agr,congrArg Value.bool ?_⟩
            rw[if_neg (by omega),if_neg (by omega),if_pos (by omega),if_neg (by simpa using hc)]
            exact Bool.eq_iff_iff.2 (by simp[List.isEmpty_iff])
        · have hc20:=beq_eq_false_iff_ne.1 hc
          refine cR0 ?_
          refine aAx hk rfl rfl rfl rfl fun a hk=>?_
          refine oA0 hk rfl rfl fun a hk=>?_
          refine cE0 ?_
          refine aAA hk rfl (fun hc=>?_) (fun hc=>?_)
          · have hc21:=eq_of_beq hc
            refine cR0 ?_
            refine oF0 hk aDB rfl rfl fun a hk=>?_
            refine aAq hk aIw rfl (hm.cell_blk (i:=0) rfl rfl) rfl fun a hk=>?_
            refine oL0 hk aGn rfl rfl fun a hk=>?_
            refine aAx hk rfl rfl rfl rfl fun a hk=>?_
            refine oA0 hk rfl rfl fun a hk=>?_
            refine cE0 ?_
            refine wp_ret ?_
            refine aAE ?_
            refine cQ0 ?_
            refine bT0 rfl hk rfl ?_
            refine⟨hm.agr,congrArg Value.bool ?_⟩
            rw[if_neg (by omega),if_neg (by omega),if_neg (by omega),if_pos (by omega)]
            exact Bool.eq_iff_iff.2 (by simp[List.isEmpty_iff])
          · have hc22:=beq_eq_false_iff_ne.1 hc
            refine cR0 ?_
            refine aAx hk rfl rfl rfl rfl fun a hk=>?_
            refine oA0 hk rfl rfl fun a hk=>?_
            refine cE0 ?_
            refine aAA hk rfl (fun hc=>?_) (fun hc=>?_)
            · have hc23:=eq_of_beq hc
              refine wp_seq ?_
              refine cR0 ?_
              refine oF0 hk aFv rfl rfl fun a hk=>?_
              refine aAq hk aIH rfl (hm.cell_blk (i:=1) rfl rfl) rfl fun a hk=>?_
              refine oL0 hk aKe rfl rfl fun a hk=>?_
              refine oM0 hk rfl rfl fun a hk=>?_
              refine cE0 ?_
              have hk10:f.kind=10:=by omega
              refine aCF (L0:=[(2,.pointer (some ⟨b1,0,none⟩)),(3,.pointer (some ⟨b2,0,none⟩)),(57,.slice pf f.sub.length capf)]) (N:=f.sub.length) (by omega) (fun k L w=>L=[(2,.pointer (some ⟨b1,0,none⟩)),(3,.pointer (some ⟨b2,0,none⟩)),(57,.slice pf f.sub.length capf)]∧(List.range k).all (aPf f.sub t)=true∧Mem w0 Nob Y [.blk b2 [.int .i64 t.n,.slice pst t.s.length capst,.bool t.z,.slice pt t.l.length capt,.slice put t.u.length caput] 26,.blk b1 [.int .i64 ((f.kind:Nat):Int),.int .i64 f.fr,.int .i64 f.to,.int .i64 f.nu,.int .i64 f.tag,.int .i64 f.df,.int .i64 ((f.of:Nat):Int),.slice pf f.sub.length capf] 51,.rep (aBg f) [.int .i64 ((f.kind:Nat):Int),.int .i64 f.fr,.int .i64 f.to,.int .i64 f.nu,.int .i64 f.tag,.int .i64 f.df,.int .i64 ((f.of:Nat):Int),.slice pf f.sub.length capf],.rep (ddT t) [.int .i64 t.n,.slice pst t.s.length capst,.bool t.z,.slice pt t.l.length capt,.slice put t.u.length caput]] w) (hk.sub ⟨rfl,rfl,rfl,rfl,rfl,trivial⟩) ⟨rfl,rfl,hm⟩ rfl rfl rfl rfl rfl rfl rfl (fun k L a w hlt hR hk=>?_) rfl (fun L a w hR hk=>?_)
              · obtain⟨rfl,hI0,hm⟩:=hR
                obtain⟨hlty,bly,offy,ey,hply,hely,hRey,hCey⟩:=aBa (aEB (hm.rep (i:=2) rfl)) (aBw aBg f.sub k aAm hlt)
                obtain⟨pfy,capfy,rfl,-⟩:=aIn hRey
                have hm:=hm.add (e:=.rep (aBg (f.sub.getD k aAm)) [.int .i64 (((f.sub.getD k aAm).kind:Nat):Int),.int .i64 ((f.sub.getD k aAm).fr),.int .i64 ((f.sub.getD k aAm).to),.int .i64 ((f.sub.getD k aAm).nu),.int .i64 ((f.sub.getD k aAm).tag),.int .i64 ((f.sub.getD k aAm).df),.int .i64 (((f.sub.getD k aAm).of:Nat):Int),.slice pfy ((f.sub.getD k aAm).sub.length) capfy]) rfl hRey
                have hm:=hm.add (e:=.cel bly (offy+k*8) [.int .i64 (((f.sub.getD k aAm).kind:Nat):Int),.int .i64 ((f.sub.getD k aAm).fr),.int .i64 ((f.sub.getD k aAm).to),.int .i64 ((f.sub.getD k aAm).nu),.int .i64 ((f.sub.getD k aAm).tag),.int .i64 ((f.sub.getD k aAm).df),.int .i64 (((f.sub.getD k aAm).of:Nat):Int),.slice pfy ((f.sub.getD k aAm).sub.length) capfy]) rfl hCey
                refine cR0 ?_
                refine oM0 hk rfl rfl fun a hk=>?_
                refine oI0 (j:=k) (b:=bly) (off:=offy) hk aKe aDq (by rw[← hply];rfl) rfl hlty rfl fun a hk=>?_
                refine aAM (cs:=[.int .i64 (((f.sub.getD k aAm).kind:Nat):Int),.int .i64 ((f.sub.getD k aAm).fr),.int .i64 ((f.sub.getD k aAm).to),.int .i64 ((f.sub.getD k aAm).nu),.int .i64 ((f.sub.getD k aAm).tag),.int .i64 ((f.sub.getD k aAm).df),.int .i64 (((f.sub.getD k aAm).of:Nat):Int),.slice pfy ((f.sub.getD k aAm).sub.length) capfy]) hk aDq rfl (hm.cells_cel (i:=0) (k:=0) rfl rfl) rfl fun a hk=>?_
                refine aA5 hk hm aBm rfl rfl fun a b24 w hk hm=>?_
                refine oA0 hk rfl rfl fun a hk=>?_
                refine aAz (i:=0) hk hm aDq rfl rfl rfl rfl rfl rfl (Nat.le_of_ble_eq_true rfl) fun a w hk hm=>?_
                refine cE0 ?_
                refine wp_seq ?_
                refine aAW (K:=5) mixed hm fun w hm=>?_
                refine aAh (i:=0) rfl rfl rfl (by kernel_rfl) (fun _ _ _ h=>h) hk rfl (fun w hm=>aBq (cs:=[.int .i64 (((f.sub.getD k aAm).kind:Nat):Int),.int .i64 ((f.sub.getD k aAm).fr),.int .i64 ((f.sub.getD k aAm).to),.int .i64 ((f.sub.getD k aAm).nu),.int .i64 ((f.sub.getD k aAm).tag),.int .i64 ((f.sub.getD k aAm).df),.int .i64 (((f.sub.getD k aAm).of:Nat):Int),.slice pfy ((f.sub.getD k aAm).sub.length) capfy]) hk aDq rfl (hm.cells_blk (i:=0) rfl rfl)) hm fun a hk=>?_
                refine aAh (i:=1) rfl rfl rfl (by kernel_rfl) (fun _ _ _ h=>h) hk rfl (fun w hm=>aBq (cs:=[.int .i64 t.n,.slice pst t.s.length capst,.bool t.z,.slice pt t.l.length capt,.slice put t.u.length caput]) hk aBF rfl (hm.cells_blk (i:=3) rfl rfl)) hm fun a hk=>?_
                refine aAt (k:=2) (by kernel_rfl) rfl rfl ?_
                refine oM0 hk rfl rfl fun a hk=>?_
                refine aAb (cT0 ⟨fun _=>hm,?_⟩)
                refine aAt (k:=3) (by kernel_rfl) rfl rfl ?_
                refine aAk hk aQz (aKc (t:=t) k (hm.rep (i:=6) rfl)) ⟨rfl,rfl,trivial⟩ rfl fun v w a hR hk=>?_
                obtain⟨hp,ca2,rfl,hR⟩:=hR
                obtain⟨psa2,capsa2,pa2,capa2,pua2,capua2,rfl⟩:=aB6 hR
                have hm:=hm.result hp hR
                refine aAb (cT0 ⟨fun _=>hm.tail,?_⟩)
                refine aAt (k:=4) (by kernel_rfl) rfl rfl ?_
                refine aAk hk aTO (hu (f.sub.getD k aAm) (aC9 hlt) (hm.rep (i:=3) rfl) (hm.rep (i:=0) rfl) (aIQ hsn k)) ⟨rfl,rfl,trivial⟩ rfl fun v w a hR hk=>?_
                obtain⟨hp,rfl⟩:=hR
                have hm:=hm.pure hp
                refine aAb (cT0 ⟨fun _=>hm.tail,?_⟩)
                refine aAt (k:=5) (by kernel_rfl) rfl rfl ?_
                refine aES hk rfl rfl fun a hk=>?_
                refine aAb (cT0 ⟨fun h=>Bool.noConfusion (show true=false from h),?_⟩)
                refine aBh (by kernel_rfl) ?_ _
                refine cT0 ?_
                refine aAA hk rfl (fun hc=>?_) (fun hc=>?_)
                · refine cR0 ?_
                  refine oA0 hk rfl rfl fun a hk=>?_
                  refine cE0 ?_
                  refine wp_ret ?_
                  refine aAE ?_
                  refine aA7 ?_
                  refine cQ0 ?_
                  refine aAE ?_
                  refine cQ0 ?_
                  refine bT0 rfl hk rfl ?_
                  refine⟨hm.agr,congrArg Value.bool ?_⟩
                  rw[if_neg (by omega),if_neg (by omega),if_neg (by omega),if_neg (by omega),if_pos hk10,aIB,aAR hlt ((Bool.not_eq_true' _).mp hc)]
                  rfl
                · refine wp_skip ?_
                  refine cN0 ?_
                  exact aBb (L':=[(2,.pointer (some ⟨b1,0,none⟩)),(3,.pointer (some ⟨b2,0,none⟩)),(57,.slice pf f.sub.length capf)]) hk ⟨rfl,rfl,rfl,rfl,rfl,trivial⟩ rfl ⟨rfl,(aAO hI0 ((Bool.not_eq_false' _).mp hc)),hm.tail.tail.tail.tail⟩
              · obtain⟨rfl,hI0,hm⟩:=hR
                refine cT0 ?_
                refine cR0 ?_
                refine oF0 hk aFv rfl rfl fun a hk=>?_
                refine aAq hk aIH rfl (hm.cell_blk (i:=1) rfl rfl) rfl fun a hk=>?_
                refine oF0 hk aGC rfl rfl fun a hk=>?_
                refine aAq hk aL7 rfl (hm.cell_blk (i:=0) rfl rfl) rfl fun a hk=>?_
                refine aAk hk aW1 (aLf (aEB (hm.rep (i:=2) rfl)) (aKl (hm.rep (i:=3) rfl)) (by omega) hok) ⟨rfl,rfl,trivial⟩ rfl fun v w a hR hk=>?_
                obtain⟨hp,puu,cuu,rfl,hR⟩:=hR
                have hm:=hm.result hp hR
                refine oL0 hk aE0 rfl rfl fun a hk=>?_
                refine aAx hk rfl rfl rfl rfl fun a hk=>?_
                refine oA0 hk rfl rfl fun a hk=>?_
                refine cE0 ?_
                refine wp_ret ?_
                refine aAE ?_
                refine cQ0 ?_
                refine bT0 rfl hk rfl ?_
                refine⟨hm.agr,congrArg Value.bool ?_⟩
                rw[if_neg (by omega),if_neg (by omega),if_neg (by omega),if_neg (by omega),if_pos hk10,aIB,hI0,Bool.true_and]
                exact Bool.eq_iff_iff.2 (by simp[List.isEmpty_iff])
            · have hc25:=beq_eq_false_iff_ne.1 hc
              refine wp_skip ?_
              refine cN0 ?_
              refine cT0 ?_
              refine wp_seq ?_
              refine aAW (K:=13) mixed hm fun w hm=>?_
              refine aAh (i:=0) rfl rfl rfl (by kernel_rfl) (fun _ _ _ h=>h) hk rfl (fun w hm=>rF0 hk aHm rfl) hm fun a hk=>?_
              refine aAh (i:=1) rfl rfl rfl (by kernel_rfl) (fun _ _ _ h=>h) hk rfl (fun w hm=>aAL hk aOX rfl (hm.cell_blk (i:=0) rfl rfl)) hm fun a hk=>?_
              refine aAh (i:=2) rfl rfl rfl (by kernel_rfl) (fun _ _ _ h=>h) hk rfl (fun w hm=>rF0 hk aDD rfl) hm fun a hk=>?_
              refine aAh (i:=3) rfl rfl rfl (by kernel_rfl) (fun _ _ _ h=>h) hk rfl (fun w hm=>aAL hk aF6 rfl (hm.cell_blk (i:=1) rfl rfl)) hm fun a hk=>?_
              refine aAh (i:=6) rfl rfl rfl (by kernel_rfl) (fun _ _ _ h=>h) hk rfl (fun w hm=>rF0 hk aMZ rfl) hm fun a hk=>?_
              refine aAh (i:=7) rfl rfl rfl (by kernel_rfl) (fun _ _ _ h=>h) hk rfl (fun w hm=>aAL hk aOX rfl (hm.cell_blk (i:=1) rfl rfl)) hm fun a hk=>?_
              refine aAh (i:=8) rfl rfl rfl (by kernel_rfl) (fun _ _ _ h=>h) hk rfl (fun w hm=>rF0 hk aDD rfl) hm fun a hk=>?_
              refine aAh (i:=9) rfl rfl rfl (by kernel_rfl) (fun _ _ _ h=>h) hk rfl (fun w hm=>aAL hk aF6 rfl (hm.cell_blk (i:=1) rfl rfl)) hm fun a hk=>?_
              refine aAt (k:=4) (by kernel_rfl) rfl rfl ?_
              refine aAk hk aVa (aNq (Y:=Y) f.kind) ⟨rfl,trivial⟩ rfl fun v w a hR hk=>?_
              obtain⟨hp,rfl⟩:=hR
              have hm:=hm.pure hp
              refine aAb (cT0 ⟨fun _=>hm,?_⟩)
              refine aAt (k:=5) (by kernel_rfl) rfl rfl ?_
              refine aAk hk aPb (aIL (Y:=Y) t.n (width f.kind) (aHK _)) ⟨rfl,rfl,trivial⟩ rfl fun v26 w a hR hk=>?_
              have hm:=hm.rowNew hR
              refine aAb (cT0 ⟨fun _=>hm.tail,?_⟩)
              refine aAt (k:=10) (by kernel_rfl) rfl rfl ?_
              refine aAk hk aVa (aNq (Y:=Y) f.kind) ⟨rfl,trivial⟩ rfl fun v w a hR hk=>?_
              obtain⟨hp,rfl⟩:=hR
              have hm:=hm.pure hp
              refine aAb (cT0 ⟨fun _=>hm.tail,?_⟩)
              refine aAt (k:=11) (by kernel_rfl) rfl rfl ?_
              refine aAk hk aPb (aIL (Y:=Y) f.df (width f.kind) (aHK _)) ⟨rfl,rfl,trivial⟩ rfl fun v27 w a hR hk=>?_
              have hm:=hm.rowNew hR
              refine aAb (cT0 ⟨fun _=>hm.tail.tail,?_⟩)
              refine aAt (k:=12) (by kernel_rfl) rfl rfl ?_
              obtain⟨pz0,cz0,rfl⟩:=aDx (hm.row (i:=1) rfl)
              have hm:=hm.freezeBytes (i:=1) rfl rfl
              obtain⟨pz1,cz1,rfl⟩:=aDx (hm.row (i:=0) rfl)
              have hm:=hm.freezeBytes (i:=0) rfl rfl
              refine aAk hk aPY (aLQ (hm.rep (i:=1) rfl) (hm.rep (i:=0) rfl) (by have:=aHK f.kind;rw[aBL];omega)) ⟨rfl,rfl,trivial⟩ rfl fun v w a hR hk=>?_
              obtain⟨hp,rfl⟩:=hR
              have hm:=hm.pure hp
              refine aAb (cT0 ⟨fun _=>hm.tail.tail,?_⟩)
              refine aAt (k:=13) (by kernel_rfl) rfl rfl ?_
              refine oA0 hk rfl rfl fun a hk=>?_
              refine aAb (cT0 ⟨fun h=>Bool.noConfusion (show true=false from h),?_⟩)
              refine aBh (by kernel_rfl) ?_ _
              refine cT0 ?_
              refine wp_ret ?_
              refine bT0 rfl hk rfl ?_
              refine⟨hm.agr,congrArg Value.bool ?_⟩
              rw[if_neg (by omega),if_neg (by omega),if_neg (by omega),if_neg (by omega),if_neg (by omega)]
              exact Bool.eq_iff_iff.2 (by simp)
theorem aQQ:∀ f:Fld,aKh f=true→aNe f:=aEW fun f ih h=>by
  have ht:=aDT h
  exact @aSz f (fun g hg=>ih g hg (aBC ht.2.2.2.2 g hg)) ht.2.2.2.1 (aIm ht.2.2.2.2)
end Go.Proofs.YtipgdlbbmlnfiaaGreatDoor
