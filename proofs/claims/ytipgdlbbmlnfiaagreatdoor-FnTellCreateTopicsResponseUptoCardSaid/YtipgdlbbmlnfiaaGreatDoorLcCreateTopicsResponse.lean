/- Walks of functions that the seat's laws reach. -/
import Derived.Test.YtipgdlbbmlnfiaaGreatDoorL4
import Derived.WalkKit
import Derived.ProofKit
import Derived.OpenShut
import Derived.Deep.DeepHandedRow
import Derived.Lib.LaidTab
import Derived.Stop.LaidErr
import Derived.SevenTiedAt
import Derived.MakeChecks
import Derived.Test.YtipgdlbbmlnfiaaGreatDoorRows
import Derived.Test.YtipgdlbbmlnfiaaGreatDoorFa
import Derived.Test.YtipgdlbbmlnfiaaGreatDoorLwCreateTopicsResponse
import Derived.Test.YtipgdlbbmlnfiaaGreatDoorLjCreateTopicsResponse
namespace Go.Proofs.YtipgdlbbmlnfiaaGreatDoor
open Go Go.Mk
open Go.ChangeShapes Go.WideShapes Go.ChangeAt Go.RowKit
theorem aTA : Tryz.prog.globalNamed "pub-mailsack/pub/kmsg/inner/kbin.ErrNotEnoughData" = some 1 := by kernel_rfl
theorem aIX:(Tryz.prog.globals[1]?).map (·.type)=some 55:=by kernel_rfl
theorem star : "*" ++ "errors.errorString" = "*errors.errorString" := by decide
theorem aMA (u : TypeId) (h : Tryz.prog.typeName? 3 u = some "*errors.errorString") : u = 225 :=
  typeName_ptr_named (nm := "errors.errorString") (by rw [star]; kernel_rfl) (by kernel_rfl) (by decide) u (by rw [star]; exact h)
theorem aM6:TreeTy Tryz.prog 26 66 2 22 5 4 23 24 64:=⟨by kernel_rfl,by kernel_rfl,by kernel_rfl,by kernel_rfl,by kernel_rfl,by kernel_rfl,by kernel_rfl,by kernel_rfl,by kernel_rfl,by kernel_rfl,by kernel_rfl,by kernel_rfl⟩

/-- What the row's list gives: the variable's cell. -/
theorem sentinel {W:World}(h:laidMetH Tryz.prog Rows.fnTellCreateTopicsResponseUptoRow.laid W):∃ gv:Value,W.cell? ⟨1,0,none⟩=some gv:=by
  rw[MakeChecks.laidMetH_plain _ _ _ (by kernel_rfl)] at h
  obtain⟨a1,s1,hv1,_⟩:=laid_sentinel h aTA aIX Tryz.underlying55 aMA Tryz.underlying225 Tryz.underlying243 rfl rfl Tryz.underlying9 (by kernel_rfl) (by kernel_rfl)
  exact⟨_,by simpa using World.var?_cell aTA hv1 0⟩
set_option maxRecDepth 100000 in
theorem contract (H:Type)(enc:TypeId × Value→H)(W:World)(base:Nat)(args:Array Value)(ds gs:List (DataW H))(before:List MemPlace)
    (hval:∀ (j:Nat) t v,Tryz.f6.params[j]?=some t→args[j]?=some v→Value.okWide Tryz.prog W .any base t v)
    (hW:DataW.Whole enc Tryz.prog Tryz.f6.params.toList Rows.fnTellCreateTopicsResponseSpec.vars false W args.toList ds gs before)
    (hextra:∀ d0 d1:DataW H,ds++gs=[d0,d1]→aIV Tryz.prog 26 d1∧aBl d1≤1048576) (hL:laidMetH Tryz.prog Rows.fnTellCreateTopicsResponseUptoRow.laid W) :
    Calls Tryz.prog 6 args W fun e W'=>∃ v,e=.returned v∧Rows.fnTellCreateTopicsResponseSpec.post enc Tryz.prog Tryz.f6 false true false false W args v W':=by
  have hW':=hW
  obtain⟨p,q,hA0,hV,rfl,hfz,hnd⟩:=hW
  have hA:DataW.TrodAll enc Tryz.prog W 0 (fun _=>true) true Tryz.f6.params.toList args.toList ds p:=hA0
  rw[Tryz.params6] at hA hval
  obtain⟨v0,vs0,d0,ds0,p0,q0,hargs,rfl,rfl,h0,r0⟩:=trodAll_cons hA
  obtain⟨v1,vs1,d1,ds1,p1,q1,rfl,rfl,rfl,h1,r1⟩:=trodAll_cons r0
  obtain⟨rfl,rfl,rfl⟩:=trodAll_nil r1
  obtain rfl:args=#[v0,v1]:=by cases args;simp_all
  obtain⟨rfl,rfl⟩:=trodVars_none hV
  have hx:=hextra d0 d1 (by simp)
  obtain⟨a0,rfl,rfl,rfl,w0⟩:=open_int Tryz.underlying5 (hval 0 5 v0 rfl rfl) h0
  clear hA0
  obtain⟨t,ct,rfl,hT,hbk0,hsn0,hwd⟩:=aJO aM6 (fun _=>rfl) aJI h1
  have hsn:t.sane=true:=hsn0 hx.1
  have hbk:t.bulk≤1048576:=Nat.le_trans hbk0 hx.2
  simp only[List.append_nil,List.nil_append] at hW'
  have hlt1:∀ x ∈ p1,x.block<W.heap.size:=fun x hx=>hW'.lt x (by simp[hx])
  have hb0 : 0≤a0∧a0<256:=by
    simp only[Lit.wf,Bool.and_eq_true,decide_eq_true_eq] at w0
    simp[IntKind.min,IntKind.max,IntKind.bits,IntKind.signed] at w0
    omega
  obtain⟨n,rfl⟩ : ∃ n:Nat,a0=(n:Int):=⟨a0.toNat,by omega⟩
  have hn:n<256:=by omega
  obtain⟨gv,hgv⟩:=sentinel hL
  refine Calls.mono (aIh (Y:=Nob) n hn hT hsn hwd (fun V _=>Nat.lt_of_le_of_lt (Nat.le_trans (aPe aAe rfl V t hsn) (Nat.mul_le_mul_left _ hbk)) (of_decide_eq_true (by kernel_rfl))) (aOC id hgv)) fun e W' he=>?_
  obtain⟨v,rfl,hg,rfl⟩:=he
  have hbel:=hg.below
  have hargs:=trodAll_cons_mk (enc:=enc) (shut_int (base:=0) (w:=W') (spare:=fun b=>decide (b<W.heap.size)) (held:=true) Tryz.underlying5 w0) (trodAll_cons_mk (Below.trod laidOut (by kernel_rfl) (of_decide_eq_true (by kernel_rfl)) h1 hbel hlt1) trodAll_mk0)
  simp only[List.append_nil,List.nil_append] at hargs
  exact⟨_,rfl,_,_,_,[],p1,[],hW',trodAll_cons_mk (shut_bool Tryz.underlying4 _) trodAll_mk0,hargs,rfl,hbel.frame _,fun h=>by cases h⟩
theorem aKs {H:Type}{ds gs:List (DataW H)}{d0 d1:DataW H}(he:ds++gs=[d0,d1])(hw:(DataW.weightsEach Tryz.prog [5,26] (ds++gs)).all (·≤reachBytes)=true):aIV Tryz.prog 26 d1:=fun n hn=>by
  rw[he] at hw
  refine of_decide_eq_true (List.all_eq_true.1 hw n ?_)
  simp only[DataW.weightsEach,List.mem_append]
  exact .inr (.inl hn)
end Go.Proofs.YtipgdlbbmlnfiaaGreatDoor
