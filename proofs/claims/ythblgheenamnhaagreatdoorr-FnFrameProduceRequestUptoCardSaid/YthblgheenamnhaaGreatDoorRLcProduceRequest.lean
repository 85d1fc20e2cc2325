/- Walks of functions that the laws of this seat reach. No statement of the seat stands here. -/
import Derived.Test.YthblgheenamnhaaGreatDoorRL4
import Derived.WalkKit
import Derived.ProofKit
import Derived.OpenShut
import Derived.Deep.DeepHandedRow
import Derived.Lib.LaidTab
import Derived.Stop.LaidErr
import Derived.SevenTiedAt
import Derived.MakeChecks
import Derived.Test.YthblgheenamnhaaGreatDoorRRows
import Derived.Test.YthblgheenamnhaaGreatDoorRFa
import Derived.Test.YthblgheenamnhaaGreatDoorRLwProduceRequest
import Derived.Test.YthblgheenamnhaaGreatDoorRLjProduceRequest
namespace Go.Proofs.YthblgheenamnhaaGreatDoorR
open Go Go.Mk
open Go.ChangeShapes Go.WideShapes Go.ChangeAt Go.RowKit
theorem gVar : Tryz.prog.globalNamed "pub-mailsack/pub/kmsg/inner/kbin.ErrNotEnoughData" = some 0 := by kernel_rfl
theorem gVarType:(Tryz.prog.globals[0]?).map (·.type) = some 55:=by kernel_rfl
theorem star : "*" ++ "errors.errorString" = "*errors.errorString" := by decide
theorem rowErr (u : TypeId) (h : Tryz.prog.typeName? 3 u = some "*errors.errorString") : u = 177 :=
  typeName_ptr_named (nm := "errors.errorString") (by rw [star]; kernel_rfl) (by kernel_rfl) (by decide) u (by rw [star]; exact h)
theorem treeTy:TreeTy Tryz.prog 28 67 2 24 5 4 25 26 65:=⟨by kernel_rfl,by kernel_rfl,by kernel_rfl,by kernel_rfl,by kernel_rfl,by kernel_rfl,by kernel_rfl,by kernel_rfl,by kernel_rfl,by kernel_rfl,by kernel_rfl,by kernel_rfl⟩

/-- What the row's list gives: the variable's cell. -/
theorem sentinel {W:World} (h:laidMetH Tryz.prog Rows.fnFrameProduceRequestUptoRow.laid W):∃ gv:Value,W.cell? ⟨0,0,none⟩ = some gv:=by
  rw [MakeChecks.laidMetH_plain _ _ _ (by kernel_rfl)] at h
  obtain ⟨a1,s1,hv1,_⟩:=laid_sentinel h gVar gVarType Tryz.underlying55 rowErr Tryz.underlying177 Tryz.underlying237 rfl rfl Tryz.underlying9 (by kernel_rfl) (by kernel_rfl)
  exact ⟨_,by simpa using World.var?_cell gVar hv1 0⟩
set_option maxRecDepth 100000 in
theorem contract (H:Type) (enc:TypeId × Value → H) (W:World) (base:Nat) (args:Array Value) (ds gs:List (DataW H)) (before:List MemPlace)
    (hval:∀ (j:Nat) t v,Tryz.f6.params[j]? = some t → args[j]? = some v → Value.okWide Tryz.prog W .any base t v)
    (hW:DataW.Whole enc Tryz.prog Tryz.f6.params.toList Rows.fnFrameProduceRequestSpec.vars false W args.toList ds gs before)
    (hextra:∀ d0 d1 d2 d3:DataW H,ds ++ gs = [d0,d1,d2,d3] → Light Tryz.prog 28 d3 ∧ bulkD d3 ≤ 1048576) (hL:laidMetH Tryz.prog Rows.fnFrameProduceRequestUptoRow.laid W) :
    Calls Tryz.prog 6 args W fun e W'=>∃ v,e = .returned v ∧ Rows.fnFrameProduceRequestSpec.post enc Tryz.prog Tryz.f6 false true false false W args v W':=by
  have hW':=hW
  obtain ⟨p,q,hA0,hV,rfl,hfz,hnd⟩:=hW
  have hA:DataW.TrodAll enc Tryz.prog W 0 (fun _=>true) true Tryz.f6.params.toList args.toList ds p:=hA0
  rw [Tryz.params6] at hA hval
  obtain ⟨v0,vs0,d0,ds0,p0,q0,hargs,rfl,rfl,h0,r0⟩:=trodAll_cons hA
  obtain ⟨v1,vs1,d1,ds1,p1,q1,rfl,rfl,rfl,h1,r1⟩:=trodAll_cons r0
  obtain ⟨v2,vs2,d2,ds2,p2,q2,rfl,rfl,rfl,h2,r2⟩:=trodAll_cons r1
  obtain ⟨v3,vs3,d3,ds3,p3,q3,rfl,rfl,rfl,h3,r3⟩:=trodAll_cons r2
  obtain ⟨rfl,rfl,rfl⟩:=trodAll_nil r3
  obtain rfl:args = #[v0,v1,v2,v3]:=by cases args; simp_all
  obtain ⟨rfl,rfl⟩:=trodVars_none hV
  have hx:=hextra d0 d1 d2 d3 (by simp)
  obtain ⟨has,s,rfl⟩:=open_id Tryz.underlying23 (by kernel_rfl) (by kernel_rfl) Tryz.underlying4 Tryz.underlying9 (hval 1 23 v1 rfl rfl)
  obtain ⟨a0,rfl,rfl,rfl,w0⟩:=open_int Tryz.underlying5 (hval 0 5 v0 rfl rfl) h0
  obtain ⟨a2,rfl,rfl,rfl,w2⟩:=open_int Tryz.underlying21 (hval 2 21 v2 rfl rfl) h2
  clear hA0
  obtain ⟨t,ct,rfl,hT,hbk0,hsn0,hwd⟩:=open_treeW treeTy (fun _=>rfl) agg_of_len h3
  have hsn:t.sane = true:=hsn0 hx.1
  have hbk:t.bulk ≤ 1048576:=Nat.le_trans hbk0 hx.2
  simp only [List.append_nil,List.nil_append] at hW'
  have hlt1:∀ x ∈ p1,x.block < W.heap.size:=fun x hx=>hW'.lt x (by simp [hx])
  have hlt3:∀ x ∈ p3,x.block < W.heap.size:=fun x hx=>hW'.lt x (by simp [hx])
  have hN:IntKind.i32.wrap a2 = a2:=by
    simp only [Lit.wf,Bool.and_eq_true,decide_eq_true_eq] at w2
    simp [IntKind.min,IntKind.max,IntKind.bits,IntKind.signed] at w2
    simp only [IntKind.wrap,IntKind.bits,IntKind.signed]; simp; omega
  have hb0 : 0 ≤ a0 ∧ a0 < 256:=by
    simp only [Lit.wf,Bool.and_eq_true,decide_eq_true_eq] at w0
    simp [IntKind.min,IntKind.max,IntKind.bits,IntKind.signed] at w0
    omega
  obtain ⟨n,rfl⟩ : ∃ n:Nat,a0 = (n:Int):=⟨a0.toNat,by omega⟩
  have hn:n < 256:=by omega
  obtain ⟨gv,hgv⟩:=sentinel hL
  refine Calls.mono (law_ProduceRequest (Y:=Nob) (has:=has) (s:=s) n hn hN hT hsn hwd (fun V _=>Nat.le_trans (Nat.add_le_add_right (Nat.le_trans (kp_part sch_ProduceRequest (fun _=>rfl) V t hsn) (Nat.mul_le_mul_left _ hbk)) 50000) (of_decide_eq_true (by kernel_rfl))) (cel_one id hgv)) fun e W' he=>?_
  obtain ⟨v,rfl,hg,rfl⟩:=he
  have hbel:=hg.below
  have hargs:=trodAll_cons_mk (enc:=enc) (shut_int (base:=0) (w:=W') (spare:=fun b=>decide (b < W.heap.size)) (held:=true) Tryz.underlying5 w0) (trodAll_cons_mk (Below.trod laidOut (by kernel_rfl) (of_decide_eq_true (by kernel_rfl)) h1 hbel hlt1) (trodAll_cons_mk (shut_int (base:=0) (w:=W') (spare:=fun b=>decide (b < W.heap.size)) (held:=true) Tryz.underlying21 w2) (trodAll_cons_mk (Below.trod laidOut (by kernel_rfl) (of_decide_eq_true (by kernel_rfl)) h3 hbel hlt3) trodAll_mk0)))
  simp only [List.append_nil,List.nil_append] at hargs
  exact ⟨_,rfl,_,_,_,[],p1 ++ p3,[],hW',trodAll_cons_mk (shut_bool Tryz.underlying4 _) trodAll_mk0,hargs,rfl,hbel.frame _,fun h=>by cases h⟩
theorem lightOf {H:Type} {ds gs:List (DataW H)} {d0 d1 d2 d3:DataW H} (he:ds ++ gs = [d0,d1,d2,d3]) (hw:(DataW.weightsEach Tryz.prog [5,23,21,28] (ds ++ gs)).all (· ≤ reachBytes) = true):Light Tryz.prog 28 d3:=fun n hn=>by
  rw [he] at hw
  refine of_decide_eq_true (List.all_eq_true.1 hw n ?_)
  simp only [DataW.weightsEach,List.mem_append]
  exact .inr (.inr (.inr (.inl hn)))
end Go.Proofs.YthblgheenamnhaaGreatDoorR
