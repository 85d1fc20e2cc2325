/- Walks of functions that the seat's laws reach. -/
import Derived.Test.YtipgdlbbmlnfiaaGreatDoorL4
import Derived.WalkKit
import Derived.ProofKit
import Derived.OpenShut
import Derived.Deep.DeepHandedRow
import Derived.Lib.LaidTab
import Derived.Stop.LaidErr
import Derived.SevenTiedAt
import Derived.MakeChecks
import Derived.Test.YtipgdlbbmlnfiaaGreatDoorRows
import Derived.Test.YtipgdlbbmlnfiaaGreatDoorFa
import Derived.Test.YtipgdlbbmlnfiaaGreatDoorLcCreateTopicsResponse
import Derived.Test.YtipgdlbbmlnfiaaGreatDoorLrCreateTopicsResponse
namespace Go.Proofs.YtipgdlbbmlnfiaaGreatDoor
open Go Go.Mk
open Go.ChangeShapes Go.WideShapes Go.ChangeAt Go.RowKit
mutual
theorem aJz {H:Type}:∀ d:DataW H,Rows.uptoBulk d=aBl d
  | .lit (.string bytes)=>by simp only[Rows.uptoBulk,aBl]
  | .lit (.int _ _)=>by simp only[Rows.uptoBulk,aBl]
  | .lit (.bool _)=>by simp only[Rows.uptoBulk,aBl]
  | .lit (.float _ _)=>by simp only[Rows.uptoBulk,aBl]
  | .lit .nil=>by simp only[Rows.uptoBulk,aBl]
  | .nil=>by simp only[Rows.uptoBulk,aBl]
  | .ptr d=>by simp only[Rows.uptoBulk,aBl,aJz d]
  | .slice elems spare=>by simp only[Rows.uptoBulk,aBl,aHn elems,aHn spare]
  | .agg parts=>by simp only[Rows.uptoBulk,aBl,aHn parts]
  | .iface _ d=>by simp only[Rows.uptoBulk,aBl,aJz d]
  | .map entries=>by simp only[Rows.uptoBulk,aBl,aMT entries]
  | .held _=>by simp only[Rows.uptoBulk,aBl]
theorem aHn {H:Type}:∀ l:List (DataW H),Rows.uptoBulkAll l=aCM l
  | []=>by simp only[Rows.uptoBulkAll,aCM]
  | d::r=>by simp only[Rows.uptoBulkAll,aCM,aJz d,aHn r]
theorem aMT {H:Type}:∀ l:List (Lit × DataW H),Rows.uptoBulkEntries l=aHO l
  | []=>by simp only[Rows.uptoBulkEntries,aHO]
  | (x,d)::r=>by simp only[Rows.uptoBulkEntries,aHO,aYj x d,aMT r]
theorem aYj {H:Type}:∀ (x:Lit) (d:DataW H),Rows.uptoBulkEntry (x,d)=aGx (x,d)
  | .string bytes,d=>by simp only[Rows.uptoBulkEntry,aGx,aJz d]
  | .int _ _,d=>by simp only[Rows.uptoBulkEntry,aGx,aJz d]
  | .bool _,d=>by simp only[Rows.uptoBulkEntry,aGx,aJz d]
  | .float _ _,d=>by simp only[Rows.uptoBulkEntry,aGx,aJz d]
  | .nil,d=>by simp only[Rows.uptoBulkEntry,aGx,aJz d]
end
theorem aNh {H:Type}{ds gs:List (DataW H)}{d0 d1:DataW H}(he:ds++gs=[d0,d1])(hk:Rows.uptoSmall H (ds++gs)=true):aBl d1≤1048576:=by
  have hk2:Rows.uptoBulkAll [d0,d1]≤1048576:=of_decide_eq_true (he ▸ hk)
  rw[aHn] at hk2
  simp only[aCM] at hk2
  omega
set_option maxRecDepth 100000 in
theorem lifted (os:Os)(started:os.Started)(H:Type)(enc:TypeId × Value→H)(F:Stop.Interp) :
    ReturnsInHanded {} Tryz.checked os 6 .any ((Rows.OpenSpec.upto Rows.fnTellCreateTopicsResponseSpec).preRow enc Tryz.prog Tryz.f6 Rows.fnTellCreateTopicsResponseUptoRow.domain false Rows.fnTellCreateTopicsResponseUptoRow.laid) (((Rows.OpenSpec.upto Rows.fnTellCreateTopicsResponseSpec).at F).post enc Tryz.prog Tryz.f6 false true false false):=by
  obtain⟨places,hx⟩:=reads os enc
  refine returnsInHanded_of_row (C:=Tryz.checked) (s:=Rows.OpenSpec.upto Rows.fnTellCreateTopicsResponseSpec) own started (by kernel_rfl) Tryz.func6
    (witness_row_at (enc:=enc) (C:=Tryz.checked) false (aCB os) #[.int .u8 0,.agg #[.int .i64 0,.slice none 0 0,.bool false,.slice none 0 0,.slice none 0 0]] rfl (by kernel_rfl) (by kernel_rfl) (by kernel_rfl)
      (OpenSpec.preRow_of_cond 8 hx (by kernel_rfl) (fun k hk=>by cases hk;kernel_rfl) (by kernel_rfl) (aIy os))) ?_
  intro W base args ds gs before hval hW _ hk hwt hL _ _
  exact contract H enc W base args ds gs before hval hW (fun d0 d1 he=>⟨aKs he hwt,aNh he (hk _ rfl)⟩) hL
theorem said:Rows.FnTellCreateTopicsResponseUptoSaid :=
  OpenClaim.holds_of_cond 6 Tryz.f6 rfl rfl rfl rfl rfl rfl rfl ⟨rfl,rfl,rfl,rfl,rfl⟩ rfl rfl rfl rfl rfl (by kernel_rfl) Tryz.func6 closed
    (of_decide_eq_true (by kernel_rfl)) (by unfold Func.isWrapper;first|(rw[if_pos (by decide +kernel)];kernel_rfl)|(rw[if_neg (by decide +kernel)];exact⟨rfl,rfl⟩))
    (fun os started H enc _ F=>by rw[OpenClaim.pre_eq_preRow];exact lifted os started H enc F)
end Go.Proofs.YtipgdlbbmlnfiaaGreatDoor
