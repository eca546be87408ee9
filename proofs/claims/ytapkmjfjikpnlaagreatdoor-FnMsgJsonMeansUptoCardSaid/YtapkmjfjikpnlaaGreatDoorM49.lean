/- A part of FnMsgJsonMeans. No conditions. -/
import Derived.Test.YtapkmjfjikpnlaaGreatDoorM48
namespace Go.Proofs.YtapkmjfjikpnlaaGreatDoor.fnMsgJsonMeans
open Go.Shelf Go.ChangeShapes Go.WideShapes Go.ChangeAt Go.RowKit Go.Lib
set_option linter.unusedVariables false
theorem laid_met(os:Os):laidMet Tryz.prog Rows.fnMsgJsonMeansUptoRow.laid ((laidWorld os).forCall (fun _ _=>0) ⟨#[],oG,[]⟩).memory:=
 (LaidIn.of_run (l:=Rows.fnMsgJsonMeansUptoRow.laid) [9,10,5,4,8,7,0,3,N0,N0+1,N0+2] 8 (by kernel_rfl) (by kernel_rfl) (by kernel_rfl) (by kernel_rfl)).met
theorem witness_row(os:Os){H:Type}(enc:TypeId×Value->H):
 (Rows.OpenSpec.upto Rows.fnMsgJsonMeansSpec).preRow enc Tryz.prog Tryz.f3 Rows.fnMsgJsonMeansUptoRow.domain false Rows.fnMsgJsonMeansUptoRow.laid ((laidWorld os).forCall (fun _ _=>0) ⟨#[],oG,[]⟩).memory oG:=by
 have hw:(DataW.whole enc Tryz.prog ((laidWorld os).forCall (fun _ _=>0) ⟨#[],oG,[]⟩).memory Tryz.f3.params.toList Rows.fnMsgJsonMeansSpec.vars false oG.toList 8).map (fun x=>(x.1,x.2.1))=
  some ([.agg [.nil,.nil],.lit (.int .i64 0),.nil,.nil],[]):=by kernel_rfl
 obtain⟨⟨x1,x2,x3⟩,hx,hx1⟩:=Option.map_eq_some_iff.1 hw;simp only[Prod.mk.injEq]at hx1;obtain⟨rfl,rfl⟩:=hx1;exact OpenSpec.preRow_of_cond 8 hx (by kernel_rfl) (fun k hk=>by cases hk;kernel_rfl) (by kernel_rfl) (laid_met os)
end Go.Proofs.YtapkmjfjikpnlaaGreatDoor.fnMsgJsonMeans
