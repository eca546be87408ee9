/- A part of FnMsgJsonMeans. No conditions. -/
import Derived.Test.YtapkmjfjikpnlaaGreatDoorM48
namespace Go.Proofs.YtapkmjfjikpnlaaGreatDoor.fnMsgJsonMeans
open Go.Shelf Go.ChangeShapes Go.WideShapes Go.ChangeAt Go.RowKit Go.Lib
set_option linter.unusedVariables false
theorem wr(os:Os):(((laidWorld os).forCall (fun _ _=>0) ⟨#[],oG,[]⟩).heap.toList.drop Tryz.checked.prog.globals.size).take ((begin Tryz.checked.prog (fun _ _=>0) default).world.heap.size-Tryz.checked.prog.globals.size)=
 (begin Tryz.checked.prog (fun _ _=>0) default).world.heap.toList.drop Tryz.checked.prog.globals.size:=by kernel_rfl
theorem wo(os:Os):Input.okWideB Tryz.checked.prog ((laidWorld os).forCall (fun _ _=>0) ⟨#[],oG,[]⟩) 3 ⟨#[],oG,[]⟩=true:=by kernel_rfl
end Go.Proofs.YtapkmjfjikpnlaaGreatDoor.fnMsgJsonMeans
