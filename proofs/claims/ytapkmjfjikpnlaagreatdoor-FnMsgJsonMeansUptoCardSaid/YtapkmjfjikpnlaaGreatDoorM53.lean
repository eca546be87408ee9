/- FnMsgJsonMeansUptoCardSaid is proved in the last of these texts. No conditions. -/
import Derived.Test.YtapkmjfjikpnlaaGreatDoorM49
import Derived.Test.YtapkmjfjikpnlaaGreatDoorM51
import Derived.Test.YtapkmjfjikpnlaaGreatDoorM52
set_option maxRecDepth 100000
set_option maxHeartbeats 2000000
namespace Go.Proofs.YtapkmjfjikpnlaaGreatDoor.fnMsgJsonMeans
open Go.Shelf Go.ChangeShapes Go.WideShapes Go.ChangeAt Go.RowKit Go.Lib
set_option linter.unusedVariables false
theorem lifted(os:Os)(started:os.Started)(H:Type)(enc:TypeId×Value->H)(F:Stop.Interp):
 ReturnsInHanded {} Tryz.checked os 3 .any ((Rows.OpenSpec.upto Rows.fnMsgJsonMeansSpec).preRow enc Tryz.prog Tryz.f3 Rows.fnMsgJsonMeansUptoRow.domain false Rows.fnMsgJsonMeansUptoRow.laid) (((Rows.OpenSpec.upto Rows.fnMsgJsonMeansSpec).at F).post enc Tryz.prog Tryz.f3 false true false false):=by
 refine returnsInHanded_of_row (C:=Tryz.checked) (s:=Rows.OpenSpec.upto Rows.fnMsgJsonMeansSpec) own started (by kernel_rfl) Tryz.func3
  (witness_row_atRef (enc:=enc) (C:=Tryz.checked) false (laidWorld os) oG (wos os) (wv os) (wr os) (wo os) (witness_row os enc)) ?_
 intro W base args ds gs before hval0 hW _ hcond _ hL _ _;exact contract H enc W base args ds gs before hval0 hW (hcond _ rfl) (tabs hL)
theorem over:Rows.fnMsgJsonMeansUptoRow.holds Tryz.pinned (Rows.OpenSpec.upto Rows.fnMsgJsonMeansSpec):=
 OpenClaim.holds_of_cond 3 Tryz.f3 rfl rfl rfl rfl rfl rfl rfl ⟨rfl,rfl,rfl,rfl,rfl⟩ rfl rfl rfl rfl rfl (by kernel_rfl) Tryz.func3 (by kernel_rfl)
  (of_decide_eq_true (by kernel_rfl)) (by unfold Func.isWrapper;first|(rw[if_pos (by decide+kernel)];kernel_rfl)|(rw[if_neg (by decide+kernel)];exact⟨rfl,rfl⟩))
  (fun os started H enc _ F=>by rw[OpenClaim.pre_eq_preRow];exact lifted os started H enc F)
theorem plain(f:FuncId)(fn:Func)(hf:Tryz.pinned.checked.prog.funcNamed "pub-rescript/laws.FnMsgJsonMeans"=some f)(hfn:Tryz.pinned.checked.prog.funcs[f]? =some fn):
 true=Tryz.pinned.checked.prog.looks []/\∀(j:Nat)t,fn.params[j]? =some t->Tryz.pinned.checked.prog.wantsStandIn t=false:=by
 obtain rfl:f=3:=Option.some.inj ((show Tryz.prog.funcNamed "pub-rescript/laws.FnMsgJsonMeans"=some 3 by kernel_rfl).symm.trans hf) |>.symm;obtain rfl:fn=Tryz.f3:=(Option.some.inj (Tryz.func3.symm.trans hfn)).symm;refine⟨by kernel_rfl,fun j t ht=>?_⟩;rw[Tryz.params3]at ht;have hm:=Array.mem_of_getElem? ht;simp only[List.mem_toArray,List.mem_cons,List.not_mem_nil,or_false]at hm;rcases hm with rfl|rfl|rfl|rfl<;>exact(show Tryz.prog.wantsStandIn _=false by kernel_rfl)
theorem card:Rows.FnMsgJsonMeansUptoCardSaid:=
 Claim7.holds_tied_plain_at .later [] _ _ _ _ over (fun _ h=>by cases h) (by kernel_rfl) (fun _ h=>by cases h) fnMsgJsonMeansUpto_row_tie rfl ⟨rfl,rfl⟩ (by kernel_rfl) rfl plain (by kernel_rfl)
end Go.Proofs.YtapkmjfjikpnlaaGreatDoor.fnMsgJsonMeans
namespace Go.Proofs.YtapkmjfjikpnlaaGreatDoor
theorem fnMsgJsonMeansUpto_card:Rows.FnMsgJsonMeansUptoCardSaid:=fnMsgJsonMeans.card
end Go.Proofs.YtapkmjfjikpnlaaGreatDoor
