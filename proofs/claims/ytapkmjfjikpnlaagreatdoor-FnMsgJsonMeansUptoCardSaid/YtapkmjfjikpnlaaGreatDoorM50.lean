/- A part of FnMsgJsonMeans. No conditions. -/
import Derived.Test.YtapkmjfjikpnlaaGreatDoorM48
namespace Go.Proofs.YtapkmjfjikpnlaaGreatDoor.fnMsgJsonMeans
theorem TB{P:Program}{w:World}{t:TypeId}{cs:Array Value}{ts:List TypeId}(hts:P.cellTypes P.depth t=some ts)(hl:cs.size=ts.length)(h:((cs.toList.zip ts).all fun x=>Cell.okRefB P w x.2 x.1)=true):Row.okRefB P w t cs=true:=by
 unfold Row.okRefB;rw[hts];simp only[Bool.and_eq_true,beq_iff_eq,List.all_eq_true,List.mem_range]at h ⊢;refine⟨by rw[hl,Nat.mod_self],fun i hi=>?_⟩;have hi2:i<ts.length:=by omega
 rw[Nat.mod_eq_of_lt hi2,Array.getElem?_eq_getElem hi,List.getElem?_eq_getElem hi2];exact h (cs[i],ts[i]) (List.mem_iff_getElem.2 ⟨i,by simp;omega,by simp⟩)
end Go.Proofs.YtapkmjfjikpnlaaGreatDoor.fnMsgJsonMeans
