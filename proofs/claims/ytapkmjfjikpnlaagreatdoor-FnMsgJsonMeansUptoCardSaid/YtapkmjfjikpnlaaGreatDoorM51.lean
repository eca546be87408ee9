/- A part of FnMsgJsonMeans. No conditions. -/
import Derived.Test.YtapkmjfjikpnlaaGreatDoorM50
namespace Go.Proofs.YtapkmjfjikpnlaaGreatDoor.fnMsgJsonMeans
open Go.Shelf Go.ChangeShapes Go.WideShapes Go.ChangeAt Go.RowKit Go.Lib
set_option linter.unusedVariables false
theorem wos(os:Os):(laidWorld os).os=os:=by kernel_rfl
noncomputable def vF(os:Os)(g:Nat):Bool:=
 match(((begin Tryz.checked.prog (fun _ _=>0) default).world.heap[g]?).bind Obj.row?)with
 |none=>true
 |some (zero,t)=>
  match((laidWorld os).forCall (fun _ _=>0) ⟨#[],oG,[]⟩).heap[g]? with
  |some (.cells cs t' frozen)=>decide (t'=t)&&decide (frozen=(0,0))&&cs.size==zero.size&&(!Tryz.checked.prog.buildable t||Row.okRefB Tryz.checked.prog ((laidWorld os).forCall (fun _ _=>0) ⟨#[],oG,[]⟩) t cs)
  |_=>false
noncomputable def vZ(os:Os)(g:Nat):Bool:=
 match(((begin Tryz.checked.prog (fun _ _=>0) default).world.heap[g]?).bind Obj.row?)with
 |none=>true
 |some (zero,t)=>
  match((laidWorld os).forCall (fun _ _=>0) ⟨#[],oG,[]⟩).heap[g]? with
  |some (.cells cs t' frozen)=>decide (t'=t)&&decide (frozen=(0,0))&&cs.size==zero.size&&(match Tryz.checked.prog.cellTypes Tryz.checked.prog.depth t with|some ts=>cs.size==ts.length&&(cs.toList.zip ts).all (fun x=>Cell.okRefB Tryz.checked.prog ((laidWorld os).forCall (fun _ _=>0) ⟨#[],oG,[]⟩) x.2 x.1)|none=>false)
  |_=>false
theorem yJ{os:Os}{g:Nat}(h:vZ os g=true):vF os g=true:=by
 unfold vZ at h;unfold vF;obtain⟨r,hr⟩:∃r,r=(((begin Tryz.checked.prog (fun _ _=>0) default).world.heap[g]?).bind Obj.row?):=⟨_,rfl⟩
 obtain⟨o,ho⟩:∃o,o=((laidWorld os).forCall (fun _ _=>0) ⟨#[],oG,[]⟩).heap[g]? :=⟨_,rfl⟩
 rw[<-hr,<-ho]at h;rw[<-hr,<-ho];cases r with
 |none=>rfl
 |some x=>
  obtain⟨zero,t⟩:=x;cases o with
  |none=>cases h
  |some ob=>
   cases ob with
   |cells cs t' frozen=>
    simp only[Bool.and_eq_true]at h ⊢;refine⟨h.1,?_⟩;have h2:=h.2;cases hts:Tryz.checked.prog.cellTypes Tryz.checked.prog.depth t with
    |none=>rw[hts]at h2;cases h2
    |some ts=>
     rw[hts]at h2;simp only[Bool.and_eq_true,beq_iff_eq]at h2;rw[TB hts h2.1 h2.2,Bool.or_true]
   |_=>cases h
theorem vg0(os:Os):vF os 0=true:=by kernel_rfl
theorem vg1(os:Os):vF os 1=true:=yJ (by kernel_rfl)
theorem vg2(os:Os):vF os 2=true:=by kernel_rfl
theorem vg3(os:Os):vF os 3=true:=yJ (by kernel_rfl)
theorem vg4(os:Os):vF os 4=true:=yJ (by kernel_rfl)
theorem vg5(os:Os):vF os 5=true:=yJ (by kernel_rfl)
theorem vg6(os:Os):vF os 6=true:=yJ (by kernel_rfl)
theorem vg7(os:Os):vF os 7=true:=by kernel_rfl
theorem vg8(os:Os):vF os 8=true:=by kernel_rfl
theorem vg9(os:Os):vF os 9=true:=yJ (by kernel_rfl)
theorem vg10(os:Os):vF os 10=true:=yJ (by kernel_rfl)
theorem vg11(os:Os):vF os 11=true:=yJ (by kernel_rfl)
theorem vg12(os:Os):vF os 12=true:=yJ (by kernel_rfl)
theorem gsz:Tryz.checked.prog.globals.size=13:=by kernel_rfl
theorem ahU(os:Os)(g:Nat)(h:g<13):vF os g=true:=by
 match g,h with
 |0,_=>exact vg0 os
 |1,_=>exact vg1 os
 |2,_=>exact vg2 os
 |3,_=>exact vg3 os
 |4,_=>exact vg4 os
 |5,_=>exact vg5 os
 |6,_=>exact vg6 os
 |7,_=>exact vg7 os
 |8,_=>exact vg8 os
 |9,_=>exact vg9 os
 |10,_=>exact vg10 os
 |11,_=>exact vg11 os
 |12,_=>exact vg12 os
theorem wv(os:Os):((laidWorld os).forCall (fun _ _=>0) ⟨#[],oG,[]⟩).variablesRefB Tryz.checked.prog=true:=by
 have e:((laidWorld os).forCall (fun _ _=>0) ⟨#[],oG,[]⟩).variablesRefB Tryz.checked.prog=(List.range Tryz.checked.prog.globals.size).all (vF os):=by kernel_rfl
 rw[e,gsz,List.all_eq_true];exact fun g hg=>ahU os g (List.mem_range.1 hg)
end Go.Proofs.YtapkmjfjikpnlaaGreatDoor.fnMsgJsonMeans
