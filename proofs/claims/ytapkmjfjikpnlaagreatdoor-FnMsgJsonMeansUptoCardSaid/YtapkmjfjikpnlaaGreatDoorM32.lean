/- A part of FnMsgJsonMeans. No conditions. -/
import Derived.Test.YtapkmjfjikpnlaaGreatDoorM29
set_option maxHeartbeats 8000000
set_option maxRecDepth 100000
namespace Go.Proofs.YtapkmjfjikpnlaaGreatDoor
open Go.RowKit YtapkmjfjikpnlaaGreatDoorW.aG YtapkmjfjikpnlaaGreatDoorW.aJ
set_option linter.unusedVariables false
set_option linter.unusedSimpArgs false
def zD(x y:FT):Prop:=camel x.name≠camel y.name/\camel x.name≠y.name
def qO(mt:MT):Prop:=∀(k j:Nat)(x y:FT),mt.fields[k]? =some x->mt.fields[j]? =some y->j≠k->zD x y
theorem Fh{a b:ByteArray}(h:(a.toList==b.toList)=false):a≠b:=by rintro rfl;simp at h
theorem Dv{a b:ByteArray}(h:a=b):(a.toList==b.toList)=true:=by rw[h];simp
theorem toList_inj{a b:ByteArray}(h:(a.toList==b.toList)=true):a=b:=by
 obtain⟨⟨a⟩⟩:=a;obtain⟨⟨b⟩⟩:=b;simp at h;rw[h]
theorem wr50{k n:Nat}(h:k<n)(hn:n<=1000000):wrap64 ((k:Int)+1)=(k:Int)+1/\IntKind.i64.wrap ((k:Int)+1)=(k:Int)+1:=⟨w64 (by omega) (by omega),by rw[IntKind.wrap_i64];omega⟩
theorem Oq(S:fM)(hS:jW S)(w:World)(A0:Option Addr)(c0:Nat)(A1:Option Addr)(c1:Nat)(hSR:qZ w S A0 c0 A1 c1):
 Calls Tryz.prog 18 #[kG S A0 c0 A1 c1] w fun e w'=>∃b,e= .returned (.bool b)/\(b=true->∀mt∈S.ms,qO mt)/\Below w.heap.size w w':=by
 obtain⟨W3,hW3⟩:∃W3,W3=w.alloc (.cells #[.slice A0 S.ms.length c0,.slice A1 S.es.length c1] 25):=⟨_,rfl⟩
 have hB3:Below w.heap.size w W3:=by rw[hW3];exact ak (bg _ _) _
 have hx1:W3.heap[w.heap.size]? =some (.cells #[.slice A0 S.ms.length c0,.slice A1 S.es.length c1] 25 (0,0)):=by rw[hW3];exact aP w _
 have HX:=ah hx1;have HB:=ah hB3;have HS:=ah hS;have HSR:=ah hSR;have HW3:=ah hW3;clear hW3 hB3 hx1 hS hSR;go_enter Tryz.func18,Tryz.ntmps18
 go_upto_region 1 with fail
 rw[<-HW3.out];clear HW3;go_wp2
 go_loopg [2,3,4,5,6] S.ms.length (fun g v2 v3 v4 v5 v6 w'=>∃i:Nat,v3= .int .i64 i/\i+g=S.ms.length/\aC (∀mt∈S.ms.take i,qO mt)/\aC (Below W3.heap.size W3 w'))
 case atStart=>exact⟨0,rfl,by omega,⟨fun mt h=>absurd h List.not_mem_nil⟩,⟨bg _ _⟩⟩
 case round=>
  obtain⟨i,rfl,hg,HR,uM⟩:=hrel;obtain⟨wo,rfl⟩:∃wo:World,wo=wr:=⟨_,rfl⟩
  obtain⟨ga,rfl⟩:∃ga:Nat,ga=gk:=⟨_,rfl⟩
  have z1:wo.cell? ⟨w.heap.size,0,none⟩=some (.slice A0 S.ms.length c0):=(aA (aI HX.out uM.out) 0).trans rfl
  by_cases hlt:i<S.ms.length
  ·obtain⟨mt,hmt⟩:=bF hlt
   have hmem:=List.mem_of_getElem? hmt.out;obtain⟨hfl,hns⟩:=HS.out.fl mt hmem;have qH:=ah hfl;have Kt:=ah (fun t ht=>(HS.out.Vw mt hmem t ht).sz);obtain⟨Bo,AF,cF,rfl,m0,m1,m2,uK⟩:=Ag HSR.out.ms hmt.out;have NZ:=ah uK;have q1:=ay (au HB.out uM.out) m1;have i0:(0:Int)<=(i:Int):=by omega
   have i1:(i:Int)<(S.ms.length:Int):=by omega
   have d1:decide ((i:Int)<(S.ms.length:Int))=true:=bZ i1;have hsl:=HS.out.msl;obtain⟨e2,e1⟩:=wr50 hlt (by omega);have HG:=ah hg;clear hmem hfl hns uK m0 m1 m2 hsl hg
   go_upto_region 5 with fail
   clear z1 q1 i0 i1 d1;go_wp2
   go_loopg [2,5,6] mt.fields.length (fun g v2 v5 v6 w'=>∃k:Nat,v5= .int .i64 k/\k+g=mt.fields.length/\aC (∀(k' j:Nat)(x y:FT),k'<k->mt.fields[k']? =some x->mt.fields[j]? =some y->j≠k'->zD x y)/\aC (Below wo.heap.size wo w'))
   case atStart=>exact⟨0,rfl,by omega,⟨fun k' j x y h=>absurd h (by omega)⟩,⟨bg _ _⟩⟩
   case round=>
    obtain⟨k,rfl,hg2,HR2,HB2⟩:=hrel;obtain⟨wk,rfl⟩:∃wk:World,wk=wr:=⟨_,rfl⟩
    obtain⟨gb,rfl⟩:∃gb:Nat,gb=gk:=⟨_,rfl⟩
    by_cases hlk:k<mt.fields.length
    ·obtain⟨x,hx⟩:=bF hlk
     have d2:decide ((k:Int)<(mt.fields.length:Int))=true:=bZ (by omega);have HG2:=ah hg2;obtain⟨k2,k1⟩:=wr50 hlk (Nat.le_trans qH.out (by decide));clear hg2
     go_upto_region 8 with fail
     clear d2;go_wp2
     go_loopg [2,6] mt.fields.length (fun g v2 v6 w'=>∃j:Nat,v6= .int .i64 j/\j+g=mt.fields.length/\aC (∀(j':Nat)(y:FT),j'<j->mt.fields[j']? =some y->j'≠k->zD x y)/\aC (Below wk.heap.size wk w'))
     case atStart=>exact⟨0,rfl,by omega,⟨fun j' y h=>absurd h (by omega)⟩,⟨bg _ _⟩⟩
     case round=>
      obtain⟨j,rfl,hg3,HR3,HB3⟩:=hrel
      by_cases hlj:j<mt.fields.length
      ·obtain⟨y,hy⟩:=bF hlj
       have d2:decide ((j:Int)<(mt.fields.length:Int))=true:=bZ (by omega);have HG3:=ah hg3;obtain⟨j2,j1⟩:=wr50 hlj (Nat.le_trans qH.out (by decide));clear hg3
       by_cases hjk:j=k
       ·subst hjk
        have d3:((j:Int)!=(j:Int))=false:=Ef rfl;have HR3':=ah (show∀(j':Nat)(y:FT),j'<j+1->mt.fields[j']? =some y->j'≠j->zD x y from fun j' y' h hy' hne=>HR3.out j' y' (by omega) hy' hne);go_wp2
        go_quiet (fail)
        go_wp2;obtain⟨g',hg'⟩:∃g',gk=g'+1:=⟨gk-1,by have:=HG3.out;omega⟩
        go_roundg g'
        case measure=>omega
        case rel=>exact⟨j+1,rfl,by have:=HG3.out;omega,HR3',⟨au HB3.out (aS (bg _ _) _)⟩⟩
       ·have d3:((j:Int)!=(k:Int))=true:=Ci (by omega)
        obtain⟨VU,TI,x0,_⟩:=uT (Kd.aU NZ.out (au (au (au HB.out uM.out) HB2.out) HB3.out)) hx.out;obtain⟨abY,RP,y0,_⟩:=uT (Kd.aU NZ.out (au (au (au HB.out uM.out) HB2.out) HB3.out)) hy.out;subst TI;obtain rfl:VU=abY:=by injection RP
        have HHx:=ah (fun W:World=>nO x.name W (by have:=Kt.out x (List.mem_of_getElem? hx.out);omega));have HHy:=ah (fun W:World=>nO y.name W (by have:=Kt.out y (List.mem_of_getElem? hy.out);omega));have k0:(0:Int)<=(k:Int):=by omega
        have k1':(k:Int)<(mt.fields.length:Int):=by omega
        have j0:(0:Int)<=(j:Int):=by omega
        have j1':(j:Int)<(mt.fields.length:Int):=by omega
        have ahr:=ah hjk;clear hjk;cases e1:((camel x.name).toList==(camel y.name).toList)
        ·cases e2:((camel x.name).toList==y.name.toList)
         ·have HR3':=ah (show∀(j':Nat)(y:FT),j'<j+1->mt.fields[j']? =some y->j'≠k->zD x y from fun j' y' h hy' hne=>by
           by_cases h2:j'<j
           ·exact HR3.out j' y' h2 hy' hne
           ·obtain rfl:j'=j:=by omega
            rw[hy.out]at hy';cases hy';exact⟨Fh e1,Fh e2⟩)
          go_wp2
          go_region_held3 (fun w'=>w'.cell? (VU.add (k*6))=some (.string x.name)/\w'.cell? (VU.add (j*6))=some (.string y.name)/\aC (Below wr.heap.size wr w')) (first|exact⟨x0,y0,⟨aQ (bg _ _)⟩⟩|(rename _/\_/\aC _=>hs_;exact⟨ay hb hs_.1,ay hb hs_.2.1,⟨au hs_.2.2.out hb⟩⟩)) (first|(go_at_call 41;(with_reducible refine(HHx.out _).mono ?_);rintro e w5⟨rfl,hb⟩)|(go_at_call 41;(with_reducible refine(HHy.out _).mono ?_);rintro e w5⟨rfl,hb⟩))
          rename_i Oc;have Gt:=Oc.2.2;clear x0 y0;go_wp2;obtain⟨g',hg'⟩:∃g',gk=g'+1:=⟨gk-1,by have:=HG3.out;omega⟩
          go_roundg g'
          case measure=>omega
          case rel=>exact⟨j+1,rfl,by have:=HG3.out;omega,HR3',⟨au HB3.out Gt.out⟩⟩
         ·go_wp2
          go_region_held3 (fun w'=>w'.cell? (VU.add (k*6))=some (.string x.name)/\w'.cell? (VU.add (j*6))=some (.string y.name)/\aC (Below wr.heap.size wr w')) (first|exact⟨x0,y0,⟨aQ (bg _ _)⟩⟩|(rename _/\_/\aC _=>hs_;exact⟨ay hb hs_.1,ay hb hs_.2.1,⟨au hs_.2.2.out hb⟩⟩)) (first|(go_at_call 41;(with_reducible refine(HHx.out _).mono ?_);rintro e w5⟨rfl,hb⟩)|(go_at_call 41;(with_reducible refine(HHy.out _).mono ?_);rintro e w5⟨rfl,hb⟩))
          rename_i Oc;have Gt:=Oc.2.2;clear x0 y0;go_wp2
          go_ret
          exact⟨false,rfl,fun h=>(by cases h),au (au (au HB.out uM.out) HB2.out) (au HB3.out Gt.out)⟩
        ·have hxy:=toList_inj e1
         rw[<-hxy]at HHy;clear e1 hxy;go_wp2;clear HS HSR HX HR HR2 HR3 Kt NZ ahr HG HG2 HG3 qH;refine wp_region_held_drew (S:=(fun w':World=>w'.cell? (VU.add (k*6))=some (.string x.name)/\w'.cell? (VU.add (j*6))=some (.string y.name)/\aC (Below wr.heap.size wr w'))) (by kernel_rfl) ⟨x0,y0,⟨aQ (bg _ _)⟩⟩ (fun hHeld=>?_);clear x0 y0;refine wpAnyH_take (i:=0) (oi:=({dst:=some 32,op:=Go.Op.move (Go.Operand.tmp 6),type:=3,pos:= "jmessage.go:9",after:=#[],guard:=none}:Go.Oper)) (v:=?_) rfl (by kernel_rfl) (by kernel_rfl) (by kernel_rfl) (fun _ _ _ h=>h) (Or.inl ⟨by rfl,?_⟩) (by assumption) ?_
         rotate_left
         ·(intro w hSw;(try dsimp only at hSw);go_simp;(try with_reducible rfl))
         try simp only[Act.put,List.setIfInBounds_toArray,List.set_cons_zero,List.set_cons_succ]
         refine wpAnyH_take (i:=1) (oi:=({dst:=some 33,op:=Go.Op.move (Go.Operand.tmp 5),type:=3,pos:= "jmessage.go:9",after:=#[],guard:=none}:Go.Oper)) (v:=?_) rfl (by kernel_rfl) (by kernel_rfl) (by kernel_rfl) (fun _ _ _ h=>h) (Or.inl ⟨by rfl,?_⟩) (by assumption) ?_
         rotate_left
         ·(intro w hSw;(try dsimp only at hSw);go_simp;(try with_reducible rfl))
         try simp only[Act.put,List.setIfInBounds_toArray,List.set_cons_zero,List.set_cons_succ]
         refine wpAnyH_take (i:=2) (oi:=({dst:=some 34,op:=Go.Op.binOp Go.BinOp.neq 3 (Go.Operand.tmp 32) (Go.Operand.tmp 33) 3,type:=4,pos:= "jmessage.go:9",after:=#[{on:=0,ground:=Go.Ground.data},{on:=1,ground:=Go.Ground.data}],guard:=none}:Go.Oper)) (v:=?_) rfl (by kernel_rfl) (by kernel_rfl) (by kernel_rfl) (fun _ _ _ h=>h) (Or.inl ⟨by rfl,?_⟩) (by assumption) ?_
         rotate_left
         ·(intro w hSw;(try dsimp only at hSw);go_simp;(try with_reducible rfl))
         try simp only[Act.put,List.setIfInBounds_toArray,List.set_cons_zero,List.set_cons_succ]
         refine wpAnyH_take (i:=3) (oi:=({dst:=some 35,op:=Go.Op.move (Go.Operand.tmp 34),type:=4,pos:= "jmessage.go:9",after:=#[{on:=2,ground:=Go.Ground.data}],guard:=none}:Go.Oper)) (v:=?_) rfl (by kernel_rfl) (by kernel_rfl) (by kernel_rfl) (fun _ _ _ h=>h) (Or.inl ⟨by rfl,?_⟩) (by assumption) ?_
         rotate_left
         ·(intro w hSw;(try dsimp only at hSw);go_simp;(try with_reducible rfl))
         try simp only[Act.put,List.setIfInBounds_toArray,List.set_cons_zero,List.set_cons_succ]
         refine wpAnyH_take (i:=4) (oi:=({dst:=some 36,op:=Go.Op.move (Go.Operand.tmp 4),type:=71,pos:= "jmessage.go:9",after:=#[{on:=3,ground:=Go.Ground.guard}],guard:=some (3,true)}:Go.Oper)) (v:=?_) rfl (by kernel_rfl) (by kernel_rfl) (by kernel_rfl) (fun _ _ _ h=>h) (Or.inl ⟨by rfl,?_⟩) (by assumption) ?_
         rotate_left
         ·(intro w hSw;(try dsimp only at hSw);go_simp;(try with_reducible rfl))
         try simp only[Act.put,List.setIfInBounds_toArray,List.set_cons_zero,List.set_cons_succ]
         refine wpAnyH_take (i:=5) (oi:=({dst:=some 37,op:=Go.Op.move (Go.Operand.tmp 5),type:=3,pos:= "jmessage.go:9",after:=#[{on:=3,ground:=Go.Ground.guard}],guard:=some (3,true)}:Go.Oper)) (v:=?_) rfl (by kernel_rfl) (by kernel_rfl) (by kernel_rfl) (fun _ _ _ h=>h) (Or.inl ⟨by rfl,?_⟩) (by assumption) ?_
         rotate_left
         ·(intro w hSw;(try dsimp only at hSw);go_simp;(try with_reducible rfl))
         try simp only[Act.put,List.setIfInBounds_toArray,List.set_cons_zero,List.set_cons_succ]
         refine wpAnyH_take (i:=6) (oi:=({dst:=some 38,op:=Go.Op.indexAddr 71 (Go.Operand.tmp 36) (Go.Operand.tmp 37),type:=0,pos:= "jmessage.go:9",after:=#[{on:=4,ground:=Go.Ground.data},{on:=5,ground:=Go.Ground.data},{on:=3,ground:=Go.Ground.guard}],guard:=some (3,true)}:Go.Oper)) (v:=?_) rfl (by kernel_rfl) (by kernel_rfl) (by kernel_rfl) (fun _ _ _ h=>h) (Or.inl ⟨by rfl,?_⟩) (by assumption) ?_
         rotate_left
         ·(intro w hSw;(try dsimp only at hSw);go_simp;(try with_reducible rfl))
         try simp only[Act.put,List.setIfInBounds_toArray,List.set_cons_zero,List.set_cons_succ]
         refine wpAnyH_take (i:=7) (oi:=({dst:=some 39,op:=Go.Op.fieldAddr 70 (Go.Operand.tmp 38) 0,type:=0,pos:= "jmessage.go:9",after:=#[{on:=6,ground:=Go.Ground.data},{on:=3,ground:=Go.Ground.guard}],guard:=some (3,true)}:Go.Oper)) (v:=?_) rfl (by kernel_rfl) (by kernel_rfl) (by kernel_rfl) (fun _ _ _ h=>h) (Or.inl ⟨by rfl,?_⟩) (by assumption) ?_
         rotate_left
         ·(intro w hSw;(try dsimp only at hSw);go_simp;(try with_reducible rfl))
         try simp only[Act.put,List.setIfInBounds_toArray,List.set_cons_zero,List.set_cons_succ]
         refine wpAnyH_take (i:=8) (oi:=({dst:=some 40,op:=Go.Op.load 9 (Go.Operand.tmp 39),type:=9,pos:= "jmessage.go:9",after:=#[{on:=7,ground:=Go.Ground.data},{on:=3,ground:=Go.Ground.guard}],guard:=some (3,true)}:Go.Oper)) (v:=?_) rfl (by kernel_rfl) (by kernel_rfl) (by kernel_rfl) (fun _ _ _ h=>h) (Or.inl ⟨by rfl,?_⟩) (by assumption) ?_
         rotate_left
         ·(intro w hSw;(try dsimp only at hSw);go_simp;(try with_reducible rfl))
         try simp only[Act.put,List.setIfInBounds_toArray,List.set_cons_zero,List.set_cons_succ]
         refine wpAnyH_take (i:=10) (oi:=({dst:=some 42,op:=Go.Op.move (Go.Operand.tmp 4),type:=71,pos:= "jmessage.go:9",after:=#[{on:=3,ground:=Go.Ground.guard}],guard:=some (3,true)}:Go.Oper)) (v:=?_) rfl (by kernel_rfl) (by kernel_rfl) (by kernel_rfl) (fun _ _ _ h=>h) (Or.inl ⟨by rfl,?_⟩) (by assumption) ?_
         rotate_left
         ·(intro w hSw;(try dsimp only at hSw);go_simp;(try with_reducible rfl))
         try simp only[Act.put,List.setIfInBounds_toArray,List.set_cons_zero,List.set_cons_succ]
         refine wpAnyH_take (i:=11) (oi:=({dst:=some 43,op:=Go.Op.move (Go.Operand.tmp 6),type:=3,pos:= "jmessage.go:9",after:=#[{on:=3,ground:=Go.Ground.guard}],guard:=some (3,true)}:Go.Oper)) (v:=?_) rfl (by kernel_rfl) (by kernel_rfl) (by kernel_rfl) (fun _ _ _ h=>h) (Or.inl ⟨by rfl,?_⟩) (by assumption) ?_
         rotate_left
         ·(intro w hSw;(try dsimp only at hSw);go_simp;(try with_reducible rfl))
         try simp only[Act.put,List.setIfInBounds_toArray,List.set_cons_zero,List.set_cons_succ]
         refine wpAnyH_take (i:=12) (oi:=({dst:=some 44,op:=Go.Op.indexAddr 71 (Go.Operand.tmp 42) (Go.Operand.tmp 43),type:=0,pos:= "jmessage.go:9",after:=#[{on:=10,ground:=Go.Ground.data},{on:=11,ground:=Go.Ground.data},{on:=3,ground:=Go.Ground.guard}],guard:=some (3,true)}:Go.Oper)) (v:=?_) rfl (by kernel_rfl) (by kernel_rfl) (by kernel_rfl) (fun _ _ _ h=>h) (Or.inl ⟨by rfl,?_⟩) (by assumption) ?_
         rotate_left
         ·(intro w hSw;(try dsimp only at hSw);go_simp;(try with_reducible rfl))
         try simp only[Act.put,List.setIfInBounds_toArray,List.set_cons_zero,List.set_cons_succ]
         refine wpAnyH_take (i:=13) (oi:=({dst:=some 45,op:=Go.Op.fieldAddr 70 (Go.Operand.tmp 44) 0,type:=0,pos:= "jmessage.go:9",after:=#[{on:=12,ground:=Go.Ground.data},{on:=3,ground:=Go.Ground.guard}],guard:=some (3,true)}:Go.Oper)) (v:=?_) rfl (by kernel_rfl) (by kernel_rfl) (by kernel_rfl) (fun _ _ _ h=>h) (Or.inl ⟨by rfl,?_⟩) (by assumption) ?_
         rotate_left
         ·(intro w hSw;(try dsimp only at hSw);go_simp;(try with_reducible rfl))
         try simp only[Act.put,List.setIfInBounds_toArray,List.set_cons_zero,List.set_cons_succ]
         refine wpAnyH_take (i:=14) (oi:=({dst:=some 46,op:=Go.Op.load 9 (Go.Operand.tmp 45),type:=9,pos:= "jmessage.go:9",after:=#[{on:=13,ground:=Go.Ground.data},{on:=3,ground:=Go.Ground.guard}],guard:=some (3,true)}:Go.Oper)) (v:=?_) rfl (by kernel_rfl) (by kernel_rfl) (by kernel_rfl) (fun _ _ _ h=>h) (Or.inl ⟨by rfl,?_⟩) (by assumption) ?_
         rotate_left
         ·(intro w hSw;(try dsimp only at hSw);go_simp;(try with_reducible rfl))
         try simp only[Act.put,List.setIfInBounds_toArray,List.set_cons_zero,List.set_cons_succ]
         refine wpAnyH_ready (rs:=[9]) (by kernel_rfl) (by simp) ?_;refine AllReadyH.cons (o:=({dst:=some 41,op:=Go.Op.call {callee:=Go.Callee.value (Go.Operand.func 41),args:=#[Go.Operand.tmp 40],argTypes:=#[9]},type:=9,pos:= "jmessage.go:9",after:=#[{on:=8,ground:=Go.Ground.data},{on:=3,ground:=Go.Ground.chain},{on:=3,ground:=Go.Ground.guard}],guard:=some (3,true)}:Go.Oper)) rfl (fun K hK=>?_) AllReadyH.nil
         ·go_simp
          (go_at_call 41;(with_reducible refine(HHx.out _).mono ?_);rintro e w5⟨rfl,hb⟩)
          refine hK.out _ _ ⟨ay hb hHeld.1,ay hb hHeld.2.1,⟨au hHeld.2.2.out hb⟩⟩ (fun Hy=>?_);clear hK K hb hHeld
          try simp only[Act.put,List.setIfInBounds_toArray,List.set_cons_zero,List.set_cons_succ]
          refine wpAnyH_ready (rs:=[15]) (by kernel_rfl) (by simp) ?_;refine AllReadyH.cons (o:=({dst:=some 47,op:=Go.Op.call {callee:=Go.Callee.value (Go.Operand.func 41),args:=#[Go.Operand.tmp 46],argTypes:=#[9]},type:=9,pos:= "jmessage.go:9",after:=#[{on:=14,ground:=Go.Ground.data},{on:=9,ground:=Go.Ground.chain},{on:=3,ground:=Go.Ground.guard}],guard:=some (3,true)}:Go.Oper)) rfl (fun K hK=>?_) AllReadyH.nil
          go_simp
          (go_at_call 41;(with_reducible refine(HHy.out _).mono ?_);rintro e w6⟨rfl,hb⟩)
          refine hK.out _ _ ⟨ay hb Hy.1,ay hb Hy.2.1,⟨au Hy.2.2.out hb⟩⟩ (fun WM=>?_);clear hK K hb Hy
          try simp only[Act.put,List.setIfInBounds_toArray,List.set_cons_zero,List.set_cons_succ]
          refine wpAnyH_take (i:=16) (oi:=({dst:=some 48,op:=Go.Op.binOp Go.BinOp.eql 9 (Go.Operand.tmp 41) (Go.Operand.tmp 47) 9,type:=4,pos:= "jmessage.go:9",after:=#[{on:=9,ground:=Go.Ground.data},{on:=15,ground:=Go.Ground.data},{on:=3,ground:=Go.Ground.guard}],guard:=some (3,true)}:Go.Oper)) (v:=?_) rfl (by kernel_rfl) (by kernel_rfl) (by kernel_rfl) (fun _ _ _ h=>h) (Or.inl ⟨by rfl,?_⟩) (by assumption) ?_
          rotate_left
          ·(intro w hSw;(try dsimp only at hSw);go_simp;(try with_reducible rfl))
          try simp only[Act.put,List.setIfInBounds_toArray,List.set_cons_zero,List.set_cons_succ]
          refine wpAnyH_take (i:=17) (oi:=({dst:=some 49,op:=Go.Op.move (Go.Operand.tmp 48),type:=4,pos:= "jmessage.go:9",after:=#[{on:=16,ground:=Go.Ground.data},{on:=15,ground:=Go.Ground.chain},{on:=3,ground:=Go.Ground.guard}],guard:=some (3,true)}:Go.Oper)) (v:=?_) rfl (by kernel_rfl) (by kernel_rfl) (by kernel_rfl) (fun _ _ _ h=>h) (Or.inl ⟨by rfl,?_⟩) (by assumption) ?_
          rotate_left
          ·(intro w hSw;(try dsimp only at hSw);go_simp;(try with_reducible rfl))
          try simp only[Act.put,List.setIfInBounds_toArray,List.set_cons_zero,List.set_cons_succ]
          refine wpAnyH_take (i:=18) (oi:=({dst:=some 50,op:=Go.Op.move (Go.Operand.tmp 4),type:=71,pos:= "jmessage.go:9",after:=#[{on:=17,ground:=Go.Ground.guard}],guard:=some (17,false)}:Go.Oper)) (v:=undef) rfl (by kernel_rfl) (by kernel_rfl) (by kernel_rfl) (fun _ _ _ h=>h) (Or.inr ⟨by rfl,rfl⟩) (by assumption) ?_
          try simp only[Act.put,List.setIfInBounds_toArray,List.set_cons_zero,List.set_cons_succ]
          refine wpAnyH_take (i:=19) (oi:=({dst:=some 51,op:=Go.Op.move (Go.Operand.tmp 5),type:=3,pos:= "jmessage.go:9",after:=#[{on:=17,ground:=Go.Ground.guard}],guard:=some (17,false)}:Go.Oper)) (v:=undef) rfl (by kernel_rfl) (by kernel_rfl) (by kernel_rfl) (fun _ _ _ h=>h) (Or.inr ⟨by rfl,rfl⟩) (by assumption) ?_
          try simp only[Act.put,List.setIfInBounds_toArray,List.set_cons_zero,List.set_cons_succ]
          refine wpAnyH_take (i:=20) (oi:=({dst:=some 52,op:=Go.Op.indexAddr 71 (Go.Operand.tmp 50) (Go.Operand.tmp 51),type:=0,pos:= "jmessage.go:9",after:=#[{on:=18,ground:=Go.Ground.data},{on:=19,ground:=Go.Ground.data},{on:=17,ground:=Go.Ground.guard}],guard:=some (17,false)}:Go.Oper)) (v:=undef) rfl (by kernel_rfl) (by kernel_rfl) (by kernel_rfl) (fun _ _ _ h=>h) (Or.inr ⟨by rfl,rfl⟩) (by assumption) ?_
          try simp only[Act.put,List.setIfInBounds_toArray,List.set_cons_zero,List.set_cons_succ]
          refine wpAnyH_take (i:=21) (oi:=({dst:=some 53,op:=Go.Op.fieldAddr 70 (Go.Operand.tmp 52) 0,type:=0,pos:= "jmessage.go:9",after:=#[{on:=20,ground:=Go.Ground.data},{on:=17,ground:=Go.Ground.guard}],guard:=some (17,false)}:Go.Oper)) (v:=undef) rfl (by kernel_rfl) (by kernel_rfl) (by kernel_rfl) (fun _ _ _ h=>h) (Or.inr ⟨by rfl,rfl⟩) (by assumption) ?_
          try simp only[Act.put,List.setIfInBounds_toArray,List.set_cons_zero,List.set_cons_succ]
          refine wpAnyH_take (i:=22) (oi:=({dst:=some 54,op:=Go.Op.load 9 (Go.Operand.tmp 53),type:=9,pos:= "jmessage.go:9",after:=#[{on:=21,ground:=Go.Ground.data},{on:=17,ground:=Go.Ground.guard}],guard:=some (17,false)}:Go.Oper)) (v:=undef) rfl (by kernel_rfl) (by kernel_rfl) (by kernel_rfl) (fun _ _ _ h=>h) (Or.inr ⟨by rfl,rfl⟩) (by assumption) ?_
          try simp only[Act.put,List.setIfInBounds_toArray,List.set_cons_zero,List.set_cons_succ]
          refine wpAnyH_take (i:=23) (oi:=({dst:=some 55,op:=Go.Op.call {callee:=Go.Callee.value (Go.Operand.func 41),args:=#[Go.Operand.tmp 54],argTypes:=#[9]},type:=9,pos:= "jmessage.go:9",after:=#[{on:=22,ground:=Go.Ground.data},{on:=17,ground:=Go.Ground.chain},{on:=17,ground:=Go.Ground.guard}],guard:=some (17,false)}:Go.Oper)) (v:=undef) rfl (by kernel_rfl) (by kernel_rfl) (by kernel_rfl) (fun _ _ _ h=>h) (Or.inr ⟨by rfl,rfl⟩) (by assumption) ?_
          try simp only[Act.put,List.setIfInBounds_toArray,List.set_cons_zero,List.set_cons_succ]
          refine wpAnyH_take (i:=24) (oi:=({dst:=some 56,op:=Go.Op.move (Go.Operand.tmp 4),type:=71,pos:= "jmessage.go:9",after:=#[{on:=17,ground:=Go.Ground.guard}],guard:=some (17,false)}:Go.Oper)) (v:=undef) rfl (by kernel_rfl) (by kernel_rfl) (by kernel_rfl) (fun _ _ _ h=>h) (Or.inr ⟨by rfl,rfl⟩) (by assumption) ?_
          try simp only[Act.put,List.setIfInBounds_toArray,List.set_cons_zero,List.set_cons_succ]
          refine wpAnyH_take (i:=25) (oi:=({dst:=some 57,op:=Go.Op.move (Go.Operand.tmp 6),type:=3,pos:= "jmessage.go:9",after:=#[{on:=17,ground:=Go.Ground.guard}],guard:=some (17,false)}:Go.Oper)) (v:=undef) rfl (by kernel_rfl) (by kernel_rfl) (by kernel_rfl) (fun _ _ _ h=>h) (Or.inr ⟨by rfl,rfl⟩) (by assumption) ?_
          try simp only[Act.put,List.setIfInBounds_toArray,List.set_cons_zero,List.set_cons_succ]
          refine wpAnyH_take (i:=26) (oi:=({dst:=some 58,op:=Go.Op.indexAddr 71 (Go.Operand.tmp 56) (Go.Operand.tmp 57),type:=0,pos:= "jmessage.go:9",after:=#[{on:=24,ground:=Go.Ground.data},{on:=25,ground:=Go.Ground.data},{on:=17,ground:=Go.Ground.guard}],guard:=some (17,false)}:Go.Oper)) (v:=undef) rfl (by kernel_rfl) (by kernel_rfl) (by kernel_rfl) (fun _ _ _ h=>h) (Or.inr ⟨by rfl,rfl⟩) (by assumption) ?_
          try simp only[Act.put,List.setIfInBounds_toArray,List.set_cons_zero,List.set_cons_succ]
          refine wpAnyH_take (i:=27) (oi:=({dst:=some 59,op:=Go.Op.fieldAddr 70 (Go.Operand.tmp 58) 0,type:=0,pos:= "jmessage.go:9",after:=#[{on:=26,ground:=Go.Ground.data},{on:=17,ground:=Go.Ground.guard}],guard:=some (17,false)}:Go.Oper)) (v:=undef) rfl (by kernel_rfl) (by kernel_rfl) (by kernel_rfl) (fun _ _ _ h=>h) (Or.inr ⟨by rfl,rfl⟩) (by assumption) ?_
          try simp only[Act.put,List.setIfInBounds_toArray,List.set_cons_zero,List.set_cons_succ]
          refine wpAnyH_take (i:=28) (oi:=({dst:=some 60,op:=Go.Op.load 9 (Go.Operand.tmp 59),type:=9,pos:= "jmessage.go:9",after:=#[{on:=27,ground:=Go.Ground.data},{on:=17,ground:=Go.Ground.guard}],guard:=some (17,false)}:Go.Oper)) (v:=undef) rfl (by kernel_rfl) (by kernel_rfl) (by kernel_rfl) (fun _ _ _ h=>h) (Or.inr ⟨by rfl,rfl⟩) (by assumption) ?_
          try simp only[Act.put,List.setIfInBounds_toArray,List.set_cons_zero,List.set_cons_succ]
          refine wpAnyH_take (i:=29) (oi:=({dst:=some 61,op:=Go.Op.binOp Go.BinOp.eql 9 (Go.Operand.tmp 55) (Go.Operand.tmp 60) 9,type:=4,pos:= "jmessage.go:9",after:=#[{on:=23,ground:=Go.Ground.data},{on:=28,ground:=Go.Ground.data},{on:=17,ground:=Go.Ground.guard}],guard:=some (17,false)}:Go.Oper)) (v:=undef) rfl (by kernel_rfl) (by kernel_rfl) (by kernel_rfl) (fun _ _ _ h=>h) (Or.inr ⟨by rfl,rfl⟩) (by assumption) ?_
          try simp only[Act.put,List.setIfInBounds_toArray,List.set_cons_zero,List.set_cons_succ]
          refine wpAnyH_take (i:=30) (oi:=({dst:=some 62,op:=Go.Op.pick (Go.Operand.tmp 49) (Go.Operand.const (Go.Value.bool true)) (Go.Operand.tmp 61),type:=4,pos:= "jmessage.go:9",after:=#[{on:=17,ground:=Go.Ground.data},{on:=29,ground:=Go.Ground.data},{on:=3,ground:=Go.Ground.guard}],guard:=some (3,true)}:Go.Oper)) (v:=?_) rfl (by kernel_rfl) (by kernel_rfl) (by kernel_rfl) (fun _ _ _ h=>h) (Or.inl ⟨by rfl,?_⟩) (by assumption) ?_
          rotate_left
          ·(intro w hSw;(try dsimp only at hSw);go_simp;(try with_reducible rfl))
          try simp only[Act.put,List.setIfInBounds_toArray,List.set_cons_zero,List.set_cons_succ]
          refine wpAnyH_take (i:=31) (oi:=({dst:=some 63,op:=Go.Op.pick (Go.Operand.tmp 35) (Go.Operand.tmp 62) (Go.Operand.const (Go.Value.bool false)),type:=4,pos:= "jmessage.go:9",after:=#[{on:=3,ground:=Go.Ground.data},{on:=30,ground:=Go.Ground.data}],guard:=none}:Go.Oper)) (v:=?_) rfl (by kernel_rfl) (by kernel_rfl) (by kernel_rfl) (fun _ _ _ h=>h) (Or.inl ⟨by rfl,?_⟩) (by assumption) ?_
          rotate_left
          ·(intro w hSw;(try dsimp only at hSw);go_simp;(try with_reducible rfl))
          try simp only[Act.put,List.setIfInBounds_toArray,List.set_cons_zero,List.set_cons_succ]
          refine wpAnyH_done (by kernel_rfl) ?_ _;have Gt:=WM.2.2;clear WM;go_wp2
          go_ret
          exact⟨false,rfl,fun h=>(by cases h),au (au (au HB.out uM.out) HB2.out) (au HB3.out Gt.out)⟩
      ·obtain rfl:j=mt.fields.length:=by omega
       have d2:decide ((mt.fields.length:Int)<(mt.fields.length:Int))=false:=bY (by omega)
       have HR2':=ah (show∀(k' j:Nat)(x y:FT),k'<k+1->mt.fields[k']? =some x->mt.fields[j]? =some y->j≠k'->zD x y from fun k' j x' y hk hx' hy hne=>by
        by_cases h:k'<k
        ·exact HR2.out k' j x' y h hx' hy hne
        ·obtain rfl:k'=k:=by omega
         rw[hx.out]at hx';cases hx';exact HR3.out j y (List.getElem?_eq_some_iff.1 hy).1 hy hne)
       go_wp2;obtain⟨g',hg'⟩:∃g',gb=g'+1:=⟨gb-1,by have:=HG2.out;omega⟩
       go_roundg g'
       case measure=>omega
       case rel=>exact⟨k+1,rfl,by have:=HG2.out;omega,HR2',⟨au HB2.out HB3.out⟩⟩
    ·obtain rfl:k=mt.fields.length:=by omega
     have d2:decide ((mt.fields.length:Int)<(mt.fields.length:Int))=false:=bY (by omega)
     have HR':=ah (show∀mt∈S.ms.take (i+1),qO mt by
      intro m2 hm2;obtain⟨hi,hv⟩:=List.getElem?_eq_some_iff.1 hmt.out;rw[List.take_succ_eq_append_getElem hi,hv]at hm2;rcases List.mem_append.1 hm2 with h|h
      ·exact HR.out m2 h
      ·rw[List.mem_singleton.1 h]
       exact fun k' j x y hx hy hne=>HR2.out k' j x y (List.getElem?_eq_some_iff.1 hx).1 hx hy hne)
     go_wp2;obtain⟨g',hg'⟩:∃g',ga=g'+1:=⟨ga-1,by have:=HG.out;omega⟩
     go_roundg g'
     case measure=>omega
     case rel=>exact⟨i+1,rfl,by have:=HG.out;omega,HR',⟨au uM.out HB2.out⟩⟩
  ·obtain rfl:i=S.ms.length:=by omega
   have d1:decide ((S.ms.length:Int)<(S.ms.length:Int))=false:=bY (by omega);go_wp2
   go_ret
   have h:=HR.out;rw[List.take_length]at h;exact⟨true,rfl,fun _=>h,au HB.out uM.out⟩
end Go.Proofs.YtapkmjfjikpnlaaGreatDoor
