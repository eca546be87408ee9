/- A part of FnMsgJsonMeans. No conditions. -/
import Derived.Test.YtapkmjfjikpnlaaGreatDoorM30
set_option maxHeartbeats 8000000
set_option maxRecDepth 100000
namespace Go.Proofs.YtapkmjfjikpnlaaGreatDoor
open Go.RowKit YtapkmjfjikpnlaaGreatDoorW.aG YtapkmjfjikpnlaaGreatDoorW.aJ
set_option linter.unusedVariables false
set_option linter.unusedSimpArgs false
def yH(F:Int):Int:=if lH F=true then 9221120237041090561 else F
def gQ(rec:List dD->List dD)(v:Val):Val:=.mk v.B v.I v.U (yH v.F) v.S (rec v.dA)
def eG:Nat->List dD->List dD
 |0,_=>[]
 |n+1,m=>m.map (fun f=>.mk f.At (f.Values.map (gQ (eG n))))
theorem KO(n:Nat)(m:List dD):(eG (n+1) m).length=m.length:=by simp[eG]
theorem WE{n:Nat}{m:List dD}{i:Nat}{f:dD}(h:m[i]? =some f):(eG (n+1) m)[i]? =some (.mk f.At (f.Values.map (gQ (eG n)))):=by simp[eG,h]
theorem WG{d d':Kd dD}(hs:d.sz=d'.sz)(hK:∀w x cs,d.K w x cs->d'.K w x cs){w:World}{x:Val}{cs:List Value}(h:(zq d).K w x cs):(zq d').K w x cs:=by
 obtain⟨a0,b0,rfl,h0,⟨a1,b1,rfl,h1,⟨a2,b2,rfl,h2,⟨a3,b3,rfl,h3,⟨a4,b4,rfl,h4,⟨A,c,rfl,h5,h6⟩⟩⟩⟩⟩⟩:=h;exact⟨a0,_,rfl,h0,⟨a1,_,rfl,h1,⟨a2,_,rfl,h2,⟨a3,_,rfl,h3,⟨a4,_,rfl,h4,⟨A,c,rfl,h5,Kd.TU hs hK h6⟩⟩⟩⟩⟩⟩
theorem Ol{d d':Kd dD}(hs:d.sz=d'.sz)(hK:∀w x cs,d.K w x cs->d'.K w x cs){w:World}{x:dD}{cs:List Value}(h:(NG d).K w x cs):(NG d').K w x cs:=by
 obtain⟨a0,b0,rfl,h0,⟨A,c,rfl,h5,h6⟩⟩:=h;exact⟨a0,_,rfl,h0,⟨A,c,rfl,h5,Kd.TU (d:=zq d) (d':=zq d') rfl (fun _ _ _ h=>WG hs hK h) h6⟩⟩
theorem Sv:∀n w x cs,(jh n).K w x cs->(jh (n+1)).K w x cs:=by
 intro n
 induction n with
 |zero=>intro w x cs h;exact h.elim
 |succ n ih=>
  intro w x cs h;exact Ol ((lg n).trans (lg (n+1)).symm) ih h
theorem Zq{n k:Nat}(h:n<=k):∀w x cs,(jh n).K w x cs->(jh k).K w x cs:=by
 induction k with
 |zero=>intro w x cs hk;rwa [show n=0 by omega]at hk
 |succ k ih=>
  intro w x cs hk
  by_cases e:n=k+1
  ·rwa [e]at hk
  ·exact Sv k w x cs (ih (by omega) w x cs hk)
theorem WH{n k:Nat}(h:n<=k){w:World}{A:Option Addr}{m:Nat}{l:List dD}(hc:Kd.C (jh n) w A m l):Kd.C (jh k) w A m l:=Kd.TU (by rw[lg,lg]) (Zq h) hc
theorem Sz(F:Int):((yH F==F)||(lH (yH F)&&lH F))=true:=by
 unfold yH
 by_cases h:lH F=true
 ·rw[if_pos h,h]
  rw[show lH 9221120237041090561=true by decide];simp
 ·rw[if_neg h];simp
def acE(S:fM)(n:Nat)(w0:World)(A0:Option Addr)(c0:Nat)(A1:Option Addr)(c1:Nat):Prop:=
 ∀(typ:Int)(m:List dD)(A2:Option Addr)(c2:Nat)(A3:Option Addr)(c3:Nat)(W:World),Kd.C (jh n) w0 A2 m.length (eG n m)->Kd.C (jh n) w0 A3 m.length m->qG S n typ m->Below w0.heap.size w0 W->
  Calls Tryz.prog 10 #[kG S A0 c0 A1 c1,.int .i64 typ,.slice A2 m.length c2,.slice A3 m.length c3,.bool false] W fun e w'=>e= .returned (.bool true)/\Below W.heap.size W w'
theorem xH{S:fM}{F:Int->List dD->Prop}{t:FT}{v:Val}(h:qF S F t v)(hk:aT t.kind≠8):v.dA=[]:=by
 rcases h with h|h|h|h|h|h|h|h
 ·rw[h.2];rfl
 ·rw[h.2.1];rfl
 ·rw[h.2.1];rfl
 ·rw[h.2.1];rfl
 ·rw[h.2.1];rfl
 ·rw[h.2.1];rfl
 ·rw[h.2.1];rfl
 ·exact absurd h.1 hk
theorem Zr{k:Int}(h:k=11):aT k=8:=by rw[h];decide
theorem WI{n:Nat}{v:Val}(h:v.dA=[]):gq (ji n) (gQ (eG n) v) v=true:=by
 have h1:eG n []=[]:=by cases n<;>rfl
 have h2:=Sz v.F;unfold gq gQ;simp only[Val.B,Val.I,Val.U,Val.F,Val.S,Val.dA]at*;rw[h,h1,Fg];simp only[beq_self_eq_true,Bool.true_and,Bool.and_true];exact h2
theorem Om(S:fM)(hS:jW S)(w0:World)(A0:Option Addr)(c0:Nat)(A1:Option Addr)(c1:Nat)(hSR:qZ w0 S A0 c0 A1 c1)(n:Nat)(ih:acE S n w0 A0 c0 A1 c1):acE S (n+1) w0 A0 c0 A1 c1:=by
 intro typ m A2 c2 A3 c3 W hCa hCb hF hB;obtain⟨hty,mt,hmt,hri,hall⟩:=hF;obtain⟨kt,rfl⟩:∃k:Nat,typ=(k:Int):=⟨typ.toNat,by omega⟩
 rw[Int.toNat_natCast]at hmt;have hmem:=List.mem_of_getElem? hmt;obtain⟨Bo,AF,cF,rfl,_,m1,m2,uK⟩:=Ag hSR.ms hmt;obtain⟨nf,hnf⟩:∃nf,nf=mt.fields.length:=⟨_,rfl⟩
 rw[<-hnf]at m1 uK;obtain⟨W3,hW3⟩:∃W3,W3=W.alloc (.cells #[.slice (some Bo) S.ms.length c0,.slice A1 S.es.length c1] 25):=⟨_,rfl⟩
 have hB3:Below W.heap.size W W3:=by rw[hW3];exact ak (bg _ _) _
 have hX3:W3.heap[W.heap.size]? =some (.cells #[.slice (some Bo) S.ms.length c0,.slice A1 S.es.length c1] 25 (0,0)):=by rw[hW3];exact aP W _
 have i0:(0:Int)<=(kt:Int):=by omega
 have i1:(kt:Int)<(S.ms.length:Int):=by have:=(List.getElem?_eq_some_iff.1 hmt).1;omega
 have d0:((m.length:Int)!=(m.length:Int))=false:=Ef rfl;have HX3:=ah hX3;have HB3:=ah hB3;have HB03:=ah (au hB hB3);have Zm:=ah hCa;have HCb:=ah hCb;have Sj:=ah (Kd.ou hCb);have Ho:=ah hall;have Kt:=ah (hS.Vw mt hmem);have NZ:=ah uK;have HM1:=ah m1;have qH:=ah hnf;have HIh:=ah ih;have HW3:=ah hW3;clear hW3 hB3 hX3 hCa hCb hri hall hB hS ih uK hnf hmt hmem m1 m2 hty hSR;go_enter Tryz.func10,Tryz.ntmps10
 go_upto_region 1 with fail
 rw[<-HW3.out];clear HW3;go_wp2
 go_loopg [10,11,12,13,14,15,23] m.length (fun g v10 v11 v12 v13 v14 v15 v23 w'=>∃i:Nat,v23= .int .i64 i/\i+g=m.length/\aC (Below W3.heap.size W3 w'))
 case atStart=>exact⟨0,rfl,by omega,⟨bg _ _⟩⟩
 case round=>
  obtain⟨i,rfl,hg,uM⟩:=hrel;obtain⟨wo,rfl⟩:∃wo:World,wo=wr:=⟨_,rfl⟩
  obtain⟨ga,rfl⟩:∃ga:Nat,ga=gk:=⟨_,rfl⟩
  by_cases hlt:i<m.length
  ·obtain⟨f,hf⟩:=bF hlt
   obtain⟨fa0,fv0,t,ht,acD,WA⟩:=Ho.out f (List.mem_of_getElem? hf.out);have hb0:=au HB03.out uM.out;obtain⟨k1,ad,B2,e2',hk1,eA2,p0,p1,p2,hCp⟩:=qm Zm.out (WE (n:=n) hf.out);obtain⟨k2,ad',B3,e3',hk2,eA3,q0,q1,q2,hCq⟩:=qm HCb.out hf.out;subst eA2;subst eA3;obtain rfl:n=k1:=by omega
   obtain rfl:n=k2:=by omega
   have hlm:(dD.mk f.At (f.Values.map (gQ (eG n)))).Values.length=f.Values.length:=List.length_map _;rw[hlm]at p1 p2;obtain⟨a,TJ⟩:∃a:Nat,f.At=(a:Int):=⟨f.At.toNat,by omega⟩
   rw[TJ,Int.toNat_natCast]at ht;obtain⟨adT,TI,u0,u1,u2,u3,u4,u5⟩:=uT NZ.out ht;subst TI;have hp0:=ay hb0 p0;have hp1:=ay hb0 p1;have hq0:=ay hb0 q0;have hq1:=ay hb0 q1
   change _=some (Value.int .i64 f.At)at hp0
   rw[TJ]at hp0 hq0;have j0:(0:Int)<=(i:Int):=by omega
   have j1:(i:Int)<(m.length:Int):=by omega
   have a0:(0:Int)<=(a:Int):=by omega
   have a1:(a:Int)<(nf:Int):=by have:=(List.getElem?_eq_some_iff.1 ht).1;have:=qH.out;omega
   have d1:decide ((i:Int)<(m.length:Int))=true:=bZ j1;have d3:((a:Int)!=(a:Int))=false:=Ef rfl;have d4:((f.Values.length:Int)!=(f.Values.length:Int))=false:=Ef rfl;have e2:=Hu hlt Sj.out;have e1:IntKind.i64.wrap ((i:Int)+1)=(i:Int)+1:=jM hlt Sj.out;have z1:wo.cell? ⟨W.heap.size,0,none⟩=some (.slice (some Bo) S.ms.length c0):=(aA (aI HX3.out uM.out) 0).trans rfl;have m1:=ay hb0 HM1.out;have v0:=ay hb0 u0;have v1:=ay hb0 u1;have v2:=ay hb0 u2;have v3:=ay hb0 u3;have v4:=ay hb0 u4;have v5:=ay hb0 u5;have HG:=ah hg;have AL:=ah (Kt.out t (List.mem_of_getElem? ht));have HCp:=ah hCp;have HCq:=ah hCq;have HP1:=ah (And.intro p1 q1);have Ye:=ah WA;clear u0 u1 u2 u3 u4 u5 p0 p1 p2 q0 q1 q2 hCp hCq ht WA acD fv0 fa0 hb0 hg TJ hk1 hk2 hlm
   go_upto_region 6 with fail
   go_quiet (fail)
   go_upto_region 8 with fail
   have Ea:=fun(k:Nat)(o:Obj)(p:Addr)(u:Value)(h:wo.cell? p=some u)=>(show((wo.drewN k).alloc o).cell? p=some u from ay (ak (aS (bg wo.heap.size wo) k) o) h)
   have z1':=fun k o=>Ea k o _ _ z1
   have m1':=fun k o=>Ea k o _ _ m1
   have p0':=fun k o=>Ea k o _ _ hp0
   have v0':=fun k o=>Ea k o _ _ v0
   have v1':=fun k o=>Ea k o _ _ v1
   have v2':=fun k o=>Ea k o _ _ v2
   have v3':=fun k o=>Ea k o _ _ v3
   have v4':=fun k o=>Ea k o _ _ v4
   have v5':=fun k o=>Ea k o _ _ v5
   clear Ea;have n0:=fun(k:Nat)(y0 y1 y2 y3 y4 y5:Value)=>(show((wo.drewN k).alloc (.cells #[y0,y1,y2,y3,y4,y5] 70)).cell? ⟨wo.heap.size,0,none⟩=some y0 from(aA (aP (wo.drewN k) _) 0).trans rfl)
   have n1:=fun(k:Nat)(y0 y1 y2 y3 y4 y5:Value)=>(show((wo.drewN k).alloc (.cells #[y0,y1,y2,y3,y4,y5] 70)).cell? ⟨wo.heap.size,1,none⟩=some y1 from(aA (aP (wo.drewN k) _) 1).trans rfl)
   have n2:=fun(k:Nat)(y0 y1 y2 y3 y4 y5:Value)=>(show((wo.drewN k).alloc (.cells #[y0,y1,y2,y3,y4,y5] 70)).cell? ⟨wo.heap.size,2,none⟩=some y2 from(aA (aP (wo.drewN k) _) 2).trans rfl)
   have n3:=fun(k:Nat)(y0 y1 y2 y3 y4 y5:Value)=>(show((wo.drewN k).alloc (.cells #[y0,y1,y2,y3,y4,y5] 70)).cell? ⟨wo.heap.size,3,none⟩=some y3 from(aA (aP (wo.drewN k) _) 3).trans rfl)
   have n4:=fun(k:Nat)(y0 y1 y2 y3 y4 y5:Value)=>(show((wo.drewN k).alloc (.cells #[y0,y1,y2,y3,y4,y5] 70)).cell? ⟨wo.heap.size,4,none⟩=some y4 from(aA (aP (wo.drewN k) _) 4).trans rfl)
   have n5:=fun(k:Nat)(y0 y1 y2 y3 y4 y5:Value)=>(show((wo.drewN k).alloc (.cells #[y0,y1,y2,y3,y4,y5] 70)).cell? ⟨wo.heap.size,5,none⟩=some y5 from(aA (aP (wo.drewN k) _) 5).trans rfl)
   have g0:=fun(k:Nat)(y0 y1 y2 y3 y4 y5:Value)=>(show((wo.drewN k).alloc (.cells #[y0,y1,y2,y3,y4,y5] 70)).frozen? ⟨wo.heap.size,0,none⟩=false from aN (aP (wo.drewN k) _) 0)
   have g1:=fun(k:Nat)(y0 y1 y2 y3 y4 y5:Value)=>(show((wo.drewN k).alloc (.cells #[y0,y1,y2,y3,y4,y5] 70)).frozen? ⟨wo.heap.size,1,none⟩=false from aN (aP (wo.drewN k) _) 1)
   have g2:=fun(k:Nat)(y0 y1 y2 y3 y4 y5:Value)=>(show((wo.drewN k).alloc (.cells #[y0,y1,y2,y3,y4,y5] 70)).frozen? ⟨wo.heap.size,2,none⟩=false from aN (aP (wo.drewN k) _) 2)
   have g3:=fun(k:Nat)(y0 y1 y2 y3 y4 y5:Value)=>(show((wo.drewN k).alloc (.cells #[y0,y1,y2,y3,y4,y5] 70)).frozen? ⟨wo.heap.size,3,none⟩=false from aN (aP (wo.drewN k) _) 3)
   have g4:=fun(k:Nat)(y0 y1 y2 y3 y4 y5:Value)=>(show((wo.drewN k).alloc (.cells #[y0,y1,y2,y3,y4,y5] 70)).frozen? ⟨wo.heap.size,4,none⟩=false from aN (aP (wo.drewN k) _) 4)
   have g5:=fun(k:Nat)(y0 y1 y2 y3 y4 y5:Value)=>(show((wo.drewN k).alloc (.cells #[y0,y1,y2,y3,y4,y5] 70)).frozen? ⟨wo.heap.size,5,none⟩=false from aN (aP (wo.drewN k) _) 5)
   go_region
   obtain⟨w5,hw5⟩:∃w5,w5=((((((((wo.drewN (nq+1)).alloc (.cells #[.string ⟨#[]⟩,.int .i64 0,.int .i64 0,.bool false,.bool false,.int .i64 0] 70)).setCell ⟨wo.heap.size,0,none⟩ (.string t.name)).setCell ⟨wo.heap.size,1,none⟩ (.int .i64 t.num)).setCell ⟨wo.heap.size,2,none⟩ (.int .i64 t.kind)).setCell ⟨wo.heap.size,3,none⟩ (.bool t.rep)).setCell ⟨wo.heap.size,4,none⟩ (.bool t.map)).setCell ⟨wo.heap.size,5,none⟩ (.int .i64 t.typ)):=⟨_,rfl⟩
   rw[<-hw5]
   have hb5:Below wo.heap.size wo w5:=by
    rw[hw5];have h0:Below wo.heap.size wo ((wo.drewN (nq+1)).alloc (.cells #[.string ⟨#[]⟩,.int .i64 0,.int .i64 0,.bool false,.bool false,.int .i64 0] 70)):=ak (aS (bg _ _) _) _;exact aV (aV (aV (aV (aV (aV h0 (Nat.le_refl _)) (Nat.le_refl _)) (Nat.le_refl _)) (Nat.le_refl _)) (Nat.le_refl _)) (Nat.le_refl _)
   have hx5:w5.heap[wo.heap.size]? =some (.cells #[.string t.name,.int .i64 t.num,.int .i64 t.kind,.bool t.rep,.bool t.map,.int .i64 t.typ] 70 (0,0)):=by
    rw[hw5];exact(aW (aW (aW (aW (aW (aW (aP (wo.drewN (nq+1)) _) 0 _) 1 _) 2 _) 3 _) 4 _) 5 _).trans rfl
   clear hw5 z1' m1' p0' v0' v1' v2' v3' v4' v5' n0 n1 n2 n3 n4 n5 g0 g1 g2 g3 g4 g5 z1 m1 v0 v1 v2 v3 v4 v5;have HX5:=ah hx5;have HB5:=ah (au uM.out hb5);have HB05:=ah (au HB03.out HB5.out);have r1:=ay hb5 hp1;have r2:=ay hb5 hq1;clear hx5 hb5 hp0 hp1 hq0 hq1 a0 a1 d1 d3 d4;go_wp2
   go_loopg [10,13,14,15,71] f.Values.length (fun g v10 v13 v14 v15 v71 w'=>∃q:Nat,v71= .int .i64 q/\q+g=f.Values.length/\aC (Below w5.heap.size w5 w'))
   case atStart=>exact⟨0,rfl,by omega,⟨bg _ _⟩⟩
   case round=>
    clear r1 r2;obtain⟨q,rfl,hg2,HB2⟩:=hrel
    by_cases hlq:q<f.Values.length
    ·obtain⟨v,hv⟩:=bF hlq
     have hmx:=Kd.ou HCq.out;have hbq:=au HB05.out HB2.out;have hcv:(f.Values.map (gQ (eG n)))[q]? =some (gQ (eG n) v):=by rw[List.getElem?_map,hv.out];rfl
     have hml:(gQ (eG n) v).dA.length=v.dA.length:=by
      show(eG n v.dA).length=v.dA.length
      by_cases h8:aT t.kind=8
      ·have hfm:=(yG (Ye.out v (List.mem_of_getElem? hv.out)) h8).1
       cases n with
       |zero=>exact hfm.elim
       |succ n=>exact KO n _
      ·rw[xH (Ye.out v (List.mem_of_getElem? hv.out)) h8]
       cases n<;>rfl
     have hsm:t.kind≠11->gq (ji n) (gQ (eG n) v) v=true:=fun h=>by
      by_cases h8:aT t.kind=8
      ·exact absurd (AL.out.k11 h8) h
      ·exact WI (xH (Ye.out v (List.mem_of_getElem? hv.out)) h8)
     have hcm:(gQ (eG n) v).dA=eG n v.dA:=rfl;obtain⟨u,hu⟩:∃u,u=gQ (eG n) v:=⟨_,rfl⟩
     rw[<-hu]at hcv hml hsm hcm;clear hu;obtain⟨ad3,D3,f3,rfl,a0,a1,a2,a3,a4,a5,a6,LW⟩:=qL HCp.out hcv;obtain⟨ad4,D4,f4,rfl,b0,b1,b2,b3,b4,b5,b6,hCn⟩:=qL HCq.out hv.out;have y0:=ay hbq a0;have y1:=ay hbq a1;have y2:=ay hbq a2;have y3:=ay hbq a3;have y4:=ay hbq a4;have y5:=ay hbq a5;have i0:(0:Int)<=(q:Int):=by omega
     have i1:(q:Int)<(f.Values.length:Int):=by omega
     have d1:decide ((q:Int)<(f.Values.length:Int))=true:=bZ i1;have k2:=Hu hlq hmx;have k1:IntKind.i64.wrap ((q:Int)+1)=(q:Int)+1:=jM hlq hmx;obtain⟨w7,hw7⟩:∃w7,w7=wr.alloc (.cells #[.bool u.B,.int .i64 u.I,.int .u64 u.U,.int .u64 u.F,.string u.S,.slice D3 u.dA.length f3] 76):=⟨_,rfl⟩
     have hb7:Below wr.heap.size wr w7:=by rw[hw7];exact ak (bg _ _) _
     have hx7:w7.heap[wr.heap.size]? =some (.cells #[.bool u.B,.int .i64 u.I,.int .u64 u.U,.int .u64 u.F,.string u.S,.slice D3 u.dA.length f3] 76 (0,0)):=by rw[hw7];exact aP wr _
     obtain⟨w9,hw9⟩:∃w9,w9=w7.alloc (.cells #[.bool v.B,.int .i64 v.I,.int .u64 v.U,.int .u64 v.F,.string v.S,.slice D4 v.dA.length f4] 76):=⟨_,rfl⟩
     have hb9:Below w7.heap.size w7 w9:=by rw[hw9];exact ak (bg _ _) _
     have hx9:w9.heap[w7.heap.size]? =some (.cells #[.bool v.B,.int .i64 v.I,.int .u64 v.U,.int .u64 v.F,.string v.S,.slice D4 v.dA.length f4] 76 (0,0)):=by rw[hw9];exact aP w7 _
     have hb07:=au hbq hb7;have hb09:=au hb07 hb9;have r2:=ay hb07 HP1.out.2;have c0':=ay hb07 b0;have c1':=ay hb07 b1;have c2':=ay hb07 b2;have c3':=ay hb07 b3;have c4':=ay hb07 b4;have c5':=ay hb07 b5;have hx79:=aI hx7 hb9;have HX7:=ah hx79;have HX9:=ah hx9;have HB29:=ah (au HB2.out (au hb7 hb9));have WB:=ah (fun Wx(hb:Below w9.heap.size w9 Wx)=>oW (ji n) u v D3 f3 D4 f4 Wx (fun W2 hb2=>ru n u.dA v.dA D3 f3 D4 f4 W2 (Kd.aU LW (au hb09 (au hb hb2))) (Kd.aU hCn (au hb09 (au hb hb2)))))
     have Hw:aC (t.kind=11->Calls Tryz.prog 10 #[kG S (some Bo) c0 A1 c1,.int .i64 t.typ,.slice D3 u.dA.length f3,.slice D4 v.dA.length f4,.bool false] w9 fun e w'=>e= .returned (.bool true)/\Below w9.heap.size w9 w'):=⟨fun h11=>by
      rw[hml];rw[hml,hcm]at LW;exact HIh.out t.typ v.dA D3 f3 D4 f4 w9 LW hCn (yG (Ye.out v (List.mem_of_getElem? hv.out)) (Zr h11)).1 hb09⟩
     have HSm:=ah hsm;have HG2:=ah hg2;have HW7:=ah hw7;have HW9:=ah hw9;clear hw7 hw9 hb7 hb9 hx7 hx9 hx79 hb07 hb09 hbq LW hCn a0 a1 a2 a3 a4 a5 a6 b0 b1 b2 b3 b4 b5 b6 hmx hcv hml hcm hg2 hsm
     go_upto_region 12 with fail
     rw[<-HW7.out];clear HW7 y0 y1 y2 y3 y4 y5 d1
     go_upto_region 13 with fail
     rw[<-HW9.out];clear HW9 c0' c1' c2' c3' c4' c5' r2 i0 i1 j0 j1;have t2:w9.cell? ⟨wo.heap.size,2,none⟩=some (.int .i64 t.kind):=(aA (aI HX5.out HB29.out) 2).trans rfl
     by_cases h11:t.kind=11
     ·have d2:(t.kind==11)=true:=kZ h11
      have HR:=ah (Hw.out h11);have s0:w9.cell? ⟨W.heap.size,0,none⟩=some (.slice (some Bo) S.ms.length c0):=(aA (aI HX3.out (au HB5.out HB29.out)) 0).trans rfl;have s1:w9.cell? ⟨W.heap.size,1,none⟩=some (.slice A1 S.es.length c1):=(aA (aI HX3.out (au HB5.out HB29.out)) 1).trans rfl;have t5:w9.cell? ⟨wo.heap.size,5,none⟩=some (.int .i64 t.typ):=(aA (aI HX5.out HB29.out) 5).trans rfl;have y5:w9.cell? ⟨wr.heap.size,5,none⟩=some (.slice D3 u.dA.length f3):=(aA HX7.out 5).trans rfl;have x5:w9.cell? ⟨w7.heap.size,5,none⟩=some (.slice D4 v.dA.length f4):=(aA HX9.out 5).trans rfl;clear h11 Hw WB
      go_wp2_with (go_at_call 10;(with_reducible refine HR.out.mono ?_);rintro e w10⟨rfl,hb⟩;have HB10:=ah hb;clear hb)
      obtain⟨g',hg'⟩:∃g',gk=g'+1:=⟨gk-1,by have:=HG2.out;omega⟩
      go_roundg g'
      case measure=>omega
      case rel=>exact⟨q+1,rfl,by have:=HG2.out;omega,⟨au HB29.out HB10.out⟩⟩
     ·have d2:(t.kind==11)=false:=eqF h11
      have hsv:=HSm.out h11;have y0:w9.cell? ⟨wr.heap.size,0,none⟩=some (.bool u.B):=(aA HX7.out 0).trans rfl;have y1:w9.cell? ⟨wr.heap.size,1,none⟩=some (.int .i64 u.I):=(aA HX7.out 1).trans rfl;have y2:w9.cell? ⟨wr.heap.size,2,none⟩=some (.int .u64 u.U):=(aA HX7.out 2).trans rfl;have y3:w9.cell? ⟨wr.heap.size,3,none⟩=some (.int .u64 u.F):=(aA HX7.out 3).trans rfl;have y4:w9.cell? ⟨wr.heap.size,4,none⟩=some (.string u.S):=(aA HX7.out 4).trans rfl;have y5:w9.cell? ⟨wr.heap.size,5,none⟩=some (.slice D3 u.dA.length f3):=(aA HX7.out 5).trans rfl;have x0:w9.cell? ⟨w7.heap.size,0,none⟩=some (.bool v.B):=(aA HX9.out 0).trans rfl;have x1:w9.cell? ⟨w7.heap.size,1,none⟩=some (.int .i64 v.I):=(aA HX9.out 1).trans rfl;have x2:w9.cell? ⟨w7.heap.size,2,none⟩=some (.int .u64 v.U):=(aA HX9.out 2).trans rfl;have x3:w9.cell? ⟨w7.heap.size,3,none⟩=some (.int .u64 v.F):=(aA HX9.out 3).trans rfl;have x4:w9.cell? ⟨w7.heap.size,4,none⟩=some (.string v.S):=(aA HX9.out 4).trans rfl;have x5:w9.cell? ⟨w7.heap.size,5,none⟩=some (.slice D4 v.dA.length f4):=(aA HX9.out 5).trans rfl;clear h11 Hw
      by_cases h2:t.kind=2
      ·have d3:(t.kind==2)=true:=kZ h2
       clear h2
       go_wp2_with (go_at_call 28;(with_reducible refine(WB.out _ (bg _ _)).mono ?_);rw[hsv];rintro e w10⟨rfl,hb⟩;have HB10:=ah hb;clear hb)
       obtain⟨g',hg'⟩:∃g',gk=g'+1:=⟨gk-1,by have:=HG2.out;omega⟩
       go_roundg g'
       case measure=>omega
       case rel=>exact⟨q+1,rfl,by have:=HG2.out;omega,⟨au HB29.out HB10.out⟩⟩
      ·have d3:(t.kind==2)=false:=eqF h2
       clear h2
       go_wp2_with (go_at_call 28;(with_reducible refine(WB.out _ (bg _ _)).mono ?_);rw[hsv];rintro e w10⟨rfl,hb⟩;have HB10:=ah hb;clear hb)
       obtain⟨g',hg'⟩:∃g',gk=g'+1:=⟨gk-1,by have:=HG2.out;omega⟩
       go_roundg g'
       case measure=>omega
       case rel=>exact⟨q+1,rfl,by have:=HG2.out;omega,⟨au HB29.out HB10.out⟩⟩
    ·obtain rfl:q=f.Values.length:=by omega
     have d1:decide ((f.Values.length:Int)<(f.Values.length:Int))=false:=bY (by omega);go_wp2;obtain⟨g',hg'⟩:∃g',ga=g'+1:=⟨ga-1,by have:=HG.out;omega⟩
     go_roundg g'
     case measure=>omega
     case rel=>exact⟨i+1,rfl,by have:=HG.out;omega,⟨au HB5.out HB2.out⟩⟩
  ·obtain rfl:i=m.length:=by omega
   have d1:decide ((m.length:Int)<(m.length:Int))=false:=bY (by omega);go_wp2
   go_ret
   exact⟨rfl,au HB3.out uM.out⟩
theorem SA(S:fM)(hS:jW S)(w0:World)(A0:Option Addr)(c0:Nat)(A1:Option Addr)(c1:Nat)(hSR:qZ w0 S A0 c0 A1 c1):∀n,acE S n w0 A0 c0 A1 c1:=by
 intro n
 induction n with
 |zero=>exact fun _ _ _ _ _ _ _ _ _ hF _=>hF.elim
 |succ n ih=>exact Om S hS w0 A0 c0 A1 c1 hSR n ih
theorem bx5{w:World}{g:Nat}{v0 v1 v2 v3 v4:Value}{t:TypeId}(h:w.heap[g]? =some (.cells #[v0,v1,v2,v3,v4] t (0,0))):w.cell? ⟨g,0,none⟩=some v0/\w.cell? ⟨g,1,none⟩=some v1/\w.cell? ⟨g,2,none⟩=some v2/\w.cell? ⟨g,3,none⟩=some v3/\w.cell? ⟨g,4,none⟩=some v4:=
 ⟨(aA h 0).trans rfl,(aA h 1).trans rfl,(aA h 2).trans rfl,(aA h 3).trans rfl,(aA h 4).trans rfl⟩
theorem Oo{w2:World}{g:Nat}{v0 v1 v2 v3 v4:Value}{t:TypeId}(hx:w2.heap[g]? =some (.cells #[v0,v1,v2,v3,v4] t (0,0))):(w2.cell? ⟨g,0,none⟩=some v0/\w2.cell? ⟨g,1,none⟩=some v1/\w2.cell? ⟨g,2,none⟩=some v2/\w2.cell? ⟨g,3,none⟩=some v3/\w2.cell? ⟨g,4,none⟩=some v4)/\(w2.frozen? ⟨g,0,none⟩=false/\w2.frozen? ⟨g,1,none⟩=false/\w2.frozen? ⟨g,2,none⟩=false/\w2.frozen? ⟨g,3,none⟩=false/\w2.frozen? ⟨g,4,none⟩=false):=
 ⟨bx5 hx,aN hx 0,aN hx 1,aN hx 2,aN hx 3,aN hx 4⟩
theorem mM{w w1:World}{g:Nat}{v0 v1 v2 v3 v4 u0 u1 u2 u3 u4:Value}{t:TypeId}(hx:w.heap[g]? =some (.cells #[v0,v1,v2,v3,v4] t (0,0)))(h1:w1=((((w.setCell ⟨g,0,none⟩ u0).setCell ⟨g,1,none⟩ u1).setCell ⟨g,2,none⟩ u2).setCell ⟨g,3,none⟩ u3).setCell ⟨g,4,none⟩ u4):
 w1.heap[g]? =some (.cells #[u0,u1,u2,u3,u4] t (0,0))/\∀B w0,Below B w0 w->B<=g->Below B w0 w1:=by
 subst h1;refine⟨aW (aW (aW (aW (aW hx 0 u0) 1 u1) 2 u2) 3 u3) 4 u4,fun B w0 hb hg=>?_⟩;exact(((((hb.setCell (p:=⟨g,0,none⟩) hg u0).setCell (p:=⟨g,1,none⟩) hg u1).setCell (p:=⟨g,2,none⟩) hg u2).setCell (p:=⟨g,3,none⟩) hg u3).setCell (p:=⟨g,4,none⟩) hg u4)
theorem WJ{w w1:World}{g q:Nat}{cs:Array Value}{t:TypeId}{u0 u1 u2 u3 u4:Value}(hx:w.heap[q]? =some (.cells cs t (0,0)))(hg:q≠g)(h1:w1=((((w.setCell ⟨g,0,none⟩ u0).setCell ⟨g,1,none⟩ u1).setCell ⟨g,2,none⟩ u2).setCell ⟨g,3,none⟩ u3).setCell ⟨g,4,none⟩ u4):w1.heap[q]? =some (.cells cs t (0,0)):=by
 subst h1;exact bI (p:=⟨g,4,none⟩) (bI (p:=⟨g,3,none⟩) (bI (p:=⟨g,2,none⟩) (bI (p:=⟨g,1,none⟩) (bI (p:=⟨g,0,none⟩) hx hg _) hg _) hg _) hg _) hg _
theorem SC{W w w1:World}{g q:Nat}{u0 u1 u2 u3 u4:Value}(hk:aH W w q none)(hg:W.heap.size<=g)(h1:w1=((((w.setCell ⟨g,0,none⟩ u0).setCell ⟨g,1,none⟩ u1).setCell ⟨g,2,none⟩ u2).setCell ⟨g,3,none⟩ u3).setCell ⟨g,4,none⟩ u4):aH W w1 q none:=by
 subst h1;exact bU (bU (bU (bU (bU hk hg 0 _) hg 1 _) hg 2 _) hg 3 _) hg 4 _
structure RS(w0 W:World)(q:Nat)(S:fM)(A0:Option Addr)(c0:Nat)(A1:Option Addr)(c1:Nat)(At:Option Addr)(cT:Nat)(L:List Tok)(a:Nat):Prop where
 blk:W.heap[q]? =some (.cells #[.slice A0 S.ms.length c0,.slice A1 S.es.length c1,.slice At L.length cT,.int .i64 a,.int .i64 1] 63 (0,0))
 be:Below w0.heap.size w0 W
 ge:w0.heap.size<=q
 toks:Kd.C uG w0 At L.length L
 len:L.length<=1000000000000
section
variable{w0 W W1:World}{q:Nat}{S:fM}{A0:Option Addr}{c0:Nat}{A1:Option Addr}{c1:Nat}{At:Option Addr}{cT:Nat}{L:List Tok}{a:Nat}
theorem RS.below(h:RS w0 W q S A0 c0 A1 c1 At cT L a)(hb:Below W.heap.size W W1):RS w0 W1 q S A0 c0 A1 c1 At cT L a:=⟨aI h.blk hb,au h.be hb,h.ge,h.toks,h.len⟩
theorem RS.cells(h:RS w0 W q S A0 c0 A1 c1 At cT L a):W.cell? ⟨q,0,none⟩=some (.slice A0 S.ms.length c0)/\W.cell? ⟨q,1,none⟩=some (.slice A1 S.es.length c1)/\W.cell? ⟨q,2,none⟩=some (.slice At L.length cT)/\W.cell? ⟨q,3,none⟩=some (.int .i64 a)/\W.cell? ⟨q,4,none⟩=some (.int .i64 1):=bx5 h.blk
theorem RS.at_(h:RS w0 W q S A0 c0 A1 c1 At cT L a)(b:Nat):RS w0 (W.setCell ⟨q,3,none⟩ (.int .i64 b)) q S A0 c0 A1 c1 At cT L b:=⟨(aW h.blk 3 _).trans rfl,aV h.be h.ge,h.ge,h.toks,h.len⟩
theorem RS.told(h:RS w0 W q S A0 c0 A1 c1 At cT L a):RS w0 (W.setCell ⟨q,4,none⟩ (.int .i64 1)) q S A0 c0 A1 c1 At cT L a:=⟨(aW h.blk 4 _).trans rfl,aV h.be h.ge,h.ge,h.toks,h.len⟩
theorem RS.afi(h:RS w0 W q S A0 c0 A1 c1 At cT L a){a:Nat}{t:Tok}(ht:L[a]? =some t):∃ad,At=some ad/\W.cell? (ad.add (a*5))=some (.int .i64 t.kind)/\W.cell? ⟨(ad.add (a*5)).block,(ad.add (a*5)).off+1,none⟩=some (.int .i64 t.pos)/\W.cell? ⟨(ad.add (a*5)).block,(ad.add (a*5)).off+2,none⟩=some (.string t.raw)/\W.cell? ⟨(ad.add (a*5)).block,(ad.add (a*5)).off+3,none⟩=some (.string t.str)/\W.cell? ⟨(ad.add (a*5)).block,(ad.add (a*5)).off+4,none⟩=some (.bool t.boo):=by
 obtain⟨ad,c,e,hK,hc⟩:=yO (Kd.aU h.toks h.be) ht;have e5:uG.sz=5:=rfl;rw[e5]at hc;obtain rfl:=yR hK;exact⟨ad,e,hc 0 _ rfl,by rw[<-dH _ _ 1 (by omega)];exact hc 1 _ rfl,by rw[<-dH _ _ 2 (by omega)];exact hc 2 _ rfl,by rw[<-dH _ _ 3 (by omega)];exact hc 3 _ rfl,by rw[<-dH _ _ 4 (by omega)];exact hc 4 _ rfl⟩
end
section
variable(w0 W:World)(q:Nat)(S:fM)(A0:Option Addr)(c0:Nat)(A1:Option Addr)(c1:Nat)(At:Option Addr)(cT:Nat)(L:List Tok)(a:Nat)(hR:RS w0 W q S A0 c0 A1 c1 At cT L a)
include hR
theorem zC(t:Tok)(ht:L[a]? =some t):Calls Tryz.prog 55 #[.pointer (some ⟨q,0,none⟩)] W fun e w'=>e= .returned (.int .i64 t.kind)/\Below W.heap.size W w':=by
 obtain⟨ad,rfl,x0,_⟩:=hR.afi ht;obtain⟨_,_,c2,c3,_⟩:=hR.cells;have ha:=(List.getElem?_eq_some_iff.1 ht).1;have d1:decide ((a:Int)<(L.length:Int))=true:=bZ (by omega);have d2:decide (a<L.length)=true:=bZ ha;have i0:(0:Int)<=(a:Int):=by omega
 have i1:(a:Int)<(L.length:Int):=by omega
 clear hR ht;go_enter Tryz.func55,Tryz.ntmps55;go_wp2
 go_quiet (fail)
 go_wp2
 go_quiet (fail)
 go_wp2
 go_ret
 exact⟨rfl,aS (aS (bg _ _) _) _⟩
theorem Bq:Calls Tryz.prog 26 #[.pointer (some ⟨q,0,none⟩),.int .i64 1] W fun e w'=>e= .returned (.tuple #[])/\RS w0 w' q S A0 c0 A1 c1 At cT L a/\aH W w' q none:=by
 obtain⟨_,_,_,_,c4⟩:=hR.cells;have f4:=aN hR.blk 4;have HR:=ah hR;clear hR;go_enter Tryz.func26,Tryz.ntmps26;go_wp2
 go_end0
 exact⟨rfl,HR.out.told,(aH.refl W q none).xM 4 _⟩
abbrev tokA(t:Tok):Value:=.agg #[.int .i64 t.kind,.int .i64 t.pos,.string t.raw,.string t.str,.bool t.boo]
theorem WL(t:Tok)(ht:L[a]? =some t):Calls Tryz.prog 54 #[.pointer (some ⟨q,0,none⟩),.int .i64 t.kind] W fun e w'=>e= .returned (.tuple #[tokA t,.bool true])/\RS w0 w' q S A0 c0 A1 c1 At cT L (a+1)/\aH W w' q none:=by
 obtain⟨W1,hW1⟩:∃W1,W1=W.alloc (.cells #[.int .i64 0,.int .i64 0,.string ⟨#[]⟩,.string ⟨#[]⟩,.bool false] 39):=⟨_,rfl⟩
 have hb1:Below W.heap.size W W1:=by rw[hW1];exact ak (bg _ _) _
 have x1:W1.heap[W.heap.size]? =some (.cells #[.int .i64 0,.int .i64 0,.string ⟨#[]⟩,.string ⟨#[]⟩,.bool false] 39 (0,0)):=by rw[hW1];exact aP W _
 have hR1:=hR.below hb1;have yM:=bJ hR.blk;have HN:=ah (zC w0 W1 q S A0 c0 A1 c1 At cT L a hR1 t ht);obtain⟨_,_,_,_,c4⟩:=hR1.cells;have ha:=(List.getElem?_eq_some_iff.1 ht).1;have e1:wrap64 ((a:Int)+1)=(a:Int)+1:=w64 (by omega) (by have:=hR.len;omega);have e2:IntKind.i64.wrap ((a:Int)+1)=(a:Int)+1:=by rw[IntKind.wrap_i64];have:=hR.len;omega
 have e3:IntKind.i64.wrap ((a:Int)+1-1)=(a:Int):=by rw[IntKind.wrap_i64];have:=hR.len;omega
 have e4:wrap64 ((a:Int)+1-1)=(a:Int):=by have:=hR.len;unfold wrap64;omega
 have e5:IntKind.i64.wrap (a:Int)=(a:Int):=by rw[IntKind.wrap_i64];have:=hR.len;omega
 have e6:wrap64 (a:Int)=(a:Int):=by have:=hR.len;unfold wrap64;omega
 have i0:(0:Int)<=(a:Int):=by omega
 have i1:(a:Int)<(L.length:Int):=by omega
 have HR1:=ah hR1;have HX1:=ah x1;have HT:=ah ht;have HW1:=ah hW1;have HB1:=ah hb1;have HQ:=ah yM;have HB0:=ah hR.be.size;clear hW1 hb1 x1 hR1 ht ha yM hR;go_enter Tryz.func54,Tryz.ntmps54
 go_upto_region 1 with fail
 rw[<-HW1.out]
 go_upto_region 4 with(go_at_call 55;(with_reducible refine HN.out.mono ?_);rintro e w1⟨rfl,hb⟩;have HB2:=ah hb;clear hb)
 have hR2:=HR1.out.below HB2.out;have c3:=hR2.cells.2.2.2.1;have f3:=aN hR2.blk 3;have HR2:=ah hR2;clear hR2 c4
 go_upto_region 5 with fail
 obtain⟨w2,h2⟩:∃w2,w2=w1.setCell ⟨q,3,none⟩ (.int .i64 ((a:Int)+1)):=⟨_,rfl⟩
 rw[<-h2];have hR3:RS w0 w2 q S A0 c0 A1 c1 At cT L (a+1):=by rw[h2];exact HR2.out.at_ (a+1)
 have hk2:aH W1 w2 q none:=by rw[h2];exact(aH.of_below HB2.out q none).xM 3 _
 have x2:=hk2.blk HX1.out (Nat.ne_of_gt HQ.out) (by simp);obtain⟨_,_,d2,d3,_⟩:=hR3.cells;have d3':w2.cell? ⟨q,3,none⟩=some (.int .i64 ((a:Int)+1)):=d3;obtain⟨ad,rfl,t0,t1,t2,t3,t4⟩:=(show RS w0 w2 q S A0 c0 A1 c1 At cT L (a+1)from hR3).afi HT.out;obtain⟨⟨k0,k1,k2,k3,k4⟩,f0,f1,f2,f3',f4⟩:=Oo x2;have HR3:=ah hR3;have HK2:=ah hk2;have HX2:=ah x2;clear h2 hR3 hk2 x2 c3 f3 d3
 go_region
 all_goals
  go_wp2;obtain⟨z1,z2⟩:=mM HX2.out rfl;refine bodyPost_ret (dI rfl _ _ W.heap.size _ _ _ _ rfl (pU z1) Tryz.underlying39 rfl (by kernel_rfl)) rfl ?_;have hq:=HQ.out;have h0:=HB0.out;have hk:aH W w2 q none:=(aH.of_below HB1.out q none).trans HK2.out (.inl rfl);exact⟨rfl,⟨pU (WJ HR3.out.blk (by omega) rfl),aQ (z2 _ _ HR3.out.be (by omega)),HR3.out.ge,HR3.out.toks,HR3.out.len⟩,EO (SC hk (Nat.le_refl _) rfl)⟩
end
end Go.Proofs.YtapkmjfjikpnlaaGreatDoor
