/- A part of FnMsgJsonMeans. No conditions. -/
import Derived.Test.YtapkmjfjikpnlaaGreatDoorM28
set_option maxHeartbeats 8000000
set_option maxRecDepth 100000
namespace Go.Proofs.YtapkmjfjikpnlaaGreatDoor
open Go.RowKit YtapkmjfjikpnlaaGreatDoorW.aG YtapkmjfjikpnlaaGreatDoorW.aJ
set_option linter.unusedVariables false
set_option linter.unusedSimpArgs false
def lastOf:Int->List dD->Int
 |a,[]=>a
 |_,f::l=>lastOf f.At l
theorem KN(l:List dD)(f:dD):∀a,lastOf a (l++[f])=f.At:=by
 induction l with
 |nil=>intro a;rfl
 |cons g l ih=>intro a;exact ih g.At
theorem jk.snoc{l:List dD}{f:dD}:∀{a:Int},jk a l->lastOf a l<f.At->jk a (l++[f]):=by
 induction l with
 |nil=>intro a _ h;exact⟨h,trivial⟩
 |cons g l ih=>intro a h1 h2;exact⟨h1.1,ih h1.2 h2⟩
theorem jk.last{l:List dD}:∀{a:Int},jk a l->a<=lastOf a l:=by
 induction l with
 |nil=>intro a _;exact Int.le_refl _
 |cons g l ih=>intro a h;have h1:=h.1;have h2:=ih h.2;show a<=lastOf g.At l;omega
theorem Si(d:Nat)(l:List dD)(f:dD):iP (d+1) (l++[f])=iP (d+1) l+jl d f.Values:=by
 simp[iP,jl]
def afd(S:fM)(d:Nat)(mt:MT)(f:dD):Prop:=0<=f.At/\f.Values≠[]/\∃t,mt.fields[f.At.toNat]? =some t/\(t.rep=false->f.Values.length=1)/\∀v∈f.Values,AO S (oZ S d) t v
structure Zo(S:fM)(d:Nat)(mt:MT)(m:List dD)(i:Nat)(last left l':Int):Prop where
 ri:jk (-1) (m.take i)
 la:last=lastOf (-1) (m.take i)
 ok:∀f∈m.take i,afd S d mt f
 ct:l'+iP (d+1) (m.take i)=left
 h0:0<=l'
theorem Zo.step{S:fM}{d:Nat}{mt:MT}{m:List dD}{i:Nat}{last left l' l2:Int}{f:dD}(h:Zo S d mt m i last left l')(hf:m[i]? =some f)(h1:last<f.At)(h2:afd S d mt f)(h3:l2+jl d f.Values=l')(h4:0<=l2):Zo S d mt m (i+1) f.At left l2:=by
 have e:=qx hf;refine⟨?_,?_,?_,?_,h4⟩
 ·rw[e];exact h.ri.snoc (by rw[<-h.la];exact h1)
 ·rw[e,KN]
 ·intro g hg
  rw[e]at hg;rcases List.mem_append.1 hg with hg|hg
  ·exact h.ok g hg
  ·rw[List.mem_singleton.1 hg];exact h2
 ·have:=h.ct
  rw[e,Si];omega
theorem AQ.dec{w0 W W1:World}{pl:Nat}{l':Int}(h:AQ w0 W W1 pl l')(hp:w0.heap.size<=pl):AQ w0 W (W1.setCell ⟨pl,0,none⟩ (.int .i64 (l'-1))) pl (l'-1):=
 ⟨aW h.le 0 _,aV h.be hp,h.ke.xM 0 _⟩
theorem Fb(S:fM)(hS:jW S)(w0:World)(pl:Nat)(A0:Option Addr)(c0:Nat)(A1:Option Addr)(c1:Nat)(hSR:qZ w0 S A0 c0 A1 c1)(hpl:w0.heap.size<=pl)(n:Nat)(ih:∀k,n=k+1->∀d,d<=100000->Kz S k d w0 pl A0 c0 A1 c1)(d:Nat)(hd:d<=100000):Kz S n d w0 pl A0 c0 A1 c1:=by
 intro typ m A c W left hC hM h0 h1 hB hL;obtain⟨W3,hW3⟩:∃W3,W3=W.alloc (.cells #[.slice A0 S.ms.length c0,.slice A1 S.es.length c1] 25):=⟨_,rfl⟩
 have hB3:Below W.heap.size W W3:=by rw[hW3];exact ak (bg _ _) _
 have hX3:W3.heap[W.heap.size]? =some (.cells #[.slice A0 S.ms.length c0,.slice A1 S.es.length c1] 25 (0,0)):=by rw[hW3];exact aP W _
 have z1:W3.cell? ⟨W.heap.size,0,none⟩=some (.slice A0 S.ms.length c0):=(aA hX3 0).trans rfl;have z2:W3.cell? ⟨W.heap.size,1,none⟩=some (.slice A1 S.es.length c1):=(aA hX3 1).trans rfl;have hfx:=AQ.below (w':=W3) hL hB hB3;have Zp:pl<W.heap.size:=bJ hL;have Dt:=ah hfx;have Wu:=ah hfx.ke;have HX3:=ah hX3;have HW3:=ah hW3;cases d with
 |zero=>
  clear hW3 hB3 hX3 hC hM h0 h1 hB hL hS hSR ih hfx HX3 Wu hpl Zp z2;go_enter Tryz.func87,Tryz.ntmps87
  go_upto_region 1 with fail
  rw[<-HW3.out];clear HW3;go_wp2
  all_goals go_ret
  all_goals exact⟨false,left,rfl,Dt.out,fun h=>by cases h⟩
 |succ d=>
  by_cases hty:0<=typ/\typ<S.ms.length
  ·obtain⟨kt,rfl⟩:∃k:Nat,typ=(k:Int):=⟨typ.toNat,by omega⟩
   obtain⟨mt,hmt⟩:∃mt,S.ms[kt]? =some mt:=⟨S.ms[kt]'(by omega),List.getElem?_eq_getElem (by omega)⟩
   have hmem:=List.mem_of_getElem? hmt;obtain⟨Bo,AF,cF,rfl,_,m1,m2,uK⟩:=Ag hSR.ms hmt;obtain⟨nf,hnf⟩:∃nf,nf=mt.fields.length:=⟨_,rfl⟩
   rw[<-hnf]at m1 uK;have q1:=ay hfx.be m1;have d0:decide ((kt:Int)<0)=false:=bY (by omega);have d1:decide ((S.ms.length:Int)<=(kt:Int))=false:=bY (by omega);have d1':decide (S.ms.length<=kt)=false:=bY (by omega);have ahl:¬S.ms.length<=kt:=by omega
   have d2:(((d+1:Nat):Int)==0)=false:=eqF (by omega);have d2':(((d:Int)+1)==0)=false:=eqF (by omega);have i0:(0:Int)<=(kt:Int):=by omega
   have i1:(kt:Int)<(S.ms.length:Int):=hty.2;have Sj:=ah (Kd.ou hC);have HC:=ah hC;have HM:=ah hM;have NZ:=ah uK;have RQ:=ah hmt;have qH:=ah hnf;have HIh:=ah ih;have Um:=ah (And.intro hpl Zp);have KD:=ah (And.intro h0 h1);have Kt:=ah (hS.Vw mt hmem);have HD:=ah hd;clear hW3 hB3 hX3 hC hM h0 h1 hB hL hS hSR ih hfx hpl Zp hty hmt hmem hnf uK m1 m2 z2 hd;go_enter Tryz.func87,Tryz.ntmps87
   go_upto_region 1 with fail
   rw[<-HW3.out];clear HW3
   go_upto_region 5 with fail
   clear d0 d1 d1' ahl d2 d2' i0 i1 q1 z1;go_wp2
   go_loopg [10,12,14,15,17,39] m.length (fun g v10 v12 v14 v15 v17 v39 w'=>∃(i:Nat)(last l':Int),v39= .int .i64 i/\v12= .int .i64 last/\i+g=m.length/\aC (Zo S d mt m i last left l')/\aC (AQ w0 W3 w' pl l'))
   case atStart=>exact⟨0,-1,left,rfl,rfl,by omega,⟨⟨trivial,rfl,fun f hf=>absurd hf List.not_mem_nil,by simp[iP],KD.out.1⟩⟩,⟨⟨Dt.out.le,Dt.out.be,aH.refl _ _ _⟩⟩⟩
   case round=>
    obtain⟨i,last,l',rfl,rfl,hg,Sl,HR⟩:=hrel;obtain⟨wo,rfl⟩:∃wo:World,wo=wr:=⟨_,rfl⟩
    obtain⟨ga,rfl⟩:∃ga:Nat,ga=gk:=⟨_,rfl⟩
    by_cases hlt:i<m.length
    ·obtain⟨f,hf⟩:=bF hlt
     obtain⟨kk,ad,A2,c2,hkn,rfl,x0,x1,x2,Ey⟩:=qm (Kd.aU HC.out HR.out.be) hf.out;subst hkn
     have hCw:Kd.C (iU kk) w0 A2 f.Values.length f.Values:=by
      obtain⟨k',ad',A2',c2',hk',acC,y0,y1,_,hCv0⟩:=qm HC.out hf.out;obtain rfl:kk=k':=by omega
      injection acC with acC
      subst acC;have h2:=ay HR.out.be y1;rw[x1]at h2;injection h2 with h2
      injection h2 with h2
      subst h2;exact hCv0
     have HCw:=ah hCw;have j0:(0:Int)<=(i:Int):=by omega
     have j1:(i:Int)<(m.length:Int):=by omega
     have d1:decide ((i:Int)<(m.length:Int))=true:=bZ j1;have e1:IntKind.i64.wrap ((i:Int)+1)=(i:Int)+1:=jM hlt Sj.out;have e2:wrap64 ((i:Int)+1)=(i:Int)+1:=w64 (by omega) (by have:=Sj.out;omega);have HG:=ah hg;have HCv:=ah Ey;clear Ey hCw hg;obtain⟨w4,hw4⟩:∃w4,w4=wo.alloc (.cells #[.int .i64 f.At,.slice A2 f.Values.length c2] 68):=⟨_,rfl⟩
     have hb4:Below wo.heap.size wo w4:=by rw[hw4];exact ak (bg _ _) _
     have hx4:w4.heap[wo.heap.size]? =some (.cells #[.int .i64 f.At,.slice A2 f.Values.length c2] 68 (0,0)):=by rw[hw4];exact aP wo _
     have y0:w4.cell? ⟨wo.heap.size,0,none⟩=some (.int .i64 f.At):=(aA hx4 0).trans rfl;have y1:w4.cell? ⟨wo.heap.size,1,none⟩=some (.slice A2 f.Values.length c2):=(aA hx4 1).trans rfl;have HR4:=ah (HR.out.step hb4);have HX4:=ah hx4;have HW4:=ah hw4;have HPl4:=ah (bJ HR.out.le);clear hw4 hb4 hx4
     go_upto_region 8 with fail
     rw[<-HW4.out];clear HW4 x0 x1 x2 j0 j1 d1
     by_cases ha:f.At<=last
     ·have d3:decide (f.At<=last)=true:=bZ ha
      go_wp2
      go_ret
      exact⟨false,l',rfl,HR4.out.to Wu.out,fun h=>by cases h⟩
     have d3:decide (f.At<=last)=false:=bY ha
     by_cases hb:(nf:Int)<=f.At
     ·have d4:decide ((nf:Int)<=f.At)=true:=bZ hb
      go_wp2
      go_ret
      exact⟨false,l',rfl,HR4.out.to Wu.out,fun h=>by cases h⟩
     have d4:decide ((nf:Int)<=f.At)=false:=bY hb
     by_cases hc:f.Values.length=0
     ·have d5:((f.Values.length:Int)==0)=true:=kZ (by omega)
      have hv0:f.Values=[]:=List.length_eq_zero_iff.1 hc;go_wp2
      go_ret
      exact⟨false,l',rfl,HR4.out.to Wu.out,fun h=>by cases h⟩
     have d5:((f.Values.length:Int)==0)=false:=eqF (by omega);have hv0:¬f.Values=[]:=fun h=>hc (by rw[h];rfl)
     have hlast:=Sl.out.ri.last;rw[<-Sl.out.la]at hlast;obtain⟨a,TJ⟩:∃a:Nat,f.At=(a:Int):=⟨f.At.toNat,by omega⟩
     obtain⟨t,ht⟩:=bF (show a<mt.fields.length by have:=qH.out;omega);obtain⟨adT,TI,u0,u1,u2,u3,u4,u5⟩:=uT (Kd.aU NZ.out HR4.out.be) ht.out;subst TI;have a0:(0:Int)<=(a:Int):=by omega
     have a1:(a:Int)<(nf:Int):=by omega
     have HAt:=ah (And.intro TJ (And.intro (show last<(a:Int)by omega) hv0));rw[TJ]at y0 d3 d4;have d4':decide (nf<=a)=false:=bY (by omega);have ahm:¬nf<=a:=by omega
     obtain⟨w5,hw5⟩:∃w5,w5=w4.alloc (.cells #[.string t.name,.int .i64 t.num,.int .i64 t.kind,.bool t.rep,.bool t.map,.int .i64 t.typ] 70):=⟨_,rfl⟩
     have hb5:Below w4.heap.size w4 w5:=by rw[hw5];exact ak (bg _ _) _
     have hx5:w5.heap[w4.heap.size]? =some (.cells #[.string t.name,.int .i64 t.num,.int .i64 t.kind,.bool t.rep,.bool t.map,.int .i64 t.typ] 70 (0,0)):=by rw[hw5];exact aP w4 _
     have HX5:=ah hx5;have HR5:=ah (HR4.out.step hb5);have HX45:=ah (aI HX4.out hb5);have y1':w5.cell? ⟨wo.heap.size,1,none⟩=some (.slice A2 f.Values.length c2):=ay hb5 y1;have y3:w5.cell? ⟨w4.heap.size,3,none⟩=some (.bool t.rep):=(aA hx5 3).trans rfl;have AL:=ah (Kt.out t (List.mem_of_getElem? ht.out));have HW5:=ah hw5;have HPl5:=ah (Nat.lt_of_lt_of_le HPl4.out (show wo.heap.size<=w4.heap.size from Nat.le_of_lt (bJ HX4.out)));clear hw5 hb5 hx5 ha hb TJ hlast hv0
     go_upto_region 12 with fail
     rw[<-HW5.out];clear HW5 y0 y1 u0 u1 u2 u3 u4 u5 a0 a1 d3 d4 d4' ahm
     by_cases hex:t.rep=false/\1<f.Values.length
     ·obtain⟨hr,hl⟩:=hex
      have d6:decide (1<(f.Values.length:Int))=true:=bZ (by omega);rw[hr]at y3;clear hr;go_wp2
      go_ret
      exact⟨false,l',rfl,HR5.out.to Wu.out,fun h=>by cases h⟩
     have Ko:=ah (show t.rep=false->f.Values.length=1 by intro hr;have:¬1<f.Values.length:=fun h=>hex ⟨hr,h⟩;omega);have d6:t.rep=false->decide (1<(f.Values.length:Int))=false:=fun hr=>bY (by have:=Ko.out hr;omega)
     clear hex hc;cases hrep:t.rep
     all_goals
      rw[hrep]at y3
      (try have d6':=d6 hrep)
      clear d6 hrep
      go_upto_region 14 with fail
      clear y3;go_wp2
      go_loopg [10,17,79] f.Values.length (fun g v10 v17 v79 w'=>∃(k:Nat)(l2:Int),v79= .int .i64 k/\k+g=f.Values.length/\aC (0<=l2/\l2+jl d (f.Values.take k)=l'/\∀v∈f.Values.take k,AO S (oZ S d) t v)/\aC (AQ w0 w5 w' pl l2))
      case atStart=>exact⟨0,l',rfl,by omega,⟨Sl.out.h0,by simp[jl],fun v hv=>absurd hv List.not_mem_nil⟩,⟨⟨HR5.out.le,HR5.out.be,aH.refl _ _ _⟩⟩⟩
      case round=>
       obtain⟨k,l2,rfl,hg2,HIn,HR2⟩:=hrel
       by_cases hk:k<f.Values.length
       ·obtain⟨v,hv⟩:=bF hk
        have hmx:=Kd.ou HCw.out;obtain⟨ad3,B3,e3,rfl,a0,a1,a2,a3,a4,a5,a6,LW⟩:=qL HCw.out hv.out;have b0:=ay HR2.out.be a0;have b1:=ay HR2.out.be a1;have b2:=ay HR2.out.be a2;have b3:=ay HR2.out.be a3;have b4:=ay HR2.out.be a4;have b5:=ay HR2.out.be a5;have j0:(0:Int)<=(k:Int):=by omega
        have j1:(k:Int)<(f.Values.length:Int):=by omega
        have d1:decide ((k:Int)<(f.Values.length:Int))=true:=bZ j1;have k2:wrap64 ((k:Int)+1)=(k:Int)+1:=w64 (by omega) (by omega);have k1:IntKind.i64.wrap ((k:Int)+1)=(k:Int)+1:=jM hk hmx;have HG2:=ah hg2;have hrg:=HM.out f (List.mem_of_getElem? hf.out) v (List.mem_of_getElem? hv.out);have yL:=ah hrg;obtain⟨w7,hw7⟩:∃w7,w7=wr.alloc (.cells #[.bool v.B,.int .i64 v.I,.int .u64 v.U,.int .u64 v.F,.string v.S,.slice B3 v.dA.length e3] 76):=⟨_,rfl⟩
        have hb7:Below wr.heap.size wr w7:=by rw[hw7];exact ak (bg _ _) _
        have hx7:w7.heap[wr.heap.size]? =some (.cells #[.bool v.B,.int .i64 v.I,.int .u64 v.U,.int .u64 v.F,.string v.S,.slice B3 v.dA.length e3] 76 (0,0)):=by rw[hw7];exact aP wr _
        have hr7:=HR2.out.step hb7;have ahn:=bJ HR2.out.le;have hp5:=HPl5.out;have hx8:(w7.setCell ⟨pl,0,none⟩ (.int .i64 (l2-1))).heap[wr.heap.size]? =some (.cells #[.bool v.B,.int .i64 v.I,.int .u64 v.U,.int .u64 v.F,.string v.S,.slice B3 v.dA.length e3] 76 (0,0)):=bI hx7 (by show wr.heap.size≠pl;omega) _;have hr8:=hr7.dec Um.out.1;have l0:w7.cell? ⟨pl,0,none⟩=some (.int .i64 l2):=(aA hr7.le 0).trans rfl;have f0:w7.frozen? ⟨pl,0,none⟩=false:=aN hr7.le 0;have ht8:=hr8.ke.blk HX5.out (by omega) (by simp);have hs8:=(HR5.out.to (aH.refl _ _ _)).ke.trans hr8.ke (.inl rfl);have hs8:=hs8.blk HX3.out (by have:=Um.out.2;omega) (by simp);have l1:(w7.setCell ⟨pl,0,none⟩ (.int .i64 (l2-1))).cell? ⟨pl,0,none⟩=some (.int .i64 (l2-1)):=(aA hr8.le 0).trans rfl;have hct:=zA (n:=d) hv.out;have hle:=tX d f.Values (k+1);have hin:=HIn.out;have hpc:=Sl.out.ct;have hlf:=KD.out.2;have HL2:=ah (show 0<=l2/\l2<=2000 by omega);have w1:wrap64 (l2-1)=l2-1:=by unfold wrap64;omega
        have w2:IntKind.i64.wrap (l2-1)=l2-1:=by rw[IntKind.wrap_i64];omega
        have HV0:=ah (fun h0:0<=l2-1=>EH S kk d w0 pl (some Bo) c0 A1 c1 t AL.out (by have:=HD.out;omega) (HIh.out kk rfl d (by have:=HD.out;omega)) v B3 e3 (w7.setCell ⟨pl,0,none⟩ (.int .i64 (l2-1))) (l2-1) LW hrg.1 hrg.2.1 hrg.2.2 h0 (by omega) hr8.be hr8.le);have HW7:=ah hw7;have HR8:=ah hr8;have HX8:=ah (And.intro hx8 (And.intro ht8 hs8));have UN:=ah hct;clear hw7 hb7 hx7 hr7 hr8 ahn hp5 hx8 ht8 hs8 hct hle hin hpc hlf hrg a0 a1 a2 a3 a4 a5 a6 LW hmx hg2
        go_upto_region 17 with fail
        rw[<-HW7.out];clear HW7 b0 b1 b2 b3 b4 b5 j0 j1 d1
        go_upto_region 18 with fail
        obtain⟨hx8,hx5,hx3⟩:=HX8.out;clear l0 f0
        by_cases Vj:l2-1<0
        ·have d7:decide (l2-1<0)=true:=bZ Vj
         clear hx8 hx5 hx3 HX8;go_wp2
         go_ret
         exact⟨false,l2-1,rfl,(HR8.out.to HR5.out.ke).to Wu.out,fun h=>by cases h⟩
        have d7:decide (l2-1<0)=false:=bY Vj;have HV:=ah (HV0.out (by omega));have yu:=ah Vj;obtain⟨w8,hw8⟩:∃w8,w8=w7.setCell ⟨pl,0,none⟩ (.int .i64 (l2-1)):=⟨_,rfl⟩
        rw[<-hw8]at HV hx8 hx5 hx3 l1 HR8 ⊢;have b0:w8.cell? ⟨wr.heap.size,0,none⟩=some (.bool v.B):=(aA hx8 0).trans rfl;have b1:w8.cell? ⟨wr.heap.size,1,none⟩=some (.int .i64 v.I):=(aA hx8 1).trans rfl;have b2:w8.cell? ⟨wr.heap.size,2,none⟩=some (.int .u64 v.U):=(aA hx8 2).trans rfl;have b3:w8.cell? ⟨wr.heap.size,3,none⟩=some (.int .u64 v.F):=(aA hx8 3).trans rfl;have b4:w8.cell? ⟨wr.heap.size,4,none⟩=some (.string v.S):=(aA hx8 4).trans rfl;have b5:w8.cell? ⟨wr.heap.size,5,none⟩=some (.slice B3 v.dA.length e3):=(aA hx8 5).trans rfl;have g0:w8.cell? ⟨w4.heap.size,0,none⟩=some (.string t.name):=(aA hx5 0).trans rfl;have g1:w8.cell? ⟨w4.heap.size,1,none⟩=some (.int .i64 t.num):=(aA hx5 1).trans rfl;have g2:w8.cell? ⟨w4.heap.size,2,none⟩=some (.int .i64 t.kind):=(aA hx5 2).trans rfl;have g3:w8.cell? ⟨w4.heap.size,3,none⟩=some (.bool t.rep):=(aA hx5 3).trans rfl;have g4:w8.cell? ⟨w4.heap.size,4,none⟩=some (.bool t.map):=(aA hx5 4).trans rfl;have g5:w8.cell? ⟨w4.heap.size,5,none⟩=some (.int .i64 t.typ):=(aA hx5 5).trans rfl;have s0:w8.cell? ⟨W.heap.size,0,none⟩=some (.slice (some Bo) S.ms.length c0):=(aA hx3 0).trans rfl;have s1:w8.cell? ⟨W.heap.size,1,none⟩=some (.slice A1 S.es.length c1):=(aA hx3 1).trans rfl;clear hw8 hx8 hx5 hx3 HX8 HV0 Vj
        go_upto_if 100 with(go_at_call 134;(with_reducible refine HV.out.mono ?_);rintro e w9⟨bb,l3,rfl,hx,hq⟩;have HX9:=ah hx;have HQ9:=ah hq;clear hx hq)
        clear b0 b1 b2 b3 b4 b5 g0 g1 g2 g3 g4 g5 s0 s1 l1;cases bb with
        |false=>
         go_wp2
         go_ret
         exact⟨false,l3,rfl,((HX9.out.to HR8.out.ke).to HR5.out.ke).to Wu.out,fun h=>by cases h⟩
        |true=>
         have hq9:=HQ9.out rfl;have hin:=HIn.out
         have HIn2:=ah (show 0<=l3/\l3+jl d (f.Values.take (k+1))=l'/\∀v∈f.Values.take (k+1),AO S (oZ S d) t v by
          refine⟨hq9.2.2,by rw[UN.out];have h1:=hq9.2.1;have h2:=hin.2.1;omega,fun u hu=>?_⟩;rw[qx hv.out]at hu;rcases List.mem_append.1 hu with hu|hu
          ·exact hin.2.2 u hu
          ·rw[List.mem_singleton.1 hu];exact hq9.1)
         have HX10:=ah (HX9.out.to HR8.out.ke);clear hin hq9;go_wp2;obtain⟨g',hg'⟩:∃g',gk=g'+1:=⟨gk-1,by have:=HG2.out;omega⟩
         go_roundg g'
         case measure=>omega
         case rel=>exact⟨k+1,l3,rfl,by have:=HG2.out;omega,HIn2,HX10⟩
       ·obtain rfl:k=f.Values.length:=by omega
        have d1:decide ((f.Values.length:Int)<(f.Values.length:Int))=false:=bY (by omega);have hin:=HIn.out;rw[List.take_length]at hin;have HPS:=ah (Sl.out.step hf.out (by rw[HAt.out.1];exact HAt.out.2.1) ⟨by rw[HAt.out.1];omega,HAt.out.2.2,t,by rw[HAt.out.1,Int.toNat_natCast];exact ht.out,Ko.out,hin.2.2⟩ hin.2.1 hin.1);rw[HAt.out.1]at HPS
        have y0:wr.cell? ⟨wo.heap.size,0,none⟩=some (.int .i64 a):=by
         rw[<-HAt.out.1];exact(aA (HR2.out.ke.blk HX45.out (by have:=HPl4.out;omega) (by simp)) 0).trans rfl
        have HRR:=ah (HR2.out.to HR5.out.ke);clear hin;go_wp2;obtain⟨g',hg'⟩:∃g',ga=g'+1:=⟨ga-1,by have:=HG.out;omega⟩
        go_roundg g'
        case measure=>omega
        case rel=>exact⟨i+1,a,l2,rfl,rfl,by have:=HG.out;omega,HPS,HRR⟩
    ·obtain rfl:i=m.length:=by omega
     have d1:decide ((m.length:Int)<(m.length:Int))=false:=bY (by omega);go_wp2
     go_ret
     have hp:=Sl.out;refine⟨true,l',rfl,HR.out.to Wu.out,fun _=>?_⟩;have h1:=hp.ri;have h2:=hp.ok;have h3:=hp.ct;rw[List.take_length]at h1 h2 h3;exact⟨⟨by omega,mt,by rw[Int.toNat_natCast];exact RQ.out,h1,h2⟩,h3,hp.h0⟩
  ·clear hW3 hB3 hX3 hC hM h0 h1 hB hL hS hSR ih hfx HX3 Wu hpl Zp z2 hd
   go_enter Tryz.func87,Tryz.ntmps87
   go_upto_region 1 with fail
   rw[<-HW3.out];clear HW3
   by_cases hn:typ<0
   ·have d0:decide (typ<0)=true:=bZ hn
    go_wp2
    go_ret
    exact⟨false,left,rfl,Dt.out,fun h=>by cases h⟩
   ·have d0:decide (typ<0)=false:=bY hn
    have d1:decide ((S.ms.length:Int)<=typ)=true:=bZ (by omega);go_wp2
    go_ret
    exact⟨false,left,rfl,Dt.out,fun h=>by cases h⟩
theorem fits_all(S:fM)(hS:jW S)(w0:World)(pl:Nat)(A0:Option Addr)(c0:Nat)(A1:Option Addr)(c1:Nat)(hSR:qZ w0 S A0 c0 A1 c1)(hpl:w0.heap.size<=pl):∀n d,d<=100000->Kz S n d w0 pl A0 c0 A1 c1:=by
 intro n
 induction n with
 |zero=>intro d hd;exact Fb S hS w0 pl A0 c0 A1 c1 hSR hpl 0 (fun k h=>absurd h (by omega)) d hd
 |succ n ih=>intro d hd;exact Fb S hS w0 pl A0 c0 A1 c1 hSR hpl (n+1) (fun k h=>(show k=n by omega)▸ih) d hd
theorem EI(S:fM)(hS:jW S)(w:World)(A0:Option Addr)(c0:Nat)(A1:Option Addr)(c1:Nat)(hSR:qZ w S A0 c0 A1 c1)(n:Nat)(typ:Int)(m:List dD)(A:Option Addr)(c:Nat)(hC:Kd.C (jh n) w A m.length m)(hM:Ky n m):
 Calls Tryz.prog 39 #[kG S A0 c0 A1 c1,.int .i64 typ,.slice A m.length c] w fun e w'=>∃b,e= .returned (.bool b)/\(b=true->oZ S 20 typ m/\iP 20 m<=2000)/\Below w.heap.size w w':=by
 obtain⟨W3,hW3⟩:∃W3,W3=(w.alloc (.cells #[.slice A0 S.ms.length c0,.slice A1 S.es.length c1] 25)).alloc (.cells #[.int .i64 2000] 3):=⟨_,rfl⟩
 have hB3:Below w.heap.size w W3:=by rw[hW3];exact ak (ak (bg _ _) _) _
 have hx1:W3.heap[w.heap.size]? =some (.cells #[.slice A0 S.ms.length c0,.slice A1 S.es.length c1] 25 (0,0)):=by rw[hW3];exact bn (aP w _) _
 have hx2:W3.heap[w.heap.size+1]? =some (.cells #[.int .i64 2000] 3 (0,0)):=by
  rw[hW3];have:=aP (w.alloc (.cells #[.slice A0 S.ms.length c0,.slice A1 S.es.length c1] 25)) (.cells #[.int .i64 2000] 3)
  simpa using this
 have z1:W3.cell? ⟨w.heap.size,0,none⟩=some (.slice A0 S.ms.length c0):=(aA hx1 0).trans rfl;have z2:W3.cell? ⟨w.heap.size,1,none⟩=some (.slice A1 S.es.length c1):=(aA hx1 1).trans rfl;have Ye:aC (Calls Tryz.prog 87 #[kG S A0 c0 A1 c1,.int .i64 typ,.slice A m.length c,.int .i64 20,.pointer (some ⟨w.heap.size+1,0,none⟩)] W3 (Hr w W3 (w.heap.size+1) fun l'=>oZ S 20 typ m/\l'+iP 20 m=2000/\0<=l')):=ah (fits_all S hS w (w.heap.size+1) A0 c0 A1 c1 hSR (by omega) n 20 (by decide) typ m A c W3 2000 hC hM (by decide) (by decide) hB3 hx2);have HW3:=ah hW3;clear hW3 hB3 hx1 hx2 hS hSR hC hM;go_enter Tryz.func39,Tryz.ntmps39
 go_upto_region 2 with fail
 rw[<-HW3.out];clear HW3
 go_wp2_with (go_at_call 87;(with_reducible refine Ye.out.mono ?_);rintro e w1⟨b,l1,rfl,hx,hq⟩;have HX:=ah hx;have HQ:=ah hq;clear hx hq)
 go_ret
 exact⟨b,rfl,fun hb=>⟨(HQ.out hb).1,by have:=(HQ.out hb).2;omega⟩,HX.out.be⟩
theorem Sm{n:Nat}{a b:List dD}(h:¬a.length=b.length):ji n a b=false:=by cases n<;>simp[ji,h]
theorem Oh{rec:List dD->List dD->Bool}{x y:dD}(h:¬(x.At=y.At/\x.Values.length=y.Values.length)):nH rec x y=false:=by
 unfold nH
 by_cases h1:x.At=y.At
 ·have h2:¬x.Values.length=y.Values.length:=fun e=>h ⟨h1,e⟩
  rw[bY h2,Bool.and_false,Bool.false_and]
 ·rw[eqF h1,Bool.false_and,Bool.false_and]
theorem Fe{w:World}{A:Option Addr}{m:Nat}{l:List dD}(h:Kd.C (jh 0) w A m l):l=[]:=by
 cases l with
 |nil=>rfl
 |cons x t=>
  obtain⟨k,_,_,_,e,_⟩:=qm h (i:=0) rfl;exact absurd e (by simp)
theorem ru(n:Nat):∀(a b:List dD)(A1:Option Addr)(c1:Nat)(A2:Option Addr)(c2:Nat)(w:World)(ha:Kd.C (jh n) w A1 a.length a)(hb:Kd.C (jh n) w A2 b.length b),
 Calls Tryz.prog 62 #[.slice A1 a.length c1,.slice A2 b.length c2] w fun e w'=>e= .returned (.bool (ji n a b))/\Below w.heap.size w w':=by
 induction n with
 |zero=>
  intro a b A1 c1 A2 c2 w ha hb;obtain rfl:=Fe ha;obtain rfl:=Fe hb;clear ha hb;go_enter Tryz.func62,Tryz.ntmps62;go_wp2
  go_loopg [14] 0 (fun g v14 w'=>v14= .int .i64 0/\w=w')
  case atStart=>exact⟨rfl,rfl⟩
  case round=>
   obtain⟨rfl,rfl⟩:=hrel;go_wp2
   go_ret
   exact⟨rfl,bg _ _⟩
 |succ n ih=>
  intro a b A1 c1 A2 c2 w ha hb
  by_cases hl:a.length=b.length
  ·have d:(((a.length:Nat):Int)!=((b.length:Nat):Int))=false:=Ef (by omega)
   have d2:(((a.length:Nat):Int)==((b.length:Nat):Int))=true:=kZ (by omega);have HS:=ah (show ji (n+1) a b=(List.range a.length).all (fun i=>nH (ji n) (a.getD i EG) (b.getD i EG))by simp[ji,hl]);have HL:=ah hl;have IH:=ah ih;have HA:=ah ha;have HB:=ah hb;have Sj:=ah (Kd.ou ha);clear ih ha hb hl;go_enter Tryz.func62,Tryz.ntmps62;go_wp2
   go_loopg [14] a.length (fun g v14 w'=>∃i:Nat,v14= .int .i64 i/\i+g=a.length/\aC ((List.range i).all (fun i=>nH (ji n) (a.getD i EG) (b.getD i EG))=true)/\aC (Below w.heap.size w w'))
   case atStart=>exact⟨0,rfl,by omega,⟨by simp⟩,⟨bg _ _⟩⟩
   case round=>
    obtain⟨i,rfl,hg,HR,uM⟩:=hrel;obtain⟨wo,rfl⟩:∃wo:World,wo=wr:=⟨_,rfl⟩
    obtain⟨ga,rfl⟩:∃ga:Nat,ga=gk:=⟨_,rfl⟩
    by_cases hlt:i<a.length
    ·obtain⟨x,hx⟩:=bF hlt
     obtain⟨y,hy⟩:=bF (show i<b.length by rw[<-HL.out];exact hlt);obtain⟨k1,ad1,B1,e1,ek1,rfl,p0,p1,p2,hC1⟩:=qm (Kd.aU HA.out uM.out) hx.out;obtain⟨k2,ad2,B2,e2,ek2,rfl,q0,q1,q2,hC2⟩:=qm (Kd.aU HB.out uM.out) hy.out;obtain rfl:n=k1:=by omega
     obtain rfl:n=k2:=by omega
     have HC1:=ah hC1;have HC2:=ah hC2;clear hC1 hC2 ek1 ek2;have i0:(0:Int)<=(i:Int):=by omega
     have i1:(i:Int)<(a.length:Int):=by omega
     have i2:(i:Int)<(b.length:Int):=by have:=HL.out;omega
     have HXY:=ah (show nH (ji n) (a.getD i EG) (b.getD i EG)=nH (ji n) x y by rw[bT hx.out,bT hy.out])
     by_cases hat:x.At=y.At/\x.Values.length=y.Values.length
     ·obtain⟨h1,h2⟩:=hat
      have d3:(x.At !=y.At)=false:=Ef h1;have d4:(((x.Values.length:Nat):Int)!=((y.Values.length:Nat):Int))=false:=Ef (by omega);have HXV:=ah (show nH (ji n) x y=(List.range x.Values.length).all (fun k=>gq (ji n) (x.Values.getD k Kv) (y.Values.getD k Kv))by unfold nH;rw[kZ h1,bZ h2];rfl);have H2:=ah h2;clear h1 h2;go_wp2
      go_quiet (fail)
      go_wp2
      go_loopg [49] x.Values.length (fun g v49 w'=>∃k:Nat,v49= .int .i64 k/\k+g=x.Values.length/\aC ((List.range k).all (fun k=>gq (ji n) (x.Values.getD k Kv) (y.Values.getD k Kv))=true)/\aC (Below wo.heap.size wo w'))
      case atStart=>exact⟨0,rfl,by omega,⟨by simp⟩,⟨aS (bg _ _) _⟩⟩
      case round=>
       obtain⟨k,rfl,hg2,HR2,HB2⟩:=hrel
       by_cases hk:k<x.Values.length
       ·obtain⟨v,hv⟩:=bF hk
        obtain⟨u,hu⟩:=bF (show k<y.Values.length by rw[<-H2.out];exact hk);obtain⟨ad3,D1,f1,rfl,a0,a1,a2,a3,a4,a5,a6,hC3⟩:=qL (Kd.aU HC1.out HB2.out) hv.out;obtain⟨ad4,D2,f2,rfl,b0,b1,b2,b3,b4,b5,b6,hC4⟩:=qL (Kd.aU HC2.out HB2.out) hu.out;have HC3:=ah hC3;have HC4:=ah hC4;have P1:=ay HB2.out p1;have Q1:=ay HB2.out q1;clear hC3 hC4;have j0:(0:Int)<=(k:Int):=by omega
        have j1:(k:Int)<(x.Values.length:Int):=by omega
        have j2:(k:Int)<(y.Values.length:Int):=by have:=H2.out;omega
        have HV:=ah (fun W(hb:Below wr.heap.size wr W)=>oW (ji n) v u D1 f1 D2 f2 W (fun W2 hb2=>IH.out v.dA u.dA D1 f1 D2 f2 W2 (Kd.aU (Kd.aU HC3.out hb) hb2) (Kd.aU (Kd.aU HC4.out hb) hb2)));cases hsv:gq (ji n) v u
        ·have HF:=ah (show ji (n+1) a b=false by
          rw[HS.out];exact dN hlt (by rw[HXY.out,HXV.out];exact dN hk (by rw[bT hv.out,bT hu.out,hsv])))
         go_wp2
         go_region_held3 (fun w'=>w'.cell? ⟨(ad1.add (i*2)).block,(ad1.add (i*2)).off+1,none⟩=some (.slice (some ad3) x.Values.length e1)/\w'.cell? ⟨(ad2.add (i*2)).block,(ad2.add (i*2)).off+1,none⟩=some (.slice (some ad4) y.Values.length e2)/\w'.cell? (ad3.add (k*6))=some (.bool v.B)/\w'.cell? ⟨(ad3.add (k*6)).block,(ad3.add (k*6)).off+1,none⟩=some (.int .i64 v.I)/\w'.cell? ⟨(ad3.add (k*6)).block,(ad3.add (k*6)).off+2,none⟩=some (.int .u64 v.U)/\w'.cell? ⟨(ad3.add (k*6)).block,(ad3.add (k*6)).off+3,none⟩=some (.int .u64 v.F)/\w'.cell? ⟨(ad3.add (k*6)).block,(ad3.add (k*6)).off+4,none⟩=some (.string v.S)/\w'.cell? ⟨(ad3.add (k*6)).block,(ad3.add (k*6)).off+5,none⟩=some (.slice D1 v.dA.length f1)/\w'.cell? (ad4.add (k*6))=some (.bool u.B)/\w'.cell? ⟨(ad4.add (k*6)).block,(ad4.add (k*6)).off+1,none⟩=some (.int .i64 u.I)/\w'.cell? ⟨(ad4.add (k*6)).block,(ad4.add (k*6)).off+2,none⟩=some (.int .u64 u.U)/\w'.cell? ⟨(ad4.add (k*6)).block,(ad4.add (k*6)).off+3,none⟩=some (.int .u64 u.F)/\w'.cell? ⟨(ad4.add (k*6)).block,(ad4.add (k*6)).off+4,none⟩=some (.string u.S)/\w'.cell? ⟨(ad4.add (k*6)).block,(ad4.add (k*6)).off+5,none⟩=some (.slice D2 u.dA.length f2)/\aC (Below wr.heap.size wr w')) (first|exact⟨P1,Q1,a0,a1,a2,a3,a4,a5,b0,b1,b2,b3,b4,b5,⟨aQ (bg _ _)⟩⟩|exact⟨ay hb P1,ay hb Q1,ay hb a0,ay hb a1,ay hb a2,ay hb a3,ay hb a4,ay hb a5,ay hb b0,ay hb b1,ay hb b2,ay hb b3,ay hb b4,ay hb b5,⟨au (aQ (bg _ _)) hb⟩⟩) (first|(go_at_call 28;(with_reducible refine(HV.out _ (aQ (bg _ _))).mono ?_);rw[hsv];rintro e w5⟨rfl,hb⟩))
         rename_i Oc;have Gt:=Oc.2.2.2.2.2.2.2.2.2.2.2.2.2.2;go_wp2
         go_ret
         exact⟨by rw[HF.out];rfl,au uM.out (au HB2.out Gt.out)⟩
        ·have HR5:=ah (gY HR2.out (show gq (ji n) (x.Values.getD k Kv) (y.Values.getD k Kv)=true by rw[bT hv.out,bT hu.out,hsv]))
         have w1:IntKind.i64.wrap ((k:Int)+1)=(k:Int)+1:=jM hk (Kd.ou HC1.out);go_wp2
         go_region_held3 (fun w'=>w'.cell? ⟨(ad1.add (i*2)).block,(ad1.add (i*2)).off+1,none⟩=some (.slice (some ad3) x.Values.length e1)/\w'.cell? ⟨(ad2.add (i*2)).block,(ad2.add (i*2)).off+1,none⟩=some (.slice (some ad4) y.Values.length e2)/\w'.cell? (ad3.add (k*6))=some (.bool v.B)/\w'.cell? ⟨(ad3.add (k*6)).block,(ad3.add (k*6)).off+1,none⟩=some (.int .i64 v.I)/\w'.cell? ⟨(ad3.add (k*6)).block,(ad3.add (k*6)).off+2,none⟩=some (.int .u64 v.U)/\w'.cell? ⟨(ad3.add (k*6)).block,(ad3.add (k*6)).off+3,none⟩=some (.int .u64 v.F)/\w'.cell? ⟨(ad3.add (k*6)).block,(ad3.add (k*6)).off+4,none⟩=some (.string v.S)/\w'.cell? ⟨(ad3.add (k*6)).block,(ad3.add (k*6)).off+5,none⟩=some (.slice D1 v.dA.length f1)/\w'.cell? (ad4.add (k*6))=some (.bool u.B)/\w'.cell? ⟨(ad4.add (k*6)).block,(ad4.add (k*6)).off+1,none⟩=some (.int .i64 u.I)/\w'.cell? ⟨(ad4.add (k*6)).block,(ad4.add (k*6)).off+2,none⟩=some (.int .u64 u.U)/\w'.cell? ⟨(ad4.add (k*6)).block,(ad4.add (k*6)).off+3,none⟩=some (.int .u64 u.F)/\w'.cell? ⟨(ad4.add (k*6)).block,(ad4.add (k*6)).off+4,none⟩=some (.string u.S)/\w'.cell? ⟨(ad4.add (k*6)).block,(ad4.add (k*6)).off+5,none⟩=some (.slice D2 u.dA.length f2)/\aC (Below wr.heap.size wr w')) (first|exact⟨P1,Q1,a0,a1,a2,a3,a4,a5,b0,b1,b2,b3,b4,b5,⟨aQ (bg _ _)⟩⟩|exact⟨ay hb P1,ay hb Q1,ay hb a0,ay hb a1,ay hb a2,ay hb a3,ay hb a4,ay hb a5,ay hb b0,ay hb b1,ay hb b2,ay hb b3,ay hb b4,ay hb b5,⟨au (aQ (bg _ _)) hb⟩⟩) (first|(go_at_call 28;(with_reducible refine(HV.out _ (aQ (bg _ _))).mono ?_);rw[hsv];rintro e w5⟨rfl,hb⟩))
         rename_i Oc;have Gt:=Oc.2.2.2.2.2.2.2.2.2.2.2.2.2.2;go_wp2;obtain⟨g',rfl⟩:∃g',gk=g'+1:=⟨gk-1,by omega⟩
         go_roundg g'
         case measure=>omega
         case rel=>exact⟨k+1,by go_num,by omega,HR5,⟨au HB2.out Gt.out⟩⟩
       ·obtain rfl:k=x.Values.length:=by omega
        have HR4:=ah (gY HR.out (show nH (ji n) (a.getD i EG) (b.getD i EG)=true by rw[HXY.out,HXV.out];exact HR2.out));have w1:IntKind.i64.wrap ((i:Int)+1)=(i:Int)+1:=jM hlt Sj.out;go_wp2;obtain⟨g',rfl⟩:∃g',ga=g'+1:=⟨ga-1,by omega⟩
        go_roundg g'
        case measure=>omega
        case rel=>exact⟨i+1,by go_num,by omega,HR4,⟨au uM.out HB2.out⟩⟩
     ·have HF:=ah (show ji (n+1) a b=false by
       rw[HS.out];exact dN hlt (by rw[HXY.out];exact Oh hat))
      by_cases h1:x.At=y.At
      ·have h2:¬x.Values.length=y.Values.length:=fun h=>hat ⟨h1,h⟩
       have d3:(x.At !=y.At)=false:=Ef h1;have d4:(((x.Values.length:Nat):Int)!=((y.Values.length:Nat):Int))=true:=Ci (by omega);clear hat h1 h2;go_wp2
       go_quiet (fail)
       go_wp2
       go_ret
       exact⟨by rw[HF.out];rfl,aS uM.out _⟩
      ·have d3:(x.At !=y.At)=true:=Ci h1
       clear hat h1;go_wp2
       go_quiet (fail)
       go_wp2
       go_ret
       exact⟨by rw[HF.out];rfl,aS uM.out _⟩
    ·obtain rfl:i=a.length:=by omega
     have HF:=ah (show ji (n+1) a b=true by rw[HS.out];exact HR.out);go_wp2
     go_ret
     exact⟨by rw[HF.out];rfl,uM.out⟩
  ·have HF:=ah (Sm (n:=n+1) hl)
   have d:(((a.length:Nat):Int)!=((b.length:Nat):Int))=true:=Ci (by omega);have d2:(((a.length:Nat):Int)==((b.length:Nat):Int))=false:=eqF (by omega);clear ih ha hb hl;go_enter Tryz.func62,Tryz.ntmps62;go_wp2
   go_ret
   exact⟨by rw[HF.out];rfl,bg _ _⟩
end Go.Proofs.YtapkmjfjikpnlaaGreatDoor
