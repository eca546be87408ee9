/- A part of FnMsgJsonMeans. No conditions. -/
import Derived.Test.YtapkmjfjikpnlaaGreatDoorM29
set_option maxHeartbeats 8000000
set_option maxRecDepth 100000
namespace Go.Proofs.YtapkmjfjikpnlaaGreatDoor
open Go.RowKit YtapkmjfjikpnlaaGreatDoorW.aG YtapkmjfjikpnlaaGreatDoorW.aJ
set_option linter.unusedVariables false
set_option linter.unusedSimpArgs false
def Wv(S:fM)(R:Int->List dD->Prop)(mt:MT)(f:dD):Prop:=∀t,mt.fields[f.At.toNat]? =some t->aT t.kind=8->(∀v∈f.Values,R t.typ v.dA)/\(t.map=true->∀(a b:Nat)(x y:Val),a<b->f.Values[a]? =some x->f.Values[b]? =some y->qp x≠qp y)
def rC(S:fM):Nat->Int->List dD->Prop
 |0,_,_=>True
 |n+1,typ,m=>∀mt,S.ms[typ.toNat]? =some mt->∀f∈m,Wv S (rC S n) mt f
theorem Fg(n:Nat):ji n [] []=true:=by cases n<;>simp[ji]
theorem Oi{n:Nat}{u:Val}(h:u.dA=[]):gq (ji n) u u=true:=by simp[gq,h,Fg]
theorem Du{n nn:Nat}(hn:n=nn+1){w:World}{A:Option Addr}{m:Nat}{l:List Val}(hC:Kd.C (iU n) w A m l){i:Nat}{v u1 u2:Val}(hv:l[i]? =some v)(hms:v.dA=[.mk 0 [u1],.mk 1 [u2]]):
 ∃ad adE e1 NU d1 BK eK,A=some ad/\w.cell? ⟨(ad.add (i*6)).block,(ad.add (i*6)).off+5,none⟩=some (.slice (some adE) 2 e1)/\w.cell? ⟨adE.block,adE.off+1,none⟩=some (.slice (some NU) 1 d1)/\
  w.cell? NU=some (.bool u1.B)/\w.cell? ⟨NU.block,NU.off+1,none⟩=some (.int .i64 u1.I)/\w.cell? ⟨NU.block,NU.off+2,none⟩=some (.int .u64 u1.U)/\w.cell? ⟨NU.block,NU.off+3,none⟩=some (.int .u64 u1.F)/\w.cell? ⟨NU.block,NU.off+4,none⟩=some (.string u1.S)/\w.cell? ⟨NU.block,NU.off+5,none⟩=some (.slice BK u1.dA.length eK)/\Kd.C (jh nn) w BK u1.dA.length u1.dA:=by
 subst hn;obtain⟨ad,B,e1,rfl,q0,q1,q2,q3,q4,q5,q6,Ey⟩:=qL hC hv;rw[hms]at q5 q6 Ey;obtain⟨k1,adE,D1,d1,en,eE,x0,x1,x2,hCa⟩:=qm Ey (i:=0) rfl;subst eE;obtain rfl:nn=k1:=by omega
 obtain⟨NU,BK,eK,eD1,ka0,ka1,ka2,ka3,ka4,ka5,ka6,hCk⟩:=qL hCa (i:=0) rfl;subst eD1;rw[show(dD.mk 0 [u1]).Values.length=1 from rfl]at x1;simp only[Nat.zero_mul,Nat.one_mul,VP,VQ,Nat.add_assoc,Nat.reduceAdd]at x1 ka0 ka1 ka2 ka3 ka4 ka5;exact⟨ad,adE,e1,NU,d1,BK,eK,rfl,q5,x1,ka0,ka1,ka2,ka3,ka4,ka5,hCk⟩
theorem Hu{k n:Nat}(h:k<n)(hn:n<=9223372036854775807):wrap64 ((k:Int)+1)=(k:Int)+1:=w64 (by omega) (by omega)
def Wy(S:fM)(n:Nat)(w0:World)(A0:Option Addr)(c0:Nat)(A1:Option Addr)(c1:Nat):Prop:=
 ∀(typ:Int)(m:List dD)(A:Option Addr)(c:Nat)(W:World),Kd.C (jh n) w0 A m.length m->qG S n typ m->Below w0.heap.size w0 W->
  Calls Tryz.prog 19 #[kG S A0 c0 A1 c1,.int .i64 typ,.slice A m.length c] W fun e w'=>∃b,e= .returned (.bool b)/\(b=true->rC S n typ m)/\Below W.heap.size W w'
theorem yG{S:fM}{F:Int->List dD->Prop}{t:FT}{v:Val}(h:qF S F t v)(hk:aT t.kind=8):F t.typ v.dA/\(t.map=true->v.dA.length=2):=by
 rcases h with h|h|h|h|h|h|h|h
 ·exact absurd h.1 (by rw[hk];decide)
 ·exact absurd h.1 (by rw[hk];decide)
 ·exact absurd h.1 (by rw[hk];decide)
 ·exact absurd h.1 (by rw[hk];decide)
 ·exact absurd h.1 (by rw[hk];decide)
 ·exact absurd h.1 (by rw[hk];decide)
 ·exact absurd h.1 (by rw[hk];decide)
 ·exact⟨h.2.2.1,h.2.2.2⟩
theorem Oj{S:fM}(hS:jW S){k:Nat}{t:FT}(hF:sG S t)(hm:t.map=true){v:Val}(hV:qF S (qG S k) t v):
 ∃nn u1 u2 kt vt mt,k=nn+1/\v.dA=[.mk 0 [u1],.mk 1 [u2]]/\qp v=u1/\Rx v=u2/\S.ms[t.typ.toNat]? =some mt/\mt.fields=[kt,vt]/\qF S (qG S nn) kt u1/\qF S (qG S nn) vt u2/\u1.dA=[]/\(aT kt.kind=1∨aT kt.kind=2∨aT kt.kind=3∨aT kt.kind=5):=by
 obtain⟨hrep,hk8,mt,kt,vt,hmt,hfs,hkr,VT,hks⟩:=hF.map hm;obtain⟨h1,h2⟩:=yG hV hk8;obtain⟨nn,u1,u2,hn,hms,hu1,hu2⟩:=EZ h1 (h2 hm) hmt hfs hkr VT;refine⟨nn,u1,u2,kt,vt,mt,hn,hms,by unfold qp;rw[hms],by unfold Rx;rw[hms],hmt,hfs,hu1,hu2,?_,hks⟩;rcases hu1 with h|h|h|h|h|h|h|h
 ·rw[h.2];rfl
 ·rw[h.2.1];rfl
 ·rw[h.2.1];rfl
 ·rw[h.2.1];rfl
 ·rw[h.2.1];rfl
 ·rw[h.2.1];rfl
 ·rw[h.2.1];rfl
 ·exfalso;rcases hks with g|g|g|g<;>rw[h.1]at g<;>revert g<;>decide
theorem Sr(S:fM)(hS:jW S)(w0:World)(A0:Option Addr)(c0:Nat)(A1:Option Addr)(c1:Nat)(hSR:qZ w0 S A0 c0 A1 c1)(n:Nat)(ih:Wy S n w0 A0 c0 A1 c1):Wy S (n+1) w0 A0 c0 A1 c1:=by
 intro typ m A c W hC hF hB;obtain⟨hty,mt,hmt,hri,hall⟩:=hF;obtain⟨kt,rfl⟩:∃k:Nat,typ=(k:Int):=⟨typ.toNat,by omega⟩
 rw[Int.toNat_natCast]at hmt;have hmem:=List.mem_of_getElem? hmt;obtain⟨Bo,AF,cF,rfl,_,m1,m2,uK⟩:=Ag hSR.ms hmt;obtain⟨nf,hnf⟩:∃nf,nf=mt.fields.length:=⟨_,rfl⟩
 rw[<-hnf]at m1 uK;obtain⟨W3,hW3⟩:∃W3,W3=W.alloc (.cells #[.slice (some Bo) S.ms.length c0,.slice A1 S.es.length c1] 25):=⟨_,rfl⟩
 have hB3:Below W.heap.size W W3:=by rw[hW3];exact ak (bg _ _) _
 have hX3:W3.heap[W.heap.size]? =some (.cells #[.slice (some Bo) S.ms.length c0,.slice A1 S.es.length c1] 25 (0,0)):=by rw[hW3];exact aP W _
 have z1:W3.cell? ⟨W.heap.size,0,none⟩=some (.slice (some Bo) S.ms.length c0):=(aA hX3 0).trans rfl;have q1:=ay (au hB hB3) m1;have i0:(0:Int)<=(kt:Int):=by omega
 have i1:(kt:Int)<(S.ms.length:Int):=by have:=(List.getElem?_eq_some_iff.1 hmt).1;omega
 have HX3:=ah hX3;have HB3:=ah hB3;have HB03:=ah (au hB hB3);have HC:=ah hC;have Sj:=ah (Kd.ou hC);have Ho:=ah hall;have Kt:=ah (hS.Vw mt hmem);have NZ:=ah uK;have RQ:=ah hmt;have qH:=ah hnf;have HS:=ah hS;have HIh:=ah ih;have HW3:=ah hW3;clear hW3 hB3 hX3 hC hri hall hB hS ih uK hnf hmt hmem m1 m2 hty hSR;go_enter Tryz.func19,Tryz.ntmps19
 go_upto_region 1 with fail
 rw[<-HW3.out];clear HW3
 go_upto_region 2 with fail
 clear z1 q1 i0 i1;go_wp2
 go_loopg [6,8,9,10,11,12] m.length (fun g v6 v8 v9 v10 v11 v12 w'=>∃i:Nat,v8= .int .i64 i/\i+g=m.length/\aC (∀f∈m.take i,Wv S (rC S n) mt f)/\aC (Below W3.heap.size W3 w'))
 case atStart=>exact⟨0,rfl,by omega,⟨fun f hf=>absurd hf List.not_mem_nil⟩,⟨bg _ _⟩⟩
 case round=>
  obtain⟨i,rfl,hg,HR,uM⟩:=hrel;obtain⟨wo,rfl⟩:∃wo:World,wo=wr:=⟨_,rfl⟩
  obtain⟨ga,rfl⟩:∃ga:Nat,ga=gk:=⟨_,rfl⟩
  by_cases hlt:i<m.length
  ·obtain⟨f,hf⟩:=bF hlt
   obtain⟨fa0,fv0,t,ht,acD,WA⟩:=Ho.out f (List.mem_of_getElem? hf.out);obtain⟨k',ad,A2,c2,hkn,rfl,x0,x1,x2,Ey⟩:=qm HC.out hf.out;obtain rfl:n=k':=by omega
   obtain⟨a,TJ⟩:∃a:Nat,f.At=(a:Int):=⟨f.At.toNat,by omega⟩
   rw[TJ,Int.toNat_natCast]at ht;obtain⟨adT,TI,u0,u1,u2,u3,u4,u5⟩:=uT NZ.out ht;subst TI;have hb0:=au HB03.out uM.out;have y0:=ay hb0 x0;rw[TJ]at y0;have j0:(0:Int)<=(i:Int):=by omega
   have j1:(i:Int)<(m.length:Int):=by omega
   have a0:(0:Int)<=(a:Int):=by omega
   have a1:(a:Int)<(nf:Int):=by have:=(List.getElem?_eq_some_iff.1 ht).1;have:=qH.out;omega
   have d1:decide ((i:Int)<(m.length:Int))=true:=bZ j1;have e2:wrap64 ((i:Int)+1)=(i:Int)+1:=w64 (by omega) (by have:=Sj.out;omega);have e1:IntKind.i64.wrap ((i:Int)+1)=(i:Int)+1:=jM hlt Sj.out;have v0:=ay hb0 u0;have v1:=ay hb0 u1;have v2:=ay hb0 u2;have v3:=ay hb0 u3;have v4:=ay hb0 u4;have v5:=ay hb0 u5;obtain⟨w5,hw5⟩:∃w5,w5=wo.alloc (.cells #[.string t.name,.int .i64 t.num,.int .i64 t.kind,.bool t.rep,.bool t.map,.int .i64 t.typ] 70):=⟨_,rfl⟩
   have hb5:Below wo.heap.size wo w5:=by rw[hw5];exact ak (bg _ _) _
   have hx5:w5.heap[wo.heap.size]? =some (.cells #[.string t.name,.int .i64 t.num,.int .i64 t.kind,.bool t.rep,.bool t.map,.int .i64 t.typ] 70 (0,0)):=by rw[hw5];exact aP wo _
   have HX5:=ah hx5;have HB5:=ah (au uM.out hb5);have HB05:=ah (au hb0 hb5);have AL:=ah (Kt.out t (List.mem_of_getElem? ht));have HAt:=ah (And.intro TJ (And.intro ht WA));have HCv:=ah Ey;have HX1:=ah x1;have HG:=ah hg;have HW5:=ah hw5;clear hw5 hb5 hx5 u0 u1 u2 u3 u4 u5 x0 x1 x2 Ey hkn fa0 fv0 ht acD WA TJ hb0 hg
   go_upto_region 6 with fail
   rw[<-HW5.out];clear HW5 v0 v1 v2 v3 v4 v5 y0 a0 a1 d1;go_wp2
   go_loopg [6,10,11,12] f.Values.length (fun g v6 v10 v11 v12 w'=>∃q:Nat,v10= .int .i64 q/\q+g=f.Values.length/\aC (∀v∈f.Values.take q,rC S n t.typ v.dA)/\aC (t.map=true->∀(a b:Nat)(x y:Val),a<b->b<q->f.Values[a]? =some x->f.Values[b]? =some y->qp x≠qp y)/\aC (Below w5.heap.size w5 w'))
   case atStart=>exact⟨0,rfl,by omega,⟨fun v hv=>absurd hv List.not_mem_nil⟩,⟨fun _ a b x y _ h=>absurd h (by omega)⟩,⟨bg _ _⟩⟩
   case round=>
    obtain⟨q,rfl,hg2,HQ1,HQ2,HB2⟩:=hrel;obtain⟨wq,rfl⟩:∃wq:World,wq=wr:=⟨_,rfl⟩
    obtain⟨gb,rfl⟩:∃gb:Nat,gb=gk:=⟨_,rfl⟩
    have x1:=ay (au HB05.out HB2.out) HX1.out;have y2:wq.cell? ⟨wo.heap.size,2,none⟩=some (.int .i64 t.kind):=(aA (aI HX5.out HB2.out) 2).trans rfl
    by_cases hlq:q<f.Values.length
    ·obtain⟨v,hv⟩:=bF hlq
     have hfv:=HAt.out.2.2 v (List.mem_of_getElem? hv.out);have d1:decide ((q:Int)<(f.Values.length:Int))=true:=bZ (by omega);have HG2:=ah hg2;have hmx:=Kd.ou HCv.out;have k2:wrap64 ((q:Int)+1)=(q:Int)+1:=w64 (by omega) (by omega);have k1:IntKind.i64.wrap ((q:Int)+1)=(q:Int)+1:=jM hlq hmx;have HMq:=ah hmx;clear hg2 hmx
     by_cases hk8:aT t.kind=8
     ·have d4:(aT t.kind !=8)=false:=Ef hk8
      obtain⟨ad3,B3,e3,rfl,a0,a1,a2,a3,a4,a5,a6,LW⟩:=qL HCv.out hv.out;have hbq:=au HB05.out HB2.out;have b0:=ay hbq a0;have b1:=ay hbq a1;have b2:=ay hbq a2;have b3:=ay hbq a3;have b4:=ay hbq a4;have b5:=ay hbq a5;have i0:(0:Int)<=(q:Int):=by omega
      have i1:(q:Int)<(f.Values.length:Int):=by omega
      obtain⟨w7,hw7⟩:∃w7,w7=wq.alloc (.cells #[.bool v.B,.int .i64 v.I,.int .u64 v.U,.int .u64 v.F,.string v.S,.slice B3 v.dA.length e3] 76):=⟨_,rfl⟩
      have hb7:Below wq.heap.size wq w7:=by rw[hw7];exact ak (bg _ _) _
      have hx7:w7.heap[wq.heap.size]? =some (.cells #[.bool v.B,.int .i64 v.I,.int .u64 v.U,.int .u64 v.F,.string v.S,.slice B3 v.dA.length e3] 76 (0,0)):=by rw[hw7];exact aP wq _
      have HX7:=ah hx7;have HB57:=ah (au HB2.out hb7);have HB07:=ah (au hbq hb7);have Hw:=ah (HIh.out t.typ v.dA B3 e3 w7 LW (yG hfv hk8).1 (au hbq hb7));have HK8:=ah (And.intro hk8 hfv);have HW7:=ah hw7;have HA5:=ah a5;clear hw7 hb7 hx7 a0 a1 a2 a3 a4 a5 a6 LW hbq hk8 hfv
      go_upto_region 11 with(go_at_call 42;(with_reducible refine(bH _ _).mono ?_);rintro e w1⟨rfl,rfl⟩)
      rw[<-HW7.out];clear HW7 b0 b1 b2 b3 b4 b5 i0 i1 d1 d4 y2 x1;have s0:w7.cell? ⟨W.heap.size,0,none⟩=some (.slice (some Bo) S.ms.length c0):=(aA (aI HX3.out (au HB5.out HB57.out)) 0).trans rfl;have s1:w7.cell? ⟨W.heap.size,1,none⟩=some (.slice A1 S.es.length c1):=(aA (aI HX3.out (au HB5.out HB57.out)) 1).trans rfl;have y5:w7.cell? ⟨wo.heap.size,5,none⟩=some (.int .i64 t.typ):=(aA (aI HX5.out HB57.out) 5).trans rfl;have b5:w7.cell? ⟨wq.heap.size,5,none⟩=some (.slice B3 v.dA.length e3):=(aA HX7.out 5).trans rfl
      go_upto_if 61 with(go_at_call 19;(with_reducible refine Hw.out.mono ?_);rintro e w8⟨bb,rfl,hq8,hb8⟩;have HQ8:=ah hq8;have HB8:=ah hb8;clear hq8 hb8)
      clear s0 s1 y5 b5;cases bb with
      |false=>
       go_wp2
       go_ret
       exact⟨false,rfl,fun h=>(by cases h),au HB3.out (au HB5.out (au HB57.out HB8.out))⟩
      |true=>
       have HV8:=ah (HQ8.out rfl)
       have HQ1':=ah (show∀v∈f.Values.take (q+1),rC S n t.typ v.dA by
        intro u hu;rw[qx hv.out]at hu;rcases List.mem_append.1 hu with hu|hu
        ·exact HQ1.out u hu
        ·rw[List.mem_singleton.1 hu];exact HV8.out)
       have HB58:=ah (au HB57.out HB8.out);have HB08:=ah (au HB07.out HB8.out);have HX8:=ah (aI HX7.out HB8.out);clear HQ8 Hw;go_wp2
       go_loopg [6,12] q (fun g v6 v12 w'=>∃j:Nat,v12= .int .i64 j/\j+g=q/\aC (t.map=true->∀(j':Nat)(x:Val),j'<j->f.Values[j']? =some x->qp x≠qp v)/\aC (Below w8.heap.size w8 w'))
       case atStart=>exact⟨0,rfl,by omega,⟨fun _ j' x h=>absurd h (by omega)⟩,⟨bg _ _⟩⟩
       case round=>
        obtain⟨j,rfl,hg3,HJ,HB9⟩:=hrel;have y4:wr.cell? ⟨wo.heap.size,4,none⟩=some (.bool t.map):=(aA (aI HX5.out (au HB58.out HB9.out)) 4).trans rfl
        have HQ2':=ah (show j=q∨t.map=false->(t.map=true->∀(a b:Nat)(x y:Val),a<b->b<q+1->f.Values[a]? =some x->f.Values[b]? =some y->qp x≠qp y)by
         intro hjq hm a b x y hab hb hx hy
         by_cases hbq:b<q
         ·exact HQ2.out hm a b x y hab hbq hx hy
         ·obtain rfl:b=q:=by omega
          rw[hv.out]at hy;cases hy;rcases hjq with rfl|h
          ·exact HJ.out hm a x hab hx
          ·rw[hm]at h;cases h)
        have HG3:=ah hg3;clear hg3;rcases Bool.eq_false_or_eq_true t.map with hmap|hmap
        rotate_left
        ·have HQ3:=ah (HQ2'.out (.inr hmap))
         rw[hmap]at y4;clear hmap HQ2';go_wp2;obtain⟨g',hg'⟩:∃g',gb=g'+1:=⟨gb-1,by have:=HG2.out;omega⟩
         go_roundg g'
         case measure=>omega
         case rel=>exact⟨q+1,rfl,by have:=HG2.out;omega,HQ1',HQ3,⟨au HB58.out HB9.out⟩⟩
        ·have aff:=ah hmap
         rw[hmap]at y4;clear hmap
         by_cases hjq:j<q
         ·have hjl:j<f.Values.length:=Nat.lt_trans hjq hlq
          obtain⟨x,hx⟩:=bF hjl;obtain⟨nn,u1,u2,kt1,vt1,mt1,hnn,hms,hf1,_,_,_,hu1,_,hm1,_⟩:=Oj HS.out AL.out aff.out (HAt.out.2.2 x (List.mem_of_getElem? hx.out));obtain⟨nn',r1,r2,kt2,vt2,mt2,ahp,afg,hf2,_,_,_,hr1,_,hm2,_⟩:=Oj HS.out AL.out aff.out (HAt.out.2.2 v (List.mem_of_getElem? hv.out));obtain rfl:nn'=nn:=by omega
          have hbw:=au HB08.out HB9.out;obtain⟨aX,aE,e1',aK,d1',BK,eK,eX,P1,P2,K0,K1,K2,K3,K4,K5,hCK⟩:=Du hnn (Kd.aU HCv.out hbw) hx.out hms;obtain⟨aY,aF,e2',aL,d2',BL,eL,eY,P3,P4,L0,L1,L2,L3,L4,L5,hCL⟩:=Du hnn (Kd.aU HCv.out hbw) hv.out afg;injection eX with eX
          subst eX;injection eY with eY
          subst eY;have X1:=ay hbw HX1.out
          have V5:wr.cell? ⟨wq.heap.size,5,none⟩=some (.slice (some aF) 2 e2'):=by
           have h1:=ay hbw HA5.out;rw[P3]at h1;rw[h1];exact(aA (aI HX8.out HB9.out) 5).trans rfl
          have j0:(0:Int)<=(j:Int):=by omega
          have j1:(j:Int)<(f.Values.length:Int):=Int.ofNat_lt.2 hjl;have d5:decide ((j:Int)<(q:Int))=true:=bZ (Int.ofNat_lt.2 hjq);have l2:=Hu hjl HMq.out;have l1:IntKind.i64.wrap ((j:Int)+1)=(j:Int)+1:=jM hjl HMq.out;have WB:=ah (fun Wx(hb:Below wr.heap.size wr Wx)=>oW (ji nn') u1 r1 BK eK BL eL Wx (fun W2 hb2=>ru nn' u1.dA r1.dA BK eK BL eL W2 (Kd.aU (Kd.aU hCK hb) hb2) (Kd.aU (Kd.aU hCL hb) hb2)));have HEq:=ah (And.intro hf1 (And.intro hf2 (And.intro hm1 hx.out)));clear hCK hCL hu1 hr1 hbw P3 HQ2' hms afg hnn ahp hf1 hf2 hm1 hm2;cases hsv:gq (ji nn') u1 r1
          ·have HJ':=ah (show t.map=true->∀(j':Nat)(x:Val),j'<j+1->f.Values[j']? =some x->qp x≠qp v from fun hm j' x' h hx'=>by
            by_cases h2:j'<j
            ·exact HJ.out hm j' x' h2 hx'
            ·obtain rfl:j'=j:=by omega
             rw[HEq.out.2.2.2]at hx';cases hx';rw[HEq.out.1,HEq.out.2.1];rintro rfl;rw[Oi HEq.out.2.2.1]at hsv;cases hsv)
           go_wp2
           go_region_held3 (fun w'=>w'.cell? ⟨(ad.add (i*2)).block,(ad.add (i*2)).off+1,none⟩=some (.slice (some ad3) f.Values.length c2)/\w'.cell? ⟨(ad3.add (j*6)).block,(ad3.add (j*6)).off+5,none⟩=some (.slice (some aE) 2 e1')/\w'.cell? ⟨aE.block,aE.off+1,none⟩=some (.slice (some aK) 1 d1')/\w'.cell? aK=some (.bool u1.B)/\w'.cell? ⟨aK.block,aK.off+1,none⟩=some (.int .i64 u1.I)/\w'.cell? ⟨aK.block,aK.off+2,none⟩=some (.int .u64 u1.U)/\w'.cell? ⟨aK.block,aK.off+3,none⟩=some (.int .u64 u1.F)/\w'.cell? ⟨aK.block,aK.off+4,none⟩=some (.string u1.S)/\w'.cell? ⟨aK.block,aK.off+5,none⟩=some (.slice BK u1.dA.length eK)/\w'.cell? ⟨wq.heap.size,5,none⟩=some (.slice (some aF) 2 e2')/\w'.cell? ⟨aF.block,aF.off+1,none⟩=some (.slice (some aL) 1 d2')/\w'.cell? aL=some (.bool r1.B)/\w'.cell? ⟨aL.block,aL.off+1,none⟩=some (.int .i64 r1.I)/\w'.cell? ⟨aL.block,aL.off+2,none⟩=some (.int .u64 r1.U)/\w'.cell? ⟨aL.block,aL.off+3,none⟩=some (.int .u64 r1.F)/\w'.cell? ⟨aL.block,aL.off+4,none⟩=some (.string r1.S)/\w'.cell? ⟨aL.block,aL.off+5,none⟩=some (.slice BL r1.dA.length eL)/\aC (Below wr.heap.size wr w')) (first|exact⟨X1,P1,P2,K0,K1,K2,K3,K4,K5,V5,P4,L0,L1,L2,L3,L4,L5,⟨aQ (bg _ _)⟩⟩|exact⟨ay hb X1,ay hb P1,ay hb P2,ay hb K0,ay hb K1,ay hb K2,ay hb K3,ay hb K4,ay hb K5,ay hb V5,ay hb P4,ay hb L0,ay hb L1,ay hb L2,ay hb L3,ay hb L4,ay hb L5,⟨au (aQ (bg _ _)) hb⟩⟩) (first|(go_at_call 28;(with_reducible refine(WB.out _ (aQ (bg _ _))).mono ?_);rw[hsv];rintro e w10⟨rfl,hb⟩))
           rename_i Oc;have Gt:=Oc.2.2.2.2.2.2.2.2.2.2.2.2.2.2.2.2.2;clear Oc X1 P1 P2 K0 K1 K2 K3 K4 K5 V5 P4 L0 L1 L2 L3 L4 L5;go_wp2;obtain⟨g',hg'⟩:∃g',gk=g'+1:=⟨gk-1,by have:=HG3.out;omega⟩
           go_roundg g'
           case measure=>omega
           case rel=>exact⟨j+1,rfl,by have:=HG3.out;omega,HJ',⟨au HB9.out Gt.out⟩⟩
          ·go_wp2
           go_region_held3 (fun w'=>w'.cell? ⟨(ad.add (i*2)).block,(ad.add (i*2)).off+1,none⟩=some (.slice (some ad3) f.Values.length c2)/\w'.cell? ⟨(ad3.add (j*6)).block,(ad3.add (j*6)).off+5,none⟩=some (.slice (some aE) 2 e1')/\w'.cell? ⟨aE.block,aE.off+1,none⟩=some (.slice (some aK) 1 d1')/\w'.cell? aK=some (.bool u1.B)/\w'.cell? ⟨aK.block,aK.off+1,none⟩=some (.int .i64 u1.I)/\w'.cell? ⟨aK.block,aK.off+2,none⟩=some (.int .u64 u1.U)/\w'.cell? ⟨aK.block,aK.off+3,none⟩=some (.int .u64 u1.F)/\w'.cell? ⟨aK.block,aK.off+4,none⟩=some (.string u1.S)/\w'.cell? ⟨aK.block,aK.off+5,none⟩=some (.slice BK u1.dA.length eK)/\w'.cell? ⟨wq.heap.size,5,none⟩=some (.slice (some aF) 2 e2')/\w'.cell? ⟨aF.block,aF.off+1,none⟩=some (.slice (some aL) 1 d2')/\w'.cell? aL=some (.bool r1.B)/\w'.cell? ⟨aL.block,aL.off+1,none⟩=some (.int .i64 r1.I)/\w'.cell? ⟨aL.block,aL.off+2,none⟩=some (.int .u64 r1.U)/\w'.cell? ⟨aL.block,aL.off+3,none⟩=some (.int .u64 r1.F)/\w'.cell? ⟨aL.block,aL.off+4,none⟩=some (.string r1.S)/\w'.cell? ⟨aL.block,aL.off+5,none⟩=some (.slice BL r1.dA.length eL)/\aC (Below wr.heap.size wr w')) (first|exact⟨X1,P1,P2,K0,K1,K2,K3,K4,K5,V5,P4,L0,L1,L2,L3,L4,L5,⟨aQ (bg _ _)⟩⟩|exact⟨ay hb X1,ay hb P1,ay hb P2,ay hb K0,ay hb K1,ay hb K2,ay hb K3,ay hb K4,ay hb K5,ay hb V5,ay hb P4,ay hb L0,ay hb L1,ay hb L2,ay hb L3,ay hb L4,ay hb L5,⟨au (aQ (bg _ _)) hb⟩⟩) (first|(go_at_call 28;(with_reducible refine(WB.out _ (aQ (bg _ _))).mono ?_);rw[hsv];rintro e w10⟨rfl,hb⟩))
           rename_i Oc;have Gt:=Oc.2.2.2.2.2.2.2.2.2.2.2.2.2.2.2.2.2;clear Oc X1 P1 P2 K0 K1 K2 K3 K4 K5 V5 P4 L0 L1 L2 L3 L4 L5;go_wp2
           go_ret
           exact⟨false,rfl,fun h=>(by cases h),au HB3.out (au HB5.out (au HB58.out (au HB9.out Gt.out)))⟩
         ·obtain rfl:j=q:=by have:=HG3.out;omega
          have d5:decide ((j:Int)<(j:Int))=false:=bY (by omega);have HQ3:=ah (HQ2'.out (.inl rfl));clear HQ2';go_wp2;obtain⟨g',hg'⟩:∃g',gb=g'+1:=⟨gb-1,by have:=HG2.out;omega⟩
          go_roundg g'
          case measure=>omega
          case rel=>exact⟨j+1,rfl,by have:=HG2.out;omega,HQ1',HQ3,⟨au HB58.out HB9.out⟩⟩
     ·have d4:(aT t.kind !=8)=true:=Ci hk8
      have HR':=ah (show∀g∈m.take (i+1),Wv S (rC S n) mt g by
       intro g hgm;rw[qx hf.out]at hgm;rcases List.mem_append.1 hgm with h|h
       ·exact HR.out g h
       ·rw[List.mem_singleton.1 h]
        intro t' ht' hk;rw[HAt.out.1,Int.toNat_natCast,HAt.out.2.1]at ht';cases ht';exact absurd hk hk8)
      clear hk8 hfv
      go_wp2_with (go_at_call 42;(with_reducible refine(bH _ _).mono ?_);rintro e w1⟨rfl,rfl⟩)
      obtain⟨g',hg'⟩:∃g',ga=g'+1:=⟨ga-1,by have:=HG.out;omega⟩
      go_roundg g'
      case measure=>omega
      case rel=>exact⟨i+1,rfl,by have:=HG.out;omega,HR',⟨au HB5.out HB2.out⟩⟩
    ·obtain rfl:q=f.Values.length:=by omega
     have d1:decide ((f.Values.length:Int)<(f.Values.length:Int))=false:=bY (by omega)
     have HR':=ah (show∀g∈m.take (i+1),Wv S (rC S n) mt g by
      intro g hgm;rw[qx hf.out]at hgm;rcases List.mem_append.1 hgm with h|h
      ·exact HR.out g h
      ·rw[List.mem_singleton.1 h]
       intro t' ht' hk;rw[HAt.out.1,Int.toNat_natCast,HAt.out.2.1]at ht';cases ht';have h1:=HQ1.out;rw[List.take_length]at h1;exact⟨h1,fun hm a b x y hab hx hy=>HQ2.out hm a b x y hab (List.getElem?_eq_some_iff.1 hy).1 hx hy⟩)
     go_wp2;obtain⟨g',hg'⟩:∃g',ga=g'+1:=⟨ga-1,by have:=HG.out;omega⟩
     go_roundg g'
     case measure=>omega
     case rel=>exact⟨i+1,rfl,by have:=HG.out;omega,HR',⟨au HB5.out HB2.out⟩⟩
  ·obtain rfl:i=m.length:=by omega
   have d1:decide ((m.length:Int)<(m.length:Int))=false:=bY (by omega);go_wp2
   go_ret
   refine⟨true,rfl,fun _=>?_,au HB3.out uM.out⟩;have h:=HR.out;rw[List.take_length]at h;intro mt' hmt';rw[Int.toNat_natCast,RQ.out]at hmt';cases hmt';exact h
theorem WC(S:fM)(hS:jW S)(w0:World)(A0:Option Addr)(c0:Nat)(A1:Option Addr)(c1:Nat)(hSR:qZ w0 S A0 c0 A1 c1):∀n,Wy S n w0 A0 c0 A1 c1:=by
 intro n
 induction n with
 |zero=>exact fun _ _ _ _ _ _ hF _=>hF.elim
 |succ n ih=>exact Sr S hS w0 A0 c0 A1 c1 hSR n ih
end Go.Proofs.YtapkmjfjikpnlaaGreatDoor
