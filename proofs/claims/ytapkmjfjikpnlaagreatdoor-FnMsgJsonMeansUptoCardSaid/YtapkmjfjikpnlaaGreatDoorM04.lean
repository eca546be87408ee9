/- A part of FnMsgJsonMeans. No conditions. -/
import Derived.Test.YtapkmjfjikpnlaaGreatDoorM03
import Derived.Deep.RegionLaw
set_option maxRecDepth 100000
set_option maxHeartbeats 4000000
namespace Go.Proofs.YtapkmjfjikpnlaaGreatDoor
open Go.RowKit YtapkmjfjikpnlaaGreatDoorW.aG YtapkmjfjikpnlaaGreatDoorW.aJ
set_option linter.unusedVariables false
set_option linter.unusedSimpArgs false
def xk(e:ET)(i k:Nat):Bool:= !((e.names.getD k ByteArray.empty).toList==(e.names.getD i ByteArray.empty).toList)&& !(e.nums.getD k 0==e.nums.getD i 0)
def qX(e:ET)(i:Nat):Bool:=kR (e.names.getD i ByteArray.empty)&&(List.range i).all (xk e i)
def qI(e:ET):Bool:=decide (e.names.length≠0)&&decide (e.names.length=e.nums.length)&&decide (e.names.length<=50)&&(List.range e.names.length).all (qX e)
def zFT:FT:=⟨ByteArray.empty,0,0,false,false,0⟩
def tJ(m:MT)(i k:Nat):Bool:= !((m.fields.getD k zFT).name.toList==(m.fields.getD i zFT).name.toList)&& !((m.fields.getD k zFT).num==(m.fields.getD i zFT).num)
def fieldAt(ms:List MT)(es:List ET)(m:MT)(i:Nat):Bool:=fG ms es (m.fields.getD i zFT)&&(List.range i).all (tJ m i)
def Ah(ms:List MT)(es:List ET)(m:MT):Bool:=decide (m.fields.length<=50)&&(List.range m.fields.length).all (fieldAt ms es m)
def fV(ms:List MT)(es:List ET):Bool:=decide (ms.length≠0)&&decide (ms.length<=50)&&decide (es.length<=50)&&es.all qI&&ms.all (Ah ms es)
theorem bT{α:Type}{l:List α}{i:Nat}{x d:α}(h:l[i]? =some x):l.getD i d=x:=by simp[List.getD_eq_getElem?_getD,h]
theorem QD{ms:List MT}{es:List ET}(h:fit1 ms es=true){e:ET}(he:e∈es){n:ByteArray}(hn:n∈e.names):n.size<=2147483647:=by
 simp only[fit1,fit6,Bool.and_eq_true,List.all_eq_true]at h;have:=h.2.2 e he;simp only[fit7,fit8,Bool.and_eq_true,List.all_eq_true]at this
 simpa [MC]using this.1.2 n hn
theorem MG{ms:List MT}{es:List ET}(h:fit1 ms es=true){m:MT}(hm:m∈ms){f:FT}(hf:f∈m.fields):f.name.size<=2147483647:=by
 simp only[fit1,fit2,Bool.and_eq_true,List.all_eq_true]at h;have:=h.1.2 m hm;simp only[fit3,fit4,Bool.and_eq_true,List.all_eq_true]at this
 simpa [fit5]using this.2.2 f hf
theorem Gs(ms:List MT)(es:List ET)(A0:Option Addr)(c0:Nat)(A1:Option Addr)(c1:Nat)(w:World)(hr0:Kd.C Yl w A0 ms.length ms)(hr1:Kd.C kET w A1 es.length es)(hfit:fit1 ms es=true):
 Calls Tryz.prog 38 #[.agg #[.slice A0 ms.length c0,.slice A1 es.length c1]] w fun e w'=>e= .returned (.bool (fV ms es))/\Below w.heap.size w w':=by
 have HR0:=ah hr0;have HR1:=ah hr1;have QE:=ah hfit;clear hr0 hr1 hfit
 by_cases z0:ms.length=0
 ·have HF:=ah (show fV ms es=false by simp[fV,z0])
  have z1:(((ms.length:Nat):Int)==0)=true:=kZ (by omega);clear z0;go_enter Tryz.func38,Tryz.ntmps38;go_wp2
  go_ret
  exact⟨by rw[HF.out];rfl,ak (bg _ _) _⟩
 ·have z1:(((ms.length:Nat):Int)==0)=false:=eqF (by omega)
  by_cases y0:ms.length<=50
  ·by_cases x0:es.length<=50
   ·have HS:=ah (show fV ms es=(es.all qI&&ms.all (Ah ms es))by simp[fV,z0,y0,x0])
    have y1:decide (50<((ms.length:Nat):Int))=false:=by simp;omega
    have x1:decide (50<((es.length:Nat):Int))=false:=by simp;omega
    clear z0;go_enter Tryz.func38,Tryz.ntmps38;go_wp2
    go_loopg [32] es.length (fun g v32 w'=>∃i:Nat,v32= .int .i64 i/\i+g=es.length/\aC ((es.take i).all qI=true)/\aC (Below (w.alloc (.cells #[.slice A0 ms.length c0,.slice A1 es.length c1] 25)).heap.size (w.alloc (.cells #[.slice A0 ms.length c0,.slice A1 es.length c1] 25)) w'))
    case atStart=>exact⟨0,rfl,by simp,⟨by simp⟩,⟨bg _ _⟩⟩
    case round=>
     obtain⟨i,rfl,hg,HA,HB⟩:=hrel;obtain⟨wo,rfl⟩:∃wo:World,wo=wr:=⟨_,rfl⟩
     obtain⟨ga,rfl⟩:∃ga:Nat,ga=gk:=⟨_,rfl⟩
     have tK:=ah (show Below w.heap.size w wo from(ak (bg _ _) _).trans (HB.out.mono (by simp)))
     by_cases hlt:i<es.length
     ·obtain⟨x,hx⟩:=bF hlt
      obtain⟨ad,B1,d1,B2,d2,rfl,h0,h1,h2,h3,h4,h5⟩:=Ym (Kd.aU HR1.out tK.out) hx.out;have H3:=ah h3;have H5:=ah h5;clear h2 h3 h4 h5
      by_cases n0:x.names.length≠0/\x.names.length=x.nums.length/\x.names.length<=50
      ·obtain⟨n0,n1,n2⟩:=n0
       have HX:=ah (show qI x=(List.range x.names.length).all (qX x)by rw[qI,bZ n0,bZ n1,bZ n2,Bool.true_and,Bool.true_and,Bool.true_and]);have a0:(((x.names.length:Nat):Int)==0)=false:=eqF (by omega);have N1:=ah n1;have a1:(((x.names.length:Nat):Int)==((x.nums.length:Nat):Int))=true:=kZ (by omega);have a2:(((x.names.length:Nat):Int)!=((x.nums.length:Nat):Int))=false:=Ef (by omega);have a3:decide (50<((x.names.length:Nat):Int))=false:=by simp;omega
       clear n1 n0;go_wp2;obtain⟨W1,hW1⟩:∃W1:World,W1=wo.alloc (.cells #[.slice B1 x.names.length d1,.slice B2 x.nums.length d2] 97):=⟨_,rfl⟩
       have HW1:=ah hW1;clear hW1
       go_loopg [58] x.names.length (fun g v58 w'=>∃j:Nat,v58= .int .i64 j/\j+g=x.names.length/\aC ((List.range j).all (qX x)=true)/\aC (Below W1.heap.size W1 w'))
       case atStart=>exact⟨0,rfl,by simp,⟨by simp⟩,⟨by rw[HW1.out];exact bg _ _⟩⟩
       case round=>
        obtain⟨j,rfl,hg2,HA2,HB2⟩:=hrel;obtain⟨wp,rfl⟩:∃wp:World,wp=wr:=⟨_,rfl⟩
        obtain⟨gb,rfl⟩:∃gb:Nat,gb=gk:=⟨_,rfl⟩
        have HBn:=ah (show Below (wo.alloc (.cells #[.slice B1 x.names.length d1,.slice B2 x.nums.length d2] 97)).heap.size (wo.alloc (.cells #[.slice B1 x.names.length d1,.slice B2 x.nums.length d2] 97)) wp by rw[<-HW1.out];exact HB2.out);have MH:=ah (show Below wo.heap.size wo wp from(ak (bg _ _) _).trans (HBn.out.mono (by simp)))
        by_cases hj:j<x.names.length
        ·obtain⟨nm,hnm⟩:=bF hj
         obtain⟨ad2,rfl,q0⟩:=IV (Kd.aU H3.out MH.out) hnm.out;have hsz:nm.size<=2147483647:=QD QE.out (List.mem_of_getElem? hx.out) (List.mem_of_getElem? hnm.out);cases bi:kR nm
         ·have HF:=ah (show fV ms es=false by
           rw[HS.out,nZ hx.out (show qI x=false by rw[HX.out];exact dN hj (by rw[qX,bT hnm.out,bi];rfl))];rfl)
          go_wp2_with (go_at_call 85;(with_reducible refine(jf _ _ hsz).mono ?_);rw[bi];rintro e w1⟨rfl,rfl⟩)
          go_ret
          exact⟨by rw[HF.out];rfl,au tK.out MH.out⟩
         ·go_wp2_with (go_at_call 85;(with_reducible refine(jf _ _ hsz).mono ?_);rw[bi];rintro e w1⟨rfl,rfl⟩)
          go_loopg [67] j (fun g v67 w'=>∃k:Nat,v67= .int .i64 k/\k+g=j/\aC ((List.range k).all (xk x j)=true)/\aC (Below wp.heap.size wp w'))
          case atStart=>exact⟨0,rfl,by simp,⟨by simp⟩,⟨bg _ _⟩⟩
          case round=>
           obtain⟨k,rfl,hg3,HA3,HB3⟩:=hrel
           by_cases hk:k<j
           ·have IY:=ah (show Below wo.heap.size wo wr from MH.out.trans (HB3.out.mono MH.out.size))
            have wH:=ah (HBn.out.trans (HB3.out.mono HBn.out.size));have t0:=kT wH.out 0 _ rfl;have t1:=kT wH.out 1 _ rfl;obtain⟨nk,hnk⟩:=bF (show k<x.names.length by omega);obtain⟨u,hu⟩:=bF (show k<x.nums.length by have:=N1.out;omega);obtain⟨v,hv⟩:=bF (show j<x.nums.length by have:=N1.out;omega);obtain⟨ad3,e3,q1⟩:=IV (Kd.aU H3.out IY.out) hnk.out;cases e3;obtain⟨ad4,e4,q2⟩:=iD (Kd.aU H5.out IY.out) hu.out;cases e4;obtain⟨ad5,e5,q3⟩:=iD (Kd.aU H5.out IY.out) hv.out;cases e5;have i1:(k:Int)<(x.names.length:Int):=by omega
            have i2:(k:Int)<(x.nums.length:Int):=by have:=N1.out;omega
            have i3:(j:Int)<(x.nums.length:Int):=by have:=N1.out;omega
            have i0:(0:Int)<=(k:Int):=by omega
            have i4:(0:Int)<=(j:Int):=by omega
            cases c1:(nk.toList==nm.toList)
            ·cases c2:(u==v)
             ·have HA4:=ah (gY HA3.out (show xk x j k=true by rw[xk,bT hnm.out,bT hnk.out,bT hu.out,bT hv.out,c1,c2];rfl))
              go_wp2
              go_quiet (fail)
              go_wp2;obtain⟨g',rfl⟩:∃g',gk=g'+1:=⟨gk-1,by omega⟩
              go_roundg g'
              case measure=>omega
              case rel=>exact⟨k+1,by go_num,by omega,HA4,⟨aS HB3.out _⟩⟩
             ·have HF:=ah (show fV ms es=false by
               rw[HS.out,nZ hx.out (show qI x=false by rw[HX.out];exact dN hj (by rw[qX,dN hk (by rw[xk,bT hnm.out,bT hnk.out,bT hu.out,bT hv.out,c1,c2];rfl),Bool.and_false]))];rfl)
              go_wp2
              go_quiet (fail)
              go_wp2
              go_ret
              exact⟨by rw[HF.out];rfl,au tK.out (aS IY.out _)⟩
            ·have HF:=ah (show fV ms es=false by
              rw[HS.out,nZ hx.out (show qI x=false by rw[HX.out];exact dN hj (by rw[qX,dN hk (by rw[xk,bT hnm.out,bT hnk.out,c1];rfl),Bool.and_false]))];rfl)
             go_wp2
             go_quiet (fail)
             go_wp2
             go_ret
             exact⟨by rw[HF.out];rfl,au tK.out (aS IY.out _)⟩
           ·obtain rfl:k=j:=by omega
            have HA4:=ah (gY HA2.out (show qX x k=true by rw[qX,bT hnm.out,bi,HA3.out];rfl));go_wp2;obtain⟨g',rfl⟩:∃g',gb=g'+1:=⟨gb-1,by omega⟩
            go_roundg g'
            case measure=>omega
            case rel=>exact⟨k+1,by go_num,by omega,HA4,⟨HB2.out.trans (HB3.out.mono HB2.out.size)⟩⟩
        ·obtain rfl:j=x.names.length:=by omega
         have HA4:=ah (all_succ hx.out HA.out (show qI x=true by rw[HX.out];exact HA2.out));go_wp2;obtain⟨g',rfl⟩:∃g',ga=g'+1:=⟨ga-1,by omega⟩
         go_roundg g'
         case measure=>omega
         case rel=>exact⟨i+1,by go_num,by omega,HA4,⟨HB.out.trans (MH.out.mono HB.out.size)⟩⟩
      ·have HF:=ah (show fV ms es=false by
        rw[HS.out,nZ hx.out (show qI x=false by
         simp only[qI]
         by_cases q0:x.names.length=0
         ·simp[q0]
         ·by_cases q1:x.names.length=x.nums.length
          ·by_cases q2:x.names.length<=50
           ·exact absurd ⟨q0,q1,q2⟩ n0
           ·simp[q2]
          ·simp[q1])];rfl)
       by_cases q0:x.names.length=0
       ·have a0:(((x.names.length:Nat):Int)==0)=true:=kZ (by omega)
        clear n0 q0;go_wp2
        go_ret
        exact⟨by rw[HF.out];rfl,ak tK.out _⟩
       ·have a0:(((x.names.length:Nat):Int)==0)=false:=eqF (by omega)
        by_cases q1:x.names.length=x.nums.length
        ·have q2:¬x.names.length<=50:=fun q2=>n0 ⟨q0,q1,q2⟩
         have a1:(((x.names.length:Nat):Int)==((x.nums.length:Nat):Int))=true:=kZ (by omega);have a2:(((x.names.length:Nat):Int)!=((x.nums.length:Nat):Int))=false:=Ef (by omega);have a3:decide (50<((x.names.length:Nat):Int))=true:=by simp;omega
         clear n0 q0 q1 q2;go_wp2
         go_ret
         exact⟨by rw[HF.out];rfl,ak tK.out _⟩
        ·have a1:(((x.names.length:Nat):Int)==((x.nums.length:Nat):Int))=false:=eqF (by omega)
         have a2:(((x.names.length:Nat):Int)!=((x.nums.length:Nat):Int))=true:=Ci (by omega);clear n0 q0 q1;go_wp2
         go_ret
         exact⟨by rw[HF.out];rfl,ak tK.out _⟩
     ·obtain rfl:i=es.length:=by omega
      have s0:=kT HB.out 0 _ rfl;have s1:=kT HB.out 1 _ rfl;have HE:=ah (show es.all qI=true from rH HA.out (Nat.le_refl _));go_wp2
      go_loopg [96] ms.length (fun g v96 w'=>∃i:Nat,v96= .int .i64 i/\i+g=ms.length/\aC ((ms.take i).all (Ah ms es)=true)/\aC (Below (w.alloc (.cells #[.slice A0 ms.length c0,.slice A1 es.length c1] 25)).heap.size (w.alloc (.cells #[.slice A0 ms.length c0,.slice A1 es.length c1] 25)) w'))
      case atStart=>exact⟨0,rfl,by simp,⟨by simp⟩,HB⟩
      case round=>
       clear s0 s1 HB tK HA hg hlt;obtain⟨i,rfl,hg,HA,HB⟩:=hrel;obtain⟨wq,rfl⟩:∃wq:World,wq=wr:=⟨_,rfl⟩
       obtain⟨gc,rfl⟩:∃gc:Nat,gc=gk:=⟨_,rfl⟩
       have tK:=ah (show Below w.heap.size w wq from(ak (bg _ _) _).trans (HB.out.mono (by simp)))
       by_cases hlt:i<ms.length
       ·obtain⟨x,hx⟩:=bF hlt
        obtain⟨ad,B1,d1,rfl,h0,h1,h2,h3⟩:=Ag (Kd.aU HR0.out tK.out) hx.out;have H3:=ah h3;clear h2 h3
        by_cases n0:x.fields.length<=50
        ·have HX:=ah (show Ah ms es x=(List.range x.fields.length).all (fieldAt ms es x)by rw[Ah,bZ n0,Bool.true_and])
         have a3:decide (50<((x.fields.length:Nat):Int))=false:=by simp;omega
         go_wp2
         go_loopg [107] x.fields.length (fun g v107 w'=>∃j:Nat,v107= .int .i64 j/\j+g=x.fields.length/\aC ((List.range j).all (fieldAt ms es x)=true)/\aC (Below (wq.alloc (.cells #[.string x.name,.slice B1 x.fields.length d1] 73)).heap.size (wq.alloc (.cells #[.string x.name,.slice B1 x.fields.length d1] 73)) w'))
         case atStart=>exact⟨0,rfl,by simp,⟨by simp⟩,⟨bg _ _⟩⟩
         case round=>
          obtain⟨j,rfl,hg2,HA2,HB2⟩:=hrel;obtain⟨wp,rfl⟩:∃wp:World,wp=wr:=⟨_,rfl⟩
          obtain⟨gb,rfl⟩:∃gb:Nat,gb=gk:=⟨_,rfl⟩
          have MH:=ah (show Below wq.heap.size wq wp from(ak (bg _ _) _).trans (HB2.out.mono (by simp)));have Gt:=ah (HB.out.trans (MH.out.mono HB.out.size));have HBv:=ah (show Below w.heap.size w wp from au tK.out MH.out)
          by_cases hj:j<x.fields.length
          ·obtain⟨f,hf⟩:=bF hj
           obtain⟨ad2,rfl,q0,q1,q2,q3,q4,q5⟩:=uT (Kd.aU H3.out MH.out) hf.out;have hsz:f.name.size<=2147483647:=MG QE.out (List.mem_of_getElem? hx.out) (List.mem_of_getElem? hf.out);have s0:(wp.alloc (.cells #[.string f.name,.int .i64 f.num,.int .i64 f.kind,.bool f.rep,.bool f.map,.int .i64 f.typ] 70)).cell? ⟨w.heap.size,0,none⟩=some (.slice (some ad) ms.length c0):=kT (Gt.out.alloc Gt.out.size _) 0 _ rfl;have s1:(wp.alloc (.cells #[.string f.name,.int .i64 f.num,.int .i64 f.kind,.bool f.rep,.bool f.map,.int .i64 f.typ] 70)).cell? ⟨w.heap.size,1,none⟩=some (.slice A1 es.length c1):=kT (Gt.out.alloc Gt.out.size _) 1 _ rfl;cases bf:fG ms es f
           ·have HF:=ah (show fV ms es=false by
             rw[HS.out,nZ hx.out (show Ah ms es x=false by rw[HX.out];exact dN hj (by rw[fieldAt,bT hf.out,bf];rfl)),Bool.and_false])
            go_wp2_with (go_at_call 86;(with_reducible refine(zL ms es f _ c0 _ c1 _ (Kd.dP (Kd.aU HR0.out HBv.out) _) hsz).mono ?_);rw[bf];rintro e w1⟨rfl,hb⟩)
            go_ret
            exact⟨by rw[HF.out];rfl,au (ak HBv.out _) hb⟩
           ·go_wp2_with (go_at_call 86;(with_reducible refine(zL ms es f _ c0 _ c1 _ (Kd.dP (Kd.aU HR0.out HBv.out) _) hsz).mono ?_);rw[bf];rintro e w1⟨rfl,hb⟩;have HBf:=ah hb;clear hb)
            clear q0 q1 q2 q3 q4 q5 s0 s1
            go_loopg [117] j (fun g v117 w'=>∃k:Nat,v117= .int .i64 k/\k+g=j/\aC ((List.range k).all (tJ x j)=true)/\aC (Below (wp.alloc (.cells #[.string f.name,.int .i64 f.num,.int .i64 f.kind,.bool f.rep,.bool f.map,.int .i64 f.typ] 70)).heap.size (wp.alloc (.cells #[.string f.name,.int .i64 f.num,.int .i64 f.kind,.bool f.rep,.bool f.map,.int .i64 f.typ] 70)) w'))
            case atStart=>exact⟨0,rfl,by simp,⟨by simp⟩,HBf⟩
            case round=>
             obtain⟨k,rfl,hg3,HA3,HB3⟩:=hrel;have HBp:=ah (show Below wp.heap.size wp wr from(ak (bg _ _) _).trans (HB3.out.mono (by simp)));have IY:=ah (show Below wq.heap.size wq wr from MH.out.trans (HBp.out.mono MH.out.size));have wH:=ah (HB2.out.trans (HBp.out.mono HB2.out.size))
             by_cases hk:k<j
             ·have t0:=kT wH.out 0 _ rfl
              have t1:=kT wH.out 1 _ rfl;have t2:=kT HB3.out 0 _ rfl;have t3:=kT HB3.out 1 _ rfl;obtain⟨y,hy⟩:=bF (show k<x.fields.length by omega);obtain⟨ad3,e3,p0,p1,p2,p3,p4,p5⟩:=uT (Kd.aU H3.out IY.out) hy.out;cases e3;clear p2 p3 p4 p5;have i1:(k:Int)<(x.fields.length:Int):=by omega
              have i0:(0:Int)<=(k:Int):=by omega
              cases c1:(y.name.toList==f.name.toList)
              ·cases c2:(y.num==f.num)
               ·have HA4:=ah (gY HA3.out (show tJ x j k=true by rw[tJ,bT hf.out,bT hy.out,c1,c2];rfl))
                go_wp2
                go_quiet (fail)
                go_wp2;obtain⟨g',rfl⟩:∃g',gk=g'+1:=⟨gk-1,by omega⟩
                go_roundg g'
                case measure=>omega
                case rel=>exact⟨k+1,by go_num,by omega,HA4,⟨aS HB3.out _⟩⟩
               ·have HF:=ah (show fV ms es=false by
                 rw[HS.out,nZ hx.out (show Ah ms es x=false by rw[HX.out];exact dN hj (by rw[fieldAt,dN hk (by rw[tJ,bT hf.out,bT hy.out,c1,c2];rfl),Bool.and_false])),Bool.and_false])
                go_wp2
                go_quiet (fail)
                go_wp2
                go_ret
                exact⟨by rw[HF.out];rfl,au tK.out (aS IY.out _)⟩
              ·have HF:=ah (show fV ms es=false by
                rw[HS.out,nZ hx.out (show Ah ms es x=false by rw[HX.out];exact dN hj (by rw[fieldAt,dN hk (by rw[tJ,bT hf.out,bT hy.out,c1];rfl),Bool.and_false])),Bool.and_false])
               go_wp2
               go_quiet (fail)
               go_wp2
               go_ret
               exact⟨by rw[HF.out];rfl,au tK.out (aS IY.out _)⟩
             ·obtain rfl:k=j:=by omega
              have HA4:=ah (gY HA2.out (show fieldAt ms es x k=true by rw[fieldAt,bT hf.out,bf,HA3.out];rfl));go_wp2;obtain⟨g',rfl⟩:∃g',gb=g'+1:=⟨gb-1,by omega⟩
              go_roundg g'
              case measure=>omega
              case rel=>exact⟨k+1,by go_num,by omega,HA4,wH⟩
          ·obtain rfl:j=x.fields.length:=by omega
           have HA4:=ah (all_succ hx.out HA.out (show Ah ms es x=true by rw[HX.out];exact HA2.out));go_wp2;obtain⟨g',rfl⟩:∃g',gc=g'+1:=⟨gc-1,by omega⟩
           go_roundg g'
           case measure=>omega
           case rel=>exact⟨i+1,by go_num,by omega,HA4,Gt⟩
        ·have HF:=ah (show fV ms es=false by
          rw[HS.out,nZ hx.out (show Ah ms es x=false by simp[Ah,n0]),Bool.and_false])
         have a3:decide (50<((x.fields.length:Nat):Int))=true:=by simp;omega
         clear n0;go_wp2
         go_ret
         exact⟨by rw[HF.out];rfl,ak tK.out _⟩
       ·have HF:=ah (show fV ms es=true by rw[HS.out,HE.out,rH HA.out (by omega)];rfl)
        go_wp2
        go_ret
        exact⟨by rw[HF.out];rfl,tK.out⟩
   ·have HF:=ah (show fV ms es=false by simp[fV,x0])
    have y1:decide (50<((ms.length:Nat):Int))=false:=by simp;omega
    have x1:decide (50<((es.length:Nat):Int))=true:=by simp;omega
    clear z0 x0;go_enter Tryz.func38,Tryz.ntmps38;go_wp2
    go_ret
    exact⟨by rw[HF.out];rfl,ak (bg _ _) _⟩
  ·have HF:=ah (show fV ms es=false by simp[fV,y0])
   have y1:decide (50<((ms.length:Nat):Int))=true:=by simp;omega
   clear z0 y0;go_enter Tryz.func38,Tryz.ntmps38;go_wp2
   go_ret
   exact⟨by rw[HF.out];rfl,ak (bg _ _) _⟩
abbrev str(l:List Int):ByteArray:=strOfNums l
theorem rM{a b:ByteArray}(h:a.data.toList=b.data.toList):a=b:=by
 obtain⟨⟨l⟩⟩:=a;obtain⟨⟨k⟩⟩:=b;have:l=k:=h;rw[this]
theorem mV(a b:List Int):str a++str b=str (a++b):=rM (by
 rw[ByteArray.data_append,Array.toList_append,strOfNums_data,strOfNums_data,strOfNums_data,List.map_append])
def fB(n:Nat):List Int:=if n<10 then[48+(n:Int)]else fB (n/10)++[48+((n%10:Nat):Int)]
termination_by n
def bG(n:Int):List Int:=if 0<=n then fB n.toNat else 45::fB (-n).toNat
theorem jE{n:Nat}(h:n<10):fB n=[48+(n:Int)]:=by rw[fB,if_pos h]
theorem rO{n:Nat}(h:¬n<10):fB n=fB (n/10)++[48+((n%10:Nat):Int)]:=by rw[fB,if_neg h]
theorem qY{x:Int}(h0:0<=x)(h1:x<18446744073709551616):IntKind.u64.wrap x=x:=by
 simp only[IntKind.wrap,IntKind.signed,IntKind.bits];simp;omega
theorem EP(i:Int)(h0:0<=i)(h:i<10):∀W:World,(Instr.slice 9 (.string ⟨#[48,49,50,51,52,53,54,55,56,57]⟩) (some (.int .u64 i)) (some (.int .u64 (i+1))) none).run Tryz.prog W= .ok (.string (str [48+i])) W:=by
 intro W;obtain⟨n,rfl⟩:=Int.eq_ofNat_of_zero_le h0;rw[run_slice_string (P:=Tryz.prog) W 9 _ .u64 .u64 (n:Int) ((n:Int)+1) Tryz.underlying9 (by omega) (by omega) (by show _<=((10:Nat):Int);omega)];have hn:n<10:=by omega
 congr 2
 apply rM
 match n,hn with
 |0,_=>rfl
 |1,_=>rfl
 |2,_=>rfl
 |3,_=>rfl
 |4,_=>rfl
 |5,_=>rfl
 |6,_=>rfl
 |7,_=>rfl
 |8,_=>rfl
 |9,_=>rfl
 |n+10,h=>omega
theorem bV(l:List Int):(str l).size=l.length:=strOfNums_size l
theorem iH(a b:List Int)(h:a.length+b.length<=9223372036854775807):∀W:World,(Op.stringOp .add (str a) (str b)).run Tryz.prog W= .ok (.string (str (a++b))) W:=fun W=>by
 rw[run_string_add_sum W _ _ (by rw[bV,bV];exact h),mV]
theorem rP(k:Nat):∀n,n<10^(k+1)->(fB n).length<=k+1:=by
 induction k with
 |zero=>intro n h;rw[jE (by simpa using h)];simp
 |succ k ih=>
  intro n h
  by_cases h1:n<10
  ·rw[jE h1];simp
  ·rw[rO h1,List.length_append,List.length_singleton]
   have:=ih (n/10) (by rw[Nat.pow_succ]at h;omega);omega
theorem dU{n:Nat}(h:n<18446744073709551616):(fB n).length<=20:=rP 19 n (by omega)
theorem xW(n:Nat):∀(w:World)(hn:n<18446744073709551616),Calls Tryz.prog 101 #[.int .u64 n] w fun e w'=>e= .returned (.string (str (fB n)))/\∃m,w'=w.drewN m:=by
 induction n using Nat.strongRecOn with
 |ind n ih=>
 intro w hn;have IH:=ah ih;clear ih
 by_cases h:n<10
 ·have HF:=ah (jE h)
  have hd:=EP (n:Int) (by omega) (by omega);clear hn;go_enter Tryz.func101,Tryz.ntmps101;go_wp2
  go_ret
  exact⟨by rw[HF.out];rfl,0,rfl⟩
 ·have HF:=ah (rO h)
  have hd:=EP ((n:Int)%10) (by omega) (by omega);have w1:IntKind.u64.wrap ((n:Int)/10)=(n:Int)/10:=qY (by omega) (by omega);have w2:((n:Int)).tmod 10=(n:Int)%10:=Int.tmod_eq_emod_of_nonneg (by omega);have w3:IntKind.u64.wrap ((n:Int)%10+1)=(n:Int)%10+1:=qY (by omega) (by omega);have hl:=dU (show n/10<18446744073709551616 by omega);have agE:=iH (fB (n/10)) [48+(n:Int)%10] (by rw[List.length_singleton];omega)
  have hc0:∀W:World,Calls Tryz.prog 101 #[.int .u64 ((n:Int)/10)] W fun e w'=>e= .returned (.string (str (fB (n/10))))/\∃m,w'=W.drewN m:=fun W=>by
   have h:=IH.out (n/10) (by omega) W (by omega);rw[show((n/10:Nat):Int)=(n:Int)/10 by omega]at h;exact h
  have HC:=ah hc0;clear hc0;clear hn;go_enter Tryz.func101,Tryz.ntmps101;go_wp2
  go_quiet ((go_at_call 101;exact Calls.quiet_of (HC.out _)))
  go_wp2
  go_ret
  exact⟨by rw[HF.out,show(((n%10:Nat):Int))=(n:Int)%10 by omega];rfl,_,rfl⟩
structure Tok where
 kind:Int
 pos:Int
 raw:ByteArray
 str:ByteArray
 boo:Bool
def uG:Kd Tok:=Kd.iso (Kd.pair (Kd.int .i64) (Kd.pair (Kd.int .i64) (Kd.pair Kd.string (Kd.pair Kd.string Kd.bool)))) (fun x:Tok=>(x.kind,x.pos,x.raw,x.str,x.boo))
theorem yR{w:World}{x:Tok}{cs:List Value}(h:uG.K w x cs):cs=[.int .i64 x.kind,.int .i64 x.pos,.string x.raw,.string x.str,.bool x.boo]:=by
 obtain⟨_,_,rfl,rfl,⟨_,_,rfl,rfl,⟨_,_,rfl,rfl,⟨_,_,rfl,rfl,rfl⟩⟩⟩⟩:=h;exact rfl
theorem Uj(w:World)(base:Nat)(ok:Nat->Prop)(x:Tok):uG.M w base ok x [.int .i64 x.kind,.int .i64 x.pos,.string x.raw,.string x.str,.bool x.boo]:=
 ⟨[_],[_,_,_,_],rfl,rfl,⟨[_],[_,_,_],rfl,rfl,⟨[_],[_,_],rfl,rfl,⟨[_],[_],rfl,rfl,rfl⟩⟩⟩⟩
abbrev wI(W:World)(base:Nat)(v:Value)(xs:List Tok):Prop:=uG.R 39 W base (fun _=>True) v xs
def JW(w0 W:World)(p:Nat)(P:List Int)(at_:Int)(vb vl:Value):Prop:=
 ∃A c,W.heap[p]? =some (.cells #[vb,.slice A P.length c,.int .i64 at_,vl] 55 (0,0))/\w0.heap.size<=p/\Kd.C (Kd.int .u8) w0 A P.length P
section
variable{w0 W W1:World}{p:Nat}{P:List Int}{at_:Int}{vb vl:Value}
theorem JW.lt(h:JW w0 W p P at_ vb vl):p<W.heap.size:=by obtain⟨A,c,h,_⟩:=h;exact bJ h
theorem JW.ge(h:JW w0 W p P at_ vb vl):w0.heap.size<=p:=by obtain⟨A,c,_,h,_⟩:=h;exact h
theorem JW.move(h:JW w0 W p P at_ vb vl)(hm:W1.heap[p]? =W.heap[p]?):JW w0 W1 p P at_ vb vl:=by obtain⟨A,c,h1,h2⟩:=h;exact⟨A,c,hm.trans h1,h2⟩
theorem JW.below(h:JW w0 W p P at_ vb vl)(hb:Below W.heap.size W W1):JW w0 W1 p P at_ vb vl:=h.move (hb.block p h.lt)
theorem JW.alloc(h:JW w0 W p P at_ vb vl)(o:Obj):JW w0 (W.alloc o) p P at_ vb vl:=h.below (ak (bg _ _) o)
theorem JW.drewN(h:JW w0 W p P at_ vb vl)(m:Nat):JW w0 (W.drewN m) p P at_ vb vl:=h.below (aS (bg _ _) m)
theorem JW.drew(h:JW w0 W p P at_ vb vl):JW w0 W.drew p P at_ vb vl:=h.move rfl
theorem JW.grown(h:JW w0 W p P at_ vb vl){row:Option Nat}(hg:W.grownBy W1 row)(hne:some p≠row):JW w0 W1 p P at_ vb vl:=h.move (hg.block p h.lt hne)
theorem JW.set0(h:JW w0 W p P at_ vb vl)(v:Value):JW w0 (W.setCell ⟨p,0,none⟩ v) p P at_ v vl:=by
 obtain⟨A,c,h1,h2⟩:=h;exact⟨A,c,(aW h1 0 v).trans rfl,h2⟩
theorem JW.set2(h:JW w0 W p P at_ vb vl)(x:Int):JW w0 (W.setCell ⟨p,2,none⟩ (.int .i64 x)) p P x vb vl:=by
 obtain⟨A,c,h1,h2⟩:=h;exact⟨A,c,(aW h1 2 _).trans rfl,h2⟩
theorem JW.set3(h:JW w0 W p P at_ vb vl)(v:Value):JW w0 (W.setCell ⟨p,3,none⟩ v) p P at_ vb v:=by
 obtain⟨A,c,h1,h2⟩:=h;exact⟨A,c,(aW h1 3 v).trans rfl,h2⟩
theorem JW.cells(h:JW w0 W p P at_ vb vl):∃A c,W.cell? ⟨p,0,none⟩=some vb/\W.cell? ⟨p,1,none⟩=some (.slice A P.length c)/\W.cell? ⟨p,2,none⟩=some (.int .i64 at_)/\W.cell? ⟨p,3,none⟩=some vl/\
 W.frozen? ⟨p,0,none⟩=false/\W.frozen? ⟨p,2,none⟩=false/\W.frozen? ⟨p,3,none⟩=false/\Kd.C (Kd.int .u8) w0 A P.length P:=by
 obtain⟨A,c,h1,h2,h3⟩:=h;exact⟨A,c,(aA h1 0).trans rfl,(aA h1 1).trans rfl,(aA h1 2).trans rfl,(aA h1 3).trans rfl,aN h1 0,aN h1 2,aN h1 3,h3⟩
theorem JW.c0(h:JW w0 W p P at_ vb vl):W.cell? ⟨p,0,none⟩=some vb:=by obtain⟨A,c,h,_⟩:=h;exact(aA h 0).trans rfl
theorem JW.c3(h:JW w0 W p P at_ vb vl):W.cell? ⟨p,3,none⟩=some vl:=by obtain⟨A,c,h,_⟩:=h;exact(aA h 3).trans rfl
theorem JW.f0(h:JW w0 W p P at_ vb vl):W.frozen? ⟨p,0,none⟩=false:=by obtain⟨A,c,h,_⟩:=h;exact aN h 0
theorem JW.f3(h:JW w0 W p P at_ vb vl):W.frozen? ⟨p,3,none⟩=false:=by obtain⟨A,c,h,_⟩:=h;exact aN h 3
theorem JW.MI{base:Nat}{v:Value}{xs:List Int}(h:JW w0 W p P at_ vb vl)(ho:OwnB W base v xs):some p≠v.ownBlock:=by
 obtain⟨A,c,h1,h2⟩:=h;exact Kd.xP ho h1 (by decide)
theorem JW.Ci{base:Nat}{v:Value}{xs:List Tok}(h:JW w0 W p P at_ vb vl)(ho:wI W base v xs):some p≠v.ownBlock:=by
 obtain⟨A,c,h1,h2⟩:=h;exact Kd.xP ho h1 (by decide)
theorem AV{base:Nat}{v:Value}{xs:List Int}(ho:OwnB W base v xs)(h:JW w0 W p P at_ vb vl)(j:Nat)(u:Value):OwnB (W.setCell ⟨p,j,none⟩ u) base v xs:=by
 obtain⟨A,c,h1,h2⟩:=h;exact Kd.jY ho h1 (by decide) j u
theorem IZ{base:Nat}{v:Value}{xs:List Tok}(ho:wI W base v xs)(h:JW w0 W p P at_ vb vl)(j:Nat)(u:Value):wI (W.setCell ⟨p,j,none⟩ u) base v xs:=by
 obtain⟨A,c,h1,h2⟩:=h;exact Kd.jY ho h1 (by decide) j u
theorem fQ{α:Type}{d:Kd α}{e:Nat}{base:Nat}{ok:Nat->Prop}{v:Value}{xs:List α}(h:d.R e W base ok v xs):∃A n c,v= .slice A n c:=by
 obtain⟨A,c,h⟩:=Kd.fC h;exact⟨A,_,c,h⟩
theorem Ja{W W1 W2:World}{p:Nat}{row:Option Nat}(h:aH W W1 p none)(hg:W1.grownBy W2 row):aH W W2 p row:=
 ⟨Nat.le_trans h.1 hg.size,fun i hi hp hr=>(hg.block i (Nat.lt_of_lt_of_le hi h.1) hr).trans (h.2 i hi hp (by simp))⟩
theorem keepA{W W1:World}{p:Nat}{o:Obj}(h:aH (W.alloc o).drew W1 p none):aH W W1 p none:=(pX (aH.refl W p none) o).trans h (.inl rfl)
theorem aej{W W1:World}{p:Nat}{o:Obj}(h:aH W.drew W1 p none):aH W (W1.alloc o) p none:=pX h o
theorem jL{base:Nat}{v:Value}{xs:List Int}(ho:OwnB W base v xs)(h:JW w0 W p P at_ vb vl)(hk:aH W W1 p none):OwnB W1 base v xs:=by
 obtain⟨A,c,h1,h2⟩:=h;exact Kd.gB (Kd.sV (Kd.vP ho h1 (by decide)) hk (fun _ hk=>hk.2)) (fun _ _=>trivial)
theorem yS{base:Nat}{v:Value}{xs:List Tok}(ho:wI W base v xs)(h:JW w0 W p P at_ vb vl)(hk:aH W W1 p none):wI W1 base v xs:=by
 obtain⟨A,c,h1,h2⟩:=h;exact Kd.gB (Kd.sV (Kd.vP ho h1 (by decide)) hk (fun _ hk=>hk.2)) (fun _ _=>trivial)
end
def dK(P:List Int)(a:Nat)(n:Int):Int:=if P.length=0 then 0 else P.getD (a%P.length) 0%n
def dB(P:List Int)(a:Nat):Nat:=if P.length=0 then a else a+1
theorem yT(w0 W:World)(p:Nat)(P:List Int)(a:Nat)(vb vl:Value)(n:Int)(hn:0<n)(hP:∀x∈P,0<=x/\x<=255)(ha:a<=281474976710656)(hw:JW w0 W p P a vb vl)(hB:Below w0.heap.size w0 W):
 Calls Tryz.prog 43 #[.pointer (some ⟨p,0,none⟩),.int .i64 n] W fun e w'=>e= .returned (.int .i64 (dK P a n))/\JW w0 w' p P (dB P a) vb vl/\Below w0.heap.size w0 w'/\aH W w' p none:=by
 obtain⟨A,c,c0,c1,c2,c3,f0,f2,f3,hC⟩:=hw.cells;have HC:=ah hC;have HW:=ah hw;have HB:=ah hB;have HP:=ah hP;clear hC hw hB f0 f3 c0 c3 hP
 by_cases h0:P.length=0
 ·have e0:(((P.length:Nat):Int)==0)=true:=kZ (by omega)
  have HV:=ah (show dK P a n=0 by rw[dK,if_pos h0]);have HA:=ah (show dB P a=a by rw[dB,if_pos h0]);clear h0;go_enter Tryz.func43,Tryz.ntmps43;go_wp2
  go_ret
  exact⟨by rw[HV.out];rfl,by rw[HA.out];exact HW.out,HB.out,aH.refl _ _ _⟩
 ·have e0:(((P.length:Nat):Int)==0)=false:=eqF (by omega)
  have hlt:a%P.length<P.length:=Nat.mod_lt _ (by omega);obtain⟨x,hx⟩:=bF hlt;obtain⟨ad,rfl,hq⟩:=iD (Kd.aU HC.out HB.out) hx.out;have hr:=HP.out x (List.mem_of_getElem? hx.out);have HV:=ah (show dK P a n=x%n by rw[dK,if_neg h0,bT hx.out]);have HA:=ah (show dB P a=a+1 by rw[dB,if_neg h0]);have m1:((a:Int)).tmod (P.length:Int)=((a%P.length:Nat):Int):=by rw[Int.tmod_eq_emod_of_nonneg (by omega)];rfl
  have m2:x.tmod n=x%n:=Int.tmod_eq_emod_of_nonneg hr.1;have i0:(0:Int)<=((a%P.length:Nat):Int):=by omega
  have i1:((a%P.length:Nat):Int)<(P.length:Int):=by omega
  have n0:¬n=0:=by omega
  have w1:IntKind.i64.wrap x=x:=by simp only[IntKind.wrap,IntKind.signed,IntKind.bits];simp;omega
  have w2:IntKind.i64.wrap ((a:Int)+1)=(a:Int)+1:=by simp only[IntKind.wrap,IntKind.signed,IntKind.bits];simp;omega
  clear ha hr hn;go_enter Tryz.func43,Tryz.ntmps43;go_wp2
  go_quiet (fail)
  go_wp2
  go_ret
  exact⟨by rw[HV.out];rfl,by rw[HA.out];exact(HW.out.drewN nq).set2 _,aV (aS HB.out nq) HW.out.ge,(aH.of_below (aS (bg _ _) nq) p none).xM 2 _⟩
theorem jg{P:List Int}{a:Nat}{n:Int}(hn:0<n)(hP:∀x∈P,0<=x/\x<=255):0<=dK P a n/\dK P a n<n:=by
 unfold dK
 split
 ·omega
 ·exact⟨Int.emod_nonneg _ (by omega),Int.emod_lt_of_pos _ hn⟩
theorem abg:∃i,Tryz.prog.info? 5=some i/\i.zero=some (.int .u8 0)/\i.size=1/\i.bytes=1:=by
 obtain⟨i0,hi,hzz⟩:=Option.map_eq_some_iff.1 uS;simp only[Prod.mk.injEq]at hzz;exact⟨i0,hi,hzz.1,hzz.2.1,hzz.2.2⟩
theorem QF(y:ByteArray):encs (fun x:Int=>Value.int .u8 x) (bytesOf y)=Lib.strCells y:=by
 unfold encs bytesOf Lib.strCells;rw[List.map_map]
 rfl
theorem zM{w0 W:World}(ty:TypeId)(v:Value)(xs:List Int)(y:ByteArray)(HO:OwnB W w0.heap.size v xs)(HB:Below w0.heap.size w0 W)(hl:xs.length+y.size<=140737488355328):
 ∃v1 w1,(Builtin.append_ #[27,9] ty #[v,.string y]).run Tryz.prog W= .ok v1 w1/\OwnB w1 w0.heap.size v1 (xs++bytesOf y)/\Below w0.heap.size w0 w1/\W.grownBy w1 v.ownBlock:=by
 obtain⟨i,hi,hz,hsz,hby⟩:=abg;have ho:=Kd.pV HO;obtain⟨v1,w1,hr,hown,hg,_⟩:=Lib.run_append_own_string (P:=Tryz.prog) W w0.heap.size 27 9 ty 5 i Tryz.underlying27 Tryz.underlying9 hi hz hsz hby v xs.length _ ho y (by simp only[maxLen];omega) hl HB.size;refine⟨v1,w1,hr,?_,HB.grown hg HB.size (own_base ho),hg⟩;have hl2:(xs++bytesOf y).length=xs.length+y.size:=by rw[List.length_append,bytesOf_length]
 have hc:encs (fun x:Int=>Value.int .u8 x) (xs++bytesOf y)=encs (fun x:Int=>Value.int .u8 x) xs++Lib.strCells y:=by
  rw[IJ,QF]
 exact Kd.fZ (by rw[hl2,hc];exact hown) (fun _ _=>trivial)
section
variable{ops:Array Oper}{o:Oper}{a:Act}{Q:Exit->Act->World->Prop}{Kc:Act->World->Prop}{rest:List Oper}
theorem Gu{w0 W:World}(hw:Region.wanted o (yielded ops a.tmps)=true)(s x:Operand)
 (ho:o.op= .call {callee:=.builtin .append,args:=#[s,x],argTypes:=#[27,9]})
 (v:Value) (xs:List Int) (y:ByteArray) (hs:a.eval s=v) (hx:a.eval x= .string y) (HO:OwnB W w0.heap.size v xs) (HB:Below w0.heap.size w0 W) (hl:xs.length+y.size<=140737488355328)
 (h:∀v1 w1,OwnB w1 w0.heap.size v1 (xs++bytesOf y)->Below w0.heap.size w0 w1->W.grownBy w1 v.ownBlock->Kc (a.put o.dst v1) w1):
 if Region.wanted o (yielded ops a.tmps)=true then Oper.wp Tryz.prog o a W Kc Q else Kc (a.put o.dst undef) W:=by
 obtain⟨v1,w1,hr,h1,h2,h3⟩:=zM o.type v xs y HO HB hl;rw[if_pos hw];unfold Oper.wp execOp;simp only[ho,resolve,invoke,builtin,Sem.run_bind,Sem.run_pure,Result.andThen_ok,List.map_toArray,List.map_cons,List.map_nil,hs,hx,hr];exact h v1 w1 h1 h2 h3
theorem Yn{w0 W:World}(hgd:o.guard=none)(s x:Operand)
 (ho:o.op= .call {callee:=.builtin .append,args:=#[s,x],argTypes:=#[27,9]})
 (v:Value) (xs:List Int) (y:ByteArray) (hs:a.eval s=v) (hx:a.eval x= .string y) (HO:OwnB W w0.heap.size v xs) (HB:Below w0.heap.size w0 W) (hl:xs.length+y.size<=140737488355328)
 (h:∀v1 w1,OwnB w1 w0.heap.size v1 (xs++bytesOf y)->Below w0.heap.size w0 w1->W.grownBy w1 v.ownBlock->wpList Tryz.prog ops Q rest (a.put o.dst v1) w1):
 wpList Tryz.prog ops Q (o::rest) a W:=by
 obtain⟨v1,w1,hr,h1,h2,h3⟩:=zM o.type v xs y HO HB hl;exact Kd.Qy hgd (by simp[execOp,ho,resolve,invoke,builtin,hs,hx,hr]) (h v1 w1 h1 h2 h3)
end
def spaces:List (List Int):=[[],[],[],[32],[10],[9],[13,10],[32,32,10,32]]
def eP(v:Int):List Int:=spaces.getD v.toNat []
def Uk:Array Value:=#[.string ⟨#[]⟩,.string ⟨#[]⟩,.string ⟨#[]⟩,.string ⟨#[32]⟩,.string ⟨#[10]⟩,.string ⟨#[9]⟩,.string ⟨#[13,10]⟩,.string ⟨#[32,32,10,32]⟩]
theorem int8{v:Int}(h0:0<=v)(h1:v<8):v=0∨v=1∨v=2∨v=3∨v=4∨v=5∨v=6∨v=7:=by omega
theorem QG{v:Int}(h0:0<=v)(h1:v<8):Uk[v.toNat]? =some (.string (str (eP v))):=by
 rcases int8 h0 h1 with rfl|rfl|rfl|rfl|rfl|rfl|rfl|rfl<;>rfl
theorem space_bytes{v:Int}(h0:0<=v)(h1:v<8):bytesOf (str (eP v))=eP v/\(str (eP v)).size<=4:=by
 rcases int8 h0 h1 with rfl|rfl|rfl|rfl|rfl|rfl|rfl|rfl<;>exact⟨rfl,by decide⟩
theorem Jb{W w1:World}{p:Nat}{cs:Array Value}{t:TypeId}{i:Nat}{u:Value}(hk:aH (W.alloc (.cells cs t)).drew w1 p none)(hp:p<W.heap.size)(h:cs[i]? =some u):w1.cell? ⟨W.heap.size,i,none⟩=some u:=by
 have hz:W.heap.size<(W.alloc (.cells cs t)).drew.heap.size:=by show _<(W.alloc (.cells cs t)).heap.size;simp
 have e:=hk.2 W.heap.size hz (by omega) (by simp);have e2:w1.heap[W.heap.size]? =some (.cells cs t (0,0)):=e.trans (heap_alloc_new W _);exact(aA e2 i).trans h
theorem Yo{l:List Value}{i:Nat}{u:Value}(h:l.toArray[i]? =some u){hb:i<l.length}:l[i]=u:=by
 simpa [hb]using h
theorem Pq(w0 W:World)(p:Nat)(P:List Int)(a:Nat)(vb vl:Value)(b:List Int)(hP:∀x∈P,0<=x/\x<=255)(ha:a<=281474976710656)(hl:b.length<=140737488355000)(hw:JW w0 W p P a vb vl)(hO:OwnB W w0.heap.size vb b)(hB:Below w0.heap.size w0 W):
 Calls Tryz.prog 21 #[.pointer (some ⟨p,0,none⟩)] W fun e w'=>e= .returned (.tuple #[])/\(∃vT,JW w0 w' p P (dB P a) vT vl/\OwnB w' w0.heap.size vT (b++eP (dK P a 8)))/\Below w0.heap.size w0 w'/\aH W w' p vb.ownBlock:=by
 obtain⟨A,c,c0,c1,c2,c3,f0,f2,f3,hC⟩:=hw.cells;have HW:=ah hw;have HO:=ah hO;have HB:=ah hB;have HP:=ah hP;have HL:=ah hl;have hN:=ah (hw.MI hO);obtain⟨v,hv⟩:∃v,v=dK P a 8:=⟨_,rfl⟩
 obtain⟨v0,v1⟩:0<=v/\v<8:=by rw[hv];exact jg (by decide) hP
 have hsb:=ah (space_bytes v0 v1);obtain⟨S,hS⟩:∃S,S=str (eP v):=⟨_,rfl⟩
 have Ul:=QG v0 v1;rw[<-hS]at Ul;have HT:=ah Ul;have Um:=ah hw.lt;clear Ul;rw[<-hv];have HS:=ah hS;have HV:=ah hv;have HA:=ah ha;clear hC hw hB f2 f3 c1 c2 c3 hP hO hv hS ha hl;have ha0:=fun o=>(HW.out.alloc o).c0
 go_enter Tryz.func21,Tryz.ntmps21
 go_region_law (first
  |(go_simp;go_at_call 43;(with_reducible refine(yT w0 _ p P a vb vl 8 (by decide) HP.out HA.out HW.out.drew (aQ HB.out)).mono ?_);rw[<-HV.out];rintro e w1⟨rfl,hw1,hb1,hk1⟩;have HW1:=ah hw1;have HB1:=ah hb1;have HK1:=ah hk1;have hz0:=HW1.out.c0;have hz2:=fun o=>(HW1.out.alloc o).c0;have HO1:=ah (jL (Kd.nY HO.out) HW.out.drew hk1);clear hw1 hb1 hk1)
  |(go_simp;go_at_call 43;(with_reducible refine(yT w0 _ p P a vb vl 8 (by decide) HP.out HA.out (HW.out.alloc _).drew (aQ (ak HB.out _))).mono ?_);rw[<-HV.out];rintro e w1⟨rfl,hw1,hb1,hk1⟩;have HW1:=ah hw1;have HB1:=ah hb1;have HK1:=ah hk1;have hz0:=HW1.out.c0;have hq:=Jb hk1 Um.out HT.out;have HO1:=ah (jL (Kd.nY (Kd.kX HO.out _)) (HW.out.alloc _).drew hk1);clear hw1 hb1 hk1)
  |((refine Gu (w0:=w0) (by kernel_rfl) (.tmp 6) (.tmp 11) rfl vb b S rfl (by first|rfl|exact Yo HT.out) (by first|exact HO1.out|exact Kd.kX HO1.out _) (by first|exact HB1.out|exact ak HB1.out _) (by rw[HS.out];have:=HL.out;have:=hsb.out.2;omega) ?_);rintro v1 w2 ho2 hb2 hg2;obtain⟨A2,n2,c2,rfl⟩:=fQ ho2;have HO2:=ah ho2;have HB2:=ah hb2;have HG2:=ah hg2;have HW2:=ah ((by first|exact HW1.out|exact HW1.out.alloc _:JW w0 _ p P _ vb vl).grown hg2 hN.out);have hy:=HW2.out.f0;have hy0:=HW2.out.c0;clear ho2 hb2 hg2))
 all_goals
  go_end0
  refine⟨rfl,⟨_,HW2.out.set0 _,AV (by rw[HS.out,hsb.out.1]at HO2;exact HO2.out) HW2.out 0 _⟩,aV HB2.out HW2.out.ge,aH.xM ?_ 0 _⟩
  first|exact Ja (keepA HK1.out) HG2.out|exact Ja (aej HK1.out) HG2.out
end Go.Proofs.YtapkmjfjikpnlaaGreatDoor
