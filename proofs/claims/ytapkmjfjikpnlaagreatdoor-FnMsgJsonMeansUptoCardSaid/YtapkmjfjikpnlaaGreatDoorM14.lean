/- A part of FnMsgJsonMeans. No conditions. -/
import Derived.Test.YtapkmjfjikpnlaaGreatDoorM13
import Derived.Test.YtapkmjfjikpnlaaGreatDoorM12
import Derived.Shelf.Spec.DecodeRune
set_option maxHeartbeats 32000000
set_option maxRecDepth 100000
namespace Go.Proofs.YtapkmjfjikpnlaaGreatDoor
open Go.RowKit YtapkmjfjikpnlaaGreatDoorW.aG YtapkmjfjikpnlaaGreatDoorW.aJ FP
set_option linter.unusedVariables false
set_option linter.unusedSimpArgs false
theorem su{W w1:World}{p:Nat}{cs:Array Value}{t:TypeId}{i:Nat}{u:Value}(hk:aH (W.alloc (.cells cs t)) w1 p none)(hp:p<W.heap.size)(h:cs[i]? =some u):w1.cell? ⟨W.heap.size,i,none⟩=some u:=by
 have hz:W.heap.size<(W.alloc (.cells cs t)).heap.size:=by simp
 have e:=hk.2 W.heap.size hz (by omega) (by simp);have e2:w1.heap[W.heap.size]? =some (.cells cs t (0,0)):=e.trans (heap_alloc_new W _);exact(aA e2 i).trans h
theorem WK.plt{w0 W wx:World}{p:Nat}{P:List Int}{a k:Nat}{vb vl:Value}(h:WK w0 W wx p P a k vb vl):p<wx.heap.size:=by
 obtain⟨a',_,_,h,_⟩:=h;exact h.lt
theorem WK.wle{w0 W wx:World}{p:Nat}{P:List Int}{a k:Nat}{vb vl:Value}(h:WK w0 W wx p P a k vb vl):W.heap.size<=wx.heap.size:=by
 obtain⟨a',_,_,_,_,h⟩:=h;exact h.1
theorem iI{W:World}{A:Option Addr}{n c:Nat}{l:List Int}(h:RdB W A n l):(convert 27 9 (.slice A n c)).run Tryz.prog W= .ok (.string (str l)) W:=Kd.Ua Tryz.underlying27 Tryz.underlying5 Tryz.underlying9 h
theorem aew{v:Int}(h:0<=v/\v<2):∃Z:List Int,(Z=[]∨Z=[46,48])/\(#[.string ⟨#[]⟩,.string ⟨#[46,48]⟩]:Array Value)[v.toNat]? =some (.string (str Z))/\∀h',([.string ⟨#[]⟩,.string ⟨#[46,48]⟩]:List Value)[v.toNat]'h'= .string (str Z):=by
 rcases two h with rfl|rfl
 ·exact⟨[],.inl rfl,rfl,fun _=>rfl⟩
 ·exact⟨[46,48],.inr rfl,rfl,fun _=>rfl⟩
theorem Rf(j:Nat)(hj:j<=8):∀W:World,(Instr.slice 9 (.string ⟨#[48,48,48,48,48,48,48,48]⟩) none (some (.int .i64 (j:Int))) none).run Tryz.prog W= .ok (.string (str (List.replicate j 48))) W:=by
 intro W;rw[run_slice_string_h (P:=Tryz.prog) W 9 _ Tryz.underlying9 .i64 (j:Int) (by omega) (by show _<=((8:Nat):Int);omega)]
 congr 2
 apply rM
 match j,hj with
 |0,_=>rfl
 |1,_=>rfl
 |2,_=>rfl
 |3,_=>rfl
 |4,_=>rfl
 |5,_=>rfl
 |6,_=>rfl
 |7,_=>rfl
 |8,_=>rfl
 |j+9,h=>omega
theorem aat(x y:List Int){v:Int}(h:0<=v/\v<2):∃Z:List Int,(Z=x∨Z=y)/\(#[.string (str x),.string (str y)]:Array Value)[v.toNat]? =some (.string (str Z)):=by
 rcases two h with rfl|rfl
 ·exact⟨x,.inl rfl,rfl⟩
 ·exact⟨y,.inr rfl,rfl⟩
theorem JC(w0 W:World)(p:Nat)(P:List Int)(a:Nat)(vb vl:Value)(f:Nat)(sh:Bool)(n:Nat)(hn:n=if sh then 8 else 16)(hP:qE P)(ha:a+8<=281474976710656)(hf:f<18446744073709551616)(hf2:f%9223372036854775808<9218868437227405312)(hj:JW w0 W p P a vb vl)(hB:Below w0.heap.size w0 W):
 Calls Tryz.prog 139 #[.pointer (some ⟨p,0,none⟩),.int .u64 f,.bool sh] W fun e w'=>∃x,e= .returned (.string (str x.bytes))/\vw f n x/\WK w0 W w' p P a 6 vb vl:=by
 have HK0:=ah (WK.mk0 hj hB);have HP:=ah hP;have HA:=ah ha;have HW0:=ah hB.size;have LV:=ah (fun(k:Nat)(wx:World)(m:Int)(hm:0<m)(hk:k<=7)(h:WK w0 W wx p P a k vb vl)=>MZ w0 W wx p P a k vb vl m hm hP (by omega) h);have e63:=JB (f:=(f:Int)) (by omega) (by omega);obtain⟨g,hg⟩:∃g,g=f%9223372036854775808:=⟨_,rfl⟩
 have eg:((f:Int))%9223372036854775808=(g:Int):=by omega
 rw[eg]at e63;have HG:=ah hg;have hg1:g<9218868437227405312:=by rw[hg];exact hf2
 have s63:(f:Int)/9223372036854775808=if 9223372036854775808<=f then 1 else 0:=by split<;>omega
 obtain⟨S,hS⟩:∃S,S=CX f:=⟨_,rfl⟩
 have HS:=ah hS;have HSl:=ah (show S.length<=1 by rw[hS];unfold CX;split<;>simp);have Hn:=ah hn;clear hj hB hP ha hf hf2 hg eg hS hn;go_enter Tryz.func139,Tryz.ntmps139
 go_upto_region 1 with fail
 go_cut [7] (fun s7 wx=>s7= .string (str S)/\aC (WK w0 W wx p P a 0 vb vl))
 case first=>
  by_cases h:9223372036854775808<=f
  ·rw[if_pos h]at s63
   have HE:=ah (show S=[45]by rw[HS.out,CX,if_pos h]);clear h;go_wp2
   go_meet
   exact⟨by rw[HE.out];rfl,⟨HK0.out.below (ak (bg _ _) _)⟩⟩
  ·rw[if_neg h]at s63
   have HE:=ah (show S=[]by rw[HS.out,CX,if_neg h]);clear h;go_wp2
   go_meet
   exact⟨by rw[HE.out];rfl,⟨HK0.out.below (ak (bg _ _) _)⟩⟩
 case rest=>
  obtain⟨rfl,HK1⟩:=hcut;clear s63
  by_cases hg0:g=0
  ·have HZ:=ah (fun z hz=>YN (f:=f) (n:=n) (by rw[<-HG.out];exact hg0) z hz)
   have c0:∀W:World,(Op.stringOp .add (str S) ⟨#[48]⟩).run Tryz.prog W= .ok (.string (str (S++[48]))) W:=iH S [48] (by have:=HSl.out;simp;omega)
   have c1:∀W:World,(Op.stringOp .add (str S) ⟨#[48,46,48]⟩).run Tryz.prog W= .ok (.string (str (S++[48,46,48]))) W:=iH S [48,46,48] (by have:=HSl.out;simp;omega)
   have c2:∀W:World,(Op.stringOp .add (str S) ⟨#[48,101,49]⟩).run Tryz.prog W= .ok (.string (str (S++[48,101,49]))) W:=iH S [48,101,49] (by have:=HSl.out;simp;omega)
   have Np:=ah HK1.out.plt;subst hg0;clear hg1
   go_wp2_with (first|(go_at_call 43;(with_reducible refine(LV.out 0 _ 3 (by decide) (by omega) (HK1.out.below (ak (bg _ _) _))).mono ?_);rintro e w1⟨v,rfl,hv,hk,hr,hb⟩;have q0:=su (i:=0) hb Np.out rfl;have q1:=su (i:=1) hb Np.out rfl;have q2:=su (i:=2) hb Np.out rfl;rcases three hv with rfl|rfl|rfl;all_goals(have HK2:=ah hk;clear hk hr hb)))
   ·obtain⟨x,hx,ex⟩:=HZ.out [48] (.inl rfl)
    go_ret
    exact⟨x,by rw[<-ex,<-HS.out];rfl,hx,HK2.out.mono (by omega)⟩
   ·obtain⟨x,hx,ex⟩:=HZ.out [48,46,48] (.inr (.inl rfl))
    go_ret
    exact⟨x,by rw[<-ex,<-HS.out];rfl,hx,HK2.out.mono (by omega)⟩
   ·obtain⟨x,hx,ex⟩:=HZ.out [48,101,49] (.inr (.inr rfl))
    go_ret
    exact⟨x,by rw[<-ex,<-HS.out];rfl,hx,HK2.out.mono (by omega)⟩
  have UG:0<g:=by omega
  have b0:((g:Int)==0)=false:=eqF (by omega);have HGp:=ah (And.intro UG hg1);clear UG hg0 hg1
  go_upto_if 29 with fail
  go_cut [8] (fun s8 wx=>s8= .int .i64 ((n:Int)+1)/\aC (WK w0 W wx p P a 0 vb vl))
  case first=>
   have hn:=Hn.out;cases sh
   ·have hn':n=16:=hn
    subst hn';clear hn;go_wp2
    go_meet
    exact⟨rfl,HK1⟩
   ·have hn':n=8:=hn
    subst hn';clear hn;go_wp2
    go_meet
    exact⟨rfl,HK1⟩
  case rest=>
   obtain⟨rfl,HK2⟩:=hcut;have HFD:=ah (fun W=>Eo g n W HGp.out.1 HGp.out.2 (by rw[Hn.out];split<;>omega));rw[show(((n+1:Nat)):Int)=(n:Int)+1 by omega]at HFD;have hn20:n<=20:=by rw[Hn.out];split<;>omega
   go_upto_block 0 with(go_at_call 173;(with_reducible refine(HFD.out _).mono ?_);rintro e w1⟨v9,ds,E,rfl,ho,hd,hb⟩;have HO1:=ah (Kd.oI ho HK2.out.wle);have HD1:=ah (EX.of hd hn20);have HK3:=ah (HK2.out.below hb);clear ho hd hb)
   go_cut [9] (fun s9 wx=>∃cur:List Int,aC (EX g n cur E 21)/\aC (OwnB wx W.heap.size s9 cur)/\aC (WK w0 W wx p P a 0 vb vl))
   case first=>
    go_wp2_with fail
    go_loopg [9] ds.length (fun g' s9 w'=>∃cur:List Int,cur.length=g'/\aC (EX g n cur E 21)/\aC (OwnB w' W.heap.size s9 cur)/\aC (WK w0 W w' p P a 0 vb vl))
    case atStart=>exact⟨ds,rfl,HD1,HO1,HK3⟩
    case round=>
     obtain⟨cur,hl,HC,HO,HK⟩:=hrel;obtain⟨gb,cap,rfl,hgb⟩:=rY HO.out HC.out.ne;have hlen:=HC.out.len;obtain⟨x,hx⟩:=bF (show cur.length-1<cur.length by have:=List.length_pos_iff.2 HC.out.ne;omega);have hpos:0<cur.length:=List.length_pos_iff.2 HC.out.ne;obtain⟨k,hk⟩:∃k,cur.length=k+1:=⟨cur.length-1,by omega⟩
     have hx':cur[k]? =some x:=by have:=hx.out;rwa [hk]at this
     have hcell:=Kd.yN (0:Int) HO.out (k:Int) (by omega) (by omega);rw[Int.toNat_natCast,wG,Int.toNat_natCast,bT hx']at hcell;obtain⟨ho1,ho2⟩:=hcell
     have hce:cur=cur.take k++[x]:=by
      conv=>lhs;rw[<-List.take_append_drop k cur]
      congr 1
      obtain⟨hi,e⟩:=List.getElem?_eq_some_iff.1 hx';rw[List.drop_eq_getElem_cons hi,e,List.drop_eq_nil_of_le (by omega)]
     obtain⟨Ar,cr,er,hcr,EW⟩:=Kd.jo HO.out;injection er with er1 er2 er3
     subst er1;subst er3;have HO':=ah (show OwnB wr W.heap.size (.slice (some ⟨gb,0,none⟩) (k+1) cap) cur by rw[<-hk];exact HO.out);have HT:=ah (Kd.Gh HO.out (m:=k) (by omega));have HCe:=ah hce;have XY:=ah (show(cur.take k).length=k by rw[List.length_take];omega);have e1:IntKind.i64.wrap (((k+1:Nat):Int)-1)=(k:Int):=by rw[IntKind.wrap_i64];omega
     have e2:IntKind.i64.wrap ((k:Int)+1-1)=(k:Int):=by rw[IntKind.wrap_i64];omega
     have e3:IntKind.i64.wrap (k:Int)=(k:Int):=by rw[IntKind.wrap_i64];omega
     have hkc:k+1<=cap:=by omega
     have hcut:=zk (some ⟨gb,0,none⟩) (k+1) cap k (by omega) hkc;rw[hk]
     by_cases h1:1<k+1
     ·have h1':0<k:=by omega
      by_cases h48:x=48
      ·have HC2:=ah (EX.trim (by have:=HC.out;rw[HCe.out,h48]at this;exact this) (show cur.take k≠[]by intro e;have:=XY.out;rw[e]at this;simp at this;omega) (by omega))
       subst h48;have hkc2:k<=cap:=by omega
       have hkc3:¬cap=0:=by omega
       have HT2:=ah (show OwnB wr W.heap.size (.slice (some ⟨gb,0,none⟩) k cap) (cur.take k)from HT.out);clear hcr EW hce hx' hlen;go_wp2
       go_roundg k
       case measure=>omega
       case rel=>exact⟨cur.take k,XY.out,HC2,HT2,HK⟩
      ·have d:=eqF h48
       clear hcr EW hce hx' hlen;go_wp2
       go_meet
       exact⟨cur,HC,HO',HK⟩
     ·have h1':¬0<k:=by omega
      obtain rfl:k=0:=by omega
      clear hcr EW hce hx' hlen;go_wp2
      go_meet
      exact⟨cur,HC,HO',HK⟩
   case rest=>
    obtain⟨cur,HC,HO,HK4⟩:=hcut;have hlo:=HC.out.lo;have hhi:=HC.out.hi
    go_upto_region 11 with fail
    go_cut [63] (fun s63 wx=>∃t:Bool,s63= .bool t/\(t=true->0<E/\E<22)/\aC (OwnB wx W.heap.size u9 cur)/\aC (WK w0 W wx p P a 1 vb vl))
    case first=>
     by_cases h1:0<E
     ·by_cases h2:E<22
      ·have d1:decide (0<E)=true:=bZ h1
       have d2:decide (E<22)=true:=bZ h2
       go_wp2_with (go_at_call 43;(with_reducible refine(LV.out 0 _ 2 (by decide) (by omega) HK4.out).mono ?_);rintro e w1⟨v,rfl,hv,hk,hr,hb⟩;have HK5:=ah hk;have HO5:=ah (hr _ _ _ HO.out);rcases two hv with rfl|rfl;all_goals clear hk hr hb)
       ·go_meet
        exact⟨true,rfl,fun _=>⟨h1,h2⟩,HO5,HK5⟩
       ·go_meet
        exact⟨false,rfl,fun h=>(by cases h),HO5,HK5⟩
      ·have d1:decide (0<E)=true:=bZ h1
       have d2:decide (E<22)=false:=bY h2;go_wp2
       go_meet
       exact⟨false,rfl,fun h=>(by cases h),HO,⟨HK4.out.mono (by omega)⟩⟩
     ·have d1:decide (0<E)=false:=bY h1
      go_wp2
      go_meet
      exact⟨false,rfl,fun h=>(by cases h),HO,⟨HK4.out.mono (by omega)⟩⟩
    case rest=>
     obtain⟨t,rfl,ht,HO5,HK5⟩:=hcut;cases t
     ·go_upto_region 17 with fail
      go_cut [107] (fun s107 wx=>∃t:Bool,s107= .bool t/\(t=true->E<=0/\ -8<E)/\aC (OwnB wx W.heap.size u9 cur)/\aC (WK w0 W wx p P a 2 vb vl))
      case first=>
       by_cases h1:E<=0
       ·by_cases h2: -8<E
        ·have d1:decide (E<=0)=true:=bZ h1
         have d2:decide (-8<E)=true:=bZ h2
         go_wp2_with (go_at_call 43;(with_reducible refine(LV.out 1 _ 2 (by decide) (by omega) HK5.out).mono ?_);rintro e w1⟨v,rfl,hv,hk,hr,hb⟩;have HK6:=ah hk;have HO6:=ah (hr _ _ _ HO5.out);rcases two hv with rfl|rfl;all_goals clear hk hr hb)
         ·go_meet
          exact⟨true,rfl,fun _=>⟨h1,h2⟩,HO6,HK6⟩
         ·go_meet
          exact⟨false,rfl,fun h=>(by cases h),HO6,HK6⟩
        ·have d1:decide (E<=0)=true:=bZ h1
         have d2:decide (-8<E)=false:=bY h2;go_wp2
         go_meet
         exact⟨false,rfl,fun h=>(by cases h),HO5,⟨HK5.out.mono (by omega)⟩⟩
       ·have d1:decide (E<=0)=false:=bY h1
        go_wp2
        go_meet
        exact⟨false,rfl,fun h=>(by cases h),HO5,⟨HK5.out.mono (by omega)⟩⟩
      case rest=>
       obtain⟨t,rfl,ht2,HO7,HK7⟩:=hcut;obtain⟨gb,cap,rfl,hgb⟩:=rY HO7.out HC.out.ne;have hl:=HC.out.len;have hbl:=HSl.out;obtain⟨Ar,cr,er,hcr,EW⟩:=Kd.jo HO7.out;injection er with er1 er2 er3
       subst er1;subst er3;have hpos:0<cur.length:=List.length_pos_iff.2 HC.out.ne;cases t
       ·obtain⟨d,c,hdc⟩:∃d c,cur=d::c:=by
         cases Jd:cur with
         |nil=>exact absurd Jd HC.out.ne
         |cons d c=>exact⟨d,c,rfl⟩
        have hln:cur.length=c.length+1:=by rw[hdc];rfl
        have HR1:RdB wc (some ⟨gb,0,none⟩) 1 [d]:=by
         have:=Kd.BP EW (show 1<=cur.length by omega)
         rwa [hdc]at this
        have f1:=iI (c:=cap) HR1;have b1:1<=cap:=by omega
        have b2:1<=cur.length:=by omega
        have k1:∀W:World,(Op.stringOp .add (str S) (str [d])).run Tryz.prog W= .ok (.string (str (S++[d]))) W:=iH S [d] (by show _+1<=_;omega)
        have HCr:=ah (And.intro EW hcr);have HDC:=ah hdc;have HLn:=ah hln;obtain⟨T0,hT0⟩:∃T0,T0=S++[d]:=⟨_,rfl⟩
        have ajA:T0.length<=2:=by rw[hT0,List.length_append];show _+1<=_;omega
        rw[<-hT0]at k1;have HT0:=ah hT0;clear hT0 EW hcr HR1 hdc hln
        go_upto_if 124 with fail
        go_cut [11] (fun s11 wx=>s11= .string (str (T0++(if c=[]then[]else 46::c)))/\aC (WK w0 W wx p P a 2 vb vl))
        case first=>
         by_cases hc:c=[]
         ·have HE:=ah (show T0++(if c=[]then[]else 46::c)=T0 by rw[if_pos hc,List.append_nil])
          have d1:decide ((1:Int)<(cur.length:Int))=false:=bY (by rw[HLn.out,hc];simp);have d2:¬1<cur.length:=by rw[HLn.out,hc];simp
          clear hc;go_wp2
          go_meet
          exact⟨by rw[HE.out],HK7⟩
         ·have HE:=ah (show T0++(if c=[]then[]else 46::c)=T0++(46::c)by rw[if_neg hc])
          have hc0:0<c.length:=List.length_pos_iff.2 hc;have d1:decide ((1:Int)<(cur.length:Int))=true:=bZ (by have:=HLn.out;omega);have d2:1<cur.length:=by have:=HLn.out;omega
          have HR2:RdB wc (some ⟨gb,1,none⟩) (cur.length-1) c:=by
           have:=Kd.Gi (c:=cap) HCr.out.1 (show 1<=cur.length by omega) HCr.out.2;rw[List.length_drop,if_neg (by have:=HCr.out.2;omega),Option.map_some]at this
           have e:(Addr.add ⟨gb,0,none⟩ (1*(Kd.int .u8).sz))=⟨gb,1,none⟩:=by
            show Addr.add ⟨gb,0,none⟩ (1*1)=_;rw[Nat.mul_one,Md _ _ (by omega)]
           rw[e,HDC.out]at this;rw[HDC.out];exact this
          have f2:=iI (c:=cap-1) HR2;have b3:¬cap=1:=by have:=HCr.out.2;omega
          have k2:∀W:World,(Op.stringOp .add ⟨#[46]⟩ (str c)).run Tryz.prog W= .ok (.string (str (46::c))) W:=iH [46] c (by have:=HLn.out;show 1+_<=_;omega)
          have k3:∀W:World,(Op.stringOp .add (str T0) (str (46::c))).run Tryz.prog W= .ok (.string (str (T0++(46::c)))) W:=iH T0 (46::c) (by have:=HLn.out;rw[List.length_cons];omega)
          clear hc HR2;go_wp2
          go_meet
          exact⟨by rw[HE.out],HK7⟩
        case rest=>
         obtain⟨rfl,HK8⟩:=hcut;obtain⟨T1,hT1⟩:∃T1,T1=T0++(if c=[]then[]else 46::c):=⟨_,rfl⟩
         have Rh:T1.length<=30:=by
          rw[hT1,List.length_append];have:=HLn.out
          split
          ·simp;omega
          ·rw[List.length_cons];omega
         rw[<-hT1];have HT1:=ah hT1;have YO:=ah (fun(Z:List Int)(hZ:Z=[101]∨Z=[69])=>iH T1 Z (by rcases hZ with rfl|rfl<;>simp<;>omega));have Np:=ah HK8.out.plt;have w9:IntKind.i64.wrap (E-1)=E-1:=by rw[IntKind.wrap_i64];omega
         have agQ:=ah Rh;clear hT1 Rh
         go_upto_if 141 with(go_at_call 43;(with_reducible refine(LV.out 2 _ 2 (by decide) (by omega) (HK8.out.below (ak (bg _ _) _))).mono ?_);rintro e w8⟨v,rfl,hv,hk,hr,hb⟩;obtain⟨Z,hZ,hz1⟩:=aat [101] [69] hv;have v0:=hv.1;have v1:=hv.2;have q0:=su hb Np.out hz1;have HK9:=ah hk;have k4:=YO.out Z hZ;have HZ:=ah hZ;clear hk hr hb hZ hv)
         obtain⟨T2,hT2⟩:∃T2,T2=T1++Z:=⟨_,rfl⟩
         have HT2:=ah hT2
         have YP:T2.length<=31:=by
          have h1:=agQ.out;rw[hT2,List.length_append];rcases HZ.out with h|h<;>rw[h]<;>show _+1<=_<;>omega
         rw[<-hT2];clear hT2
         go_cut [11] (fun s11 wx=>∃sg:List Int,s11= .string (str (T2++sg))/\((0<=E-1/\(sg=[]∨sg=[43]))∨(E-1<0/\sg=[]))/\aC (WK w0 W wx p P a 4 vb vl))
         case first=>
          by_cases he:0<=E-1
          ·have d1:decide (0<=E-1)=true:=bZ he
           have d1':decide (1<=E)=true:=bZ (by omega);have aey:=ah HK9.out.plt;have aez:=ah (fun(Z:List Int)(hZ:Z=[]∨Z=[43])=>iH T2 Z (by rcases hZ with rfl|rfl<;>simp<;>omega))
           go_wp2_with (go_at_call 43;(with_reducible refine(LV.out 3 _ 2 (by decide) (by omega) (HK9.out.below (ak (bg _ _) _))).mono ?_);rintro e w10⟨v2,rfl,hv,hk,hr,hb⟩;obtain⟨Z2,hZ2,hz2⟩:=aat [] [43] hv;have v20:=hv.1;have v21:=hv.2;have q1:=su hb aey.out hz2;have HK10:=ah hk;have k5:=aez.out Z2 hZ2;have HZ2:=ah hZ2;clear hk hr hb hZ2 hv)
           go_meet
           exact⟨Z2,rfl,.inl ⟨he,HZ2.out⟩,HK10⟩
          ·have d1:decide (0<=E-1)=false:=bY he
           have d1':decide (1<=E)=false:=bY (by omega);go_wp2
           go_meet
           exact⟨[],by rw[List.append_nil],.inr ⟨by omega,rfl⟩,⟨HK9.out.mono (by omega)⟩⟩
         case rest=>
          obtain⟨sg,rfl,hsg,HK11⟩:=hcut;have hsl:sg.length<=1:=by rcases hsg with⟨_,h|h⟩|⟨_,h⟩<;>rw[h]<;>simp
          have HX:=ah (UW (f:=f) (n:=n) (d:=d) (c:=c) (P:=E) (by rw[<-HG.out];exact HGp.out.1) (by rw[<-HG.out,<-HDC.out];exact HC.out.mono (by omega)) (if Z=[101]then 101 else 69) (by split<;>simp) sg hsg);have HZe:=ah (show Z=[if Z=[101]then 101 else 69]by rcases HZ.out with h|h<;>rw[h]<;>rfl);obtain⟨T3,hT3⟩:∃T3,T3=T2++sg:=⟨_,rfl⟩
          have agR:T3.length<=32:=by rw[hT3,List.length_append];omega
          have HT3:=ah hT3;rw[<-hT3]
          have hwl:(bG (E-1)).length<=30:=by
           unfold bG
           split
           ·have:=dU (show(E-1).toNat<18446744073709551616 by omega);omega
           ·have:=dU (show(-(E-1)).toNat<18446744073709551616 by omega);rw[List.length_cons];omega
          have k6:∀W:World,(Op.stringOp .add (str T3) (str (bG (E-1)))).run Tryz.prog W= .ok (.string (str (T3++bG (E-1)))) W:=iH T3 _ (by omega)
          clear hT3 hsg hsl agR hwl
          go_wp2_with (go_at_call 100;(with_reducible refine(AZ (E-1) _ (by omega) (by omega)).mono ?_);rintro e w12⟨rfl,m,rfl⟩)
          go_ret
          obtain⟨x,hx,ex⟩:=HX.out;exact⟨x,by rw[<-ex,<-HS.out,<-HT0.out,<-HT1.out,<-HZe.out,<-HT2.out,<-HT3.out];rfl,hx,(HK11.out.below (aS (bg _ _) _)).mono (by omega)⟩
       ·obtain⟨h1,h2⟩:=ht2 rfl
        obtain⟨j,hj⟩:∃j:Nat,-E=(j:Int):=⟨(-E).toNat,by omega⟩
        obtain⟨x,hx,ex⟩:=UU (f:=f) (n:=n) (c:=cur) (P:=E) (by rw[<-HG.out];exact HGp.out.1) (by rw[<-HG.out];exact HC.out.mono (by omega)) h1 h2;rw[hj,Int.toNat_natCast,<-HS.out]at ex;have HX:=ah (And.intro hx ex);have wn:IntKind.i64.wrap (-E)=(j:Int):=by rw[hj];rw[IntKind.wrap_i64];omega
        have wn2:wrap64 (-E)=(j:Int):=by rw[hj];unfold wrap64;omega
        have zc:=Rf j (by omega);have f1:=fun m=>iI (c:=cap) (Kd.Gf EW m)
        have f3:=iI (c:=cap) EW;have f5:=iI (c:=cap) (Kd.BN EW);have hrl:(List.replicate j (48:Int)).length=j:=List.length_replicate;obtain⟨T1,hT1⟩:∃T1,T1=S++[48,46]:=⟨_,rfl⟩
        obtain⟨T2,hT2⟩:∃T2,T2=T1++List.replicate j 48:=⟨_,rfl⟩
        obtain⟨Z,hZ⟩:∃Z:List Int,Z=List.replicate j 48:=⟨_,rfl⟩
        rw[<-hZ]at zc hT2 hrl;have Rh:T1.length<=3:=by rw[hT1,List.length_append];show _+2<=_;omega
        have YP:T2.length<=20:=by rw[hT2,List.length_append];omega
        have k1:∀W:World,(Op.stringOp .add (str S) ⟨#[48,46]⟩).run Tryz.prog W= .ok (.string (str T1)) W:=by rw[hT1];exact iH S [48,46] (by show _+2<=_;omega)
        have k2:∀W:World,(Op.stringOp .add (str T1) (str Z)).run Tryz.prog W= .ok (.string (str T2)) W:=by rw[hT2];exact iH T1 Z (by omega)
        have k3:∀W:World,(Op.stringOp .add (str T2) (str cur)).run Tryz.prog W= .ok (.string (str (T2++cur))) W:=iH T2 cur (by omega)
        have HX2:=ah (show T2++cur=x.bytes by rw[<-ex,hT2,hT1,hZ]);clear hT1 hT2 Rh YP hZ;have b1:j<=8:=by omega
        clear EW hcr hrl hx ex hj;go_wp2
        go_quiet (fail)
        go_wp2
        go_ret
        exact⟨x,by rw[<-HX2.out];rfl,HX.out.1,(HK7.out.below (aS (bg _ _) _)).mono (by omega)⟩
     ·obtain⟨h1,h2⟩:=ht rfl
      obtain⟨E,rfl⟩:=Int.eq_ofNat_of_zero_le (Int.le_of_lt h1);go_wp2
      go_loopg [9] (25-cur.length) (fun g' v9 w'=>∃c:List Int,g'+c.length=25/\aC (EX g n c E 25)/\aC (OwnB w' W.heap.size v9 c)/\aC (WK w0 W w' p P a 1 vb vl))
      case atStart=>exact⟨cur,by have:=HC.out.len;omega,⟨HC.out.mono (by omega)⟩,HO5,HK5⟩
      case round=>
       obtain⟨c,hg',HC6,HO6,HK6⟩:=hrel;have HO6':=HO6;obtain⟨gb,cap,rfl,hgb⟩:=rY HO6.out HC6.out.ne;have hl:=HC6.out.len
       by_cases hlt:c.length<E
       ·have HCn:=ah (HC6.out.pad (by omega) (by omega))
        have HLen:=ah (show c.length+1<=140737488355328 by omega);obtain⟨g',rfl⟩:∃g',gk=g'+1:=⟨gk-1,by omega⟩
        go_wp2_with (at_builtin;refine gG W.heap.size rfl (.tmp 68) (.tmp 69) rfl 48 rfl rfl ?aO ?aB HLen.out ?_;(case aO=>exact HO6.out);(case aB=>exact HK6.out.wle);intro v7 w7 ho7 hg7;have HO7:=ah ho7;have HK7:=ah (HK6.out.grown HW0.out HO6.out hg7);clear ho7 hg7)
        go_roundg g'
        case measure=>omega
        case rel=>exact⟨_,by rw[List.length_append,List.length_singleton];omega,HCn,HO7,HK7⟩
       ·by_cases heq:c.length=E
        ·subst heq
         have Np:=ah HK6.out.plt
         have HFin:=ah (show∀Z:List Int,(Z=[]∨Z=[46,48])->∃x,vw f n x/\S++(c++Z)=x.bytes by
          intro Z hZ;rcases hZ with rfl|rfl
          ·obtain⟨x,hx,ex⟩:=JA (f:=f) (n:=n) (c:=c) (P:=(c.length:Int)) (by rw[<-HG.out];exact HGp.out.1) (by rw[<-HG.out];exact HC6.out) rfl false
           exact⟨x,hx,by rw[HS.out,<-ex,List.append_assoc];rfl⟩
          ·obtain⟨x,hx,ex⟩:=JA (f:=f) (n:=n) (c:=c) (P:=(c.length:Int)) (by rw[<-HG.out];exact HGp.out.1) (by rw[<-HG.out];exact HC6.out) rfl true
           exact⟨x,hx,by rw[HS.out,<-ex,List.append_assoc];rfl⟩)
         have f1:=kY (Kd.nY HO6.out);have f2:=fun o=>kY (Kd.nY (Kd.kX HO6.out o))
         have k1:∀W:World,(Op.stringOp .add (str S) (str c)).run Tryz.prog W= .ok (.string (str (S++c))) W:=iH S c (by have:=HSl.out;omega)
         have YO:=ah (fun(Z:List Int)(hZ:Z=[]∨Z=[46,48])=>iH (S++c) Z (by have:=HSl.out;rcases hZ with rfl|rfl<;>simp<;>omega));go_wp2
         go_region_law (first|(go_simp;go_at_call 43;(with_reducible refine(LV.out 1 _ 2 (by decide) (by omega) (HK6.out.below (aQ (bg _ _)))).mono ?_);rintro e w8⟨v,rfl,hv,hk,hr,hb⟩;obtain⟨Z,hZ,hz1,hz2⟩:=aew hv;have v0:=hv.1;have v1:=hv.2;have f3:=kY (hr _ _ _ (Kd.nY HO6.out));have f4:=fun o=>kY (Kd.kX (hr _ _ _ (Kd.nY HO6.out)) o);have HK8:=ah hk;have k4:=YO.out Z hZ;have HZ:=ah hZ;clear hk hr hb hZ hv)|(go_simp;go_at_call 43;(with_reducible refine(LV.out 1 _ 2 (by decide) (by omega) (HK6.out.below (aQ (ak (bg _ _) _)))).mono ?_);rintro e w8⟨v,rfl,hv,hk,hr,hb⟩;obtain⟨Z,hZ,hz1,hz2⟩:=aew hv;have v0:=hv.1;have v1:=hv.2;have q0:=Jb hb Np.out hz1;have f3:=kY (hr _ _ _ (Kd.nY (Kd.kX HO6.out _)));have HK8:=ah hk;have k4:=YO.out Z hZ;have HZ:=ah hZ;clear hk hr hb hZ hv))
         all_goals
          go_wp2
          go_ret
          obtain⟨x,hx,ex⟩:=HFin.out Z HZ.out
          first|exact⟨x,by rw[<-ex];rfl,hx,HK8.out.mono (by omega)⟩|exact⟨x,by rw[<-ex];rfl,hx,(HK8.out.below (ak (bg _ _) _)).mono (by omega)⟩
        ·have hgt:E<c.length:=by omega
         obtain⟨x,hx,ex⟩:=UR (f:=f) (n:=n) (c:=c) (P:=(E:Int)) (by rw[<-HG.out];exact HGp.out.1) (by rw[<-HG.out];exact HC6.out) h1 (by omega);rw[Int.toNat_natCast,<-HS.out]at ex;have HX:=ah (And.intro hx ex);obtain⟨Ar,cr,er,hcr,EW⟩:=Kd.jo HO6.out;injection er with er1 er2 er3
         subst er1;subst er3;have HR1:RdB wr (some ⟨gb,0,none⟩) E (c.take E):=by have:=Kd.BP EW (show E<=c.length by omega);rwa [List.length_take,Nat.min_eq_left (by omega)]at this
         have HR2:RdB wr (some ⟨gb,E,none⟩) (c.length-E) (c.drop E):=by
          have:=Kd.Gi (c:=cap) EW (show E<=c.length by omega) hcr;rw[List.length_drop,if_neg (by omega)]at this
          have e:(Addr.add ⟨gb,0,none⟩ (E*(Kd.int .u8).sz))=⟨gb,E,none⟩:=by
           show Addr.add ⟨gb,0,none⟩ (E*1)=_;rw[Nat.mul_one,Md _ _ (by omega),Nat.zero_add]
          rw[Option.map_some,e]at this;exact this
         have f1:=fun m=>iI (c:=cap) (Kd.Gf HR1 m)
         have f2:=fun m=>iI (c:=cap-E) (Kd.Gf HR2 m)
         have f3:=iI (c:=cap) HR1;have f4:=iI (c:=cap-E) HR2;have f5:=iI (c:=cap) (Kd.BN HR1);have f6:=iI (c:=cap-E) (Kd.BN HR2);have b1:E<=cap:=by omega
         have b2:¬cap=E:=by omega
         have b3:E<=c.length:=by omega
         have hbl:=HSl.out;have hl1:(c.take E).length<=25:=by rw[List.length_take];omega
         have hl2:(c.drop E).length<=25:=by rw[List.length_drop];omega
         obtain⟨U,hU⟩:∃U,U=c.take E:=⟨_,rfl⟩
         obtain⟨V,hV⟩:∃V,V=c.drop E:=⟨_,rfl⟩
         rw[<-hU]at f1 f3 f5 hl1 ex;rw[<-hV]at f2 f4 f6 hl2 ex;obtain⟨T1,hT1⟩:∃T1,T1=S++U:=⟨_,rfl⟩
         obtain⟨T2,hT2⟩:∃T2,T2=T1++[46]:=⟨_,rfl⟩
         have Rh:T1.length<=26:=by rw[hT1,List.length_append];omega
         have YP:T2.length<=27:=by rw[hT2,List.length_append];show _+1<=_;omega
         have k1:∀W:World,(Op.stringOp .add (str S) (str U)).run Tryz.prog W= .ok (.string (str T1)) W:=by rw[hT1];exact iH S U (by omega)
         have k2:∀W:World,(Op.stringOp .add (str T1) ⟨#[46]⟩).run Tryz.prog W= .ok (.string (str T2)) W:=by rw[hT2];exact iH T1 [46] (by show _+1<=_;omega)
         have k3:∀W:World,(Op.stringOp .add (str T2) (str V)).run Tryz.prog W= .ok (.string (str (T2++V))) W:=iH T2 V (by omega)
         have HX2:=ah (show T2++V=x.bytes by rw[<-ex,hT2,hT1]);clear hT1 hT2 Rh YP hU hV;clear HR1 HR2 EW hcr hl1 hl2 hbl hx ex;go_wp2
         go_quiet (fail)
         go_wp2
         go_ret
         exact⟨x,by rw[<-HX2.out];rfl,HX.out.1,(HK6.out.below (aS (bg _ _) _)).mono (by omega)⟩
end Go.Proofs.YtapkmjfjikpnlaaGreatDoor
namespace Go.Proofs.YtapkmjfjikpnlaaGreatDoor
open Go.RowKit YtapkmjfjikpnlaaGreatDoorW.aG YtapkmjfjikpnlaaGreatDoorW.aJ
set_option linter.unusedVariables false
set_option linter.unusedSimpArgs false
def lU(c:Int):Prop:=c=32∨c=10∨c=9∨c=13∨c=44∨c=93∨c=125
theorem yg(c:Int)(h:lU c)(w:World):Calls Tryz.prog 175 #[.int .u8 c] w fun e w'=>e= .returned (.bool false)/\w=w':=by
 rcases h with rfl|rfl|rfl|rfl|rfl|rfl|rfl
 all_goals
  go_enter Tryz.func175,Tryz.ntmps175;go_wp2
  go_ret
  exact⟨rfl,rfl⟩
theorem GL(A1:Option Addr)(n1 c1:Nat)(l1:List Int)(A2:Option Addr)(n2 c2:Nat)(l2:List Int)(w:World)(h1:RdB w A1 n1 l1)(h2:RdB w A2 n2 l2):
 Calls Tryz.prog 207 #[.slice A1 n1 c1,.slice A2 n2 c2] w fun e w'=>e= .returned (.bool ((str l1).toList==(str l2).toList))/\w=w':=by
 have e1:=iI (c:=c1) h1;have e2:=iI (c:=c2) h2;clear h1 h2;go_enter Tryz.func207,Tryz.ntmps207;go_wp2
 go_ret
 exact⟨rfl,rfl⟩
theorem JD(A1:Option Addr)(n1 c1:Nat)(l1:List Int)(A2:Option Addr)(n2 c2:Nat)(l2:List Int)(w:World)(h1:RdB w A1 n1 l1)(hc:n1<=c1)(h2:RdB w A2 n2 l2)(hn:n2<=n1)(hp:l1.take n2=l2):
 Calls Tryz.prog 174 #[.slice A1 n1 c1,.slice A2 n2 c2] w fun e w'=>e= .returned (.bool true)/\w=w':=by
 obtain⟨ht1,ht2⟩:=jZ A1 n1 c1 n2 hn hc;have HE:=ah (GL A1 n2 c1 (l1.take n2) A2 n2 c2 l2 w (ht2 w l1 h1) h2);rw[hp]at HE;have d1:decide ((n2:Int)<=(n1:Int))=true:=bZ (by omega);have d2:decide (n2<=n1)=true:=bZ hn;have HH:((str l2).toList==(str l2).toList)=true:=by simp
 clear ht2 h1 h2 hp hc;go_enter Tryz.func174,Tryz.ntmps174
 go_wp2_with (go_at_call 207;(with_reducible refine HE.out.mono ?_);rw[HH];rintro e w1⟨rfl,rfl⟩)
 go_ret
 exact⟨rfl,rfl⟩
theorem GN(word:ByteArray)(A:Option Addr)(n c:Nat)(l:List Int)(w:World)(hr:RdB w A n l)(hc:n<=c)(hw:word.size<=n)(hp:l.take word.size=bytesOf word)(hd:word.size=n∨∃x,l[word.size]? =some x/\lU x):
 Calls Tryz.prog 141 #[.string word,.slice A n c] w fun e w'=>e= .returned (.int .i64 word.size)/\Below w.heap.size w w':=by
 have hl:=Kd.dG hr;have hcv:=mW word w;have HB:=ah (je (bg w.heap.size w) (Nat.le_refl _) 5 word);have HP:=ah (JD A n c l (some ⟨w.heap.size,0,none⟩) word.size (grownCap w word.size 0 5) (bytesOf word) (Lib.bytesWorld w 5 word) (Kd.aU hr HB.out) hc (qg w word (by have:=Kd.ou hr;omega)) hw hp)
 by_cases he:word.size=n
 ·have d1:decide ((word.size:Int)<(n:Int))=false:=bY (by omega)
  have d2:decide (word.size<n)=false:=bY (by omega);clear hr hp hd hc hw he hl;go_enter Tryz.func141,Tryz.ntmps141
  go_wp2_with (go_at_call 174;(with_reducible refine HP.out.mono ?_);rintro e w1⟨rfl,rfl⟩)
  go_ret
  exact⟨rfl,HB.out⟩
 ·obtain⟨x,hx,hdx⟩:∃x,l[word.size]? =some x/\lU x:=hd.resolve_left he
  obtain⟨ad,rfl,hcell⟩:=iD hr hx;have c1:=ay HB.out hcell;have d1:decide ((word.size:Int)<(n:Int))=true:=bZ (by omega);have d2:decide (word.size<n)=true:=bZ (by omega);have i0:(0:Int)<=(word.size:Int):=by omega
  have i1:(word.size:Int)<(n:Int):=by omega
  have HN:=ah (fun W=>yg x hdx W);clear hr hp hd hc hw he hl hx hdx hcell;go_enter Tryz.func141,Tryz.ntmps141
  go_wp2_with (first|(go_at_call 174;(with_reducible refine HP.out.mono ?_);rintro e w1⟨rfl,rfl⟩)|(go_at_call 175;(with_reducible refine(HN.out _).mono ?_);rintro e w1⟨rfl,rfl⟩))
  go_ret
  exact⟨rfl,HB.out⟩
end Go.Proofs.YtapkmjfjikpnlaaGreatDoor
namespace Go.Proofs.YtapkmjfjikpnlaaGreatDoor
open Go.Shelf Go.RowKit Go.Proofs.YtapkmjfjikpnlaaGreatDoorW.aG Go.Proofs.YtapkmjfjikpnlaaGreatDoorW.aJ
def GR:Go.Shelf.Ren:=⟨fun|32=>177|49=>209|n=>n,fun|30=>27|21=>21|3=>3|0=>0|5=>5|4=>4|33=>202|66=>260|25=>167|69=>263|68=>262|n=>n,fun|2=>3|3=>4|n=>n⟩
theorem UY:Lays7.n32 Tryz.prog GR:={
 mixed:=by kernel_rfl
 f32:=Tryz.func177.trans (congrArg some (by kernel_rfl))
 f49:=Tryz.func209.trans (congrArg some (by kernel_rfl))
 t0:=Tryz.underlying0
 a0:=Tryz.isAgg0
 z0:=Tryz.sizeOf0
 v0:=Tryz.zeroValue0
 i0:=by kernel_rfl
 t3:=Tryz.underlying3
 a3:=Tryz.isAgg3
 z3:=Tryz.sizeOf3
 v3:=Tryz.zeroValue3
 i3:=by kernel_rfl
 t4:=Tryz.underlying4
 a4:=Tryz.isAgg4
 z4:=Tryz.sizeOf4
 v4:=Tryz.zeroValue4
 i4:=by kernel_rfl
 t5:=Tryz.underlying5
 a5:=Tryz.isAgg5
 z5:=Tryz.sizeOf5
 v5:=Tryz.zeroValue5
 i5:=by kernel_rfl
 t21:=Tryz.underlying21
 a21:=Tryz.isAgg21
 z21:=Tryz.sizeOf21
 v21:=Tryz.zeroValue21
 i21:=by kernel_rfl
 t25:=Tryz.underlying167
 a25:=Tryz.isAgg167
 z25:=Tryz.sizeOf167
 v25:=Tryz.zeroValue167
 i25:=by kernel_rfl
 t30:=Tryz.underlying27
 a30:=Tryz.isAgg27
 z30:=Tryz.sizeOf27
 v30:=Tryz.zeroValue27
 i30:=by kernel_rfl
 t33:=Tryz.underlying202
 a33:=Tryz.isAgg202
 z33:=Tryz.sizeOf202
 v33:=Tryz.zeroValue202
 i33:=by kernel_rfl
 t66:=Tryz.underlying260
 a66:=Tryz.isAgg260
 z66:=Tryz.sizeOf260
 t68:=Tryz.underlying262
 a68:=Tryz.isAgg262
 z68:=Tryz.sizeOf262
 v68:=Tryz.zeroValue262
 i68:=by kernel_rfl
 t69:=Tryz.underlying263
 a69:=Tryz.isAgg263
 z69:=Tryz.sizeOf263
 v69:=Tryz.zeroValue263
 i69:=by kernel_rfl
 g2:=by kernel_rfl
 g3:=by kernel_rfl}
open Go.RowKit Go.Lib in
theorem GU(s:ByteArray)(b off cap:Nat)(w:World)(hT:Lib.Utf8Tabs 3 4 w)
 (hp:∀j,j<s.size->w.cell? ⟨b,off+j,none⟩=some (.int .u8 (s.get! j).toNat)):
 Calls Tryz.prog 177 #[.slice (some ⟨b,off,none⟩) s.size cap] w fun e w'=>e= .returned (.tuple #[.int .i32 (Lib.decodeGo s).1,.int .i64 (Lib.decodeGo s).2])/\Below w.heap.size w w':=Any7.utf8_DecodeRune UY s b off cap w hT hp
end Go.Proofs.YtapkmjfjikpnlaaGreatDoor
namespace Go.Proofs.YtapkmjfjikpnlaaGreatDoor
open Go.RowKit YtapkmjfjikpnlaaGreatDoorW.aG YtapkmjfjikpnlaaGreatDoorW.aJ
set_option linter.unusedVariables false
set_option linter.unusedSimpArgs false
def hexN(c:Int):Int:=if c<58 then c-48 else if c<71 then c-55 else c-87
def tV(c:Int):Prop:=(48<=c/\c<=57)∨(65<=c/\c<=70)∨(97<=c/\c<=102)
def hexW:List Int->Int->Int
 |[],a=>a
 |c::r,a=>hexW r (a*16+hexN c)
theorem tV.UZ{c:Int}(h:tV c):0<=hexN c/\hexN c<=15:=by
 unfold tV at h;unfold hexN
 split
 ·omega
 ·split<;>omega
theorem tV.low{c:Int}(h:tV c)(h9:58<=c):bits .or .u8 c 32=hexN c+87:=by
 unfold tV at h;have hh:c=65∨c=66∨c=67∨c=68∨c=69∨c=70∨c=97∨c=98∨c=99∨c=100∨c=101∨c=102:=by omega
 rcases hh with rfl|rfl|rfl|rfl|rfl|rfl|rfl|rfl|rfl|rfl|rfl|rfl<;>decide
theorem Ri(l:List Int)(c a:Int):hexW (l++[c]) a=hexW l a*16+hexN c:=by
 induction l generalizing a with
 |nil=>rfl
 |cons x r ih=>exact ih _
theorem YQ:∀(l:List Int),(∀x∈l,tV x)->l.length<=4->0<=hexW l 0/\hexW l 0<=16^l.length-1
 |[],_,_=>by decide
 |[a],h,_=>by have:=(h a (by simp)).UZ;simp only[hexW,List.length];omega
 |[a,b],h,_=>by
  have:=(h a (by simp)).UZ;have:=(h b (by simp)).UZ;simp only[hexW,List.length];omega
 |[a,b,c],h,_=>by
  have:=(h a (by simp)).UZ;have:=(h b (by simp)).UZ;have:=(h c (by simp)).UZ;simp only[hexW,List.length];omega
 |[a,b,c,d],h,_=>by
  have:=(h a (by simp)).UZ;have:=(h b (by simp)).UZ;have:=(h c (by simp)).UZ;have:=(h d (by simp)).UZ;simp only[hexW,List.length];omega
 |a::b::c::d::e::r,_,hl=>by simp only[List.length]at hl;omega
theorem lower_c(c:Int)(w:World):Calls Tryz.prog 228 #[.int .u8 c] w fun e w'=>e= .returned (.int .u8 (bits .or .u8 c 32))/\w=w':=by
 go_enter Tryz.func228,Tryz.ntmps228;go_wp2
 go_ret
 exact⟨rfl,rfl⟩
theorem JE(t:ByteArray)(l:List Int)(hl:bytesOf t=l)(h4:l.length=4)(hx:∀x∈l,tV x)(w:World):
 Calls Tryz.prog 210 #[.string t,.int .i64 16,.int .i64 16] w fun e w'=>e= .returned (.tuple #[.int .u64 (hexW l 0),.nilIface])/\Below w.heap.size w w':=by
 have hsz:t.size=4:=by have:=bytesOf_length t;rw[hl]at this;omega
 have hemp:t.toList.isEmpty=false:=by
  rw[<-decide_eq_emptyBytes];exact bY (fun h=>by rw[h]at hsz;cases hsz)
 have hcv:=mW t w;have HB:=ah (je (bg w.heap.size w) (Nat.le_refl _) 5 t);have hrd:=qg w t (by omega);rw[hsz,hl]at hrd;rw[hsz]at hcv;obtain⟨W1,hW1⟩:∃W1,W1=Lib.bytesWorld w 5 t:=⟨_,rfl⟩
 rw[<-hW1]at hcv HB hrd;clear hW1 hl
 have hmv:IntKind.u64.wrap (IntKind.u64.wrap 65536-1)=65535:=by
  rw[IntKind.wrap_u64,IntKind.wrap_u64]
  decide
 have hlow:=fun c W=>lower_c c W
 go_enter Tryz.func210,Tryz.ntmps210;go_wp2
 go_loop [12,13,101] (fun vu vn vi=>∃(k:Nat)(a:Int),vu= .bool false/\vn= .int .u64 a/\vi= .int .i64 k/\k<=4/\aC (a=hexW (l.take k) 0))
  (fun _ _ vi=>4-(intOf vi).toNat)
 case atStart=>exact⟨0,0,rfl,rfl,rfl,by omega,ah rfl⟩
 case round=>
  obtain⟨k,a,rfl,rfl,rfl,hk,hh⟩:=hrel
  by_cases hk4:k<4
  ·obtain⟨c,hc⟩:∃c,l[k]? =some c:=⟨l[k],List.getElem?_eq_getElem (by omega)⟩
   obtain⟨ad,had,hcell⟩:=iD hrd hc;obtain rfl:=Option.some.inj had;have hcx:tV c:=hx c (List.mem_of_getElem? hc);have hst:l.take (k+1)=l.take k++[c]:=by rw[List.take_add_one,hc];rfl
   have hb:=YQ (l.take k) (fun x hx'=>hx x (List.mem_of_mem_take hx')) (by rw[List.length_take];omega);have hkl:(l.take k).length=k:=by rw[List.length_take];omega
   rw[hkl]at hb
   have hp3:(16:Int)^k-1<=4095:=by
    rcases(by omega:k=0∨k=1∨k=2∨k=3)with rfl|rfl|rfl|rfl<;>decide
   have hcell':W1.cell? ⟨w.heap.size,k,none⟩=some (.int .u8 c):=by
    by_cases hk0:k=0
    ·subst hk0;exact hcell
    ·simpa [Addr.add,hk0]using hcell
   have a0:0<=a:=by rw[hh.out];exact hb.1
   have a1:a<=4095:=by rw[hh.out];have:=hb.2;omega
   have HN:aC (a*16+hexN c=hexW (l.take (k+1)) 0):=ah (by rw[hst,Ri,<-hh.out]);clear hp3 hkl hb hst hh hx h4 hc hemp hcv hcell had
   by_cases h9:c<58
   ·have hc0:48<=c:=by unfold tV at hcx;omega
    have hc1:c<=57:=by omega
    rw[show hexN c=c-48 by unfold hexN;simp[h9]]at HN;clear h9 hcx;go_wp2;refine⟨⟨k+1,a*16+(c-48),rfl,(by first|rfl|(congr 1;omega)),(by first|rfl|(congr 1;omega)),by omega,HN⟩,by simp[intOf];omega⟩
   ·have hy:=hcx.low (by omega)
    obtain⟨n0,n1⟩:=hcx.UZ
    have n2:10<=hexN c:=by unfold tV at hcx;unfold hexN;split;·omega
                           ·split<;>omega
    have hcl:58<=c:=by omega
    have Jd:c<=102:=by unfold tV at hcx;omega
    have hcs:c≠95:=by unfold tV at hcx;omega
    have HL:=ah (fun W=>lower_c c W);rw[hy]at HL;generalize hexN c=d at*;clear h9 hcx
    go_wp2_with (go_at_call 228;(with_reducible refine(HL.out _).mono ?_);rintro e w1⟨rfl,rfl⟩)
    refine⟨⟨k+1,a*16+d,rfl,(by first|rfl|(congr 1;omega)),(by first|rfl|(congr 1;omega)),by omega,HN⟩,by simp[intOf];omega⟩
  ·have hkk:k=4:=by omega
   subst hkk;have HN:aC (a=hexW l 0):=ah (by rw[hh.out,List.take_of_length_le (by omega)]);clear hh hx hemp hcv;go_wp2
   go_ret2
   exact⟨by rw[HN.out];rfl,HB.out⟩
theorem xA(t:ByteArray)(l:List Int)(hl:bytesOf t=l)(h4:l.length=4)(hx:∀x∈l,tV x)(w:World):
 Calls Tryz.prog 178 #[.string t,.int .i64 16,.int .i64 16] w fun e w'=>e= .returned (.tuple #[.int .u64 (hexW l 0),.nilIface])/\Below w.heap.size w w':=by
 have HC:=ah (JE t l hl h4 hx w);clear hl h4 hx;go_enter Tryz.func178,Tryz.ntmps178
 go_wp2_with (go_at_call 210;(with_reducible refine HC.out.mono ?_);rintro e w1⟨rfl,hb⟩;have HB:=ah hb)
 go_ret2
 exact⟨rfl,HB.out⟩
theorem JF(r:Int)(w:World):Calls Tryz.prog 179 #[.int .i32 r] w fun e w'=>e= .returned (.bool (decide (55296<=r)&&decide (r<57344)))/\w=w':=by
 by_cases h:55296<=r
 ·by_cases h2:r<57344
  ·go_enter Tryz.func179,Tryz.ntmps179
   go_wp2
   go_ret
   exact⟨by simp[h,h2],rfl⟩
  ·go_enter Tryz.func179,Tryz.ntmps179
   go_wp2
   go_ret
   exact⟨by simp[h2],rfl⟩
 ·go_enter Tryz.func179,Tryz.ntmps179
  go_wp2
  go_ret
  exact⟨by rw[bY (Int.not_le.2 h)];rfl,rfl⟩
theorem or32{x y:Int}(h0:0<=x)(h1:x<2^20)(hm:x%2^10=0)(h2:0<=y)(h3:y<2^10):bits .or .i32 x y=x+y:=
 bits_join .i32 30 (by decide) (fun n h h'=>by rw[IntKind.wrap_i32];omega) 10 x y h0 hm (by omega) h2 h3 (by omega)
theorem Rj(x y:Int)(h0:0<=x)(h1:x<1024)(h2:0<=y)(h3:y<1024)(w:World):
 Calls Tryz.prog 180 #[.int .i32 (55296+x),.int .i32 (56320+y)] w fun e w'=>e= .returned (.int .i32 (x*1024+y+65536))/\w=w':=by
 have e1:IntKind.i32.wrap (55296+x-55296)=x:=by rw[IntKind.wrap_i32];omega
 have e2:IntKind.i32.wrap (56320+y-56320)=y:=by rw[IntKind.wrap_i32];omega
 have e3:IntKind.i32.wrap (x*1024)=x*1024:=by rw[IntKind.wrap_i32];omega
 have e4:=or32 (x:=x*1024) (y:=y) (by omega) (by omega) (by omega) (by omega) (by omega);have e5:IntKind.i32.wrap (x*1024+y+65536)=x*1024+y+65536:=by rw[IntKind.wrap_i32];omega
 go_enter Tryz.func180,Tryz.ntmps180;go_wp2
 go_ret
 exact⟨rfl,rfl⟩
end Go.Proofs.YtapkmjfjikpnlaaGreatDoor
