/- A part of FnMsgJsonMeans. No conditions. -/
import Derived.Test.YtapkmjfjikpnlaaGreatDoorM22
set_option maxHeartbeats 8000000
set_option maxRecDepth 100000
namespace Go.Proofs.YtapkmjfjikpnlaaGreatDoor
open Go.RowKit YtapkmjfjikpnlaaGreatDoorW.aG YtapkmjfjikpnlaaGreatDoorW.aJ
set_option linter.unusedVariables false
set_option linter.unusedSimpArgs false
theorem afb{a b c:Nat}(h1:b<=a+2)(h2:a+(99000000+c)<=1000000000000):b+(98999998+c)<=1000000000000:=by omega
theorem Wi(S:fM)(hS:jW S)(n:Nat)(w0:World)(p:Nat)(P:List Int)(A0:Option Addr)(c0:Nat)(A1:Option Addr)(c1:Nat)(hP:qE P)(hSR:qZ w0 S A0 c0 A1 c1)(hpt:He S n w0 p P A0 c0 A1 c1):RF S n w0 p P A0 c0 A1 c1:=by
 intro t v A2 c2 W s vb vl hC hF hV hs hj;obtain⟨W3,hW3⟩:∃W3,W3=((W.alloc (.cells #[.slice A0 S.ms.length c0,.slice A1 S.es.length c1] 25)).alloc (.cells #[.string t.name,.int .i64 t.num,.int .i64 t.kind,.bool t.rep,.bool t.map,.int .i64 t.typ] 70)).alloc (.cells #[.bool v.B,.int .i64 v.I,.int .u64 v.U,.int .u64 v.F,.string v.S,.slice A2 v.dA.length c2] 76):=⟨_,rfl⟩
 have hB3:Below W.heap.size W W3:=by rw[hW3];exact ak (ak (ak (bg _ _) _) _) _
 have hX3:Bx3 W3 W.heap.size (W.heap.size+1) (W.heap.size+1+1) S A0 c0 A1 c1 t v A2 c2:=by
  rw[hW3];refine⟨?_,?_,?_⟩
  ·exact bn (bn (aP W _) _) _
  ·have:=bn (aP (W.alloc (.cells #[.slice A0 S.ms.length c0,.slice A1 S.es.length c1] 25)) (.cells #[.string t.name,.int .i64 t.num,.int .i64 t.kind,.bool t.rep,.bool t.map,.int .i64 t.typ] 70)) (.cells #[.bool v.B,.int .i64 v.I,.int .u64 v.U,.int .u64 v.F,.string v.S,.slice A2 v.dA.length c2] 76)
   simpa using this
  ·have:=aP ((W.alloc (.cells #[.slice A0 S.ms.length c0,.slice A1 S.es.length c1] 25)).alloc (.cells #[.string t.name,.int .i64 t.num,.int .i64 t.kind,.bool t.rep,.bool t.map,.int .i64 t.typ] 70)) (.cells #[.bool v.B,.int .i64 v.I,.int .u64 v.U,.int .u64 v.F,.string v.S,.slice A2 v.dA.length c2] 76)
   simpa using this
 have HX3:=ah hX3;have HJ3:=ah (hj.below hB3);have HK3:=ah (bD.below hB3);have kQ:=ah hs;have HP:=ah hP;have LV:=ah (fun(k:Nat)(wx:World)(m:Int)(hm:0<m)(hk:k<=7)(h:WK w0 W3 wx p P s.a k vb vl)=>MZ w0 W3 wx p P s.a k vb vl m hm hP (by have:=s.Jm;omega) h);have HWK:=ah (WK.mk0 (hj.below hB3).jw (hj.below hB3).be);have HPT:=ah hpt;have HC:=ah hC;have HF:=ah hF;have HV:=ah hV;subst hW3;clear hB3 hX3 hs hP hj hpt hC;go_enter Tryz.func49,Tryz.ntmps49
 go_upto_region 1 with fail
 obtain⟨z1,z2,z3,z4,z5,z6,z7,z8,z9,z10⟩:=HX3.out.cells
 go_upto_region 2 with(go_at_call 93;(with_reducible refine(nM _ _).mono ?_);rintro e w1⟨rfl,rfl⟩)
 go_cut [8,9] (fun s8 s9 wx=>∃(b8 q:Bool),s8= .bool b8/\s9= .bool q/\aC (WK w0 (((W.alloc (.cells #[.slice A0 S.ms.length c0,.slice A1 S.es.length c1] 25)).alloc (.cells #[.string t.name,.int .i64 t.num,.int .i64 t.kind,.bool t.rep,.bool t.map,.int .i64 t.typ] 70)).alloc (.cells #[.bool v.B,.int .i64 v.I,.int .u64 v.U,.int .u64 v.F,.string v.S,.slice A2 v.dA.length c2] 76)) wx p P s.a 2 vb vl))
 case first=>
  cases hnb:dQ t.kind
  ·go_wp2_with (go_at_call 43;first|((with_reducible refine(LV.out 0 _ 4 (by decide) (by omega) HWK.out).mono ?_);rintro e w1⟨v1,rfl,hv,hk,hr,hb⟩;have HK1:=ah hk;clear hk hr hb;rcases int4 hv.1 hv.2 with rfl|rfl|rfl|rfl)|((with_reducible refine(LV.out 1 _ 3 (by decide) (by omega) HK1.out).mono ?_);rintro e w2⟨v2,rfl,hv2,hk2,hr2,hb2⟩;have HK2:=ah hk2;clear hk2 hr2 hb2))
   ·go_meet
    exact⟨_,true,rfl,rfl,⟨HK1.out.mono (by omega)⟩⟩
   all_goals
    go_meet
    exact⟨_,_,rfl,rfl,HK2⟩
  ·go_wp2_with (go_at_call 43;(with_reducible refine(LV.out 0 _ 4 (by decide) (by omega) HWK.out).mono ?_);rintro e w1⟨v1,rfl,hv,hk,hr,hb⟩;have HK1:=ah hk;clear hk hr hb;rcases int4 hv.1 hv.2 with rfl|rfl|rfl|rfl)
   ·go_meet
    exact⟨_,true,rfl,rfl,⟨HK1.out.mono (by omega)⟩⟩
   all_goals
    go_meet
    exact⟨_,false,rfl,rfl,⟨HK1.out.mono (by omega)⟩⟩
 case rest=>
  obtain⟨b8,q,rfl,rfl,HKx⟩:=hcut;obtain⟨a',k1,k2,k3,k4⟩:=WK.abO HJ3.out HKx.out;clear z1 z2 z3 z4 z5 z6 z7 z8 z9 z10;have HXc:=ah (HX3.out.keep k4);obtain⟨z1,z2,z3,z4,z5,z6,z7,z8,z9,z10⟩:=HXc.out.cells;have Ob:=ah k3;have Wj:=ah (HK3.out.trans k4);obtain⟨s1,hs1⟩:∃s1,s1=qK a' s:=⟨_,rfl⟩
  have wQ:=ah (show kC s s1 [] 2 by rw[hs1];exact oN P s k1 k2);rw[<-hs1]at Ob;have HS1:=ah (show s1.sz+(98999998+KM*(1+2*iP n v.dA))<=1000000000000 by have h1:=wQ.out.sz;have h2:=kQ.out;exact afb h1 h2);clear k1 k2 k3 k4 hs1;rcases HV.out with⟨h,hv⟩|⟨h,hv⟩|⟨h,hv⟩|⟨h,hv⟩|⟨h,hv⟩|⟨h,hv⟩|⟨h,hv⟩|⟨h,hv⟩
  ·skip
   have b8:(aT t.kind==8)=false:=eqF (by omega);have b1:(aT t.kind==1)=true:=kZ h;have HH:=ah h;have HVb:=ah hv;clear h hv;cases hB:v.B
   ·rw[hB]at z5
    have HB1:=ah hB;have za:∀o,(wc.alloc o).cell? ⟨W.heap.size+1+1,0,none⟩=some (.bool false):=fun o=>by rw[<-hB];exact(aA (bn HXc.out.b3 o) 0).trans rfl
    have ht:=rZ HP.out s1 ⟨4,⟨#[102,97,108,115,101]⟩,⟨#[]⟩,false⟩ .Nc;have HT:=ah ht;have h5:(⟨#[102,97,108,115,101]⟩:ByteArray).size<=5:=by decide
    have HTs:=ah (show 2+(6+(⟨#[102,97,108,115,101]⟩:ByteArray).size)<=(99000000+KM*(1+2*iP n v.dA))by unfold KM;omega);have hbd:s1.sz+(6+(⟨#[102,97,108,115,101]⟩:ByteArray).size)<=1000000000000:=by have h1:=HS1.out;unfold KM at h1;omega
    have HQ:=ah (fun W'(h':nX w0 W' p P s1 vb vl)=>wz w0 W' p P s1 vb vl 4 0 ⟨#[]⟩ ⟨#[]⟩ ⟨#[102,97,108,115,101]⟩ false HP.out (Nat.le_trans ht.sz hbd) h');clear ht hB h5 hbd z1 z2 z4 z6 z7 z8 z9 z10 b8 HX3 HJ3 HK3 LV HWK HPT HC HV HF kQ hV hF hSR HXc HVb
    go_wp2_with (go_at_call 42;(with_reducible refine(bH _ _).mono ?_);rintro e w5⟨rfl,rfl⟩)
    clear z3 b1
    go_region_law (first|(go_simp;go_at_call 94;(with_reducible refine(AX _ _).mono ?_);rintro e w6⟨rfl,rfl⟩)|(go_simp;go_at_call 44;(with_reducible refine(HQ.out _ (Ob.out.below (aQ (ak (bg _ _) _)))).mono ?_);rintro e w6⟨rfl,⟨vb6,vl6,hj6⟩,hk6⟩;have HJ6:=ah hj6;have HK6:=ah ((Wj.out.trans (bD.below (aQ (ak (bg _ _) _)))).trans hk6);clear hj6 hk6))
    all_goals
     go_end0
     refine⟨rfl,_,_,vb6,vl6,HJ6.out,HK6.out,(wQ.out.trans HT.out).mono HTs.out,jB (.inr (.inl rfl)),.inr (.inl ⟨HH.out,⟨#[102,97,108,115,101]⟩,⟨#[]⟩,?_⟩)⟩;rw[HB1.out]
     rfl
   ·rw[hB]at z5
    have HB1:=ah hB;have za:∀o,(wc.alloc o).cell? ⟨W.heap.size+1+1,0,none⟩=some (.bool true):=fun o=>by rw[<-hB];exact(aA (bn HXc.out.b3 o) 0).trans rfl
    have ht:=rZ HP.out s1 ⟨4,⟨#[116,114,117,101]⟩,⟨#[]⟩,true⟩ .UO;have HT:=ah ht;have h5:(⟨#[116,114,117,101]⟩:ByteArray).size<=5:=by decide
    have HTs:=ah (show 2+(6+(⟨#[116,114,117,101]⟩:ByteArray).size)<=(99000000+KM*(1+2*iP n v.dA))by unfold KM;omega);have hbd:s1.sz+(6+(⟨#[116,114,117,101]⟩:ByteArray).size)<=1000000000000:=by have h1:=HS1.out;unfold KM at h1;omega
    have HQ:=ah (fun W'(h':nX w0 W' p P s1 vb vl)=>wz w0 W' p P s1 vb vl 4 0 ⟨#[]⟩ ⟨#[]⟩ ⟨#[116,114,117,101]⟩ true HP.out (Nat.le_trans ht.sz hbd) h');clear ht hB h5 hbd z1 z2 z4 z6 z7 z8 z9 z10 b8 HX3 HJ3 HK3 LV HWK HPT HC HV HF kQ hV hF hSR HXc HVb
    go_wp2_with (go_at_call 42;(with_reducible refine(bH _ _).mono ?_);rintro e w5⟨rfl,rfl⟩)
    clear z3 b1
    go_region_law (first|(go_simp;go_at_call 94;(with_reducible refine(AX _ _).mono ?_);rintro e w6⟨rfl,rfl⟩)|(go_simp;go_at_call 44;(with_reducible refine(HQ.out _ (Ob.out.below (aQ (ak (bg _ _) _)))).mono ?_);rintro e w6⟨rfl,⟨vb6,vl6,hj6⟩,hk6⟩;have HJ6:=ah hj6;have HK6:=ah ((Wj.out.trans (bD.below (aQ (ak (bg _ _) _)))).trans hk6);clear hj6 hk6))
    all_goals
     go_end0
     refine⟨rfl,_,_,vb6,vl6,HJ6.out,HK6.out,(wQ.out.trans HT.out).mono HTs.out,jB (.inr (.inl rfl)),.inr (.inl ⟨HH.out,⟨#[116,114,117,101]⟩,⟨#[]⟩,?_⟩)⟩;rw[HB1.out]
     rfl
  ·skip
   have b8:(aT t.kind==8)=false:=eqF (by omega);have b1:(aT t.kind==1)=false:=eqF (by omega);have b5:(aT t.kind==5)=false:=eqF (by omega);have b6:(aT t.kind==6)=false:=eqF (by omega);have b7:(aT t.kind==7)=false:=eqF (by omega);have b2:(aT t.kind==2)=true:=kZ h;obtain⟨hv0,hr0,hr1,hv2⟩:=hv;have HH:=ah h;obtain⟨x,hx,hi,hxl⟩:=Di P HP.out s1.a v.I (by omega)
   have hlen:(bG v.I).length<=30:=by
    unfold bG
    split
    ·have:=dU (show v.I.toNat<18446744073709551616 by omega);omega
    ·have:=dU (show(-v.I).toNat<18446744073709551616 by omega);rw[List.length_cons];omega
   have hlen1:0<(bG v.I).length:=by rw[jR,List.length_append];have:=List.length_pos_iff.2 (nD v.I.natAbs);omega
   have yL:=ah (And.intro hr0 hr1);have RX:=ah hx;have Zn:=ah (And.intro hi hxl);have HWt:=ah (fun W'(h':nX w0 W' p P s1 vb vl)=>vg w0 W' p P s1 vb vl (str (bG v.I)) HP.out (by rw[bV];omega) (by rw[bV];omega) (by have h1:=HS1.out;unfold KM at h1;omega) h');have Fa:=ah (oN P s1 (a':=dB P s1.a) (K:=1) (dX P s1.a).1 (by have:=(dX P s1.a).2;omega));have sS:=ah (fun W'(h':nX w0 W' p P (qK (dB P s1.a) s1) vb vl)=>zx w0 W' p P (qK (dB P s1.a) s1) vb vl x q HP.out hi.1 (by omega) (yA hi.1) (by have h1:=HS1.out;have h2:=Fa.out.sz;unfold KM at h1;omega) h');clear hx hi hxl hlen hlen1 h hv0 hr0 hr1
   go_wp2_with (first|(go_at_call 42;(with_reducible refine(bH _ _).mono ?_);rintro e w5⟨rfl,rfl⟩)|(go_at_call 100;(with_reducible refine(AZ _ _ yL.out.1 yL.out.2).mono ?_);rintro e w6⟨rfl,m6,rfl⟩)|(go_at_call 99;(with_reducible refine(HWt.out _ (Ob.out.below (aS (bg _ _) _))).mono ?_);rintro e w7⟨rfl,hj7,hk7⟩;rw[RX.out];have HJ7:=ah hj7;have HK7:=ah ((Wj.out.trans (bD.below (aS (bg _ _) _))).trans hk7);clear hj7 hk7)|(go_at_call 98;(with_reducible refine(sS.out _ HJ7.out).mono ?_);rintro e w8⟨rfl,ho⟩;have HO:=ah ho;clear ho))
   go_end0
   refine⟨rfl,(HO.out.pre HK7.out (wQ.out.trans Fa.out) (Q':=fun X=>lG (X.map Prod.snd)/\wL S n t v (tks X)) (fun Y hY=>?_)).imp (by unfold KM;omega) (fun _ h=>h)⟩;exact⟨hY.2,.inr (.inr (.inr (.inr (.inr (.inl ⟨HH.out,x,hY.1,Zn.out.1⟩)))))⟩
  ·skip
   have b8:(aT t.kind==8)=false:=eqF (by omega);have b1:(aT t.kind==1)=false:=eqF (by omega);have b5:(aT t.kind==5)=false:=eqF (by omega);have b6:(aT t.kind==6)=false:=eqF (by omega);have b7:(aT t.kind==7)=false:=eqF (by omega);have b2:(aT t.kind==2)=false:=eqF (by omega);have b3:(aT t.kind==3)=true:=kZ h;obtain⟨hv0,hr0,hr1,hv2⟩:=hv;have HH:=ah h;obtain⟨x,hx,hi,hxl⟩:=Di P HP.out s1.a v.U (by omega);rw[show bG v.U=fB v.U.toNat by rw[bG,if_pos hr0]]at hx;have hlen:=dU (show v.U.toNat<18446744073709551616 by omega);have hlen1:=List.length_pos_iff.2 (nD v.U.toNat);have UN:=ah (fun W=>by have:=xW v.U.toNat W (by omega);rw[Int.toNat_of_nonneg hr0]at this;exact this);have RX:=ah hx;have Zn:=ah (And.intro hi hxl);have HWt:=ah (fun W'(h':nX w0 W' p P s1 vb vl)=>vg w0 W' p P s1 vb vl (str (fB v.U.toNat)) HP.out (by rw[bV];omega) (by rw[bV];omega) (by have h1:=HS1.out;unfold KM at h1;omega) h');have Fa:=ah (oN P s1 (a':=dB P s1.a) (K:=1) (dX P s1.a).1 (by have:=(dX P s1.a).2;omega));have sS:=ah (fun W'(h':nX w0 W' p P (qK (dB P s1.a) s1) vb vl)=>zx w0 W' p P (qK (dB P s1.a) s1) vb vl x q HP.out hi.1 (by omega) (yA hi.1) (by have h1:=HS1.out;have h2:=Fa.out.sz;unfold KM at h1;omega) h');clear hx hi hxl hlen hlen1 h hv0 hr0 hr1
   go_wp2_with (first|(go_at_call 42;(with_reducible refine(bH _ _).mono ?_);rintro e w5⟨rfl,rfl⟩)|(go_at_call 101;(with_reducible refine(UN.out _).mono ?_);rintro e w6⟨rfl,m6,rfl⟩)|(go_at_call 99;(with_reducible refine(HWt.out _ (Ob.out.below (aS (bg _ _) _))).mono ?_);rintro e w7⟨rfl,hj7,hk7⟩;rw[RX.out];have HJ7:=ah hj7;have HK7:=ah ((Wj.out.trans (bD.below (aS (bg _ _) _))).trans hk7);clear hj7 hk7)|(go_at_call 98;(with_reducible refine(sS.out _ HJ7.out).mono ?_);rintro e w8⟨rfl,ho⟩;have HO:=ah ho;clear ho))
   go_end0
   refine⟨rfl,(HO.out.pre HK7.out (wQ.out.trans Fa.out) (Q':=fun X=>lG (X.map Prod.snd)/\wL S n t v (tks X)) (fun Y hY=>?_)).imp (by unfold KM;omega) (fun _ h=>h)⟩;exact⟨hY.2,.inr (.inr (.inr (.inr (.inr (.inr (.inl ⟨HH.out,x,hY.1,Zn.out.1⟩))))))⟩
  ·skip
   have b8:(aT t.kind==8)=false:=eqF (by omega);have b1:(aT t.kind==1)=false:=eqF (by omega);have b5:(aT t.kind==5)=false:=eqF (by omega);have b6:(aT t.kind==6)=false:=eqF (by omega);have b7:(aT t.kind==7)=false:=eqF (by omega);have b2:(aT t.kind==2)=false:=eqF (by omega);have b3:(aT t.kind==3)=false:=eqF (by omega);obtain⟨hv0,hr0,hr1⟩:=hv;have HH:=ah h;have HQ:=ah (Zf w0 wc p P s1 vb vl t.kind v.F HP.out hr0 hr1 (by have h1:=HS1.out;unfold KM at h1;omega) Ob.out);clear h hv0 hr0 hr1
   go_wp2_with (first|(go_at_call 42;(with_reducible refine(bH _ _).mono ?_);rintro e w5⟨rfl,rfl⟩)|(go_at_call 102;(with_reducible refine HQ.out.mono ?_);rintro e w6⟨rfl,ho⟩;have HO:=ah ho;clear ho))
   go_end0
   refine⟨rfl,(HO.out.pre Wj.out wQ.out (Q':=fun X=>lG (X.map Prod.snd)/\wL S n t v (tks X)) (fun Y hY=>?_)).imp (by unfold KM;omega) (fun _ h=>h)⟩;exact⟨hY.2,.inr (.inr (.inr (.inr (.inr (.inr (.inr ⟨HH.out,hY.1⟩))))))⟩
  ·skip
   have b8:(aT t.kind==8)=false:=eqF (by omega);have b1:(aT t.kind==1)=false:=eqF (by omega);have b5:(aT t.kind==5)=true:=kZ h;obtain⟨hv0,hr0,hr1⟩:=hv;have HH:=ah h;have HQ:=ah (zu w0 wc p P s1 vb vl v.S HP.out (by omega) hr0 (by have h1:=HS1.out;unfold KM at h1;omega) Ob.out);have HSz2:=ah hr1;clear h hv0 hr0 hr1
   go_wp2_with (first|(go_at_call 42;(with_reducible refine(bH _ _).mono ?_);rintro e w5⟨rfl,rfl⟩)|(go_at_call 95;(with_reducible refine HQ.out.mono ?_);rintro e w6⟨rfl,ho⟩;have HO:=ah ho;clear ho))
   go_end0
   refine⟨rfl,(HO.out.pre Wj.out wQ.out (Q':=fun X=>lG (X.map Prod.snd)/\wL S n t v (tks X)) (fun Y hY=>?_)).imp (by have:=HSz2.out;unfold KM;omega) (fun _ h=>h)⟩;obtain⟨w9,raw,rfl⟩:=hY;exact⟨jB (.inr (.inr (.inr rfl))),.inr (.inr (.inl ⟨HH.out,raw,false,rfl⟩))⟩
  ·skip
   have b8:(aT t.kind==8)=false:=eqF (by omega);have b1:(aT t.kind==1)=false:=eqF (by omega);have b5:(aT t.kind==5)=false:=eqF (by omega);have b6:(aT t.kind==6)=true:=kZ h;obtain⟨hv0,hr1⟩:=hv;have HH:=ah h;have HSz2:=ah hr1;have wH:=ah (Vr w0 wc p P s1.a vb vl v.S (by omega) HP.out (by have h1:=HS1.out;have:=s1.Jm;unfold KM at h1;omega) Ob.out.jw Ob.out.be);have HQ:=ah (fun W'(s':WS)(x:ByteArray)(hx:x.size<=2*v.S.size+4)(hb:zV x v.S)(hs':s'.sz<=s1.sz+2)(h':nX w0 W' p P s' vb vl)=>zu w0 W' p P s' vb vl x HP.out (by omega) (RH hb) (by have h1:=HS1.out;unfold KM at h1;omega) h');clear h hv0 hr1
   go_wp2_with (first|(go_at_call 42;(with_reducible refine(bH _ _).mono ?_);rintro e w5⟨rfl,rfl⟩)|(go_at_call 96;(with_reducible refine wH.out.mono ?_);rintro e w6⟨x,rfl,⟨hx1,hx2⟩,hk⟩;obtain⟨a6,k1,k2,k3,k4⟩:=WK.abO Ob.out hk;have HX:=ah (And.intro hx1 hx2);have HJ6:=ah k3;have HK6:=ah (Wj.out.trans k4);have Fa:=ah (oN P s1 k1 k2);clear hx1 hx2 hk k1 k2 k3 k4)|(go_at_call 95;(with_reducible refine(HQ.out _ _ x HX.out.2 HX.out.1 Fa.out.sz HJ6.out).mono ?_);rintro e w7⟨rfl,ho⟩;have HO:=ah ho;clear ho))
   go_end0
   refine⟨rfl,(HO.out.pre HK6.out (wQ.out.trans Fa.out) (Q':=fun X=>lG (X.map Prod.snd)/\wL S n t v (tks X)) (fun Y hY=>?_)).imp (by have:=HSz2.out;have:=HX.out.2;unfold KM;omega) (fun _ h=>h)⟩;obtain⟨w9,raw,rfl⟩:=hY;exact⟨jB (.inr (.inr (.inr rfl))),.inr (.inr (.inr (.inl ⟨HH.out,raw,x,false,rfl,HX.out.1⟩)))⟩
  ·skip
   have b8:(aT t.kind==8)=false:=eqF (by omega);have b1:(aT t.kind==1)=false:=eqF (by omega);have b5:(aT t.kind==5)=false:=eqF (by omega);have b6:(aT t.kind==6)=false:=eqF (by omega);have b7:(aT t.kind==7)=true:=kZ h;obtain⟨hv0,hr0,hr1⟩:=hv;have HH:=ah h;obtain⟨he0,he1⟩:=HF.out.enum h;obtain⟨en,hen⟩:=bF (show t.typ.toNat<S.es.length by omega);have hEn:=hS.en en (List.mem_of_getElem? hen.out);have HEl:=ah hen.out;obtain⟨ad,An,cn,Au,cu,eA,e1,e2,e3,e4,e5,e6⟩:=Ym (Kd.aU hSR.es Ob.out.be) hen.out;rw[eA]at z2;have Yb:=ah (fun W'(hb:Below wc.heap.size wc W')=>Nk en v.I An cn Au cu W' (Kd.aU e4 hb) (Kd.aU e6 hb) hEn.len hEn.nums);have ahg:=ah (JY hEn v.I);obtain⟨k,hk⟩:∃k:Nat,t.typ=(k:Int):=⟨t.typ.toNat,by omega⟩
   rw[hk]at z4;have hkn:t.typ.toNat=k:=by omega
   rw[hkn]at e1 e2;have i0:(0:Int)<=(k:Int):=by omega
   have i1:(k:Int)<(S.es.length:Int):=by omega
   obtain⟨nm,hnm⟩:∃nm,nm=(dM en v.I).1:=⟨_,rfl⟩
   have HNm0:=ah hnm;rw[<-hnm]at Yb;have HI:=ah (And.intro hr0 hr1);have HB:=ah (show∀s2:WS,s2.sz<=s1.sz+1->s2.sz+50000000<=1000000000000 by intro s2 h2;have h1:=HS1.out;simp only[KM]at h1;omega)
   have hlen:(bG v.I).length<=30:=by
    unfold bG
    split
    ·have:=dU (show v.I.toNat<18446744073709551616 by omega);omega
    ·have:=dU (show(-v.I).toNat<18446744073709551616 by omega);rw[List.length_cons];omega
   have hlen1:0<(bG v.I).length:=by rw[jR,List.length_append];have:=List.length_pos_iff.2 (nD v.I.natAbs);omega
   have HWt:=ah (fun W'(s2:WS)(h2:s2.sz<=s1.sz+1)(h':nX w0 W' p P s2 vb vl)=>vg w0 W' p P s2 vb vl (str (bG v.I)) HP.out (by rw[bV];omega) (by rw[bV];omega) (by have:=HB.out s2 h2;omega) h');have HWc:=ah (fun W'=>AZ v.I W' (by omega) (by omega));have HWn:=ah (fun a:Nat=>Di P HP.out a v.I (by omega));have Fa:=ah (fun s2:WS=>oN P s2 (a':=dB P s2.a) (K:=1) (dX P s2.a).1 (by have:=(dX P s2.a).2;omega));have sS:=ah (fun W'(s2:WS)(x:NT)(hi:x.ok)(hl:x.bytes.length<=60)(h2:s2.sz+3000<=1000000000000)(h':nX w0 W' p P s2 vb vl)=>NM w0 W' p P s2 vb vl x HP.out hi (by omega) (yA hi) h2 h');have HZ:=ah (fun W'(hb:bD wc W')=>(HXc.out.keep hb).cells.2.2.2.2.2.1);have HTx:=ah (fun W'(s2:WS)(h1:dh (bytesOf nm)=true)(h2:nm.size<=1100000)(h3:s2.sz<=s1.sz+1)(h':nX w0 W' p P s2 vb vl)=>zu w0 W' p P s2 vb vl nm HP.out (by omega) h1 (by have:=HB.out s2 h3;omega) h');have HPT3:=ah (fun W'(h':nX w0 W' p P s1 vb vl)=>yX w0 W' p P s1 vb vl 3 (by decide) HP.out (by have:=HB.out s1 (by omega);omega) h');clear hk hkn he0 he1 e4 e6 hnm hEn hen h hv0 hr0 hr1 hlen hlen1 eA z1 z5 z7 z8 z9 z10;cases hok:(dM en v.I).2
   ·rw[hok]at Yb
    have ND:=ah (show s1.sz<=s1.sz+1 by omega);obtain⟨x,hx,hi,hxl⟩:=HWn.out s1.a;have RX:=ah hx;have Zn:=ah (And.intro hi hxl);have HXo:=ah hi.1;have HL9:=ah (show(qK (dB P s1.a) s1).sz+3000<=1000000000000 by have h1:=(Fa.out s1).sz;have h2:=HB.out s1 ND.out;omega);clear hx hi hxl;clear hok
    go_wp2_with (go_at_call 42;(with_reducible refine(bH _ _).mono ?_);rintro e w5⟨rfl,rfl⟩)
    go_region_law (first|(go_simp;go_at_call 97;(with_reducible refine(Yb.out _ (aQ (bg _ _))).mono ?_);rintro e w6⟨rfl,hb6⟩;have HB6:=ah (au (aQ (bg _ _)) hb6);clear hb6))
    all_goals
     have z6':=HZ.out _ (bD.below HB6.out);have HJ6:=ah (Ob.out.below HB6.out);have HK6:=ah (Wj.out.trans (bD.below HB6.out))
     go_wp2_with (first|(go_at_call 100;(with_reducible refine(HWc.out _).mono ?_);rintro e w8⟨rfl,m8,rfl⟩)|(go_at_call 99;(with_reducible refine(HWt.out _ s1 ND.out (HJ6.out.below (aS (bg _ _) _))).mono ?_);rintro e w9⟨rfl,hj9,hk9⟩;rw[RX.out];have HJ9:=ah hj9;have HK9:=ah ((HK6.out.trans (bD.below (aS (bg _ _) _))).trans hk9);clear hj9 hk9)|(go_at_call 98;(with_reducible refine(sS.out _ _ x HXo.out Zn.out.2 HL9.out HJ9.out).mono ?_);rintro e w10⟨rfl,ho⟩;have HO:=ah ho;clear ho))
     go_end0
     refine⟨rfl,(HO.out.pre HK9.out (wQ.out.trans (Fa.out s1)) (Q':=fun X=>lG (X.map Prod.snd)/\wL S n t v (tks X)) (fun Y hY=>?_)).imp (by unfold KM;omega) (fun _ h=>h)⟩;obtain⟨hY1,hY2⟩:=hY;refine⟨hY2,.inr (.inr (.inr (.inr (.inl ⟨HH.out,en,HEl.out,.inr ?_⟩))))⟩;exact⟨x,_,_,hY1,Zn.out.1⟩
   ·rw[hok]at Yb
    have acu:=ahg.out hok;rw[<-HNm0.out]at acu;have HNv:=ah acu;have Wh:=ah hok;obtain⟨pv,hpv⟩:∃pv,pv=dK P s1.a 3:=⟨_,rfl⟩
    rw[<-hpv]at HPT3;obtain⟨s2,hs2⟩:∃s2,s2=qK (dB P s1.a) s1:=⟨_,rfl⟩
    have HSt2:=ah (show kC s s2 ([]++[]) (2+1)by rw[hs2];exact wQ.out.trans (Fa.out s1));have ND:=ah (show s2.sz<=s1.sz+1 by rw[hs2];exact(Fa.out s1).sz);rw[<-hs2]at HPT3;clear hok acu hpv hs2
    by_cases hp0:0<pv
    ·have d1:decide (0<pv)=true:=bZ hp0
     clear hp0
     go_wp2_with (go_at_call 42;(with_reducible refine(bH _ _).mono ?_);rintro e w5⟨rfl,rfl⟩)
     go_region_law (first|(go_simp;go_at_call 97;(with_reducible refine(Yb.out _ (aQ (bg _ _))).mono ?_);rintro e w6⟨rfl,hb6⟩;have HB6:=ah (au (aQ (bg _ _)) hb6);clear hb6))
     all_goals
      have HJ6:=ah (Ob.out.below HB6.out);have HK6:=ah (Wj.out.trans (bD.below HB6.out))
      go_wp2_with (first|(go_at_call 43;(with_reducible refine(HPT3.out _ HJ6.out).mono ?_);rintro e w7⟨rfl,hj7,hk7⟩;have HJ7:=ah hj7;have HK7:=ah (HK6.out.trans hk7);clear hj7 hk7)|(go_at_call 95;(with_reducible refine(HTx.out _ s2 HNv.out.1 HNv.out.2 ND.out HJ7.out).mono ?_);rintro e w8⟨rfl,ho⟩;have HO:=ah ho;clear ho))
      go_end0
      refine⟨rfl,(HO.out.pre HK7.out HSt2.out (Q':=fun X=>lG (X.map Prod.snd)/\wL S n t v (tks X)) (fun Y hY=>?_)).imp (by have:=HNv.out.2;unfold KM;omega) (fun _ h=>h)⟩;obtain⟨w9,raw,rfl⟩:=hY;exact⟨jB (.inr (.inr (.inr rfl))),.inr (.inr (.inr (.inr (.inl ⟨HH.out,en,HEl.out,.inl ⟨raw,false,Wh.out,by rw[<-HNm0.out];rfl⟩⟩))))⟩
    ·have d1:decide (0<pv)=false:=bY hp0
     obtain⟨x,hx,hi,hxl⟩:=HWn.out s2.a;have RX:=ah hx;have Zn:=ah (And.intro hi hxl);have HXo:=ah hi.1;have HL9:=ah (show(qK (dB P s2.a) s2).sz+3000<=1000000000000 by have h1:=(Fa.out s2).sz;have h2:=HB.out s2 ND.out;omega);clear hx hi hxl;clear hp0
     go_wp2_with (go_at_call 42;(with_reducible refine(bH _ _).mono ?_);rintro e w5⟨rfl,rfl⟩)
     go_region_law (first|(go_simp;go_at_call 97;(with_reducible refine(Yb.out _ (aQ (bg _ _))).mono ?_);rintro e w6⟨rfl,hb6⟩;have HB6:=ah (au (aQ (bg _ _)) hb6);clear hb6))
     all_goals
      have HJ6:=ah (Ob.out.below HB6.out);have HK6:=ah (Wj.out.trans (bD.below HB6.out));have z6a:=HZ.out _ (bD.below HB6.out)
      go_wp2_with (first|(go_at_call 43;(with_reducible refine(HPT3.out _ HJ6.out).mono ?_);rintro e w7⟨rfl,hj7,hk7⟩;have z6b:=HZ.out _ ((bD.below HB6.out).trans hk7);have HJ7:=ah hj7;have HK7:=ah (HK6.out.trans hk7);clear hj7 hk7)|(go_at_call 100;(with_reducible refine(HWc.out _).mono ?_);rintro e w8⟨rfl,m8,rfl⟩)|(go_at_call 99;(with_reducible refine(HWt.out _ s2 ND.out (HJ7.out.below (aS (bg _ _) _))).mono ?_);rintro e w9⟨rfl,hj9,hk9⟩;rw[RX.out];have HJ9:=ah hj9;have HK9:=ah ((HK7.out.trans (bD.below (aS (bg _ _) _))).trans hk9);clear hj9 hk9)|(go_at_call 98;(with_reducible refine(sS.out _ _ x HXo.out Zn.out.2 HL9.out HJ9.out).mono ?_);rintro e w10⟨rfl,ho⟩;have HO:=ah ho;clear ho))
      go_end0
      refine⟨rfl,(HO.out.pre HK9.out (HSt2.out.trans (Fa.out s2)) (Q':=fun X=>lG (X.map Prod.snd)/\wL S n t v (tks X)) (fun Y hY=>?_)).imp (by unfold KM;omega) (fun _ h=>h)⟩;obtain⟨hY1,hY2⟩:=hY;refine⟨hY2,.inr (.inr (.inr (.inr (.inl ⟨HH.out,en,HEl.out,.inr ?_⟩))))⟩;exact⟨x,_,_,hY1,Zn.out.1⟩
  ·skip
   have b8:(aT t.kind==8)=true:=kZ h;obtain⟨hv0,hfm,hmp⟩:=hv;have HH:=ah h;have HQ:=ah (HPT.out t.typ v.dA A2 c2 wc s1 vb vl HC.out hfm (by have h1:=HS1.out;simp only[KM]at h1 ⊢;omega) Ob.out);clear h hv0 hfm hmp
   go_wp2_with (first|(go_at_call 42;(with_reducible refine(bH _ _).mono ?_);rintro e w5⟨rfl,rfl⟩)|(go_at_call 20;(with_reducible refine HQ.out.mono ?_);rintro e w6⟨rfl,ho⟩;have HO:=ah ho;clear ho))
   go_end0
   refine⟨rfl,(HO.out.pre Wj.out wQ.out (Q':=fun X=>lG (X.map Prod.snd)/\wL S n t v (tks X)) (fun Y hY=>?_)).imp (by unfold KM;omega) (fun _ h=>h)⟩;exact⟨hY.1,.inl ⟨HH.out,hY.2⟩⟩
end Go.Proofs.YtapkmjfjikpnlaaGreatDoor
