/- A part of FnMsgJsonMeans. No conditions. -/
import Derived.Test.YtapkmjfjikpnlaaGreatDoorM08
set_option maxHeartbeats 4000000
set_option maxRecDepth 100000
namespace Go.Proofs.YtapkmjfjikpnlaaGreatDoor
open Go.RowKit YtapkmjfjikpnlaaGreatDoorW.aG YtapkmjfjikpnlaaGreatDoorW.aJ
set_option linter.unusedVariables false
set_option linter.unusedSimpArgs false
theorem JS.below{w0 W W1:World}{p:Nat}{P:List Int}{a:Nat}{b:List Int}{l:List Tok}{vb vl:Value}(h:JS w0 W p P a b l vb vl)(hb:Below W.heap.size W W1):JS w0 W1 p P a b l vb vl:=
 ⟨h.jw.below hb,Kd.dY h.ob hb,Kd.dY h.ol hb,au h.be hb⟩
def uZ(P:List Int)(x:ByteArray)(s:WS):WS:=keyS P (if dK P s.a 3=0 then x else camel x) (qK (dB P s.a) s)
theorem abm(P:List Int)(s:WS):s.sz<=(qK (dB P s.a) s).sz:=by
 have:=dX P s.a;simp only[WS.sz,qK];omega
theorem Yz(P:List Int)(x:ByteArray)(s:WS):s.sz<=(keyS P x s).sz:=
 Nat.le_trans (Gz P 32 x s).1 (Nat.le_trans (MQ P _).1 (Jl 58 _))
theorem YA(w0 W:World)(p:Nat)(P:List Int)(s:WS)(vb vl:Value)(x:ByteArray)(hP:qE P)(hx:x.size<=2147483647)(hx2:(camel x).size<=2147483647)(hv:dh (bytesOf x)=true)(hv2:dh (bytesOf (camel x))=true)(hs:(uZ P x s).sz<=1000000000000)(h:nX w0 W p P s vb vl):
 Calls Tryz.prog 47 #[.pointer (some ⟨p,0,none⟩),.string x] W (CP w0 W p P (uZ P x s)):=by
 have h1:=abm P s;have h2:=Yz P (if dK P s.a 3=0 then x else camel x) (qK (dB P s.a) s);have HP:=ah hP;have HJ:=ah h;have HX:=ah hx;have HZ:=ah (Nat.le_trans h1 (Nat.le_trans h2 hs))
 by_cases hz:dK P s.a 3=0
 ·have HN:=ah (show uZ P x s=keyS P x (qK (dB P s.a) s)by rw[uZ,if_pos hz])
  have HS:=ah (show(keyS P x (qK (dB P s.a) s)).sz<=1000000000000 by rw[<-HN.out];exact hs);have HQ:=ah (And.intro hv (show x.size<=4294967296 by omega));have z1:(dK P s.a 3==0)=true:=kZ hz;clear hP h hx hx2 hv hv2 hs h1 h2 hz;go_enter Tryz.func47,Tryz.ntmps47
  go_wp2_with (first|(go_at_call 41;(with_reducible refine(nO x _ HX.out).mono ?_);rintro e w1⟨rfl,hb1⟩;have HJ1:=ah (HJ.out.below hb1);have HK1:=ah (bD.below hb1);clear hb1)|(go_at_call 43;(with_reducible refine(yX w0 _ p P s vb vl 3 (by decide) HP.out HZ.out HJ1.out).mono ?_);rintro e w2⟨rfl,hj2,hk2⟩;have HJ2:=ah hj2;have HK2:=ah (HK1.out.trans hk2);clear hj2 hk2)|(go_at_call 91;(with_reducible refine(Uy w0 _ p P (qK (dB P s.a) s) vb vl x HP.out HQ.out.2 HQ.out.1 HS.out HJ2.out).mono ?_);rintro e w3⟨rfl,⟨vb3,vl3,hj3⟩,hk3⟩;have HJ3:=ah hj3;have HK3:=ah (HK2.out.trans hk3);clear hj3 hk3))
  go_end0
  exact⟨rfl,⟨_,_,by rw[HN.out];exact HJ3.out⟩,HK3.out⟩
 ·have HN:=ah (show uZ P x s=keyS P (camel x) (qK (dB P s.a) s)by rw[uZ,if_neg hz])
  have HS:=ah (show(keyS P (camel x) (qK (dB P s.a) s)).sz<=1000000000000 by rw[<-HN.out];exact hs);have HQ:=ah (And.intro hv2 (show(camel x).size<=4294967296 by omega));have z1:(dK P s.a 3==0)=false:=eqF hz;clear hP h hx hx2 hv hv2 hs h1 h2 hz;go_enter Tryz.func47,Tryz.ntmps47
  go_wp2_with (first|(go_at_call 41;(with_reducible refine(nO x _ HX.out).mono ?_);rintro e w1⟨rfl,hb1⟩;have HJ1:=ah (HJ.out.below hb1);have HK1:=ah (bD.below hb1);clear hb1)|(go_at_call 43;(with_reducible refine(yX w0 _ p P s vb vl 3 (by decide) HP.out HZ.out HJ1.out).mono ?_);rintro e w2⟨rfl,hj2,hk2⟩;have HJ2:=ah hj2;have HK2:=ah (HK1.out.trans hk2);clear hj2 hk2)|(go_at_call 91;(with_reducible refine(Uy w0 _ p P (qK (dB P s.a) s) vb vl (camel x) HP.out HQ.out.2 HQ.out.1 HS.out HJ2.out).mono ?_);rintro e w3⟨rfl,⟨vb3,vl3,hj3⟩,hk3⟩;have HJ3:=ah hj3;have HK3:=ah (HK2.out.trans hk3);clear hj3 hk3))
  go_end0
  exact⟨rfl,⟨_,_,by rw[HN.out];exact HJ3.out⟩,HK3.out⟩
theorem AZ(n:Int)(w:World)(h0: -9223372036854775808<=n)(h1:n<9223372036854775808):Calls Tryz.prog 100 #[.int .i64 n] w fun e w'=>e= .returned (.string (str (bG n)))/\∃m,w'=w.drewN m:=by
 by_cases hn:0<=n
 ·have HF:=ah (show bG n=fB n.toNat by rw[bG,if_pos hn])
  have d:decide (0<=n)=true:=bZ hn;have hw:IntKind.u64.wrap n=n:=qY hn (by omega);have HC:=ah (fun W=>xW n.toNat W (by omega));rw[Int.toNat_of_nonneg hn]at HC;clear h0 h1 hn;go_enter Tryz.func100,Tryz.ntmps100
  go_wp2_with (go_at_call 101;(with_reducible refine(HC.out _).mono ?_);rintro e w1⟨rfl,m,rfl⟩)
  go_ret
  exact⟨by rw[HF.out];rfl,_,rfl⟩
 ·have HF:=ah (show bG n=[45]++fB (-n).toNat by rw[bG,if_neg hn];rfl)
  have d:decide (0<=n)=false:=bY hn;have hw1:IntKind.u64.wrap n=n+18446744073709551616:=by simp only[IntKind.wrap,IntKind.signed,IntKind.bits];simp;omega
  have hw2:IntKind.u64.wrap (-(n+18446744073709551616))= -n:=by simp only[IntKind.wrap,IntKind.signed,IntKind.bits];simp;omega
  have hw3:IntKind.u64.wrap (-n)= -n:=qY (by omega) (by omega);have hq:=xW (-n).toNat;rw[Int.toNat_of_nonneg (show 0<= -n by omega)]at hq;have HC:=ah (fun W=>hq W (by omega));have hl:=dU (show(-n).toNat<18446744073709551616 by omega);have agE:∀W:World,(Op.stringOp .add ⟨#[45]⟩ (str (fB (-n).toNat))).run Tryz.prog W= .ok (.string (str ([45]++fB (-n).toNat))) W:=iH [45] (fB (-n).toNat) (by rw[List.length_singleton];omega)
  clear h0 h1 hn hq hl;go_enter Tryz.func100,Tryz.ntmps100
  go_wp2_with (go_at_call 101;(with_reducible refine(HC.out _).mono ?_);rintro e w1⟨rfl,m,rfl⟩)
  go_ret
  exact⟨by rw[HF.out];rfl,_,rfl⟩
def XW(s:ByteArray)(z:Nat):Bool:=decide (z+1<s.size)&&decide (bt s ((s.size-1-z:Nat):Int)=48)&&dV (bt s ((s.size-2-z:Nat):Int))
def zf(s:ByteArray):Nat->Nat->Nat
 |0,z=>z
 |g+1,z=>if XW s z then zf s g (z+1)else z
def zh(s:ByteArray):Nat:=zf s s.size 0
def mY(s:ByteArray)(z:Nat)(v:Int):ByteArray:=
 if v=1 then s++⟨#[46,48]⟩else if v=2 then s++⟨#[101,48]⟩
 else if v=3 then(if 0<z/\z<9 then s.extract 0 (s.size-z)++⟨#[101]⟩++str (fB z)else s)
 else if v=4 then(if s.size<9/\(s.toList==[48])=false/\bt s 0≠45 then s++⟨#[48,48,69,45,50]⟩else s)else s
def xX(P:List Int)(a:Nat)(s:ByteArray):ByteArray:=mY s (zh s) (dK P a 6)
theorem int6{v:Int}(h0:0<=v)(h1:v<6):v=0∨v=1∨v=2∨v=3∨v=4∨v=5:=by omega
theorem vg(w0 W:World)(p:Nat)(P:List Int)(s:WS)(vb vl:Value)(x:ByteArray)(hP:qE P)(hx1:1<=x.size)(hx2:x.size<=1000)(hs:s.sz<=1000000000000)(h:nX w0 W p P s vb vl):
 Calls Tryz.prog 99 #[.pointer (some ⟨p,0,none⟩),.string x] W fun e w'=>e= .returned (.string (xX P s.a x))/\nX w0 w' p P (qK (dB P s.a) s) vb vl/\bD W w':=by
 have uV:=ah (yX w0 W p P s vb vl 6 (by decide) hP hs h);have hpr:=jg (P:=P) (a:=s.a) (n:=6) (by decide) hP;obtain⟨v,hv⟩:∃v,v=dK P s.a 6:=⟨_,rfl⟩
 have HF:=ah (show xX P s.a x=mY x (zh x) v by rw[xX,hv]);rw[<-hv]at uV hpr;clear hP hs h hv;go_enter Tryz.func99,Tryz.ntmps99;go_wp2
 go_loopg [5] x.size (fun g v5 w'=>∃z:Nat,v5= .int .i64 z/\z+g=x.size/\aC (zf x g z=zh x)/\W=w')
 case atStart=>exact⟨0,rfl,by omega,⟨rfl⟩,rfl⟩
 case round=>
  obtain⟨z,rfl,hg,HZ,rfl⟩:=hrel;have k1:IntKind.i64.wrap ((x.size:Int)-1)=(x.size:Int)-1:=by rw[IntKind.wrap_i64];omega
  have k2:IntKind.i64.wrap ((x.size:Int)-2)=(x.size:Int)-2:=by rw[IntKind.wrap_i64];omega
  have k3:IntKind.i64.wrap ((x.size:Int)-1-z)=(x.size:Int)-1-z:=by rw[IntKind.wrap_i64];omega
  have k4:IntKind.i64.wrap ((x.size:Int)-2-z)=(x.size:Int)-2-z:=by rw[IntKind.wrap_i64];omega
  have k5:IntKind.i64.wrap ((z:Int)+1)=(z:Int)+1:=kL (by omega) (by omega);have y1:=jX x ((x.size-1-z:Nat):Int);have y2:=jX x ((x.size-2-z:Nat):Int);rw[Int.toNat_natCast]at y1 y2;obtain⟨c1,hc1⟩:∃c,c=bt x ((x.size-1-z:Nat):Int):=⟨_,rfl⟩
  obtain⟨c2,hc2⟩:∃c,c=bt x ((x.size-2-z:Nat):Int):=⟨_,rfl⟩
  have HZt:=ah (show XW x z=(decide (z+1<x.size)&&decide (c1=48)&&dV c2)by rw[hc1,hc2];rfl);rw[<-hc1]at y1;rw[<-hc2]at y2;clear hc1 hc2;cases t:XW x z
  ·have HE:=ah (show zh x=z by
    rw[<-HZ.out];cases gk with
    |zero=>rfl
    |succ g=>show(if XW x z then _ else _)=z;rw[t];rfl)
   have hcase:¬z+1<x.size∨(z+1<x.size/\¬c1=48)∨(z+1<x.size/\c1=48/\dV c2=false):=by
    rw[HZt.out]at t
    by_cases t1:z+1<x.size
    ·by_cases t2:c1=48
     ·exact .inr (.inr ⟨t1,t2,by simpa [t1,t2]using t⟩)
     ·exact .inr (.inl ⟨t1,t2⟩)
    ·exact .inl t1
   have i1:z+1<x.size->(0:Int)<=(x.size:Int)-1-z/\(x.size:Int)-1-z<x.size/\(0:Int)<=(x.size:Int)-2-z/\(x.size:Int)-2-z<x.size:=by omega
   have e1:IntKind.i64.wrap ((x.size:Int)-z)=(x.size:Int)-z:=by rw[IntKind.wrap_i64];omega
   have e2:IntKind.u64.wrap (z:Int)=(z:Int):=qY (by omega) (by omega);have e3:(0:Int)<=(x.size:Int)-z:=by omega
   have e4:(x.size:Int)-z<=x.size:=by omega
   have HC:=ah (fun W=>xW z W (by omega));have hl:=dU (show z<18446744073709551616 by omega);have g1:=fun W=>run_string_add_sum (P:=Tryz.prog) W x ⟨#[46,48]⟩ (by show x.size+2<=_;omega)
   have g2:=fun W=>run_string_add_sum (P:=Tryz.prog) W x ⟨#[101,48]⟩ (by show x.size+2<=_;omega)
   have g3:=fun W=>run_string_add_sum (P:=Tryz.prog) W x ⟨#[48,48,69,45,50]⟩ (by show x.size+5<=_;omega)
   have hex:(x.extract 0 (x.size-z)).size<=x.size:=by rw[ByteArray.size_extract];omega
   have g4:=fun W=>run_string_add_sum (P:=Tryz.prog) W (x.extract 0 (x.size-z)) ⟨#[101]⟩ (by show _+1<=_;omega)
   have g5:=fun W=>run_string_add_sum (P:=Tryz.prog) W (x.extract 0 (x.size-z)++⟨#[101]⟩) (str (fB z)) (by rw[ByteArray.size_append,bV];show _+1+_<=_;omega)
   have b0:∀h:0<x.size,((x[0]'h).toNat:Int)=bt x 0:=jX x 0
   clear hl hex;rcases int6 hpr.1 hpr.2 with rfl|rfl|rfl|rfl|rfl|rfl
   ·have HW:=ah (show mY x z 0=x from rfl)
    clear hpr;rcases hcase with h|h|h
    all_goals
     first|(have d1:decide ((z:Int)<(x.size:Int)-1)=false:=bY (by omega))|(have d1:decide ((z:Int)<(x.size:Int)-1)=true:=bZ (by omega);have d2:(c1==48)=false:=eqF h.2;obtain⟨j1,j2,j3,j4⟩:=i1 h.1)|(have d1:decide ((z:Int)<(x.size:Int)-1)=true:=bZ (by omega);have d2:(c1==48)=true:=kZ h.2.1;obtain⟨j1,j2,j3,j4⟩:=i1 h.1;have t3:=h.2.2)
     clear i1 h
     go_wp2_with (first|(go_at_call 137;(with_reducible refine(dZ _ _).mono ?_);rw[t3];rintro e w1⟨rfl,rfl⟩)|(go_at_call 43;(with_reducible refine uV.out.mono ?_);rintro e w1⟨rfl,hj1,hk1⟩;have HJ1:=ah hj1;have HK1:=ah hk1;clear hj1 hk1))
     go_ret
     exact⟨by rw[HF.out,HE.out,HW.out];rfl,HJ1.out,HK1.out⟩
   ·have HW:=ah (show mY x z 1=x++⟨#[46,48]⟩from rfl)
    clear hpr;rcases hcase with h|h|h
    all_goals
     first|(have d1:decide ((z:Int)<(x.size:Int)-1)=false:=bY (by omega))|(have d1:decide ((z:Int)<(x.size:Int)-1)=true:=bZ (by omega);have d2:(c1==48)=false:=eqF h.2;obtain⟨j1,j2,j3,j4⟩:=i1 h.1)|(have d1:decide ((z:Int)<(x.size:Int)-1)=true:=bZ (by omega);have d2:(c1==48)=true:=kZ h.2.1;obtain⟨j1,j2,j3,j4⟩:=i1 h.1;have t3:=h.2.2)
     clear i1 h
     go_wp2_with (first|(go_at_call 137;(with_reducible refine(dZ _ _).mono ?_);rw[t3];rintro e w1⟨rfl,rfl⟩)|(go_at_call 43;(with_reducible refine uV.out.mono ?_);rintro e w1⟨rfl,hj1,hk1⟩;have HJ1:=ah hj1;have HK1:=ah hk1;clear hj1 hk1))
     go_ret
     exact⟨by rw[HF.out,HE.out,HW.out];rfl,HJ1.out,HK1.out⟩
   ·have HW:=ah (show mY x z 2=x++⟨#[101,48]⟩from rfl)
    clear hpr;rcases hcase with h|h|h
    all_goals
     first|(have d1:decide ((z:Int)<(x.size:Int)-1)=false:=bY (by omega))|(have d1:decide ((z:Int)<(x.size:Int)-1)=true:=bZ (by omega);have d2:(c1==48)=false:=eqF h.2;obtain⟨j1,j2,j3,j4⟩:=i1 h.1)|(have d1:decide ((z:Int)<(x.size:Int)-1)=true:=bZ (by omega);have d2:(c1==48)=true:=kZ h.2.1;obtain⟨j1,j2,j3,j4⟩:=i1 h.1;have t3:=h.2.2)
     clear i1 h
     go_wp2_with (first|(go_at_call 137;(with_reducible refine(dZ _ _).mono ?_);rw[t3];rintro e w1⟨rfl,rfl⟩)|(go_at_call 43;(with_reducible refine uV.out.mono ?_);rintro e w1⟨rfl,hj1,hk1⟩;have HJ1:=ah hj1;have HK1:=ah hk1;clear hj1 hk1))
     go_ret
     exact⟨by rw[HF.out,HE.out,HW.out];rfl,HJ1.out,HK1.out⟩
   ·by_cases q1:0<z
    ·have q3:decide ((0:Int)<(z:Int))=true:=bZ (by omega)
     by_cases q2:z<9
     ·have q4:decide ((z:Int)<9)=true:=bZ (by omega)
      have HW:=ah (show mY x z 3=x.extract 0 (x.size-z)++⟨#[101]⟩++str (fB z)by show(if 0<z/\z<9 then _ else x)=_;rw[if_pos ⟨q1,q2⟩]);clear hpr;rcases hcase with h|h|h
      all_goals
       first|(have d1:decide ((z:Int)<(x.size:Int)-1)=false:=bY (by omega))|(have d1:decide ((z:Int)<(x.size:Int)-1)=true:=bZ (by omega);have d2:(c1==48)=false:=eqF h.2;obtain⟨j1,j2,j3,j4⟩:=i1 h.1)|(have d1:decide ((z:Int)<(x.size:Int)-1)=true:=bZ (by omega);have d2:(c1==48)=true:=kZ h.2.1;obtain⟨j1,j2,j3,j4⟩:=i1 h.1;have t3:=h.2.2)
       clear i1 h
       go_wp2_with (first|(go_at_call 137;(with_reducible refine(dZ _ _).mono ?_);rw[t3];rintro e w1⟨rfl,rfl⟩)|(go_at_call 43;(with_reducible refine uV.out.mono ?_);rintro e w1⟨rfl,hj1,hk1⟩;have HJ1:=ah hj1;have HK1:=ah hk1;clear hj1 hk1))
       go_quiet ((go_at_call 101;exact Calls.quiet_of (HC.out _)))
       go_wp2
       go_ret
       exact⟨by rw[HF.out,HE.out,HW.out];rfl,JS.below HJ1.out (aS (bg _ _) _),HK1.out.trans (bD.below (aS (bg _ _) _))⟩
     ·have q4:decide ((z:Int)<9)=false:=bY (by omega)
      have HW:=ah (show mY x z 3=x by show(if 0<z/\z<9 then _ else x)=_;rw[if_neg (by omega)]);clear hpr;rcases hcase with h|h|h
      all_goals
       first|(have d1:decide ((z:Int)<(x.size:Int)-1)=false:=bY (by omega))|(have d1:decide ((z:Int)<(x.size:Int)-1)=true:=bZ (by omega);have d2:(c1==48)=false:=eqF h.2;obtain⟨j1,j2,j3,j4⟩:=i1 h.1)|(have d1:decide ((z:Int)<(x.size:Int)-1)=true:=bZ (by omega);have d2:(c1==48)=true:=kZ h.2.1;obtain⟨j1,j2,j3,j4⟩:=i1 h.1;have t3:=h.2.2)
       clear i1 h
       go_wp2_with (first|(go_at_call 137;(with_reducible refine(dZ _ _).mono ?_);rw[t3];rintro e w1⟨rfl,rfl⟩)|(go_at_call 43;(with_reducible refine uV.out.mono ?_);rintro e w1⟨rfl,hj1,hk1⟩;have HJ1:=ah hj1;have HK1:=ah hk1;clear hj1 hk1))
       go_ret
       exact⟨by rw[HF.out,HE.out,HW.out];rfl,HJ1.out,HK1.out⟩
    ·have q3:decide ((0:Int)<(z:Int))=false:=bY (by omega)
     have HW:=ah (show mY x z 3=x by show(if 0<z/\z<9 then _ else x)=_;rw[if_neg (by omega)]);clear hpr;rcases hcase with h|h|h
     all_goals
      first|(have d1:decide ((z:Int)<(x.size:Int)-1)=false:=bY (by omega))|(have d1:decide ((z:Int)<(x.size:Int)-1)=true:=bZ (by omega);have d2:(c1==48)=false:=eqF h.2;obtain⟨j1,j2,j3,j4⟩:=i1 h.1)|(have d1:decide ((z:Int)<(x.size:Int)-1)=true:=bZ (by omega);have d2:(c1==48)=true:=kZ h.2.1;obtain⟨j1,j2,j3,j4⟩:=i1 h.1;have t3:=h.2.2)
      clear i1 h
      go_wp2_with (first|(go_at_call 137;(with_reducible refine(dZ _ _).mono ?_);rw[t3];rintro e w1⟨rfl,rfl⟩)|(go_at_call 43;(with_reducible refine uV.out.mono ?_);rintro e w1⟨rfl,hj1,hk1⟩;have HJ1:=ah hj1;have HK1:=ah hk1;clear hj1 hk1))
      go_ret
      exact⟨by rw[HF.out,HE.out,HW.out];rfl,HJ1.out,HK1.out⟩
   ·by_cases q1:x.size<9
    ·have q3:decide ((x.size:Int)<9)=true:=bZ (by omega)
     cases q2:(x.toList==[48])
     ·by_cases q5:bt x 0=45
      ·have q6:(bt x 0==45)=true:=kZ q5
       have HW:=ah (show mY x z 4=x by show(if x.size<9/\(x.toList==[48])=false/\bt x 0≠45 then _ else x)=_;rw[if_neg (fun h=>h.2.2 q5)]);clear hpr q1 q5;rcases hcase with h|h|h
       all_goals
        first|(have d1:decide ((z:Int)<(x.size:Int)-1)=false:=bY (by omega))|(have d1:decide ((z:Int)<(x.size:Int)-1)=true:=bZ (by omega);have d2:(c1==48)=false:=eqF h.2;obtain⟨j1,j2,j3,j4⟩:=i1 h.1)|(have d1:decide ((z:Int)<(x.size:Int)-1)=true:=bZ (by omega);have d2:(c1==48)=true:=kZ h.2.1;obtain⟨j1,j2,j3,j4⟩:=i1 h.1;have t3:=h.2.2)
        clear i1 h
        go_wp2_with (first|(go_at_call 137;(with_reducible refine(dZ _ _).mono ?_);rw[t3];rintro e w1⟨rfl,rfl⟩)|(go_at_call 43;(with_reducible refine uV.out.mono ?_);rintro e w1⟨rfl,hj1,hk1⟩;have HJ1:=ah hj1;have HK1:=ah hk1;clear hj1 hk1))
        go_ret
        exact⟨by rw[HF.out,HE.out,HW.out];rfl,HJ1.out,HK1.out⟩
      ·have q6:(bt x 0==45)=false:=eqF q5
       have HW:=ah (show mY x z 4=x++⟨#[48,48,69,45,50]⟩by show(if x.size<9/\(x.toList==[48])=false/\bt x 0≠45 then _ else x)=_;rw[if_pos ⟨q1,q2,q5⟩]);clear hpr q1 q5;rcases hcase with h|h|h
       all_goals
        first|(have d1:decide ((z:Int)<(x.size:Int)-1)=false:=bY (by omega))|(have d1:decide ((z:Int)<(x.size:Int)-1)=true:=bZ (by omega);have d2:(c1==48)=false:=eqF h.2;obtain⟨j1,j2,j3,j4⟩:=i1 h.1)|(have d1:decide ((z:Int)<(x.size:Int)-1)=true:=bZ (by omega);have d2:(c1==48)=true:=kZ h.2.1;obtain⟨j1,j2,j3,j4⟩:=i1 h.1;have t3:=h.2.2)
        clear i1 h
        go_wp2_with (first|(go_at_call 137;(with_reducible refine(dZ _ _).mono ?_);rw[t3];rintro e w1⟨rfl,rfl⟩)|(go_at_call 43;(with_reducible refine uV.out.mono ?_);rintro e w1⟨rfl,hj1,hk1⟩;have HJ1:=ah hj1;have HK1:=ah hk1;clear hj1 hk1))
        go_ret
        exact⟨by rw[HF.out,HE.out,HW.out];rfl,HJ1.out,HK1.out⟩
     ·have HW0:=q2
      have HW:=ah (show mY x z 4=x by show(if x.size<9/\(x.toList==[48])=false/\bt x 0≠45 then _ else x)=_;rw[if_neg (fun h=>by rw[q2]at h;exact absurd h.2.1 (by simp))]);clear hpr;rcases hcase with h|h|h
      all_goals
       first|(have d1:decide ((z:Int)<(x.size:Int)-1)=false:=bY (by omega))|(have d1:decide ((z:Int)<(x.size:Int)-1)=true:=bZ (by omega);have d2:(c1==48)=false:=eqF h.2;obtain⟨j1,j2,j3,j4⟩:=i1 h.1)|(have d1:decide ((z:Int)<(x.size:Int)-1)=true:=bZ (by omega);have d2:(c1==48)=true:=kZ h.2.1;obtain⟨j1,j2,j3,j4⟩:=i1 h.1;have t3:=h.2.2)
       clear i1 h
       go_wp2_with (first|(go_at_call 137;(with_reducible refine(dZ _ _).mono ?_);rw[t3];rintro e w1⟨rfl,rfl⟩)|(go_at_call 43;(with_reducible refine uV.out.mono ?_);rintro e w1⟨rfl,hj1,hk1⟩;have HJ1:=ah hj1;have HK1:=ah hk1;clear hj1 hk1))
       go_ret
       exact⟨by rw[HF.out,HE.out,HW.out];rfl,HJ1.out,HK1.out⟩
    ·have q3:decide ((x.size:Int)<9)=false:=bY (by omega)
     have HW:=ah (show mY x z 4=x by show(if x.size<9/\(x.toList==[48])=false/\bt x 0≠45 then _ else x)=_;rw[if_neg (fun h=>q1 h.1)]);clear hpr;rcases hcase with h|h|h
     all_goals
      first|(have d1:decide ((z:Int)<(x.size:Int)-1)=false:=bY (by omega))|(have d1:decide ((z:Int)<(x.size:Int)-1)=true:=bZ (by omega);have d2:(c1==48)=false:=eqF h.2;obtain⟨j1,j2,j3,j4⟩:=i1 h.1)|(have d1:decide ((z:Int)<(x.size:Int)-1)=true:=bZ (by omega);have d2:(c1==48)=true:=kZ h.2.1;obtain⟨j1,j2,j3,j4⟩:=i1 h.1;have t3:=h.2.2)
      clear i1 h
      go_wp2_with (first|(go_at_call 137;(with_reducible refine(dZ _ _).mono ?_);rw[t3];rintro e w1⟨rfl,rfl⟩)|(go_at_call 43;(with_reducible refine uV.out.mono ?_);rintro e w1⟨rfl,hj1,hk1⟩;have HJ1:=ah hj1;have HK1:=ah hk1;clear hj1 hk1))
      go_ret
      exact⟨by rw[HF.out,HE.out,HW.out];rfl,HJ1.out,HK1.out⟩
   ·have HW:=ah (show mY x z 5=x from rfl)
    clear hpr;rcases hcase with h|h|h
    all_goals
     first|(have d1:decide ((z:Int)<(x.size:Int)-1)=false:=bY (by omega))|(have d1:decide ((z:Int)<(x.size:Int)-1)=true:=bZ (by omega);have d2:(c1==48)=false:=eqF h.2;obtain⟨j1,j2,j3,j4⟩:=i1 h.1)|(have d1:decide ((z:Int)<(x.size:Int)-1)=true:=bZ (by omega);have d2:(c1==48)=true:=kZ h.2.1;obtain⟨j1,j2,j3,j4⟩:=i1 h.1;have t3:=h.2.2)
     clear i1 h
     go_wp2_with (first|(go_at_call 137;(with_reducible refine(dZ _ _).mono ?_);rw[t3];rintro e w1⟨rfl,rfl⟩)|(go_at_call 43;(with_reducible refine uV.out.mono ?_);rintro e w1⟨rfl,hj1,hk1⟩;have HJ1:=ah hj1;have HK1:=ah hk1;clear hj1 hk1))
     go_ret
     exact⟨by rw[HF.out,HE.out,HW.out];rfl,HJ1.out,HK1.out⟩
  ·have ht:z+1<x.size/\c1=48/\dV (c2)=true:=by rw[HZt.out]at t;simpa [and_assoc]using t
   obtain⟨t1,t2,t3⟩:=ht;have d1:decide ((z:Int)<(x.size:Int)-1)=true:=bZ (by omega);have i1:(0:Int)<=(x.size:Int)-1-z:=by omega
   have i2:(x.size:Int)-1-z<x.size:=by omega
   have i3:(0:Int)<=(x.size:Int)-2-z:=by omega
   have i4:(x.size:Int)-2-z<x.size:=by omega
   have d2:(c1==48)=true:=kZ t2;obtain⟨g',rfl⟩:∃g',gk=g'+1:=⟨gk-1,by omega⟩
   have HZ2:=ah (show zf x g' (z+1)=zh x by rw[<-HZ.out];show _=(if XW x z then _ else _);rw[t];rfl)
   go_wp2_with (go_at_call 137;(with_reducible refine(dZ _ _).mono ?_);rw[t3];rintro e w1⟨rfl,rfl⟩)
   go_roundg g'
   case measure=>omega
   case rel=>exact⟨z+1,by go_num,by omega,HZ2,rfl⟩
abbrev xY(W:World)(base:Nat)(v:Value)(xs:List Int):Prop:=(Kd.int .u32).R 129 W base (fun _=>True) v xs
theorem Jp:(Tryz.prog.info? 129).map (fun i=>(i.zero,i.size,i.bytes))=some (some (.int .u32 0),1,4):=by kernel_rfl
def dJ:List Int->Nat
 |[]=>0
 |x::l=>x.toNat+4294967296*dJ l
def DY(xs:List Int):Prop:=∀x∈xs,0<=x/\x<4294967296
theorem zS(xs ys:List Int):dJ (xs++ys)=dJ xs+4294967296^xs.length*dJ ys:=by
 induction xs with
 |nil=>show dJ ys=0+4294967296^0*dJ ys;rw[Nat.pow_zero,Nat.one_mul,Nat.zero_add]
 |cons x l ih=>
  show x.toNat+4294967296*dJ (l++ys)=x.toNat+4294967296*dJ l+4294967296^(l.length+1)*dJ ys;rw[ih,Nat.pow_succ,Nat.mul_add,<-Nat.mul_assoc,Nat.mul_comm 4294967296 (4294967296^_),Nat.add_assoc]
theorem pF(xs:List Int)(y:Int):dJ (xs++[y])=dJ xs+4294967296^xs.length*y.toNat:=by
 rw[zS];rfl
theorem DY.snoc{xs:List Int}{y:Int}(h:DY xs)(h0:0<=y)(h1:y<4294967296):DY (xs++[y]):=by
 intro x hx;rcases List.mem_append.1 hx with hx|hx
 ·exact h x hx
 ·rw[List.mem_singleton.1 hx];exact⟨h0,h1⟩
theorem Ba{xs:List Int}(h:DY xs):dJ xs<4294967296^xs.length:=by
 induction xs with
 |nil=>exact Nat.one_pos
 |cons x l ih=>
  have h1:=h x List.mem_cons_self;have h2:=ih (fun y hy=>h y (List.mem_cons_of_mem _ hy));show x.toNat+4294967296*dJ l<4294967296^(l.length+1);rw[Nat.pow_succ];generalize 4294967296^l.length=T at h2 ⊢;omega
theorem PE{w0 W:World}{ops:Array Oper}{rest:List Oper}{o:Oper}{a:Act}{Q:Exit->Act->World->Prop}(hgd:o.guard=none)(s x:Operand)
 (ho:o.op= .call {callee:=.builtin .append,args:=#[s,x],argTypes:=#[244,244]}) {v:Value} {xs:List Int} (y:Int) (hs:a.eval s=v) (hx:a.eval x= .slice (some ⟨W.heap.size,0,none⟩) 1 1)
 (HO:xY W w0.heap.size v xs) (HB:Below w0.heap.size w0 W) (hl:xs.length+1<=1000000000000)
 (h:∀v1 w1,xY w1 w0.heap.size v1 (xs++[y])->Below w0.heap.size w0 w1->W.grownBy w1 v.ownBlock->wpList Tryz.prog ops Q rest (a.put o.dst v1) w1):
 wpList Tryz.prog ops Q (o::rest) a (W.alloc (.cells #[.int .u32 y] 129)):=
 Kd.nJ (Kd.int .u32) (w0:=w0) w0.heap.size hgd s x 244 129 (.int .u32 0) 4 ho Tryz.underlying244 Jp rfl (by decide) (by omega) v xs y [.int .u32 y] (fun _=>True) (fun _=>False) hs hx rfl (fun _ hk=>hk.elim) (fun _ _=>trivial) HO HB HB.size (by omega)
  fun v1 w1 ho hb hg hat=>h v1 w1 ho hb hg
theorem UA(W:World)(c:Nat)(hc:c<=1000000000):(Instr.makeSlice 244 (.int .i64 0) (.int .i64 (c:Int))).run Tryz.prog W= .ok (.slice (some ⟨W.heap.size,0,none⟩) 0 c) (W.alloc (.cells (madeCells #[.int .u32 0] c) 129))/\
 (∀base,base<=W.heap.size->xY (W.alloc (.cells (madeCells #[.int .u32 0] c) 129)) base (.slice (some ⟨W.heap.size,0,none⟩) 0 c) []):=by
 obtain⟨i,hi,hzz⟩:=Option.map_eq_some_iff.1 Jp;simp only[Prod.mk.injEq]at hzz;obtain⟨hz,hs,hb⟩:=hzz;have hr:=run_make (P:=Tryz.prog) W 244 129 i (.int .u32 0) Tryz.underlying244 hi hz .i64 .i64 0 (c:Int) (by omega) (by omega) (by rw[hb];omega) (by omega);rw[hs]at hr;simp only[Int.toNat_zero,Int.toNat_natCast,Nat.mul_one]at hr;refine⟨hr,fun base hbase=>?_⟩;have:=World.ownsRow_made W (base:=base) (e:=129) (size:=1) (madeCells #[Value.int .u32 0] c) c hbase (by simp only[maxLen];omega) (by simp[size_madeCells]);exact Kd.fZ (xs:=[]) this (fun _ _=>trivial)
theorem YB(n:Nat)(hn:n<=100000):∀W:World,(Instr.makeSlice 244 (.int .i64 0) (.int .i64 ((n:Int)+1))).run Tryz.prog W= .ok (.slice (some ⟨W.heap.size,0,none⟩) 0 (n+1)) (W.alloc (.cells (madeCells #[.int .u32 0] (n+1)) 129)):=fun W=>by
 have:=(UA W (n+1) (by omega)).1
 rwa [show(((n+1:Nat)):Int)=(n:Int)+1 by omega]at this
def xZ(b:List Int)(n more:Int)(i:Nat)(ys:List Int)(c:Int):Prop:=dJ ys+4294967296^i*c.toNat=dJ (b.take i)*n.toNat+more.toNat/\ys.length=i/\DY ys/\0<=c/\c<4294967296
theorem xZ.next{b:List Int}{n more:Int}{i:Nat}{ys:List Int}{c x:Int}(h:xZ b n more i ys c)(hx:b[i]? =some x)(hx0:0<=x)(hx1:x<4294967296)(hn0:0<=n)(hn1:n<4294967296):
 xZ b n more (i+1) (ys++[(c+x*n)%4294967296]) ((c+x*n)/4294967296)/\0<=x*n/\c+x*n<18446744073709551616:=by
 obtain⟨h1,h2,h3,h4,h5⟩:=h;obtain⟨xn,rfl⟩:=Int.eq_ofNat_of_zero_le hx0;obtain⟨nn,rfl⟩:=Int.eq_ofNat_of_zero_le hn0;obtain⟨cn,rfl⟩:=Int.eq_ofNat_of_zero_le h4;have hp:xn*nn<=4294967295*4294967295:=Nat.mul_le_mul (by omega) (by omega);have e0:(Int.ofNat xn:Int)*(Int.ofNat nn)=((xn*nn:Nat):Int):=by simp
 have e1:(((xn:Nat):Int))*((nn:Nat):Int)=((xn*nn:Nat):Int):=by simp
 rw[e1];generalize hq:xn*nn=q at hp e1 ⊢;refine⟨⟨?_,by simp[h2],h3.snoc (by omega) (by omega),by omega,by omega⟩,by omega,by omega⟩;obtain⟨hl,hxe⟩:=List.getElem?_eq_some_iff.1 hx;rw[List.take_succ_eq_append_getElem hl,hxe,pF,pF,h2,List.length_take,Nat.min_eq_left (Nat.le_of_lt hl),Nat.add_mul,Nat.add_right_comm (dJ (List.take i b)*_),<-h1,Nat.pow_succ];have a1:((((cn:Int)+(q:Int))%4294967296)).toNat=(cn+q)%4294967296:=by omega
 have a2:((((cn:Int)+(q:Int))/4294967296)).toNat=(cn+q)/4294967296:=by omega
 have a3:(Int.ofNat xn).toNat*(Int.ofNat nn).toNat=q:=hq;rw[show((xn:Nat):Int).toNat=xn from rfl,show((nn:Nat):Int).toNat=nn from rfl,show((cn:Nat):Int).toNat=cn from rfl,a1,a2,Nat.mul_assoc _ xn nn,hq];have hd:=Nat.div_add_mod (cn+q) 4294967296;generalize (cn+q)/4294967296=Q at hd ⊢;generalize (cn+q)%4294967296=R at hd ⊢;generalize 4294967296^i=T;rw[Nat.add_assoc,Nat.mul_assoc T,<-Nat.mul_add,Nat.add_comm R,hd,Nat.mul_add,Nat.add_assoc]
theorem YC(b:List Int)(A:Option Addr)(cap:Nat)(n more:Int)(w:World)(hr:(Kd.int .u32).C w A b.length b)(hb:DY b)(hl:b.length<=100000)(hn0:0<=n)(hn1:n<4294967296)(hm0:0<=more)(hm1:more<4294967296):
 Calls Tryz.prog 205 #[.slice A b.length cap,.int .u32 n,.int .u32 more] w fun e w'=>∃v ys,e= .returned v/\xY w' w.heap.size v ys/\DY ys/\ys.length<=b.length+1/\dJ ys=dJ b*n.toNat+more.toNat/\Below w.heap.size w w':=by
 have HR:=ah hr;have HB0:=ah hb;have HN:=ah (And.intro hn0 hn1);have w1:IntKind.u64.wrap more=more:=qY (by omega) (by omega);have w2:IntKind.i64.wrap ((b.length:Int)+1)=(b.length:Int)+1:=kL (by omega) (by omega);have w3:IntKind.u64.wrap n=n:=qY (by omega) (by omega);have hmk:=YB b.length hl;have HM0:=ah (show xZ b n more 0 [] more from⟨by show 0+1*more.toNat=0*_+_;omega,rfl,fun x h=>absurd h List.not_mem_nil,hm0,hm1⟩);clear hr hb hn0 hn1 hm0 hm1;go_enter Tryz.func205,Tryz.ntmps205;go_wp2
 go_loopg [7,8,9] b.length (fun g v7 v8 v9 w'=>∃(i:Nat)(ys:List Int)(c:Int),v8= .int .u64 c/\v9= .int .i64 i/\i+g=b.length/\aC (xZ b n more i ys c)/\aC (xY w' w.heap.size v7 ys)/\aC (Below w.heap.size w w'))
 case atStart=>exact⟨0,[],more,rfl,rfl,by omega,HM0,⟨(UA w (b.length+1) (by omega)).2 _ (Nat.le_refl _)⟩,⟨ak (bg _ _) _⟩⟩
 case round=>
  obtain⟨i,ys,c,rfl,rfl,hg,HT,HO,HB⟩:=hrel
  by_cases hlt:i<b.length
  ·obtain⟨x,hx⟩:=bF hlt
   obtain⟨ad,rfl,q0⟩:=iD (Kd.aU HR.out HB.out) hx.out;have hxr:=HB0.out x (List.mem_of_getElem? hx.out);have hnx:=HT.out.next hx.out hxr.1 hxr.2 HN.out.1 HN.out.2;have hc:=HT.out.2.2.2;have HN2:=ah hnx.1;have HL:=ah (show ys.length+1<=1000000000000 by have:=HT.out.2.1;omega);obtain⟨q,hq⟩:∃q,q=x*n:=⟨_,rfl⟩
   rw[<-hq]at hnx HN2;have u0:IntKind.u64.wrap x=x:=qY (by omega) (by omega);have u1:IntKind.u64.wrap (x*n)=q:=by rw[<-hq];exact qY (by omega) (by omega)
   have u2:IntKind.u64.wrap (c+q)=c+q:=qY (by omega) (by omega);have u3:IntKind.u32.wrap (c+q)=(c+q)%4294967296:=rfl;have u4:shr .u64 (c+q) 32=(c+q)/4294967296:=rfl;have w4:IntKind.i64.wrap ((i:Int)+1)=(i:Int)+1:=kL (by omega) (by omega);obtain⟨g',rfl⟩:∃g',gk=g'+1:=⟨gk-1,by omega⟩
   clear hnx hc hxr hq
   go_wp2_with (at_builtin;refine PE (w0:=w) rfl (.tmp 32) (.tmp 35) rfl ((c+q)%4294967296) rfl rfl ?aO ?aB HL.out ?_;(case aO=>exact HO.out);(case aB=>exact HB.out);intro v1 w1 ho hb hg;have HO1:=ah ho;have HB1:=ah hb;clear ho hb hg)
   go_roundg g'
   case measure=>omega
   case rel=>exact⟨i+1,_,_,by go_num,by go_num,by omega,HN2,HO1,HB1⟩
  ·obtain rfl:i=b.length:=by omega
   have hT:=HT.out;obtain⟨h1,h2,h3,h4,h5⟩:=hT;rw[List.take_length]at h1
   by_cases hc0:0<c
   ·have HL:=ah (show ys.length+1<=1000000000000 by omega)
    have u3:IntKind.u32.wrap c=c:=by show c%4294967296=c;omega
    have HF:=ah (show DY (ys++[c])/\(ys++[c]).length<=b.length+1/\dJ (ys++[c])=dJ b*n.toNat+more.toNat from⟨h3.snoc h4 h5,by simp[h2],by rw[pF,h2];exact h1⟩);have d1:decide (0<c)=true:=bZ hc0;clear h1 h2 h3 h4 h5 hc0
    go_wp2_with (at_builtin;refine PE (w0:=w) rfl (.tmp 41) (.tmp 44) rfl c rfl rfl ?aO ?aB HL.out ?_;(case aO=>exact HO.out);(case aB=>exact HB.out);intro v1 w1 ho hb hg;have HO1:=ah ho;have HB1:=ah hb;clear ho hb hg)
    go_ret
    exact⟨_,_,rfl,HO1.out,HF.out.1,HF.out.2.1,HF.out.2.2,HB1.out⟩
   ·obtain rfl:c=0:=by omega
    have HF:=ah (show DY ys/\ys.length<=b.length+1/\dJ ys=dJ b*n.toNat+more.toNat from⟨h3,by omega,by rw[<-h1];show _=dJ ys+_*0;omega⟩);clear h1 h2 h3 h4 h5 hc0;go_wp2
    go_ret
    exact⟨_,_,rfl,HO.out,HF.out.1,HF.out.2.1,HF.out.2.2,HB.out⟩
def ku(W W':World):Prop:=∀(k:Nat)(cs:Array Value),W.heap[k]? =some (.cells cs 129 (0,0))->W'.heap[k]? =W.heap[k]?
theorem ku.refl(W:World):ku W W:=fun _ _ _=>rfl
theorem ku.trans{W W1 W2:World}(h:ku W W1)(k:ku W1 W2):ku W W2:=fun i cs hc=>(k i cs ((h i cs hc).trans hc)).trans (h i cs hc)
theorem ku.below{W W1:World}(h:Below W.heap.size W W1):ku W W1:=fun i cs hc=>h.block i (bJ hc)
theorem ku.xq{W W1:World}{base:Nat}{v:Value}{xs:List Int}(hg:W.grownBy W1 v.ownBlock)(ho:OwnB W base v xs):ku W W1:=by
 intro i cs hc;refine hg.block i (bJ hc) ?_;intro e;obtain⟨inner,hi⟩:=Kd.uQ ho;obtain⟨cells,hq⟩:=jP hi i e.symm;rw[hc]at hq;injection hq with hq
 injection hq with _ e2 _
 exact absurd e2 (by decide)
def gW(W:World)(v:Value)(k L:Nat):Prop:=∃A c ys,v= .slice A ys.length c/\ys.length<=c/\(∀W',ku W W'->(Kd.int .u32).C W' A ys.length ys)/\DY ys/\ys.length<=L/\dJ ys=k
theorem gW.keep{W W1:World}{v:Value}{k L:Nat}(h:gW W v k L)(hb:ku W W1):gW W1 v k L:=by
 obtain⟨A,c,ys,h1,h2,h3,h4⟩:=h;exact⟨A,c,ys,h1,h2,fun W' h'=>h3 W' (hb.trans h'),h4⟩
theorem gW.below{W W1:World}{v:Value}{k L:Nat}(h:gW W v k L)(hb:Below W.heap.size W W1):gW W1 v k L:=h.keep (.below hb)
theorem gW.xq{W W1:World}{u:Value}{k L:Nat}{base:Nat}{v:Value}{xs:List Int}(h:gW W u k L)(hg:W.grownBy W1 v.ownBlock)(ho:OwnB W base v xs):gW W1 u k L:=h.keep (.xq hg ho)
theorem gW.mono{W:World}{v:Value}{k L L':Nat}(h:gW W v k L)(hL:L<=L'):gW W v k L':=by
 obtain⟨A,c,ys,h1,h2,h3,h4,h5,h6⟩:=h;exact⟨A,c,ys,h1,h2,h3,h4,Nat.le_trans h5 hL,h6⟩
theorem gW.own{W:World}{base:Nat}{v:Value}{ys:List Int}(h:xY W base v ys)(hl:DY ys):gW W v (dJ ys) ys.length:=by
 obtain⟨A,c,rfl,h1,h2⟩:=Kd.jo h;refine⟨A,c,ys,rfl,h1,fun W' hk=>?_,hl,Nat.le_refl _,rfl⟩
 have h3:=Kd.wW (Kd.iR h) (w1:=W') (fun k hk2=>by
  obtain⟨_,_,_,q,hq,cells,hc⟩:=hk2;have:q=129:=by simpa [Kd.int,Kd.scalar]using hq
  subst this;exact hk k cells hc)
 obtain⟨A',c',e,_,h4⟩:=Kd.jo h3;cases e;exact h4
theorem wB(v:Value)(k L:Nat)(n more:Int)(w:World)(h:gW w v k L)(hl:L<=100000)(hn0:0<=n)(hn1:n<4294967296)(hm0:0<=more)(hm1:more<4294967296):
 Calls Tryz.prog 205 #[v,.int .u32 n,.int .u32 more] w fun e w'=>∃v',e= .returned v'/\gW w' v' (k*n.toNat+more.toNat) (L+1)/\Below w.heap.size w w':=by
 obtain⟨A,c,ys,rfl,h2,h3,h4,h5,rfl⟩:=h;refine(YC ys A c n more w (h3 w (ku.refl w)) h4 (by omega) hn0 hn1 hm0 hm1).mono ?_;rintro e w1⟨v',zs,rfl,ho,hz,hl,hv,hb⟩;exact⟨v',rfl,by rw[<-hv];exact(gW.own ho hz).mono (by omega),hb⟩
theorem rV(v:Value)(k L:Nat)(n:Int)(t:Nat)(w:World)(h:gW w v k L)(hl:L+t<=100000)(hn0:0<=n)(hn1:n<4294967296):
 Calls Tryz.prog 203 #[v,.int .u32 n,.int .i64 t] w fun e w'=>∃v',e= .returned v'/\gW w' v' (k*n.toNat^t) (L+t)/\Below w.heap.size w w':=by
 have H:=ah h;have HN:=ah (And.intro hn0 hn1);clear h hn0 hn1;go_enter Tryz.func203,Tryz.ntmps203;go_wp2
 go_loopg [0,7] t (fun g v0 v7 w'=>∃i:Nat,v7= .int .i64 i/\i+g=t/\aC (gW w' v0 (k*n.toNat^i) (L+i))/\aC (Below w.heap.size w w'))
 case atStart=>exact⟨0,rfl,by omega,⟨by simpa using H.out⟩,⟨bg _ _⟩⟩
 case round=>
  obtain⟨i,rfl,hg,HV,HB⟩:=hrel
  by_cases hlt:i<t
  ·have w4:IntKind.i64.wrap ((i:Int)+1)=(i:Int)+1:=kL (by omega) (by omega)
   have d:decide ((i:Int)<(t:Int))=true:=bZ (by omega);have HC:=ah (wB _ _ _ n 0 wr HV.out (by omega) HN.out.1 HN.out.2 (by omega) (by omega));obtain⟨g',rfl⟩:∃g',gk=g'+1:=⟨gk-1,by omega⟩
   have HE:=ah (show k*n.toNat^i*n.toNat+(0:Int).toNat=k*n.toNat^(i+1)by rw[Nat.pow_succ,Nat.mul_assoc];rfl);rw[HE.out]at HC
   go_wp2_with (go_at_call 205;(with_reducible refine HC.out.mono ?_);rintro e w1⟨v1,rfl,hv1,hb1⟩;have HV1:=ah hv1;have HB1:=ah hb1;clear hv1 hb1)
   go_roundg g'
   case measure=>omega
   case rel=>exact⟨i+1,by go_num,by omega,HV1,⟨au HB.out HB1.out⟩⟩
  ·obtain rfl:i=t:=by omega
   go_wp2
   go_ret
   exact⟨_,rfl,HV.out,HB.out⟩
def cmp3(a b:Nat):Int:=if a<b then -1 else if b<a then 1 else 0
theorem rW(xs:List Int)(i:Nat)(h:i<=xs.length):dJ xs=dJ (xs.take i)+4294967296^i*dJ (xs.drop i):=by
 conv=>lhs;rw[<-List.take_append_drop i xs]
 rw[zS,List.length_take,Nat.min_eq_left h]
theorem DY.take{xs:List Int}(h:DY xs)(i:Nat):DY (xs.take i):=fun x hx=>h x (List.mem_of_mem_take hx)
theorem Jq{xs ys:List Int}{i:Nat}{x y:Int}(hl:xs.length=ys.length)(hx:xs[i]? =some x)(hy:ys[i]? =some y)(h1:DY xs)(h2:DY ys)(hd:xs.drop (i+1)=ys.drop (i+1))(h:x<y):dJ xs<dJ ys:=by
 obtain⟨hi,rfl⟩:=List.getElem?_eq_some_iff.1 hx;obtain⟨hj,rfl⟩:=List.getElem?_eq_some_iff.1 hy;rw[rW xs i (by omega),rW ys i (by omega),List.drop_eq_getElem_cons hi,List.drop_eq_getElem_cons hj,hd];have a1:=Ba (h1.take i);rw[List.length_take,Nat.min_eq_left (by omega)]at a1;have b0:=h1 _ (List.getElem_mem hi);generalize dJ (List.drop (i+1) ys)=D;have e:dJ (xs[i]::[])=dJ (xs[i]::[]):=rfl;show dJ (xs.take i)+4294967296^i*((xs[i]).toNat+4294967296*(dJ (List.drop (i+1) ys)))<dJ (ys.take i)+4294967296^i*((ys[i]).toNat+4294967296*(dJ (List.drop (i+1) ys)));generalize dJ (List.drop (i+1) ys)=D;have c1:(xs[i]).toNat+4294967296*D+1<=(ys[i]).toNat+4294967296*D:=by omega
 have c2:=Nat.mul_le_mul_left (4294967296^i) c1;rw[Nat.mul_add,Nat.mul_one]at c2;generalize 4294967296^i*((xs[i]).toNat+4294967296*D)=P at c2 ⊢;generalize 4294967296^i*((ys[i]).toNat+4294967296*D)=Q at c2 ⊢;generalize 4294967296^i=T at a1 c2;omega
theorem YD{xs:List Int}{n:Nat}{x:Int}(hx:xs[n]? =some x)(hl:xs.length=n+1)(h0:0<=x)(h:¬x=0):4294967296^n<=dJ xs:=by
 obtain⟨hi,rfl⟩:=List.getElem?_eq_some_iff.1 hx;rw[rW xs n (by omega),List.drop_eq_getElem_cons hi];have:4294967296^n*1<=4294967296^n*dJ (xs[n]::List.drop (n+1) xs):=Nat.mul_le_mul_left _ (by show 1<=(xs[n]).toNat+_;omega);rw[Nat.mul_one]at this;exact Nat.le_trans this (Nat.le_add_left _ _)
theorem PG(A:Option Addr)(n c:Nat)(hc:n+1<=c):∀W:World,(Instr.slice 244 (.slice A (n+1) c) none (some (.int .i64 (n:Int))) none).run Tryz.prog W= .ok (.slice A n c) W:=by
 obtain⟨i,hi,_⟩:=Option.map_eq_some_iff.1 Jp;intro W;have:=Gg (P:=Tryz.prog) 244 129 .i64 Tryz.underlying244 hi A (n+1) c (n:Int) (by omega) (by omega) hc W
 simpa using this
def Trim(xs:List Int)(n:Nat)(k:Nat):Prop:=n<=xs.length/\dJ (xs.take n)=k
theorem Trim.next{xs:List Int}{n k:Nat}(h:Trim xs (n+1) k)(hz:xs[n]? =some 0):Trim xs n k:=by
 obtain⟨h1,h2⟩:=h;obtain⟨hi,e⟩:=List.getElem?_eq_some_iff.1 hz;refine⟨by omega,?_⟩;rw[List.take_succ_eq_append_getElem hi,e,pF]at h2
 simpa using h2
theorem Trim.top{xs:List Int}{n k:Nat}{x:Int}(h:Trim xs (n+1) k)(hx:xs[n]? =some x)(hL:DY xs)(h0:¬x=0):4294967296^n<=k:=by
 obtain⟨h1,rfl⟩:=h;exact YD (x:=x) (by rw[List.getElem?_take_of_lt (by omega)];exact hx) (by rw[List.length_take];omega) (hL x (List.mem_of_getElem? hx)).1 h0
theorem Trim.lt{xs:List Int}{n k:Nat}(h:Trim xs n k)(hL:DY xs):k<4294967296^n:=by
 obtain⟨h1,rfl⟩:=h;have:=Ba (hL.take n)
 rwa [List.length_take,Nat.min_eq_left h1]at this
end Go.Proofs.YtapkmjfjikpnlaaGreatDoor
