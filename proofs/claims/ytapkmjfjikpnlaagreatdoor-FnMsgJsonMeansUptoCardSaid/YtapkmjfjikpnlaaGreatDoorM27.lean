/- A part of FnMsgJsonMeans. No conditions. -/
import Derived.Test.YtapkmjfjikpnlaaGreatDoorM25
import Derived.Test.YtapkmjfjikpnlaaGreatDoorM26
import Derived.WalkLawsBesides
set_option maxHeartbeats 8000000
set_option maxRecDepth 100000
namespace Go.Proofs.YtapkmjfjikpnlaaGreatDoor
open Go.RowKit YtapkmjfjikpnlaaGreatDoorW.aG YtapkmjfjikpnlaaGreatDoorW.aJ
set_option linter.unusedVariables false
set_option linter.unusedSimpArgs false
theorem RF.succ{S:fM}{n:Nat}{w0:World}{p:Nat}{P:List Int}{A0:Option Addr}{c0:Nat}{A1:Option Addr}{c1:Nat}(h:RF S n w0 p P A0 c0 A1 c1):True:=trivial
theorem parts_all(S:fM)(hS:jW S)(w0:World)(p:Nat)(P:List Int)(A0:Option Addr)(c0:Nat)(A1:Option Addr)(c1:Nat)(hP:qE P)(hSR:qZ w0 S A0 c0 A1 c1):∀n,He S n w0 p P A0 c0 A1 c1/\∀k,n=k+1->He S k w0 p P A0 c0 A1 c1:=by
 intro n
 induction n with
 |zero=>exact⟨fun _ _ _ _ _ _ _ _ _ hF=>hF.elim,fun k h=>absurd h (by omega)⟩
 |succ n ih=>
  have hone:=Wi S hS n w0 p P A0 c0 A1 c1 hP hSR ih.1;refine⟨NY S hS n w0 p P A0 c0 A1 c1 hP hSR (fun t hF hr=>?_) hone,fun k h=>?_⟩
  ·cases hm:t.map
   ·exact VN S n w0 p P A0 c0 A1 c1 hP hone t hF hm hr
   ·exact VR S hS n w0 p P A0 c0 A1 c1 hP hSR (fun k hk=>Wi S hS k w0 p P A0 c0 A1 c1 hP hSR (ih.2 k hk)) t hF hm
  ·obtain rfl:n=k:=by omega
   exact ih.1
def nS{α:Type}(g:α->Nat)(l:List α):Nat:=(l.map g).sum
theorem zB{α:Type}(g:α->Nat){l:List α}{i:Nat}{x:α}(hx:l[i]? =some x):nS g (l.take (i+1))=nS g (l.take i)+g x:=by
 obtain⟨hl,rfl⟩:=List.getElem?_eq_some_iff.1 hx;unfold nS;rw[List.take_succ_eq_append_getElem hl,List.map_append,List.sum_append];simp
theorem RY{α:Type}(g:α->Nat)(l:List α)(i:Nat):nS g (l.take i)<=nS g l:=by
 conv=>rhs;rw[<-List.take_append_drop i l]
 unfold nS;rw[List.map_append,List.sum_append];omega
theorem Ku{α:Type}(g:α->Nat){l:List α}{i:Nat}{x:α}(hx:l[i]? =some x):nS g (l.take i)+g x<=nS g l:=by
 rw[<-zB g hx];exact RY g l _
theorem jM{j n:Nat}(h:j<n)(hn:n<=9223372036854775807):IntKind.i64.wrap ((j:Int)+1)=(j:Int)+1:=kL (by omega) (by omega)
def nU(n:Nat)(v:Val):Nat:=v.S.size+kE n v.dA
theorem Dn(n:Nat)(l:List dD):kE (n+1) l=nS (fun f=>nS (nU n) f.Values) l:=rfl
theorem acv(n:Nat):∀(m:List dD)(A:Option Addr)(c:Nat)(w:World)(hr:Kd.C (jh n) w A m.length m)(hb:kE n m<=1000000000000),Calls Tryz.prog 40 #[.slice A m.length c] w fun e w'=>e= .returned (.int .i64 (kE n m))/\Below w.heap.size w w':=by
 induction n with
 |zero=>
  intro m A c w hr hb
  have hm:m=[]:=by
   cases m with
   |nil=>rfl
   |cons x t=>
    obtain⟨k,_,_,_,e,_⟩:=qm hr (i:=0) rfl;exact absurd e (by simp)
  subst hm;clear hr hb;go_enter Tryz.func40,Tryz.ntmps40;go_wp2
  go_loopg [3,10] 0 (fun g v3 v10 w'=>v10= .int .i64 0/\v3= .int .i64 0/\w=w')
  case atStart=>exact⟨rfl,rfl,rfl⟩
  case round=>
   obtain⟨rfl,rfl,rfl⟩:=hrel;go_wp2
   go_ret
   exact⟨rfl,bg _ _⟩
 |succ n ih=>
  intro m A c w hr hb;have IH:=ah ih;have HR:=ah hr;have HB0:=ah hb;have HMX:=ah (Kd.ou hr);clear ih hr hb;go_enter Tryz.func40,Tryz.ntmps40;go_wp2
  go_loopg [3,10] m.length (fun g v3 v10 w'=>∃i:Nat,v10= .int .i64 i/\i+g=m.length/\v3= .int .i64 ((nS (fun f:dD=>nS (nU n) f.Values) (m.take i):Nat))/\aC (Below w.heap.size w w'))
  case atStart=>exact⟨0,rfl,by omega,rfl,⟨bg _ _⟩⟩
  case round=>
   obtain⟨i,rfl,hg,rfl,HB⟩:=hrel;obtain⟨wo,rfl⟩:∃wo:World,wo=wr:=⟨_,rfl⟩
   obtain⟨go,rfl⟩:∃go:Nat,go=gk:=⟨_,rfl⟩
   by_cases hlt:i<m.length
   ·obtain⟨f,hf⟩:=bF hlt
    obtain⟨k,ad,A1,c1,ek,rfl,q0,q1,hc1,hC⟩:=qm (Kd.aU HR.out HB.out) hf.out;obtain rfl:n=k:=by omega
    have HC:=ah hC;have HMy:=ah (Kd.ou hC);obtain⟨S,hS⟩:∃S,S=nS (fun f:dD=>nS (nU n) f.Values) (m.take i):=⟨_,rfl⟩
    have hsum:=Ku (fun f:dD=>nS (nU n) f.Values) hf.out;have hSn:=zB (fun f:dD=>nS (nU n) f.Values) hf.out;have htot:=HB0.out;rw[Dn]at htot;rw[<-hS]at hsum hSn ⊢;have EF:=ah hSn;have hT:S+nS (nU n) f.Values<=1000000000000:=Nat.le_trans hsum htot;have HT:=ah hT;have w2:IntKind.i64.wrap ((i:Int)+1)=(i:Int)+1:=jM hlt HMX.out;clear hC hS hsum hSn htot hT;go_wp2
    go_loopg [3,17] f.Values.length (fun g v3 v17 w'=>∃j:Nat,v17= .int .i64 j/\j+g=f.Values.length/\v3= .int .i64 ((S+nS (nU n) (f.Values.take j):Nat))/\aC (Below wo.heap.size wo w'))
    case atStart=>exact⟨0,rfl,by omega,rfl,⟨ak (bg _ _) _⟩⟩
    case round=>
     obtain⟨j,rfl,hg2,rfl,HB2⟩:=hrel
     by_cases hj:j<f.Values.length
     ·obtain⟨x,hx⟩:=bF hj
      obtain⟨ad2,A2,c2,rfl,p0,p1,p2,p3,p4,p5,hc2,hC2⟩:=qL (Kd.aU HC.out HB2.out) hx.out;have HC2:=ah hC2;obtain⟨s,hs⟩:∃s,s=S+nS (nU n) (f.Values.take j):=⟨_,rfl⟩
      have hm:=Ku (nU n) hx.out;have hsn:=zB (nU n) hx.out;have hT:=HT.out;have hbv:nU n x=x.S.size+kE n x.dA:=rfl;have u1:IntKind.i64.wrap ((x.S.size:Int)+(kE n x.dA:Int))=(x.S.size:Int)+(kE n x.dA:Int):=kL (by omega) (by omega);have u2:IntKind.i64.wrap ((s:Int)+((x.S.size:Int)+(kE n x.dA:Int)))=(s:Int)+((x.S.size:Int)+(kE n x.dA:Int)):=kL (by omega) (by omega);have v1:wrap64 ((x.S.size:Int)+(kE n x.dA:Int))=(x.S.size:Int)+(kE n x.dA:Int):=w64 (by omega) (by omega);have v2:wrap64 ((s:Int)+((x.S.size:Int)+(kE n x.dA:Int)))=(s:Int)+((x.S.size:Int)+(kE n x.dA:Int)):=w64 (by omega) (by omega);have w3:IntKind.i64.wrap ((j:Int)+1)=(j:Int)+1:=jM hj HMy.out;have hle:kE n x.dA<=1000000000000:=Nat.le_trans (Nat.le_add_left _ x.S.size) (Nat.le_trans (Nat.le_add_left (nU n x) (nS (nU n) (f.Values.take j))) (Nat.le_trans hm (Nat.le_trans (Nat.le_add_left _ S) hT)));have hih:∀W:World,Kd.C (jh n) W A2 x.dA.length x.dA->Calls Tryz.prog 40 #[.slice A2 x.dA.length c2] W fun e w'=>e= .returned (.int .i64 (kE n x.dA))/\Below W.heap.size W w':=fun W h=>IH.out x.dA A2 c2 W h hle
      have HIH:=ah hih;clear hle hih;have HN:=ah (show S+nS (nU n) (f.Values.take (j+1))=s+(x.S.size+kE n x.dA)by omega);rw[<-hs];clear hm hsn hT hbv hs hC2;go_wp2;obtain⟨W2,hW2⟩:∃W2,W2=wr.alloc (.cells #[.bool x.B,.int .i64 x.I,.int .u64 x.U,.int .u64 x.F,.string x.S,.slice A2 x.dA.length c2] 76):=⟨_,rfl⟩
      have t4:W2.cell? ⟨wr.heap.size,4,none⟩=some (.string x.S):=by rw[hW2];exact(aA (heap_alloc_new wr _) 4).trans rfl
      have t5:W2.cell? ⟨wr.heap.size,5,none⟩=some (.slice A2 x.dA.length c2):=by rw[hW2];exact(aA (heap_alloc_new wr _) 5).trans rfl
      have XY:=ah (show Kd.C (jh n) W2 A2 x.dA.length x.dA by rw[hW2];exact Kd.dP HC2.out _);have QM:=ah (show Below wo.heap.size wo W2 by rw[hW2];exact ak HB2.out _);rw[<-hW2];clear hW2 p0 p1 p2 p3 p4 p5
      go_region_held3 (fun w'=>w'.cell? ⟨wr.heap.size,4,none⟩=some (.string x.S)/\w'.cell? ⟨wr.heap.size,5,none⟩=some (.slice A2 x.dA.length c2)/\aC (Below wo.heap.size wo w')) (first|exact⟨t4,t5,⟨aQ QM.out⟩⟩|exact⟨ay hb t4,ay hb t5,⟨au (aQ QM.out) hb⟩⟩) (first|(go_at_call 40;(with_reducible refine(HIH.out _ (Kd.BN XY.out)).mono ?_);rintro e w5⟨rfl,hb⟩))
      rename_i Oc;obtain⟨_,_,HH⟩:=Oc;obtain⟨g',rfl⟩:∃g',gk=g'+1:=⟨gk-1,by omega⟩
      go_wp2
      go_roundg g'
      case measure=>omega
      case rel=>exact⟨j+1,by go_num,by omega,by rw[HN.out];simp,HH⟩
     ·obtain rfl:j=f.Values.length:=by omega
      have w2':=w2;have HN:=ah (show nS (fun f:dD=>nS (nU n) f.Values) (m.take (i+1))=S+nS (nU n) (f.Values.take f.Values.length)by rw[EF.out,List.take_length]);go_wp2;obtain⟨g',rfl⟩:∃g',go=g'+1:=⟨go-1,by omega⟩
      go_roundg g'
      case measure=>omega
      case rel=>exact⟨i+1,by go_num,by omega,by rw[HN.out],⟨au HB.out HB2.out⟩⟩
   ·obtain rfl:i=m.length:=by omega
    have HF:=ah (show kE (n+1) m=nS (fun f:dD=>nS (nU n) f.Values) (m.take m.length)by rw[Dn,List.take_length]);go_wp2
    go_ret
    exact⟨by rw[HF.out];rfl,HB.out⟩
def lH(f:Int):Bool:=decide (18437736874454810624<IntKind.u64.wrap (f*2))
theorem oV(f:Int)(w:World):Calls Tryz.prog 61 #[.int .u64 f] w fun r w'=>r= .returned (.bool (lH f))/\w=w':=by
 have HF:=ah (show lH f=decide (18437736874454810624<IntKind.u64.wrap (f*2))from rfl);go_enter Tryz.func61,Tryz.ntmps61;go_wp2
 go_ret
 exact⟨by rw[HF.out];rfl,rfl⟩
def gq(rec:List dD->List dD->Bool)(v u:Val):Bool:=
 (v.B==u.B)&&(v.I==u.I)&&(v.U==u.U)&&((v.F==u.F)||(lH v.F&&lH u.F))&&(v.S.toList==u.S.toList)&&rec v.dA u.dA
def Kv:Val:=.mk false 0 0 0 ⟨#[]⟩ []
def EG:dD:=.mk 0 []
def nH(rec:List dD->List dD->Bool)(x y:dD):Bool:=
 (x.At==y.At)&&decide (x.Values.length=y.Values.length)&&(List.range x.Values.length).all (fun k=>gq rec (x.Values.getD k Kv) (y.Values.getD k Kv))
def ji:Nat->List dD->List dD->Bool
 |0,a,b=>decide (a.length=b.length)
 |n+1,a,b=>decide (a.length=b.length)&&(List.range a.length).all (fun i=>nH (ji n) (a.getD i EG) (b.getD i EG))
theorem oW(rec:List dD->List dD->Bool)(v u:Val)(A1:Option Addr)(c1:Nat)(A2:Option Addr)(c2:Nat)(w:World)
 (hI:∀W:World,Below w.heap.size w W->Calls Tryz.prog 62 #[.slice A1 v.dA.length c1,.slice A2 u.dA.length c2] W fun e w'=>e= .returned (.bool (rec v.dA u.dA))/\Below W.heap.size W w'):
 Calls Tryz.prog 28 #[.agg #[.bool v.B,.int .i64 v.I,.int .u64 v.U,.int .u64 v.F,.string v.S,.slice A1 v.dA.length c1],.agg #[.bool u.B,.int .i64 u.I,.int .u64 u.U,.int .u64 u.F,.string u.S,.slice A2 u.dA.length c2]] w fun e w'=>e= .returned (.bool (gq rec v u))/\Below w.heap.size w w':=by
 have HI:=ah hI;clear hI;cases e1:(v.B==u.B)
 ·skip
  have HF:=ah (show gq rec v u=false by simp only[gq,e1];rfl);go_enter Tryz.func28,Tryz.ntmps28;go_wp2
  go_ret
  exact⟨by rw[HF.out];rfl,ak (ak (bg _ _) _) _⟩
 ·skip
  cases e2:(v.I==u.I)
  ·skip
   have HF:=ah (show gq rec v u=false by simp only[gq,e1,e2];rfl);go_enter Tryz.func28,Tryz.ntmps28;go_wp2
   go_ret
   exact⟨by rw[HF.out];rfl,ak (ak (bg _ _) _) _⟩
  ·skip
   cases e3:(v.U==u.U)
   ·skip
    have HF:=ah (show gq rec v u=false by simp only[gq,e1,e2,e3];rfl);go_enter Tryz.func28,Tryz.ntmps28;go_wp2
    go_ret
    exact⟨by rw[HF.out];rfl,ak (ak (bg _ _) _) _⟩
   ·skip
    cases e4:(v.F==u.F)
    ·skip
     cases n1:lH v.F
     ·skip
      have HF:=ah (show gq rec v u=false by simp only[gq,e1,e2,e3,e4,n1];rfl);go_enter Tryz.func28,Tryz.ntmps28
      go_wp2_with (first|(go_at_call 61;(with_reducible refine(oV _ _).mono ?_);rw[n1];rintro e w1⟨rfl,rfl⟩))
      go_ret
      exact⟨by rw[HF.out];rfl,ak (ak (bg _ _) _) _⟩
     ·skip
      cases n2:lH u.F
      ·skip
       have HF:=ah (show gq rec v u=false by simp only[gq,e1,e2,e3,e4,n1,n2];rfl);go_enter Tryz.func28,Tryz.ntmps28
       go_wp2_with (first|(go_at_call 61;(with_reducible refine(oV _ _).mono ?_);rw[n1];rintro e w1⟨rfl,rfl⟩)|(go_at_call 61;(with_reducible refine(oV _ _).mono ?_);rw[n2];rintro e w1⟨rfl,rfl⟩))
       go_ret
       exact⟨by rw[HF.out];rfl,ak (ak (bg _ _) _) _⟩
      ·skip
       cases e5:(v.S.toList==u.S.toList)
       ·skip
        have HF:=ah (show gq rec v u=false by simp only[gq,e1,e2,e3,e4,n1,n2,e5];rfl);go_enter Tryz.func28,Tryz.ntmps28
        go_wp2_with (first|(go_at_call 61;(with_reducible refine(oV _ _).mono ?_);rw[n1];rintro e w1⟨rfl,rfl⟩)|(go_at_call 61;(with_reducible refine(oV _ _).mono ?_);rw[n2];rintro e w1⟨rfl,rfl⟩))
        go_ret
        exact⟨by rw[HF.out];rfl,ak (ak (bg _ _) _) _⟩
       ·skip
        cases hm:rec v.dA u.dA
        ·skip
         have HF:=ah (show gq rec v u=false by simp only[gq,e1,e2,e3,e4,n1,n2,e5,hm];rfl);go_enter Tryz.func28,Tryz.ntmps28
         go_wp2_with (first|(go_at_call 61;(with_reducible refine(oV _ _).mono ?_);rw[n1];rintro e w1⟨rfl,rfl⟩)|(go_at_call 61;(with_reducible refine(oV _ _).mono ?_);rw[n2];rintro e w1⟨rfl,rfl⟩)|(go_at_call 62;(with_reducible refine(HI.out _ (ak (ak (bg _ _) _) _)).mono ?_);rw[hm];rintro e w2⟨rfl,hb⟩;have HB:=ah hb;clear hb))
         go_ret
         exact⟨by rw[HF.out];rfl,au (ak (ak (bg _ _) _) _) HB.out⟩
        ·skip
         have HF:=ah (show gq rec v u=true by simp only[gq,e1,e2,e3,e4,n1,n2,e5,hm];rfl);go_enter Tryz.func28,Tryz.ntmps28
         go_wp2_with (first|(go_at_call 61;(with_reducible refine(oV _ _).mono ?_);rw[n1];rintro e w1⟨rfl,rfl⟩)|(go_at_call 61;(with_reducible refine(oV _ _).mono ?_);rw[n2];rintro e w1⟨rfl,rfl⟩)|(go_at_call 62;(with_reducible refine(HI.out _ (ak (ak (bg _ _) _) _)).mono ?_);rw[hm];rintro e w2⟨rfl,hb⟩;have HB:=ah hb;clear hb))
         go_ret
         exact⟨by rw[HF.out];rfl,au (ak (ak (bg _ _) _) _) HB.out⟩
    ·skip
     cases e5:(v.S.toList==u.S.toList)
     ·skip
      have HF:=ah (show gq rec v u=false by simp only[gq,e1,e2,e3,e4,e5];rfl);go_enter Tryz.func28,Tryz.ntmps28;go_wp2
      go_ret
      exact⟨by rw[HF.out];rfl,ak (ak (bg _ _) _) _⟩
     ·skip
      cases hm:rec v.dA u.dA
      ·skip
       have HF:=ah (show gq rec v u=false by simp only[gq,e1,e2,e3,e4,e5,hm];rfl);go_enter Tryz.func28,Tryz.ntmps28
       go_wp2_with (first|(go_at_call 62;(with_reducible refine(HI.out _ (ak (ak (bg _ _) _) _)).mono ?_);rw[hm];rintro e w2⟨rfl,hb⟩;have HB:=ah hb;clear hb))
       go_ret
       exact⟨by rw[HF.out];rfl,au (ak (ak (bg _ _) _) _) HB.out⟩
      ·skip
       have HF:=ah (show gq rec v u=true by simp only[gq,e1,e2,e3,e4,e5,hm];rfl);go_enter Tryz.func28,Tryz.ntmps28
       go_wp2_with (first|(go_at_call 62;(with_reducible refine(HI.out _ (ak (ak (bg _ _) _) _)).mono ?_);rw[hm];rintro e w2⟨rfl,hb⟩;have HB:=ah hb;clear hb))
       go_ret
       exact⟨by rw[HF.out];rfl,au (ak (ak (bg _ _) _) _) HB.out⟩
end Go.Proofs.YtapkmjfjikpnlaaGreatDoor
namespace Go.Proofs.YtapkmjfjikpnlaaGreatDoor
open FP
set_option linter.unusedVariables false
def sh32:Nat:=925
theorem nV(f:Ieee.Format)(x:Nat)(h:x%f.signWeight<f.infRung):∃m p:Nat,f.read x= .number (x/f.signWeight%2==1) m (f.leastPlace+p)/\m*2^p=fv f.fractionBits (x%f.signWeight):=by
 unfold Ieee.Format.read;dsimp only;generalize hk:x%f.signWeight=k at*;unfold fv
 by_cases h1:k<f.binade
 ·rw[if_pos h1]
  have h1':k<2^f.fractionBits:=h1;exact⟨k,0,by simp,by rw[if_pos h1'];simp⟩
 ·rw[if_neg h1,if_pos h]
  have h1':¬k<2^f.fractionBits:=h1;exact⟨f.binade+k%f.binade,k/f.binade-1,rfl,by rw[if_neg h1'];rfl⟩
theorem Dp(f:Ieee.Format)(x:Nat)(hb:f.binade<=f.infRung)(h:x%f.signWeight=f.infRung):f.read x= .infinity (x/f.signWeight%2==1):=by
 unfold Ieee.Format.read;dsimp only;rw[h,if_neg (by omega),if_neg (by omega),if_pos rfl]
theorem Kw(f:Ieee.Format)(x:Nat)(hb:f.binade<=f.infRung)(h:f.infRung<x%f.signWeight):∃s t,f.read x= .nan s t:=by
 unfold Ieee.Format.read;dsimp only;rw[if_neg (by omega),if_neg (by omega),if_neg (by omega)];exact⟨_,_,rfl⟩
def widen(r:Nat):Nat:=FloatKind.f64.encode (FloatKind.f32.decode r)
def wrg(m p:Nat):Nat:=if m=0 then 0 else(p+m.log2+873)*2^52+m*2^(52-m.log2)
theorem cut0(neg:Bool)(n:Nat):Ieee.Toward.even.cut neg n 0=n:=by
 unfold Ieee.Toward.cut;simp;omega
theorem Wn{s K:Nat}(h2:2^s<=K)(h1:K<2^(s+1))(E:Nat):fv s (E*2^s+K)=K*2^(E+1-1):=by
 have hT:0<2^s:=Nat.pow_pos (by omega);rw[Nat.pow_succ]at h1;unfold fv;generalize 2^s=T at*
 have hdiv:(E*T+K)/T=E+1:=by
  rw[Nat.add_comm,Nat.add_mul_div_right _ _ hT]
  have:K/T=1:=by
   rw[Nat.div_eq_iff hT];constructor<;>omega
  omega
 have hmod:(E*T+K)%T=K-T:=by
  rw[Nat.add_comm,Nat.add_mul_mod_self_right,Nat.mod_eq_sub_mod h2,Nat.mod_eq_of_lt (by omega)]
 rw[if_neg (by have:=Nat.zero_le (E*T);omega),hdiv,hmod,show T+(K-T)=K by omega]
theorem Wp(neg:Bool)(m p:Nat)(hm:m<2^24)(hp:p<=1000):Ieee.double.nearest neg m (-149+p)=Ieee.double.word neg (wrg m p)/\wrg m p<Ieee.double.infRung/\fv 52 (wrg m p)=m*2^p*2^sh32:=by
 unfold Ieee.Format.nearest wrg
 by_cases h0:m=0
 ·subst h0
  simp[Bc]
  decide
 ·rw[if_neg h0,if_neg h0]
  have hl:m.log2<24:=(Nat.log2_lt h0).2 hm;have hlo:2^m.log2<=m:=Nat.log2_self_le h0;have hhi:m<2^(m.log2+1):=Nat.lt_log2_self;generalize hL:m.log2=L at*
  have hlast:max ((-149:Int)+p+L-Ieee.double.fractionBits) Ieee.double.leastPlace=(-201:Int)+p+L:=by
   have e1:(Ieee.double.fractionBits:Int)=52:=rfl;have e2:Ieee.double.leastPlace= -1074:=by decide
   rw[e1,e2];omega
  have hk:m*2^(52-L)<2^53/\2^52<=m*2^(52-L):=by
   constructor
   ·have:=Nat.mul_lt_mul_of_pos_right hhi (Nat.pow_pos (n:=52-L) (show 0<2 by omega))
    rw[<-Nat.pow_add,show L+1+(52-L)=53 by omega]at this;exact this
   ·have:=Nat.mul_le_mul_right (2^(52-L)) hlo
    rw[<-Nat.pow_add,show L+(52-L)=52 by omega]at this;exact this
  refine⟨?_,?_,?_⟩
  ·dsimp only
   rw[hlast];have e3:(((-149:Int)+p)-(-201+p+L)).toNat=52-L:=by omega
   have e4:((-201:Int)+p+L-(-149+p)).toNat=0:=by omega
   rw[e3,e4,cut0]
   have e5:((-201:Int)+p+L-Ieee.double.leastPlace).toNat=p+L+873:=by
    have e2:Ieee.double.leastPlace= -1074:=by decide
    rw[e2];omega
   rw[e5]
   congr 1
   have e6:Ieee.double.binade=2^52:=rfl;have e7:Ieee.double.infRung=2047*2^52:=by decide
   rw[e6,e7,Nat.shiftLeft_eq,Nat.min_eq_left];generalize m*2^(52-L)=K at hk ⊢;obtain⟨h1,h2⟩:=hk;have:(2:Nat)^53=2*2^52:=by decide
   generalize (2:Nat)^52=T at*;have hq:p+L+873+2<=2047:=by omega
   have:=Nat.mul_le_mul_right T hq;rw[Nat.add_mul]at this;omega
  ·have e7:Ieee.double.infRung=2047*2^52:=by decide
   rw[e7];generalize m*2^(52-L)=K at hk ⊢;obtain⟨h1,h2⟩:=hk;have:(2:Nat)^53=2*2^52:=by decide
   generalize (2:Nat)^52=T at*;have hq:p+L+873+2<=2047:=by omega
   have:=Nat.mul_le_mul_right T hq;rw[Nat.add_mul]at this;omega
  ·generalize hK:m*2^(52-L)=K at hk ⊢
   have hT:m*2^(52-L)*2^L=m*2^52:=by rw[Nat.mul_assoc,<-Nat.pow_add,show 52-L+L=52 by omega]
   rw[hK]at hT
   have hfin:m*2^p*2^sh32=K*2^(p+L+874-1):=by
    rw[show p+L+874-1=L+(p+873)by omega,Nat.pow_add,<-Nat.mul_assoc K,hT,Nat.mul_assoc,Nat.mul_assoc,<-Nat.pow_add,<-Nat.pow_add,show p+sh32=52+(p+873)by unfold sh32;omega]
   rw[hfin];clear hfin hT hK;exact Wn hk.2 hk.1 (p+L+873)
theorem tY(r:Nat)(h:r%2147483648<2139095040):∃k,k<9218868437227405312/\widen r=(if r/2147483648%2=1 then 9223372036854775808 else 0)+k/\fv 52 k=fv 23 (r%2147483648)*2^sh32:=by
 have hs:Ieee.single.signWeight=2147483648:=by decide
 have hi:Ieee.single.infRung=2139095040:=by decide
 obtain⟨m,p,h1,h2⟩:=nV Ieee.single r (by rw[hs,hi];exact h);rw[hs]at h1 h2;have hlp:Ieee.single.leastPlace= -149:=by decide
 have hfb:Ieee.single.fractionBits=23:=rfl;rw[hlp]at h1;rw[hfb]at h2
 have hmp:m<2^24/\p<=1000:=by
  unfold Ieee.Format.read at h1;dsimp only at h1;rw[hs]at h1;have hb:Ieee.single.binade=8388608:=by decide
  rw[hb,hi,hlp]at h1
  split at h1
  ·injection h1 with _ e1 e2
   refine⟨by omega,by omega⟩
  ·injection h1 with _ e1 e2
   refine⟨by omega,by omega⟩
 obtain⟨n1,n2,n3⟩:=Wp (r/2147483648%2==1) m p hmp.1 hmp.2
 refine⟨wrg m p,by have:Ieee.double.infRung=9218868437227405312:=by decide
                   omega,?_,by rw[n3,h2]⟩
 show Ieee.double.write (Ieee.single.read r)=_;rw[h1];show Ieee.double.nearest _ m (-149+p)=_;rw[n1];unfold Ieee.Format.word;have hd:Ieee.double.signWeight=9223372036854775808:=by decide
 rw[hd]
 by_cases hc:r/2147483648%2=1
 ·rw[if_pos hc];simp[hc]
 ·rw[if_neg hc];simp[hc]
def Short(F:Nat):Prop:=9218868437227405312<=F%9223372036854775808∨∃k,k<2139095040/\F%9223372036854775808=widen k
theorem Oe{s a b:Nat}(h:fv s a=fv s b):a=b:=by
 rcases Nat.lt_trichotomy a b with h1|h1|h1
 ·have:=PL (s:=s) h1;omega
 ·exact h1
 ·have:=PL (s:=s) h1;omega
theorem qM{k:Nat}(h:k<2139095040):widen k<9218868437227405312/\fv 52 (widen k)=fv 23 k*2^sh32:=by
 obtain⟨j,h1,h2,h3⟩:=tY k (by omega);rw[Nat.mod_eq_of_lt (by omega)]at h3;rw[if_neg (by omega),Nat.zero_add]at h2;rw[h2];exact⟨h1,h3⟩
theorem Dq(s:Bool)(m u:Nat):(Ieee.signed s m u).natAbs=m*2^u:=by
 unfold Ieee.signed;rw[Nat.shiftLeft_eq];generalize m*2^u=k;cases s
 ·exact Int.natAbs_natCast k
 ·show(-(k:Int)).natAbs=k
  rw[Int.natAbs_neg,Int.natAbs_natCast]
theorem Wq{F r:Nat}(hF:F<18446744073709551616)(hn:¬2139095040<r%2147483648)(h:FloatKind.f64.format.order (widen r) F=some Ordering.eq):Short F:=by
 by_cases hfi:9218868437227405312<=F%9223372036854775808
 ·exact .inl hfi
 have hd:Ieee.double.signWeight=9223372036854775808:=by decide
 have hi:Ieee.double.infRung=9218868437227405312:=by decide
 obtain⟨m,p,h1,h2⟩:=nV Ieee.double F (by rw[hd,hi];omega)
 change Ieee.Datum.order (Ieee.double.read (widen r)) (Ieee.double.read F)=_ at h
 rw[h1]at h
 by_cases acw:r%2147483648=2139095040
 ·exfalso
  have e1:Ieee.single.read r= .infinity (r/Ieee.single.signWeight%2==1):=Dp _ _ (by decide) (by have:Ieee.single.signWeight=2147483648:=by decide
                                                                                                rw[this,acw];decide)
  have e2:widen r=Ieee.double.word (r/Ieee.single.signWeight%2==1) Ieee.double.infRung:=by
   show Ieee.double.write (Ieee.single.read r)=_;rw[e1];rfl
  rw[e2]at h;cases hb:(r/Ieee.single.signWeight%2==1)<;>rw[hb]at h
  ·rw[show Ieee.double.read (Ieee.double.word false Ieee.double.infRung)= .infinity false by decide]at h
   cases h
  ·rw[show Ieee.double.read (Ieee.double.word true Ieee.double.infRung)= .infinity true by decide]at h
   cases h
 ·obtain⟨k,k1,k2,k3⟩:=tY r (by omega)
  have hkm:widen r%9223372036854775808=k:=by rw[k2];split<;>omega
  obtain⟨m2,p2,g1,g2⟩:=nV Ieee.double (widen r) (by rw[hd,hi,hkm];exact k1);rw[g1]at h;rw[hd,hkm]at g2;rw[hd]at h2
  have h':compare (Ieee.signed (widen r/Ieee.double.signWeight%2==1) m2 (Ieee.double.leastPlace+p2-min (Ieee.double.leastPlace+p2) (Ieee.double.leastPlace+p)).toNat) (Ieee.signed (F/Ieee.double.signWeight%2==1) m (Ieee.double.leastPlace+p-min (Ieee.double.leastPlace+p2) (Ieee.double.leastPlace+p)).toNat)=Ordering.eq:=by
   have:=h;simp only[Ieee.Datum.order]at this;exact Option.some.inj this
  rw[Int.compare_eq_eq]at h';have h3:=congrArg Int.natAbs h';rw[Dq,Dq]at h3;have h4:=congrArg (· *2^(min p2 p)) h3;simp only[Nat.mul_assoc,<-Nat.pow_add]at h4
  rw[show(Ieee.double.leastPlace+p2-min (Ieee.double.leastPlace+p2) (Ieee.double.leastPlace+p)).toNat+min p2 p=p2 by omega,
   show(Ieee.double.leastPlace+p-min (Ieee.double.leastPlace+p2) (Ieee.double.leastPlace+p)).toNat+min p2 p=p by omega,g2,h2]at h4
  have h5:k=F%9223372036854775808:=Oe h4;refine .inr ⟨r%2147483648,by omega,?_⟩;obtain⟨_,k6⟩:=qM (k:=r%2147483648) (by omega);refine Oe (s:=52) ?_;rw[k6,<-h5];exact k3
end Go.Proofs.YtapkmjfjikpnlaaGreatDoor
namespace Go.Proofs.YtapkmjfjikpnlaaGreatDoor
open Go.RowKit YtapkmjfjikpnlaaGreatDoorW.aG YtapkmjfjikpnlaaGreatDoorW.aJ
set_option linter.unusedVariables false
set_option linter.unusedSimpArgs false
theorem acy(f:Int)(w:World):(callFunc 58 #[.int .u64 f]).run Tryz.prog w= .ok (.value (.float .f64 f.toNat)) w:=by kernel_rfl
theorem zY(f:Int)(w:World):Calls Tryz.prog 197 #[.int .u64 f] w fun r w'=>r= .returned (.float .f64 f.toNat)/\w=w':=by
 have h:=fun w=>acy f w
 go_enter Tryz.func197,Tryz.ntmps197;go_wp2
 go_ret
 exact⟨rfl,rfl⟩
theorem acz(b:Nat)(w:World):∃r w1,(convert 127 126 (.float .f64 b)).run Tryz.prog w= .ok (.float .f32 r) w1/\Below w.heap.size w w1:=by
 have hs:(Tryz.prog.underlying 127).isSome=true:=by rw[Tryz.underlying127];rfl
 cases h:floatToFloatBits .f64 b .f32 with
 |some r=>exact⟨r,w,run_convert_float_float w _ _ _ _ _ _ hs Tryz.underlying126 h,bg _ _⟩
 |none=>
  unfold floatToFloatBits at h;rw[if_neg (by decide)]at h
  split at h
  ·rename_i e
   refine⟨(Question.nanConv .f32 b).cut (w.tape w.drawn (.nanConv .f32 b)),w.drew,?_,aQ (bg _ _)⟩;simp only[convert,run_underlying Tryz.underlying127,run_underlying Tryz.underlying126,Conv.floatToFloat,e,Sem.run_bind,Result.andThen_ok];simp[Question.forced]
  ·cases h
  ·split at h
   ·rename_i e ho
    refine⟨(Question.floatToFloat b).cut (w.tape w.drawn (.floatToFloat b)),w.drew,?_,aQ (bg _ _)⟩;simp only[convert,run_underlying Tryz.underlying127,run_underlying Tryz.underlying126,Conv.floatToFloat,e,Sem.run_bind,Result.andThen_ok];simp[Question.forced,ho]
   ·cases h
theorem acA(b:Nat)(w:World):∃r w1,(convert 126 127 (.float .f32 b)).run Tryz.prog w= .ok (.float .f64 r) w1/\Below w.heap.size w w1/\((b%2147483648<=2139095040/\r=widen b/\w=w1)∨9218868437227405312<r%9223372036854775808):=by
 have hs:(Tryz.prog.underlying 126).isSome=true:=by rw[Tryz.underlying126];rfl
 have hd:Ieee.single.signWeight=2147483648:=by decide
 have hi:Ieee.single.infRung=2139095040:=by decide
 by_cases hn:2139095040<b%2147483648
 ·obtain⟨s,t,e⟩:=Kw Ieee.single b (by decide) (by rw[hd,hi];exact hn)
  have e':FloatKind.f32.decode b= .nan s t:=e;refine⟨(Question.nanConv .f64 b).cut (w.tape w.drawn (.nanConv .f64 b)),w.drew,?_,aQ (bg _ _),?_⟩
  ·simp only[convert,run_underlying Tryz.underlying127,run_underlying Tryz.underlying126,Conv.floatToFloat,e',Sem.run_bind,Result.andThen_ok]
   simp[Question.forced]
  ·right
   simp only[Question.cut];generalize w.tape w.drawn (.nanConv .f64 b)=T;have h1:T/2%(2^52-1)<2^52-1:=Nat.mod_lt _ (by decide);generalize T/2%(2^52-1)=U at*;omega
 ·refine⟨widen b,w,?_,bg _ _,.inl ⟨by omega,rfl,rfl⟩⟩
  refine run_convert_float_float w _ _ _ _ _ _ hs Tryz.underlying127 ?_;unfold floatToFloatBits;rw[if_neg (by decide)]
  by_cases acw:b%2147483648=2139095040
  ·have e1:FloatKind.f32.decode b= .infinity (b/Ieee.single.signWeight%2==1):=Dp Ieee.single b (by decide) (by rw[hd,acw];decide)
   unfold widen;rw[e1]
  ·obtain⟨m,p,h1,_⟩:=nV Ieee.single b (by rw[hd,hi];omega)
   have e1:FloatKind.f32.decode b= .number (b/Ieee.single.signWeight%2==1) m (Ieee.single.leastPlace+p):=h1;obtain⟨k,k1,k2,k3⟩:=tY b (by omega);have hw:FloatKind.f64.encode (.number (b/Ieee.single.signWeight%2==1) m (Ieee.single.leastPlace+p))=widen b:=by unfold widen;rw[e1]
   rw[e1];simp only;rw[hw];have hd2:Ieee.double.signWeight=9223372036854775808:=by decide
   have hi2:Ieee.double.infRung=9218868437227405312:=by decide
   have hkm:widen b%9223372036854775808=k:=by rw[k2];split<;>omega
   obtain⟨m2,p2,g1,_⟩:=nV Ieee.double (widen b) (by rw[hd2,hi2,hkm];exact k1);rw[if_neg];intro hh;have g2:FloatKind.f64.decode (widen b)=_:=g1;rw[g2]at hh;cases hh
theorem RZ{x y:Nat}(h:9218868437227405312<x%9223372036854775808):FloatKind.f64.format.order x y=none:=by
 obtain⟨s,t,e⟩:=Kw Ieee.double x (by decide) (by
  have hd:Ieee.double.signWeight=9223372036854775808:=by decide
  have hi:Ieee.double.infRung=9218868437227405312:=by decide
  rw[hd,hi];exact h)
 show Ieee.Datum.order (Ieee.double.read x) _=none;rw[e]
 rfl
theorem Og{x:Nat}(h:¬FloatKind.f64.format.order x x=some Ordering.eq):9218868437227405312<x%9223372036854775808:=by
 by_cases h2:9218868437227405312<x%9223372036854775808
 ·exact h2
 ·exfalso
  apply h
  have hd:Ieee.double.signWeight=9223372036854775808:=by decide
  have hi:Ieee.double.infRung=9218868437227405312:=by decide
  show Ieee.Datum.order (Ieee.double.read x) (Ieee.double.read x)=_
  by_cases h3:x%9223372036854775808=9218868437227405312
  ·rw[Dp Ieee.double x (by decide) (by rw[hd,h3,hi])]
   simp[Ieee.Datum.order]
  ·obtain⟨m,p,h1,_⟩:=nV Ieee.double x (by rw[hd,hi];omega)
   rw[h1];simp[Ieee.Datum.order,Int.compare_eq_eq]
theorem yE(f:Int)(hf0:0<=f)(hf1:f<18446744073709551616)(w:World):Calls Tryz.prog 169 #[.int .u64 f] w fun r w'=>∃b,r= .returned (.bool b)/\(b=true->Short f.toNat)/\Below w.heap.size w w':=by
 by_cases hx:FloatKind.f64.format.order f.toNat f.toNat=some Ordering.eq
 ·obtain⟨r,w1,h1,hb1⟩:=acz f.toNat w
  obtain⟨x,w2,h2,hb2,h3⟩:=acA r w1;have HB:=ah (au hb1 hb2);have H3:=ah h3;have HF:=ah (And.intro hf0 hf1);clear h3 hb1 hb2 hf0 hf1;go_enter Tryz.func169,Tryz.ntmps169
  go_wp2_with (go_at_call 197;(with_reducible refine(zY _ _).mono ?_);rintro e w1⟨rfl,rfl⟩)
  go_ret
  refine⟨_,rfl,fun hb=>?_,HB.out⟩;have ho:FloatKind.f64.format.order x f.toNat=some Ordering.eq:=by simpa using hb
  rcases H3.out with⟨h5,rfl,_⟩|h4
  ·exact Wq (by have:=HF.out;omega) (by omega) ho
  ·rw[RZ h4]at ho;cases ho
 ·have hn:=Og hx
  go_enter Tryz.func169,Tryz.ntmps169
  go_wp2_with (go_at_call 197;(with_reducible refine(zY _ _).mono ?_);rintro e w1⟨rfl,rfl⟩)
  go_ret
  exact⟨_,rfl,fun _=>.inl (by omega),bg _ _⟩
end Go.Proofs.YtapkmjfjikpnlaaGreatDoor
