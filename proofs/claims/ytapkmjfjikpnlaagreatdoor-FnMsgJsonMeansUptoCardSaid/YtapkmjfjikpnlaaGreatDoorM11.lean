/- A part of FnMsgJsonMeans. No conditions. -/
import Derived.Test.YtapkmjfjikpnlaaGreatDoorM10
set_option maxHeartbeats 8000000
set_option maxRecDepth 100000
namespace Go.Proofs.YtapkmjfjikpnlaaGreatDoor
open Go.RowKit YtapkmjfjikpnlaaGreatDoorW.aG YtapkmjfjikpnlaaGreatDoorW.aJ FP
set_option linter.unusedVariables false
set_option linter.unusedSimpArgs false
def bC(l:List Int):Nat:=zi (l.map Int.toNat)
def jT(l:List Int):Prop:=∀d∈l,48<=d/\d<=57
theorem iK(l:List Int)(d:Int):bC (l++[d])=bC l*10+(d.toNat-48):=by
 unfold bC;rw[List.map_append];exact QV _ _
theorem nP(l m:List Int):bC (l++m)=bC l*10^m.length+bC m:=by
 unfold bC;rw[List.map_append,zT,List.length_map]
theorem iZ(d:Int)(l:List Int):bC (d::l)=(d.toNat-48)*10^l.length+bC l:=by
 unfold bC;rw[List.map_cons,rX,List.length_map]
theorem Bd{l:List Int}(h:jT l):bC l<10^l.length:=by
 have:=YJ (l.map Int.toNat) (by
  intro d hd;obtain⟨x,hx,rfl⟩:=List.mem_map.1 hd;have:=h x hx;omega)
 rwa [List.length_map]at this
theorem jT.snoc{xs:List Int}{y:Int}(h:jT xs)(h0:48<=y)(h1:y<=57):jT (xs++[y]):=by
 intro x hx;rcases List.mem_append.1 hx with hx|hx
 ·exact h x hx
 ·rw[List.mem_singleton.1 hx];exact⟨h0,h1⟩
def mJ(f n D:Nat)(p:Int):Prop:=∀A B:Nat,4000<=A->1100<=B->
 2*(D*10^((A:Int)+p).toNat*2^B)*10^n<=2*(iE 52 f*10^A*2^(B-1074+gZ 52 f))*10^n+iE 52 f*10^A*2^(B-1074+gZ 52 f)/\
 2*(iE 52 f*10^A*2^(B-1074+gZ 52 f))*10^n<=2*(D*10^((A:Int)+p).toNat*2^B)*10^n+iE 52 f*10^A*2^(B-1074+gZ 52 f)
def CU(f n:Nat)(ds:List Int)(P:Int):Prop:=ds.length=n+1/\jT ds/\10^n<=bC ds/\ -1100<=P/\P<=1100/\mJ f n (bC ds) (P-(n+1))
theorem EU{j a b N:Nat}(hb:0<b)(h:b*10^j<=a)(ha:a<2^N):j<N:=by
 have h1:2^j<=10^j:=Nat.pow_le_pow_left (by omega) j;have h2:1*10^j<=b*10^j:=Nat.mul_le_mul_right _ hb;rw[Nat.one_mul]at h2;have h3:2^j<2^N:=Nat.lt_of_le_of_lt h1 (Nat.lt_of_le_of_lt h2 (Nat.lt_of_le_of_lt h ha));exact(Nat.pow_lt_pow_iff_right (by omega)).1 h3
theorem Ju(W:World)(x y:Int)(hx:0<=x)(hx1:x<4294967296)(hy:0<=y)(hy1:y<4294967296):gW (W.alloc (.cells #[.int .u32 x,.int .u32 y] 129)) (.slice (some ⟨W.heap.size,0,none⟩) 2 2) (x.toNat+4294967296*y.toNat) 2:=by
 have h:xY (W.alloc (.cells #[.int .u32 x,.int .u32 y] 129)) W.heap.size (.slice (some ⟨W.heap.size,0,none⟩) 2 2) [x,y]:=Kd.fZ (FW W W.heap.size 129 .u32 [x,y] (Nat.le_refl _) (by simp)) (fun _ _=>trivial);exact gW.own h (by intro z hz;simp at hz;omega)
theorem UL(W:World):gW (W.alloc (.cells #[.int .u32 1] 129)) (.slice (some ⟨W.heap.size,0,none⟩) 1 1) 1 1:=by
 have h:xY (W.alloc (.cells #[.int .u32 1] 129)) W.heap.size (.slice (some ⟨W.heap.size,0,none⟩) 1 1) [1]:=Kd.fZ (FW W W.heap.size 129 .u32 [1] (Nat.le_refl _) (by simp)) (fun _ _=>trivial);exact gW.own h (by intro z hz;simp at hz;omega)
theorem agJ(e:Int)(h:0<=e)(ats:Array TypeId)(ty:TypeId):Builtin.max_ ats ty #[.int .i64 e,.int .i64 0]=pure (.int .i64 e):=by
 rw[Gn,BX,if_neg (by omega)];rfl
theorem aep(e:Int)(h:e<=0)(ats:Array TypeId)(ty:TypeId):Builtin.max_ ats ty #[.int .i64 e,.int .i64 0]=pure (.int .i64 0):=by
 rw[Gn,BX]
 by_cases h2:e<0
 ·rw[if_pos h2];rfl
 ·rw[if_neg h2,show e=0 by omega];rfl
theorem QW(e:Int):∃n:Nat,(∀(ats:Array TypeId)(ty:TypeId),Builtin.max_ ats ty #[.int .i64 e,.int .i64 0]=pure (.int .i64 (n:Int)))/\n=e.toNat:=by
 by_cases h:0<=e
 ·exact⟨e.toNat,fun a t=>by rw[agJ e h,Int.toNat_of_nonneg h],rfl⟩
 ·exact⟨0,fun a t=>by rw[aep e (by omega)];rfl,by omega⟩
def L1(a b j:Nat):Prop:=j=0∨b*10^(j-1)<=a
def LD(a b i:Nat)(ds:List Int)(r:Nat):Prop:=bC ds*b+r=a*10^i/\r<b/\jT ds/\ds.length=i
theorem LD.next{a b i:Nat}{ds:List Int}{r r':Nat}{d:Int}(h:LD a b i ds r)(h1:r'+b*(d.toNat-48)=r*10)(h2:r'<b)(h3:48<=d)(h4:d<=57):LD a b (i+1) (ds++[d]) r':=by
 obtain⟨e1,e2,e3,e4⟩:=h;refine⟨?_,h2,e3.snoc h3 h4,by simp[e4]⟩;rw[iK,Nat.add_mul,Nat.pow_succ,<-Nat.mul_assoc a,<-e1,Nat.add_mul (bC ds*b),Nat.add_assoc,Nat.mul_comm (d.toNat-48) b,Nat.add_comm (b*_) r',h1,Nat.mul_right_comm]
theorem L1.end_{a b j j2:Nat}(h:L1 a b j)(ha:0<a){N:Nat}(hN:2<=N)(hb1:b<2^N)(hb0:0<b)(hlt:a*10^j2<=b*10^j):j2<N:=by
 by_cases h0:j=0
 ·rw[h0,Nat.pow_zero,Nat.mul_one]at hlt
  exact EU ha hlt hb1
 ·rcases h with h|h
  ·exact absurd h h0
  ·obtain⟨k,rfl⟩:∃k,j=k+1:=⟨j-1,by omega⟩
   rw[Nat.add_sub_cancel]at h;have h1:b*10^(k+1)<=a*10:=by rw[Nat.pow_succ,<-Nat.mul_assoc];exact Nat.mul_le_mul_right _ h
   have h2:a*10^j2<=a*10^1:=Nat.le_trans hlt h1;have h3:=Nat.le_of_mul_le_mul_left h2 ha;have h4:=(Nat.pow_le_pow_iff_right (show 1<10 by omega)).1 h3;omega
theorem Jv(l:List Int):∀(i:Nat)(x y:Int),l[i]? =some x->bC (l.set i y)+(x.toNat-48)*10^(l.length-1-i)=bC l+(y.toNat-48)*10^(l.length-1-i):=by
 induction l with
 |nil=>intro i x y h;exact absurd h (by simp)
 |cons d l ih=>
  intro i x y h;cases i with
  |zero=>
   obtain rfl:d=x:=by simpa using h
   rw[List.set_cons_zero,iZ,iZ,List.length_cons,Nat.add_sub_cancel,Nat.sub_zero];omega
  |succ i=>
   have hl:l[i]? =some x:=by simpa using h
   have hi:i<l.length:=(List.getElem?_eq_some_iff.1 hl).1;have:=ih i x y hl;rw[List.set_cons_succ,iZ,iZ,List.length_set,List.length_cons,show l.length+1-1-(i+1)=l.length-1-i by omega];generalize 10^(l.length-1-i)=T at this ⊢;generalize 10^l.length=S;omega
theorem rY{W:World}{base:Nat}{v:Value}{xs:List Int}(h:OwnB W base v xs)(hx:xs≠[]):∃g c,v= .slice (some ⟨g,0,none⟩) xs.length c/\base<=g:=by
 have ho:=Kd.pV h;rcases ho.2 with⟨rfl,e⟩|⟨g,cap,cur,rfl,hg,_⟩
 ·have:xs.length=0:=e
  exact absurd (List.eq_nil_of_length_eq_zero this) hx
 ·exact⟨g,cap,rfl,hg⟩
theorem jT.set{l:List Int}(h:jT l)(i:Nat){y:Int}(h0:48<=y)(h1:y<=57):jT (l.set i y):=by
 intro d hd;rcases List.mem_or_eq_of_mem_set hd with hd|rfl
 ·exact h d hd
 ·exact⟨h0,h1⟩
def LR(n D g:Nat)(cs:List Int):Prop:=bC cs+10^(n-g)=D+1/\cs.length=n/\jT cs/\g<=n
theorem zk(A:Option Addr)(n c:Nat)(j:Nat)(hj:j<=n)(hc:n<=c):∀W:World,(Instr.slice 27 (.slice A n c) none (some (.int .i64 (j:Int))) none).run Tryz.prog W= .ok (.slice A j c) W:=by
 obtain⟨i,hi,_⟩:=Option.map_eq_some_iff.1 uS;intro W;have:=Gg (P:=Tryz.prog) 27 5 .i64 Tryz.underlying27 hi A n c (j:Int) (by omega) (by omega) hc W
 simpa using this
theorem QX{f n m E1 E2 j1 j2 a b D r up D':Nat}{P p:Int}(hm:m=iE 52 f)(hE:E1<=972/\E2<=1074/\((gZ 52 f:Nat):Int)=1074+E1-E2)(ha:a=m*2^E1*10^j2)(hb:b=1*2^E2*10^j1)(hab:b<=10*a)
 (h:D*b+r=a*10^(n+1)) (hr:r<b) (hup:up=if 2*r<b then 0 else 1) (hj2:j2<=1100) (hn:n<=20) (hp:p=(j1:Int)-j2-(n+1))
 (hD:(D'=D+up/\P=p)∨(D'*10=D+up/\P=p+1)):mJ f n D' P:=by
 intro A B hA hB;rw[Nat.one_mul]at hb
 have hX:D'*10^((A:Int)+P).toNat*2^B=(D+up)*10^(A-(j2+(n+1))+j1)*2^B:=by
  rcases hD with⟨rfl,rfl⟩|⟨e,rfl⟩
  ·rw[show((A:Int)+P).toNat=A-(j2+(n+1))+j1 by omega]
  ·rw[show((A:Int)+(p+1)).toNat=(A-(j2+(n+1))+j1)+1 by omega,Nat.pow_succ,Nat.mul_comm (10^_) 10,<-Nat.mul_assoc,e]
 rw[show B-1074+gZ 52 f=B-E2+E1 by omega,<-hm];exact UJ ha hb hab h hr hup (by omega) (by omega) hX rfl
theorem Eo(f n:Nat)(w:World)(hf0:0<f)(hf1:f<9218868437227405312)(hn:n<=20):
 Calls Tryz.prog 173 #[.int .u64 f,.int .i64 ((n+1:Nat):Int)] w fun e w'=>∃v ds P,e= .returned (.tuple #[v,.int .i64 P])/\OwnB w' w.heap.size v ds/\CU f n ds P/\Below w.heap.size w w':=by
 have HFin:=ah (fun W=>CS f W (by omega));obtain⟨m,hm⟩:∃m,m=iE 52 f:=⟨_,rfl⟩
 obtain⟨e,he⟩:∃e,e= -1074+(gZ 52 f:Int):=⟨_,rfl⟩
 have hfe:gZ 52 f<=2046:=by unfold gZ;omega
 have hm1:m<2^53:=by rw[hm];unfold iE;split<;>omega
 have hm0:0<m:=by
  rw[hm];unfold iE;split
  ·exact hf0
  ·exact Nat.lt_of_lt_of_le (Nat.pow_pos (by omega)) (Nat.le_add_right _ _)
 have he1: -1074<=e/\e<=972:=by omega
 rw[<-hm,<-he]at HFin;obtain⟨E1,hE1,e1⟩:=QW e;obtain⟨E2,hE2,e2⟩:=QW (-e);have HE:=ah (show E2<=1074/\E1<=972/\E1=0∨E2=0/\E1<=972 by omega);have HEE:=ah (show E1<=972/\E2<=1074/\((gZ 52 f:Nat):Int)=1074+E1-E2 by omega);have aju:IntKind.i64.wrap (-e)= -e:=by rw[IntKind.wrap_i64];omega
 have aii:wrap64 (-e)= -e:=by unfold wrap64;omega
 have w1:IntKind.u32.wrap (m:Int)=(m:Int)%4294967296:=rfl;have s1:(m:Int)/4294967296=((m/4294967296:Nat):Int):=by omega
 have s2:(m:Int)%4294967296=((m%4294967296:Nat):Int):=by omega
 have s3:((m/4294967296:Nat):Int)%4294967296=((m/4294967296:Nat):Int):=by omega
 have HMv:=ah (show(((m%4294967296:Nat):Int)).toNat+4294967296*(((m/4294967296:Nat):Int)).toNat=m by omega);have HM:=ah (And.intro hm0 hm1);obtain⟨lo,hlo⟩:∃lo,lo=m%4294967296:=⟨_,rfl⟩
 obtain⟨hi,hhi⟩:∃hi,hi=m/4294967296:=⟨_,rfl⟩
 have hlo1:lo<4294967296:=by omega
 have hhi1:hi<4294967296:=by omega
 rw[<-hlo]at s2 HMv;rw[<-hhi]at s1 s3 HMv;have Hl:=ah (And.intro hlo1 hhi1);have Hm:=ah hm;have HN:=ah hn;clear hm he hfe hm0 hm1 he1 e1 e2 hlo hhi hlo1 hhi1 hf0 hf1 hn;go_enter Tryz.func173,Tryz.ntmps173
 go_wp2_with (first|(go_at_call 202;(with_reducible refine(HFin.out _).mono ?_);rintro e w1⟨rfl,rfl⟩)|(go_at_call 203;(with_reducible refine(rV _ _ _ 2 E1 _ (Ju w lo hi (by omega) (by have:=Hl.out;omega) (by omega) (by have:=Hl.out;omega)) (by have:=HEE.out;omega) (by omega) (by omega)).mono ?_);rintro e w1⟨va,rfl,ha,hb1⟩;have HA:=ah ha;have HB1:=ah (au (ak (bg _ _) _) hb1);clear ha hb1)|(go_at_call 203;(with_reducible refine(rV _ _ _ 2 E2 _ (UL w1) (by have:=HEE.out;omega) (by omega) (by omega)).mono ?_);rintro e w2⟨vb,rfl,hb,hb2⟩;have HBv:=ah hb;have HAv:=ah ((HA.out.below (ak (bg _ _) _)).below hb2);have HB2:=ah (au (ak HB1.out _) hb2);clear hb hb2))
 obtain⟨a0,ha0⟩:∃a0,a0=m*2^E1:=⟨_,rfl⟩
 obtain⟨b0,hb0⟩:∃b0,b0=1*2^E2:=⟨_,rfl⟩
 have hA0:gW w2 va a0 1100:=by
  rw[ha0];have h:=HAv.out;rw[HMv.out]at h;exact h.mono (by have:=HEE.out;omega)
 have hB0:gW w2 vb b0 1100:=by rw[hb0];exact HBv.out.mono (by have:=HEE.out;omega)
 have HA0:=ah hA0;have HB0:=ah hB0;have Ha:=ah ha0;have Hb:=ah hb0;obtain⟨N1,hN1⟩:∃N1:Nat,N1=1025:=⟨_,rfl⟩
 obtain⟨N2,hN2⟩:∃N2:Nat,N2=1075:=⟨_,rfl⟩
 have DZ:=ah (And.intro hN1 hN2)
 have HBd:=ah (show 0<a0/\a0<2^N1/\0<b0/\b0<2^N2 by
  have h1:=HEE.out;have h2:=HM.out;refine⟨by rw[ha0];exact Nat.mul_pos h2.1 (Nat.pow_pos (by omega)),?_,by rw[hb0,Nat.one_mul];exact Nat.pow_pos (by omega),?_⟩
  ·rw[ha0]
   have h3:m*2^E1<2^53*2^E1:=Nat.mul_lt_mul_of_pos_right h2.2 (Nat.pow_pos (by omega));rw[<-Nat.pow_add]at h3;exact Nat.lt_of_lt_of_le h3 (Nat.pow_le_pow_right (by omega) (by omega))
  ·rw[hb0,Nat.one_mul]
   exact Nat.pow_lt_pow_right (by omega) (by omega))
 clear hA0 hB0 ha0 hb0 hN1 hN2
 go_loopg [5,9] 1025 (fun g v5 v9 w'=>∃j:Nat,v5= .int .i64 j/\j+g=1025/\aC (L1 a0 b0 j)/\aC (gW w' v9 (b0*10^j) (1100+j))/\aC (gW w' va a0 1100)/\aC (Below w.heap.size w w'))
 case atStart=>exact⟨0,rfl,rfl,⟨.inl rfl⟩,⟨by rw[Nat.pow_zero,Nat.mul_one];exact HB0.out⟩,HA0,HB2⟩
 case round=>
  obtain⟨j,rfl,hg,HL,HBj,HAj,tK⟩:=hrel
  by_cases hle:b0*10^j<=a0
  ·have hj:j<1025:=by have:=EU HBd.out.2.2.1 hle HBd.out.2.1;rwa [DZ.out.1]at this
   have HC:=ah (kN _ _ _ _ _ _ wr HAj.out HBj.out (by omega) (by omega));obtain⟨cv,hcv⟩:∃cv,cv=cmp3 a0 (b0*10^j):=⟨_,rfl⟩
   rw[<-hcv]at HC;have d:decide (0<=cv)=true:=bZ (by rw[hcv];unfold cmp3;split<;>(try split)<;>omega);have HC2:=ah (fun W(h:gW W u9 (b0*10^j) (1100+j))=>wB _ _ _ 10 0 W h (by omega) (by omega) (by omega) (by omega) (by omega));have HE1:=ah (show b0*10^j*(10:Int).toNat+(0:Int).toNat=b0*10^(j+1)by rw[Nat.pow_succ,<-Nat.mul_assoc];rfl);rw[HE1.out]at HC2;have HLn:=ah (show L1 a0 b0 (j+1)from .inr (by rw[Nat.add_sub_cancel];exact hle));have w4:IntKind.i64.wrap ((j:Int)+1)=(j:Int)+1:=kL (by omega) (by omega);obtain⟨g',rfl⟩:∃g',gk=g'+1:=⟨gk-1,by omega⟩
   clear hle hcv
   go_wp2_with (first|(go_at_call 204;(with_reducible refine HC.out.mono ?_);rintro e w3⟨rfl,hb3⟩;have HB3:=ah hb3;clear hb3)|(go_at_call 205;(with_reducible refine(HC2.out _ (HBj.out.below HB3.out)).mono ?_);rintro e w4⟨v4,rfl,hv4,hb4⟩;have HV4:=ah hv4;have HB4:=ah (au HB3.out hb4);clear hv4 hb4))
   go_roundg g'
   case measure=>omega
   case rel=>exact⟨j+1,by go_num,by omega,HLn,⟨HV4.out.mono (by omega)⟩,⟨HAj.out.below HB4.out⟩,⟨au tK.out HB4.out⟩⟩
  have HJ:=ah (show j<=1025 by omega);have HC:=ah (kN _ _ _ _ _ _ wr HAj.out HBj.out (by omega) (by omega));obtain⟨cv,hcv⟩:∃cv,cv=cmp3 a0 (b0*10^j):=⟨_,rfl⟩
  rw[<-hcv]at HC;have d:decide (0<=cv)=false:=bY (by rw[hcv];unfold cmp3;split<;>(try split)<;>omega);have HLt:=ah (Nat.lt_of_not_le hle);have agK:=ah (HBj.out.mono (L':=2200) (by omega));clear hle hcv
  go_wp2_with (first|(go_at_call 204;(with_reducible refine HC.out.mono ?_);rintro e w3⟨rfl,hb3⟩;have HA3:=ah (HAj.out.below hb3);have HBv3:=ah (agK.out.below hb3);have HB3:=ah (au tK.out hb3);clear hb3))
  obtain⟨b,hb⟩:∃b,b=b0*10^j:=⟨_,rfl⟩
  rw[<-hb]at HBv3 HLt;have Hbb:=ah hb;clear hb
  go_loopg [5,8] 1075 (fun g v5 v8 w'=>∃j2:Nat,v5= .int .i64 ((j:Int)-j2)/\j2+g=1075/\aC (a0*10^j2<b)/\aC (gW w' v8 (a0*10^j2) (1100+j2))/\aC (gW w' u9 b 2200)/\aC (Below w.heap.size w w'))
  case atStart=>exact⟨0,by rw[show((j:Int)-(0:Nat))=(j:Int)by omega],rfl,⟨by rw[Nat.pow_zero,Nat.mul_one];exact HLt.out⟩,⟨by rw[Nat.pow_zero,Nat.mul_one];exact HA3.out⟩,HBv3,HB3⟩
  case round=>
   obtain⟨j2,rfl,hg2,HL2,HA4,HBv4,HBw4⟩:=hrel;have hj2:j2<1075:=by have:=HL.out.end_ (N:=N2) HBd.out.1 (by have:=DZ.out;omega) HBd.out.2.2.2 HBd.out.2.2.1 (by rw[<-Hbb.out];exact Nat.le_of_lt HL2.out);rwa [DZ.out.2]at this
   have HT:=ah (fun W(h:gW W u8 (a0*10^j2) (1100+j2))=>wB _ _ _ 10 0 W h (by omega) (by omega) (by omega) (by omega) (by omega));have HE1:=ah (show a0*10^j2*(10:Int).toNat+(0:Int).toNat=a0*10^(j2+1)by rw[Nat.pow_succ,<-Nat.mul_assoc];rfl);rw[HE1.out]at HT;have HC:=ah (fun W u(h1:gW W u (a0*10^(j2+1)) (1100+j2+1))(h2:gW W u9 b 2200)=>kN _ _ _ _ _ _ W h1 h2 (by omega) (by omega));obtain⟨cv,hcv⟩:∃cv,cv=cmp3 (a0*10^(j2+1)) b:=⟨_,rfl⟩
   rw[<-hcv]at HC
   by_cases hlt:a0*10^(j2+1)<b
   ·have d:decide (cv<0)=true:=bZ (by rw[hcv];unfold cmp3;split<;>(try split)<;>omega)
    have hj3:j2+1<1075:=by have:=HL.out.end_ (N:=N2) HBd.out.1 (by have:=DZ.out;omega) HBd.out.2.2.2 HBd.out.2.2.1 (by rw[<-Hbb.out];exact Nat.le_of_lt hlt);rwa [DZ.out.2]at this
    have HLn:=ah hlt;have w4:IntKind.i64.wrap ((j:Int)-j2-1)=(j:Int)-j2-1:=by have:=HJ.out;rw[IntKind.wrap_i64];omega
    obtain⟨g',rfl⟩:∃g',gk=g'+1:=⟨gk-1,by omega⟩
    clear hlt hcv
    go_wp2_with (first|(go_at_call 205;(with_reducible refine(HT.out wr HA4.out).mono ?_);rintro e w5⟨v5',rfl,hv5,hb5⟩;have HV5:=ah hv5;have HB5:=ah hb5;clear hv5 hb5)|(go_at_call 204;(with_reducible refine(HC.out _ _ HV5.out (HBv4.out.below HB5.out)).mono ?_);rintro e w6⟨rfl,hb6⟩;have HB6:=ah (au HB5.out hb6);clear hb6)|(go_at_call 205;(with_reducible refine(HT.out _ (HA4.out.below HB6.out)).mono ?_);rintro e w7⟨v7',rfl,hv7,hb7⟩;have HV7:=ah hv7;have HB7:=ah (au HB6.out hb7);clear hv7 hb7))
    go_roundg g'
    case measure=>omega
    case rel=>exact⟨j2+1,by go_num,by omega,HLn,⟨HV7.out.mono (by omega)⟩,⟨HBv4.out.below HB7.out⟩,⟨au HBw4.out HB7.out⟩⟩
   have d:decide (cv<0)=false:=bY (by rw[hcv];unfold cmp3;split<;>(try split)<;>omega);obtain⟨a,ha⟩:∃a,a=a0*10^j2:=⟨_,rfl⟩
   have Haa:=ah ha;have HAB:=ah (show b<=10*a by rw[ha,Nat.mul_comm,Nat.mul_assoc,<-Nat.pow_succ];exact Nat.le_of_not_lt hlt);have HAa:=ah (show gW wr u8 a 2200 by rw[ha];exact HA4.out.mono (by omega));have HAb:=ah (show a<b by rw[ha];exact HL2.out);have HJ2:=ah hj2;clear hlt hcv hj2
   go_wp2_with (first|(go_at_call 205;(with_reducible refine(HT.out wr HA4.out).mono ?_);rintro e w5⟨v5',rfl,hv5,hb5⟩;have HV5:=ah hv5;have HB5:=ah hb5;clear hv5 hb5)|(go_at_call 204;(with_reducible refine(HC.out _ _ HV5.out (HBv4.out.below HB5.out)).mono ?_);rintro e w6⟨rfl,hb6⟩;have HB6:=ah (au HB5.out hb6);have HA6:=ah ((HAa.out.below HB5.out).below hb6);have HBv6:=ah ((HBv4.out.below HB5.out).below hb6);have HBw6:=ah (au (au HBw4.out HB5.out) hb6);clear hb6))
   have HNr:=ah (show∀{D r up D':Nat}{P:Int},D*b+r=a*10^(n+1)->r<b->(up=if 2*r<b then 0 else 1)->((D'=D+up/\P=(j:Int)-j2-(n+1)+(n+1))∨(D'*10=D+up/\P=(j:Int)-j2-(n+1)+(n+1)+1))->mJ f n D' (P-(n+1))by
    intro D r up D' P h1 h2 h3 h4;exact QX (P:=P-(n+1)) (p:=(j:Int)-j2-(n+1)) (m:=m) Hm.out HEE.out (by rw[Haa.out,Ha.out]) (by rw[Hbb.out,Hb.out]) HAB.out h1 h2 h3 (by have:=HJ2.out;omega) HN.out rfl (by omega))
   go_loopg [4,8,10,11] (n+1) (fun g v4 v8 v10 v11 w'=>∃(i:Nat)(ds:List Int)(r:Nat),v10= .int .i64 i/\i+g=n+1/\aC (LD a b i ds r)/\aC (OwnB w' w.heap.size v4 ds)/\aC (gW w' v8 r (2300+i))/\aC (gW w' u9 b 2200)/\aC (Below w.heap.size w w'))
   case atStart=>exact⟨0,[],a,rfl,by omega,⟨by show 0*b+a=a*10^0;rw[Nat.zero_mul,Nat.zero_add,Nat.pow_zero,Nat.mul_one],HAb.out,fun d h=>absurd h List.not_mem_nil,rfl⟩,⟨Kd.mP _ _ _ _ _⟩,⟨HA6.out.mono (by omega)⟩,HBv6,HBw6⟩
   case round=>
    obtain⟨i,ds,r,rfl,hg3,HLD,HO,HR,HBv7,HBw7⟩:=hrel;have HNb:=HN.out
    by_cases hi:i<n+1
    ·obtain⟨wo,rfl⟩:∃wo:World,wo=wr:=⟨_,rfl⟩
     obtain⟨go,rfl⟩:∃go:Nat,go=gk:=⟨_,rfl⟩
     have HT1:=ah (wB _ _ _ 10 0 wo HR.out (by omega) (by omega) (by omega) (by omega) (by omega));have HE2:=ah (show r*(10:Int).toNat+(0:Int).toNat=r*10 from rfl);rw[HE2.out]at HT1;have d1:decide ((i:Int)<(n:Int)+1)=true:=bZ (by omega);have w4:IntKind.i64.wrap ((i:Int)+1)=(i:Int)+1:=kL (by omega) (by omega)
     go_wp2_with (first|(go_at_call 205;(with_reducible refine HT1.out.mono ?_);rintro e w8⟨v8',rfl,hv8,hb8⟩;have HV8:=ah hv8;have HB8:=ah hb8;clear hv8 hb8))
     go_loopg [8,11] 10 (fun g v8 v11 w'=>∃(d:Int)(r':Nat),v11= .int .u8 d/\d+g=58/\48<=d/\aC (r'+b*(d.toNat-48)=r*10)/\aC (gW w' v8 r' (2301+i))/\aC (gW w' u9 b 2200)/\aC (OwnB w' w.heap.size u4 ds)/\aC (Below w.heap.size w w'))
     case atStart=>exact⟨48,r*10,rfl,by omega,by omega,⟨by simp⟩,⟨HV8.out.mono (by omega)⟩,⟨HBv7.out.below HB8.out⟩,⟨Kd.dY HO.out HB8.out⟩,⟨au HBw7.out HB8.out⟩⟩
     case round=>
      obtain⟨d,r',rfl,hg4,hd48,DX,HR8,HBv8,HO8,HBw8⟩:=hrel;have HC:=ah (kN _ _ _ _ _ _ wr HR8.out HBv8.out (by omega) (by omega));obtain⟨cv,hcv⟩:∃cv,cv=cmp3 r' b:=⟨_,rfl⟩
      rw[<-hcv]at HC
      by_cases hle:b<=r'
      ·have d2:decide (0<=cv)=true:=bZ (by rw[hcv];unfold cmp3;split<;>(try split)<;>omega)
       have HMi:=ah (fun W(h1:gW W u8 r' (2301+i))(h2:gW W u9 b 2200)=>YG _ _ _ _ _ _ W h1 h2 (by omega) hle)
       have hd57:d+1<=57:=by
        have h1:=DX.out;have h2:=HLD.out.2.1
        apply Classical.byContradiction
        intro hd;have h3:d.toNat-48≥9:=by omega
        have h4:b*9<=b*(d.toNat-48):=Nat.mul_le_mul_left _ h3;omega
       have HRn:=ah (show r'-b+b*((d+1).toNat-48)=r*10 by
        rw[<-DX.out,show(d+1).toNat-48=(d.toNat-48)+1 by omega,Nat.mul_add,Nat.mul_one];omega)
       have w5:IntKind.u8.wrap (d+1)=d+1:=by rw[IntKind.wrap_u8];omega
       have w6:(d+1)%256=d+1:=by omega
       obtain⟨g',rfl⟩:∃g',gk=g'+1:=⟨gk-1,by omega⟩
       clear hle hcv
       go_wp2_with (first|(go_at_call 204;(with_reducible refine HC.out.mono ?_);rintro e w9⟨rfl,hb9⟩;have HB9:=ah hb9;clear hb9)|(go_at_call 206;(with_reducible refine(HMi.out _ (HR8.out.below HB9.out) (HBv8.out.below HB9.out)).mono ?_);rintro e w10⟨v10',rfl,hv10,hb10⟩;have HV10:=ah hv10;have HB10:=ah (au HB9.out hb10);clear hv10 hb10))
       go_roundg g'
       case measure=>omega
       case rel=>exact⟨d+1,r'-b,by go_num,by omega,by omega,HRn,HV10,⟨HBv8.out.below HB10.out⟩,⟨Kd.dY HO8.out HB10.out⟩,⟨au HBw8.out HB10.out⟩⟩
      have d2:decide (0<=cv)=false:=bY (by rw[hcv];unfold cmp3;split<;>(try split)<;>omega)
      have hd57:d<=57:=by
       have h1:=DX.out;have h2:=HLD.out.2.1
       apply Classical.byContradiction
       intro hd;have h3:d.toNat-48≥10:=by omega
       have h4:b*10<=b*(d.toNat-48):=Nat.mul_le_mul_left _ h3;omega
      have HLn:=ah (HLD.out.next DX.out (Nat.lt_of_not_le hle) hd48 hd57);have HLen:=ah (show ds.length+1<=140737488355328 by have:=HLD.out.2.2.2;omega);obtain⟨g',rfl⟩:∃g',go=g'+1:=⟨go-1,by omega⟩
      clear hle hcv
      go_wp2_with (first|(go_at_call 204;(with_reducible refine HC.out.mono ?_);rintro e w9⟨rfl,hb9⟩;have HR9:=ah (HR8.out.below hb9);have HBv9:=ah (HBv8.out.below hb9);have HO9:=ah (Kd.dY HO8.out hb9);have HB9:=ah (au HBw8.out hb9);clear hb9)|(at_builtin;refine gG w.heap.size rfl (.tmp 65) (.tmp 67) rfl d rfl rfl ?aO ?aB HLen.out ?_;(case aO=>exact HO9.out);(case aB=>exact HB9.out.size);intro v11 w11 ho11 hg11;have HO11:=ah ho11;have HB11:=ah (HB9.out.grown hg11 HB9.out.size (Kd.lC HO9.out));have HR11:=ah (HR9.out.xq hg11 HO9.out);have HBv11:=ah (HBv9.out.xq hg11 HO9.out);clear ho11 hg11))
      go_roundg g'
      case measure=>omega
      case rel=>exact⟨i+1,_,_,by go_num,by omega,HLn,HO11,⟨HR11.out.mono (by omega)⟩,HBv11,HB11⟩
    obtain rfl:i=n+1:=by omega
    have hLD:=HLD.out;obtain⟨l1,l2,l3,l4⟩:=hLD;have UM:=ah (UH l1 l2 HAB.out);have HT2:=ah (wB _ _ _ 2 0 wr HR.out (by omega) (by omega) (by omega) (by omega) (by omega));have HE3:=ah (show r*(2:Int).toNat+(0:Int).toNat=2*r by show r*2+0=_;omega);rw[HE3.out]at HT2;have HC:=ah (fun W u(h1:gW W u (2*r) (2300+(n+1)+1))(h2:gW W u9 b 2200)=>kN _ _ _ _ _ _ W h1 h2 (by omega) (by omega));obtain⟨cv,hcv⟩:∃cv,cv=cmp3 (2*r) b:=⟨_,rfl⟩
    rw[<-hcv]at HC;have d1:decide (((n+1:Nat):Int)<(n:Int)+1)=false:=bY (by omega);have HP:=ah (show -1100<=(j:Int)-j2/\(j:Int)-j2<=1099 by have:=HJ.out;have:=HJ2.out;omega)
    by_cases hlt:2*r<b
    ·have d:decide (cv<0)=true:=bZ (by rw[hcv];unfold cmp3;split<;>(try split)<;>omega)
     have HF:=ah (show CU f n ds ((j:Int)-j2)from⟨l4,l3,UM.out,HP.out.1,by have:=HP.out;omega,HNr.out l1 l2 (up:=0) (by rw[if_pos hlt]) (.inl ⟨by omega,by omega⟩)⟩);clear l1 l2 l3 l4 hlt hcv
     go_wp2_with (first|(go_at_call 205;(with_reducible refine HT2.out.mono ?_);rintro e w8⟨v8',rfl,hv8,hb8⟩;have HV8:=ah hv8;have HB8:=ah hb8;clear hv8 hb8)|(go_at_call 204;(with_reducible refine(HC.out _ _ HV8.out (HBv7.out.below HB8.out)).mono ?_);rintro e w9⟨rfl,hb9⟩;have HB9:=ah (au HB8.out hb9);clear hb9))
     go_ret2
     exact⟨_,ds,_,rfl,Kd.dY HO.out HB9.out,HF.out,au HBw7.out HB9.out⟩
    have d:decide (cv<0)=false:=bY (by rw[hcv];unfold cmp3;split<;>(try split)<;>omega);obtain⟨gb,cap,rfl,hgb⟩:=rY HO.out (by intro e;rw[e]at l4;simp at l4);rw[l4]at HO;have HNr2:=ah (show∀{D':Nat}{P:Int},((D'=bC ds+1/\P=(j:Int)-j2-(n+1)+(n+1))∨(D'*10=bC ds+1/\P=(j:Int)-j2-(n+1)+(n+1)+1))->mJ f n D' (P-(n+1))from fun h=>HNr.out l1 l2 (up:=1) (by rw[if_neg hlt]) h);have HLR:=ah (show LR (n+1) (bC ds) (n+1) ds from⟨by rw[Nat.sub_self,Nat.pow_zero],l4,l3,Nat.le_refl _⟩);have HDl:=ah (show bC ds<10^(n+1)by have:=Bd l3;rwa [l4]at this);have HGb:=ah hgb;have hl4:=ah l4;have e7:IntKind.i64.wrap ((n:Int)+1-1)=(n:Int):=by rw[IntKind.wrap_i64];omega
    have e8:IntKind.i64.wrap (n:Int)=(n:Int):=by rw[IntKind.wrap_i64];omega
    clear l1 l2 l3 l4 hlt hcv hgb
    go_wp2_with (first|(go_at_call 205;(with_reducible refine HT2.out.mono ?_);rintro e w8⟨v8',rfl,hv8,hb8⟩;have HV8:=ah hv8;have HB8:=ah hb8;clear hv8 hb8)|(go_at_call 204;(with_reducible refine(HC.out _ _ HV8.out (HBv7.out.below HB8.out)).mono ?_);rintro e w9⟨rfl,hb9⟩;have HB9:=ah (au HB8.out hb9);have HO9:=ah (Kd.dY HO.out HB9.out);have HBw9:=ah (au HBw7.out HB9.out);clear hb9))
    go_loopg [4,5,12] (n+1) (fun g v4 v5 v12 w'=>∃cs:List Int,v4= .slice (some ⟨gb,0,none⟩) (n+1) cap/\v5= .int .i64 ((j:Int)-j2)/\v12= .int .i64 ((g:Int)-1)/\aC (LR (n+1) (bC ds) g cs)/\aC (OwnB w' w.heap.size (.slice (some ⟨gb,0,none⟩) (n+1) cap) cs)/\aC (Below w.heap.size w w'))
    case atStart=>exact⟨ds,by rw[hl4.out],rfl,by rw[show((((n+1:Nat)):Int)-1)=(n:Int)by omega],HLR,HO9,HBw9⟩
    case round=>
     obtain⟨cs,rfl,rfl,rfl,HL,HOc,HBc⟩:=hrel;have hL:=HL.out;obtain⟨m1,m2,m3,m4⟩:=hL;cases gk with
     |zero=>
      have hd1:bC ds<10^(n+1):=HDl.out;have m1':bC cs+10^(n+1)=bC ds+1:=m1;have hz:bC cs=0:=by generalize 10^(n+1)=T at*;omega
      have hD1:bC ds+1=10^(n+1):=by generalize 10^(n+1)=T at*;omega
      have htk:bC (cs.take n)=0:=by
       have e:=nP (cs.take n) (cs.drop n);rw[List.take_append_drop,hz]at e;have h1:0<10^(cs.drop n).length:=Nat.pow_pos (by omega);have h2:bC (cs.take n)*10^(cs.drop n).length=0:=by omega
       rcases Nat.mul_eq_zero.1 h2 with h|h
       ·exact h
       ·omega
      obtain⟨Ar,cr,er,hcr,EW⟩:=Kd.jo HOc.out;injection er with er1 er2 er3
      subst er1;subst er3;have hlt:(cs.take n).length=n:=by rw[List.length_take];omega
      have HF:=ah (show CU f n ([49]++cs.take n) ((j:Int)-j2+1)by
       have e2:bC ([49]++cs.take n)=10^n:=by
        rw[List.singleton_append,iZ,htk,hlt];show 1*10^n+0=_;omega
       refine⟨by rw[List.length_append,hlt];show 1+n=_;omega,?_,by rw[e2];exact Nat.le_refl _,by have:=HP.out;omega,by have:=HP.out;omega,HNr2.out (.inr ⟨by rw[e2,hD1,Nat.pow_succ],by omega⟩)⟩;intro d hd;rcases List.mem_append.1 hd with hd|hd
       ·rw[List.mem_singleton.1 hd];omega
       ·exact m3 d (List.mem_of_mem_take hd))
      have hcut:=zk (some ⟨gb,0,none⟩) (n+1) cap n (by omega) (by rw[m2]at hcr;exact hcr);have UN:=ah (show RdB wr (some ⟨gb,0,none⟩) n (cs.take n)from by have:=Kd.BP EW (show n<=cs.length by omega);rwa [hlt]at this);have HOn:=ah (mF wr w.heap.size [49] HBc.out.size (by simp));have HLen:=ah (show([49]:List Int).length+n<=140737488355328 by show 1+n<=_;omega);have w8:IntKind.i64.wrap ((j:Int)-j2+1)=(j:Int)-j2+1:=by have:=HP.out;rw[IntKind.wrap_i64];omega
      have hcap:n<=cap:=by omega
      have hcap2:¬cap=0:=by omega
      clear m1 m2 m3 m4 m1' hd1 hz hD1 htk hcr EW hlt
      go_wp2_with (at_builtin;refine wu w.heap.size rfl (.tmp 98) (.tmp 102) rfl (some ⟨gb,0,none⟩) n cap (cs.take n) rfl rfl ?aO ?aR ?aB HLen.out ?_;(case aO=>exact HOn.out);(case aR=>exact Kd.dP UN.out _);(case aB=>exact(ak HBc.out _).size);intro v13 w13 ho13 hg13 hat13;have HO13:=ah ho13;have HB13:=ah ((ak HBc.out _).grown hg13 (ak HBc.out _).size (Kd.lC HOn.out));clear ho13 hg13 hat13)
      go_ret2
      exact⟨_,_,_,rfl,HO13.out,HF.out,HB13.out⟩
     |succ i=>
      obtain⟨x,hx⟩:=bF (show i<cs.length by omega);have hxr:=m3 x (List.mem_of_getElem? hx.out);have hO:=HOc.out;rw[<-m2]at hO;have hcell:=Kd.yN (0:Int) (by exact hO) (i:Int) (by omega) (by omega);rw[Int.toNat_natCast,wG,Int.toNat_natCast,bT hx.out]at hcell;obtain⟨ho1,ho2⟩:=hcell;have z1:((i+1:Nat):Int)-1=(i:Int):=by omega
      have i0:(0:Int)<=(i:Int):=by omega
      have i1:(i:Int)<(n:Int)+1:=by omega
      rw[z1]
      by_cases h9:x<57
      ·have d3:decide (x<57)=true:=bZ h9
       have w5:IntKind.u8.wrap (x+1)=x+1:=by rw[IntKind.wrap_u8];omega
       have w6:(x+1)%256=x+1:=by omega
       have HO2:=ah (show OwnB (wr.setCell ⟨gb,i,none⟩ (.int .u8 (x+1))) w.heap.size (.slice (some ⟨gb,0,none⟩) (n+1) cap) (cs.set i (x+1))by have:=(Kd.BO hO (i:Int) (x+1)).1;rw[Int.toNat_natCast]at this;rw[<-m2];exact this);have HB2:=ah (aV (g:=gb) (j:=i) (v:=.int .u8 (x+1)) HBc.out HGb.out)
       have HF:=ah (show CU f n (cs.set i (x+1)) ((j:Int)-j2)by
        have e:=Jv cs i x (x+1) hx.out;rw[show(x+1).toNat-48=(x.toNat-48)+1 by omega,Nat.add_mul,Nat.one_mul,m2,show n+1-1-i=n+1-(i+1)by omega]at e
        have e2:bC (cs.set i (x+1))=bC ds+1:=by
         generalize 10^(n+1-(i+1))=T at e m1;generalize (x.toNat-48)*T=S at e;omega
        exact⟨by rw[List.length_set];exact m2,m3.set i (by omega) (by omega),by rw[e2];have:=UM.out;omega,HP.out.1,by have:=HP.out;omega,HNr2.out (.inl ⟨e2,by omega⟩)⟩)
       clear h9 m1 m2 m3 m4 hO hxr;go_wp2
       go_ret2
       exact⟨_,_,_,rfl,HO2.out,HF.out,HB2.out⟩
      obtain rfl:x=57:=by omega
      have HO2:=ah (show OwnB (wr.setCell ⟨gb,i,none⟩ (.int .u8 48)) w.heap.size (.slice (some ⟨gb,0,none⟩) (n+1) cap) (cs.set i 48)by have:=(Kd.BO hO (i:Int) 48).1;rw[Int.toNat_natCast]at this;rw[<-m2];exact this);have HB2:=ah (aV (g:=gb) (j:=i) (v:=.int .u8 48) HBc.out HGb.out)
      have HLn:=ah (show LR (n+1) (bC ds) i (cs.set i 48)by
       have e:=Jv cs i 57 48 hx.out;rw[m2,show n+1-1-i=n+1-(i+1)by omega]at e;refine⟨?_,by rw[List.length_set];exact m2,m3.set i (by omega) (by omega),by omega⟩;rw[show n+1-i=(n+1-(i+1))+1 by omega,Nat.pow_succ];have e':bC (cs.set i 48)+9*10^(n+1-(i+1))=bC cs+0*10^(n+1-(i+1)):=e;generalize 10^(n+1-(i+1))=T at e' m1 ⊢;omega)
      have w7:IntKind.i64.wrap ((i:Int)-1)=(i:Int)-1:=by rw[IntKind.wrap_i64];omega
      clear h9 m1 m2 m3 m4 hO hxr;go_wp2
      go_roundg i
      case measure=>omega
      case rel=>exact⟨_,rfl,rfl,by go_num,HLn,HO2,HB2⟩
structure NT where
 neg:Bool
 ip:List Int
 fp:List Int
 ex:Option (Int×List Int×List Int)
def NT.wJ(x:NT):List Int:=if x.neg then[45]else[]
def NT.iV(x:NT):List Int:=match x.ex with|none=>[]|some (E,sg,ds)=>E::(sg++ds)
def NT.kJ(x:NT):List Int:=if x.fp=[]then[]else 46::x.fp
def NT.bytes(x:NT):List Int:=x.wJ++(x.ip++(x.kJ++x.iV))
def NT.exV(x:NT):Int:=match x.ex with|none=>0|some (_,sg,ds)=>if sg=[45]then -(bC ds:Int)else(bC ds:Int)
def NT.dg(x:NT):List Int:=x.ip++x.fp
def NT.pw(x:NT):Int:=x.exV-x.fp.length
structure NT.ok(x:NT):Prop where
 ip1:x.ip≠[]
 QY:jT x.ip
 ip0:x.ip.head? =some 48->x.ip=[48]
 fpD:jT x.fp
 TF:∀E sg ds,x.ex=some (E,sg,ds)->(E=101∨E=69)/\(sg=[]∨sg=[43]∨sg=[45])/\ds≠[]/\jT ds/\ds.length<=4/\(x.ip.head? =some 48->sg≠[45]->ds.length<=1)
theorem xw(k:Nat):bC (List.replicate k 48)=0:=by
 induction k with
 |zero=>rfl
 |succ k ih=>rw[List.replicate_succ,iZ,ih];show 0*_+0=0;rw[Nat.zero_mul]
theorem jT.zeros(k:Nat):jT (List.replicate k 48):=fun d h=>by rw[(List.mem_replicate.1 h).2];omega
theorem jT.append{a b:List Int}(h:jT a)(k:jT b):jT (a++b):=fun d hd=>(List.mem_append.1 hd).elim (h d) (k d)
theorem jT.take{a:List Int}(h:jT a)(i:Nat):jT (a.take i):=fun d hd=>h d (List.mem_of_mem_take hd)
theorem jT.drop{a:List Int}(h:jT a)(i:Nat):jT (a.drop i):=fun d hd=>h d (List.mem_of_mem_drop hd)
theorem iT(n:Nat):jT (fB n):=by
 induction n using Nat.strongRecOn with
 |ind n ih=>
  by_cases h:n<10
  ·rw[jE h];intro d hd;rw[List.mem_singleton.1 hd];omega
  ·rw[rO h];exact(ih (n/10) (by omega)).append (fun d hd=>by rw[List.mem_singleton.1 hd];omega)
theorem kP(n:Nat):bC (fB n)=n:=by
 induction n using Nat.strongRecOn with
 |ind n ih=>
  by_cases h:n<10
  ·rw[jE h,iZ];show(48+(n:Int)).toNat.sub 48*1+0=n;simp;omega
  ·rw[rO h,iK,ih (n/10) (by omega)];omega
theorem nD(n:Nat):fB n≠[]:=by
 by_cases h:n<10
 ·rw[jE h];simp
 ·rw[rO h];simp
theorem Ep{d:Int}{l:List Int}(hd:jT (d::l))(h:10^l.length<=bC (d::l)):d≠48:=by
 rintro rfl;rw[iZ]at h;have h2:=Bd (l:=l) (fun x hx=>hd x (List.mem_cons_of_mem _ hx));have:(48:Int).toNat-48=0:=rfl;rw[this,Nat.zero_mul,Nat.zero_add]at h;omega
theorem mJ.same{f n D D' E i j:Nat}{p p':Int}(h:mJ f n D p)(e1:D=E*10^i)(e2:D'=E*10^j)(hp:(i:Int)+p=j+p')(h1: -4000<=p)(h2: -4000<=p'):mJ f n D' p':=by
 intro A B hA hB
 have e:D'*10^((A:Int)+p').toNat=D*10^((A:Int)+p).toNat:=by
  rw[e1,e2,Nat.mul_assoc,Nat.mul_assoc,<-Nat.pow_add,<-Nat.pow_add,show j+((A:Int)+p').toNat=i+((A:Int)+p).toNat by omega]
 rw[e];exact h A B hA hB
def WK(w0 W wx:World)(p:Nat)(P:List Int)(a k:Nat)(vb vl:Value):Prop:=∃a':Nat,a<=a'/\a'<=a+k/\JW w0 wx p P a' vb vl/\Below w0.heap.size w0 wx/\aH W wx p none
theorem WK.mk0{w0 W:World}{p:Nat}{P:List Int}{a:Nat}{vb vl:Value}(h:JW w0 W p P a vb vl)(hb:Below w0.heap.size w0 W):WK w0 W W p P a 0 vb vl:=⟨a,Nat.le_refl _,Nat.le_refl _,h,hb,aH.refl _ _ _⟩
theorem WK.below{w0 W wx wy:World}{p:Nat}{P:List Int}{a k:Nat}{vb vl:Value}(h:WK w0 W wx p P a k vb vl)(hb:Below wx.heap.size wx wy):WK w0 W wy p P a k vb vl:=by
 obtain⟨a',h1,h2,h3,h4,h5⟩:=h;exact⟨a',h1,h2,h3.below hb,au h4 hb,h5.trans (aH.of_below hb p none) (.inl rfl)⟩
theorem WK.mono{w0 W wx:World}{p:Nat}{P:List Int}{a k k':Nat}{vb vl:Value}(h:WK w0 W wx p P a k vb vl)(hk:k<=k'):WK w0 W wx p P a k' vb vl:=by
 obtain⟨a',h1,h2,h3⟩:=h;exact⟨a',h1,by omega,h3⟩
def aev(wx wy:World):Prop:=∀(base:Nat)(v:Value)(xs:List Int),OwnB wx base v xs->OwnB wy base v xs
theorem MZ(w0 W wx:World)(p:Nat)(P:List Int)(a k:Nat)(vb vl:Value)(n:Int)(hn:0<n)(hP:qE P)(ha:a+k<=281474976710656)(h:WK w0 W wx p P a k vb vl):
 Calls Tryz.prog 43 #[.pointer (some ⟨p,0,none⟩),.int .i64 n] wx fun e w'=>∃v,e= .returned (.int .i64 v)/\(0<=v/\v<n)/\WK w0 W w' p P a (k+1) vb vl/\aev wx w'/\aH wx w' p none:=by
 obtain⟨a',h1,h2,h3,h4,h5⟩:=h;have hr:=jg (P:=P) (a:=a') hn hP;have hl:=dX P a';refine(yT w0 wx p P a' vb vl n hn hP (by omega) h3 h4).mono ?_;rintro e w1⟨rfl,k1,k2,k3⟩;exact⟨_,rfl,hr,⟨_,by omega,by omega,k1,k2,h5.trans k3 (.inl rfl)⟩,fun base v xs ho=>jL ho h3 k3,k3⟩
theorem WK.grown{w0 W wx wy:World}{p:Nat}{P:List Int}{a k:Nat}{vb vl:Value}{v:Value}{xs:List Int}(h:WK w0 W wx p P a k vb vl)(hW:w0.heap.size<=W.heap.size)(ho:OwnB wx W.heap.size v xs)(hg:wx.grownBy wy v.ownBlock):WK w0 W wy p P a k vb vl:=by
 obtain⟨a',h1,h2,h3,h4,h5⟩:=h;exact⟨a',h1,h2,h3.grown hg (h3.MI ho),lS h4 hg hW (jG ho),nN h5 hg (jG ho)⟩
theorem two{v:Int}(h:0<=v/\v<2):v=0∨v=1:=by omega
theorem three{v:Int}(h:0<=v/\v<3):v=0∨v=1∨v=2:=by omega
def vw(f n:Nat)(x:NT):Prop:=x.ok/\x.neg=decide (9223372036854775808<=f)/\x.dg.length<=60/\ -3000<=x.pw/\x.pw<=3000/\
 ((f%9223372036854775808=0/\bC x.dg=0)∨(0<f%9223372036854775808/\0<bC x.dg/\mJ (f%9223372036854775808) n (bC x.dg) x.pw))
end Go.Proofs.YtapkmjfjikpnlaaGreatDoor
