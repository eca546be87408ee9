/- A part of FnMsgJsonMeans. No conditions. -/
import Derived.Test.YtapkmjfjikpnlaaGreatDoorM24
set_option maxHeartbeats 8000000
set_option maxRecDepth 100000
namespace Go.Proofs.YtapkmjfjikpnlaaGreatDoor
open Go.RowKit YtapkmjfjikpnlaaGreatDoorW.aG YtapkmjfjikpnlaaGreatDoorW.aJ
set_option linter.unusedVariables false
set_option linter.unusedSimpArgs false
theorem jk.len{N:Int}:∀{m:List dD}{a:Int},jk a m->(∀f∈m,f.At<N)->a<N->a+1+(m.length:Int)<=N:=by
 intro m
 induction m with
 |nil=>intro a _ _ h;simp;omega
 |cons f m ih=>
  intro a h1 h2 h3;obtain⟨k1,k2⟩:=h1;have:=ih k2 (fun g hg=>h2 g (List.mem_cons_of_mem _ hg)) (h2 f List.mem_cons_self);rw[List.length_cons];omega
theorem uq.len1{n:Nat}{ts:List FT}{m:List dD}{L:List Int}{i:Nat}{xs:List Nat}(h:uq n ts m L i xs)(hi:i<=100000):xs.length+1<=1000000000000/\xs.length<=i:=by
 have h1:xs.length<=i:=by
  have:=List.Nodup.length_le_of_subset h.nd (l₂:=List.range i) (fun x hx=>List.mem_range.2 (h.lt x hx))
  rwa [List.length_range]at this
 omega
def PQ(S:fM)(V:FT->Val->List TK->Prop)(mt:MT)(m:List dD)(L:List Int)(j:Nat)(xs:List Nat)(X:List Item):Prop:=
 ∃(o:TK)(B:List Lex)(G:List Seg),X.map Prod.snd= .tok o::B/\o.kind=64/\IB 64 j B/\B.flatMap Lex.tk=G.flatMap Seg.ts/\(G.map Seg.k++xs).Nodup/\(∀g∈G,aay S V mt m g)/\(∀k x,L[k]? =some x->0<x->k∈G.map Seg.k∨k∈xs)
theorem Dl{xs:List Nat}{q a:Nat}(h:xs[q]? =some a):xs.Perm (a::(xs.take q++xs.drop (q+1))):=by
 obtain⟨hq,hv⟩:=List.getElem?_eq_some_iff.1 h;have e:xs=xs.take q++a::xs.drop (q+1):=by rw[<-hv,List.getElem_cons_drop,List.take_append_drop]
 have h2:(xs.take q++a::xs.drop (q+1)).Perm (a::(xs.take q++xs.drop (q+1))):=List.perm_middle;exact(List.Perm.of_eq e).trans h2
theorem Zl(f:Nat->Nat){xs:List Nat}{q a:Nat}(h:xs[q]? =some a):f a+((xs.take q++xs.drop (q+1)).map f).sum=(xs.map f).sum:=by
 obtain⟨hq,hv⟩:=List.getElem?_eq_some_iff.1 h;have e:xs=xs.take q++a::xs.drop (q+1):=by rw[<-hv,List.getElem_cons_drop,List.take_append_drop]
 have e2:(xs.map f).sum=((xs.take q++a::xs.drop (q+1)).map f).sum:=by rw[<-e]
 rw[e2,List.map_append,List.map_append,List.map_cons,List.sum_append,List.sum_append,List.sum_cons];omega
theorem PQ.step{S:fM}{V:FT->Val->List TK->Prop}{mt:MT}{m:List dD}{L:List Int}{j:Nat}{xs:List Nat}{X Y Z:List Item}{q a:Nat}{t:FT}(h:PQ S V mt m L j xs X)(hq:xs[q]? =some a)(ht:mt.fields[a]? =some t)(hY:Y.map Prod.snd=wM j)(hZ:vN S V t (valuesOf m a) Z):PQ S V mt m L (j+1) (xs.take q++xs.drop (q+1)) ((X++Y)++Z):=by
 obtain⟨o,B,G,h1,h2,h3,h4,h5,h6,h7⟩:=h;obtain⟨nt,Z1,k1,k2,k3,k4,k5⟩:=hZ;have hp:=Dl hq;refine⟨o,B++(wM j++(.tok nt:: .colon::Z1)),G++[⟨a,nt,Z1.flatMap Lex.tk⟩],?_,h2,h3.obj k3 k2,?_,?_,?_,?_⟩
 ·rw[List.map_append,List.map_append,h1,hY,k1];simp
 ·rw[List.flatMap_append,List.flatMap_append,NR,h4,List.flatMap_append];simp[Lex.tk,Seg.ts]
 ·have h8:(G.map Seg.k++xs).Perm ((G++[(⟨a,nt,Z1.flatMap Lex.tk⟩:Seg)]).map Seg.k++(xs.take q++xs.drop (q+1))):=by
   rw[List.map_append,List.append_assoc];exact List.Perm.append_left _ hp
  exact h8.nodup_iff.1 h5
 ·intro g hg
  rcases List.mem_append.1 hg with hg|hg
  ·exact h6 g hg
  ·rw[List.mem_singleton.1 hg];exact⟨t,ht,k3,k4,k5⟩
 ·intro k x hx hx0
  rcases h7 k x hx hx0 with h|h
  ·exact .inl (by rw[List.map_append];exact List.mem_append_left _ h)
  ·rcases List.mem_cons.1 (hp.mem_iff.1 h)with rfl|h
   ·exact .inl (by rw[List.map_append];exact List.mem_append_right _ (by simp))
   ·exact .inr h
theorem PQ.last{S:fM}{n:Nat}{mt:MT}{m:List dD}{L:List Int}{j typ:Nat}{X Y:List Item}{c:TK}(h:PQ S (wL S n) mt m L j [] X)(hmt:S.ms[typ]? =some mt)(hL:vO m L)(hlen:L.length=mt.fields.length)(hat:∀f∈m,0<=f.At/\f.At<mt.fields.length)(hY:Y.map Prod.snd=[.tok c])(hc:c.kind=128):lG ((X++Y).map Prod.snd)/\Vu S (n+1) (typ:Int) m (tks (X++Y)):=by
 obtain⟨o,B,G,h1,h2,h3,h4,h5,h6,h7⟩:=h;refine⟨?_,mt,o,c,G,by omega,by rw[Int.toNat_natCast];exact hmt,h2,hc,?_,by simpa using h5,h6,fun f hf=>?_⟩
 ·rw[List.map_append,h1,hY];exact h3.PW h2 hc
 ·rw[vM,List.map_append,h1,hY,List.flatMap_append]
  show[o]++B.flatMap Lex.tk++[c]=_;rw[h4];simp
 ·obtain⟨f0,f1⟩:=hat f hf
  have hk:f.At.toNat<L.length:=by omega
  have hx:=List.getElem?_eq_getElem hk
  have hp:0<L[f.At.toNat]:=by
   rcases hL _ _ hx with⟨_,h⟩|⟨i,g,h,_⟩
   ·exact absurd (by omega) (h f hf)
   ·omega
  rcases h7 _ _ hx hp with h|h
  ·obtain⟨g,hg,hgk⟩:=List.mem_map.1 h
   exact⟨g,hg,by omega⟩
  ·exact absurd h List.not_mem_nil
theorem PQ.step2{S:fM}{V:FT->Val->List TK->Prop}{mt:MT}{m:List dD}{L:List Int}{j:Nat}{xs:List Nat}{X Y N Z:List Item}{q a:Nat}{t:FT}(h:PQ S V mt m L j xs X)(hq:xs[q]? =some a)(ht:mt.fields[a]? =some t)(hY:Y.map Prod.snd=wM j)(hN:∃raw y,N.map Prod.snd=[.tok ⟨32,raw,y,false⟩,.colon]/\(y=t.name∨y=camel t.name))(hZ:lG (Z.map Prod.snd)/\AA S V t (valuesOf m a) (tks Z)):PQ S V mt m L (j+1) (xs.take q++xs.drop (q+1)) (((X++Y)++N)++Z):=by
 have h1:=vN.join (Y:=[]) hN rfl hZ;rw[List.append_nil]at h1;have h2:=h.step hq ht hY h1;rw[List.append_assoc (X++Y) N Z];exact h2
theorem acf{s9 s7 s3 nm R T T1 C:Nat}(h1:s9<=s7+(21*nm+30))(h2:s7<=s3+7)(h3:s3+R+1000000<=1000000000000)(h4:C+T1=R)(h5:C=3100+(21*nm+KM*(2*T))):s9+(1000+KM*(2*T))<=1000000000000:=by omega
theorem acg{s9 s7 s3 nm R T T1 C:Nat}(h1:s9<=s7+(21*nm+30))(h2:s7<=s3+7)(h3:s3+R+1000000<=1000000000000)(h4:C+T1=R)(h5:C=3100+(21*nm+KM*(2*(1+T)))):s9+(99000000+KM*(1+2*T))<=1000000000000:=by unfold KM at*;omega
theorem ach{D C nm T:Nat}(h5:C=3100+(21*nm+KM*(2*T))):1000+D+1+6+(21*nm+30)+(1000+KM*(2*T))<=1000+(D+C):=by omega
theorem aci{D C nm T:Nat}(h5:C=3100+(21*nm+KM*(2*(1+T)))):1000+D+1+6+(21*nm+30)+(99000000+KM*(1+2*T))<=1000+(D+C):=by unfold KM at*;omega
theorem acj{s s1 i T:Nat}(h:s+KM*(1+2*T)<=1000000000000)(h1:s1<=s+i)(hi:i<=100):s1+10<=1000000000000:=by unfold KM at*;omega
theorem acn{s s3 C D T R:Nat}(h:s+KM*(1+2*C)<=1000000000000)(h2:T<=24000000+KM*(2*C))(h3:s3<=s+(1000+D))(h4:D+R<=T):s3+R+1000000<=1000000000000:=by unfold KM at*;omega
theorem aco{C D T R:Nat}(h2:T<=24000000+KM*(2*C))(h4:D+R<=T):1000+D+10<=KM*(1+2*C):=by unfold KM at*;omega
theorem acp{s s1 i T:Nat}(h:s+KM*(1+2*T)<=1000000000000)(h1:s1<=s+i)(hi:i<=100):s1<=1000000000000:=by unfold KM at*;omega
theorem yD{n:Int}(h0:0<=n)(h1:n<9223372036854775808):IntKind.i64.wrap n=n:=by rw[IntKind.wrap_i64];omega
theorem sm1{i m:Nat}(h:i<m)(h2:m<=100000):0<=(i:Int)+1/\(i:Int)+1<9223372036854775808:=by omega
theorem NY(S:fM)(hS:jW S)(n:Nat)(w0:World)(p:Nat)(P:List Int)(A0:Option Addr)(c0:Nat)(A1:Option Addr)(c1:Nat)(hP:qE P)(hSR:qZ w0 S A0 c0 A1 c1)(hlist:∀t,sG S t->t.rep=true->Qa S n w0 p P A0 c0 A1 c1 t)(hone:RF S n w0 p P A0 c0 A1 c1):He S (n+1) w0 p P A0 c0 A1 c1:=by
 intro typ m A c W s vb vl hC hF hs hj;obtain⟨hty,mt,hmt,hri,hall⟩:=hF;have hmem:=List.mem_of_getElem? hmt;obtain⟨hfl,hns⟩:=hS.fl mt hmem;have hfd:=hS.Vw mt hmem;obtain⟨Bo,AF,cF,rfl,_,m1,m2,uK⟩:=Ag hSR.ms hmt;obtain⟨kt,hkt⟩:∃k:Nat,typ=(k:Int):=⟨typ.toNat,by omega⟩
 have acr:typ.toNat=kt:=by omega
 rw[acr]at m1 hmt;obtain⟨nf,hnf⟩:∃nf,nf=mt.fields.length:=⟨_,rfl⟩
 rw[<-hnf]at m1 uK hfl;obtain⟨W3,hW3⟩:∃W3,W3=W.alloc (.cells #[.slice (some Bo) S.ms.length c0,.slice A1 S.es.length c1] 25):=⟨_,rfl⟩
 have hB3:Below W.heap.size W W3:=by rw[hW3];exact ak (bg _ _) _
 have hX3:W3.heap[W.heap.size]? =some (.cells #[.slice (some Bo) S.ms.length c0,.slice A1 S.es.length c1] 25 (0,0)):=by rw[hW3];exact aP W _
 have hj3:=hj.below hB3;have q1:=ay hj3.be m1;have z1:W3.cell? ⟨W.heap.size,0,none⟩=some (.slice (some Bo) S.ms.length c0):=(aA hX3 0).trans rfl;have i1:(kt:Int)<(S.ms.length:Int):=by have:=(List.getElem?_eq_some_iff.1 hmt).1;omega
 have i0:(0:Int)<=(kt:Int):=by omega
 have hm5:(m.length:Int)<=(nf:Int):=by
  have:=jk.len (N:=(nf:Int)) hri (fun f hf=>by
   obtain⟨h0,_,t,h1,_⟩:=hall f hf;have:=(List.getElem?_eq_some_iff.1 h1).1;omega) (by omega)
  omega
 have HM5:=ah (show m.length<=100000 by omega);have HX3:=ah hX3;have HJ3:=ah hj3;have HK3:=ah (bD.below hB3);have kQ:=ah hs;have HP:=ah hP;have HC:=ah hC;have HRi:=ah hri;have Ho:=ah hall;have Kt:=ah hfd;have NZ:=ah uK;have HLi:=ah hlist;have HOn:=ah hone;have RQ:=ah (And.intro hmt (And.intro acr hty));have qH:=ah (And.intro hnf (And.intro hfl hns));have HW3:=ah hW3;have hmk:=ace nf (by omega);rw[hkt];clear hm5 hW3 hB3 hX3 hj3 hs hP hj hC hri hall hfd uK hlist hone hmt acr hty hkt hnf hns hmem hfl m1 m2 hS hSR;go_enter Tryz.func20,Tryz.ntmps20
 go_upto_region 1 with fail
 rw[<-HW3.out];clear HW3
 go_upto_region 3 with fail
 clear hmk z1 q1 i0 i1;go_wp2
 go_loopg [10] m.length (fun g v10 w'=>∃(i:Nat)(L:List Int),v10= .int .i64 i/\i+g=m.length/\aC (L.length=nf/\vO (m.take i) L)/\aC (aaE w' W3.heap.size nf L)/\aC (Below W3.heap.size W3 w'))
 case atStart=>exact⟨0,List.replicate nf 0,rfl,by omega,⟨List.length_replicate,vO.zero nf⟩,⟨VZ W3 nf (by have:=qH.out.2.1;omega)⟩,⟨ak (bg _ _) _⟩⟩
 case round=>
  obtain⟨i,L,rfl,hg,HL,HR,HB⟩:=hrel;have hjr:=HJ3.out.below HB.out
  by_cases hlt:i<m.length
  ·obtain⟨f,hf⟩:=bF hlt
   obtain⟨fa0,_,ft,fe,_⟩:=Ho.out f (List.mem_of_getElem? hf.out);obtain⟨k,ad,A2,c2,_,rfl,x0,x1,x2,Ey⟩:=qm (Kd.aU HC.out hjr.be) hf.out;obtain⟨a,ha⟩:∃a:Nat,f.At=(a:Int):=⟨f.At.toNat,by omega⟩
   have han:f.At.toNat=a:=by omega
   have hal:a<nf:=by
    have:=(List.getElem?_eq_some_iff.1 fe).1;rw[qH.out.1];omega
   have wQ:=ah (HL.out.2.step hf.out fa0);rw[han]at wQ;rw[ha]at x0;have hcell:=Kd.sW (0:Int) HR.out (a:Int) (by omega) (by omega);rw[Int.toNat_natCast]at hcell;obtain⟨y0,y1⟩:=hcell;have HR2:=ah (Kd.Mc HR.out (a:Int) ((i:Int)+1));rw[Int.toNat_natCast]at HR2;have d1:decide ((i:Int)<(m.length:Int))=true:=bZ (by omega);have i0:(0:Int)<=(i:Int):=by omega
   have i1:(i:Int)<(m.length:Int):=by omega
   have a0:(0:Int)<=(a:Int):=by omega
   have a1:(a:Int)<(nf:Int):=by omega
   obtain⟨g',rfl⟩:∃g',gk=g'+1:=⟨gk-1,by omega⟩
   have hsm:=sm1 hlt HM5.out;have e1:IntKind.i64.wrap ((i:Int)+1)=(i:Int)+1:=yD hsm.1 hsm.2;have e2:wrap64 ((i:Int)+1)=(i:Int)+1:=w64 hsm.1 hsm.2;clear hjr fa0 fe x2 Ey ha han hsm;go_wp2
   go_roundg g'
   case measure=>exact Nat.lt_succ_self _
   case rel=>exact⟨i+1,L.set a ((i:Int)+1),rfl,(Nat.add_right_comm i 1 g').trans hg,⟨List.length_set.trans HL.out.1,wQ.out⟩,HR2,⟨aV HB.out (Nat.le_refl _)⟩⟩
  ·obtain rfl:i=m.length:=by omega
   have hh:=HL.out.2;rw[List.take_length]at hh;obtain⟨W4,rfl⟩:∃W4:World,W4=wr:=⟨_,rfl⟩
   have HJ4:=ah hjr;have HK4:=ah (HK3.out.trans (bD.below HB.out));have HX4:=ah ((HB.out.block _ (bJ HX3.out)).trans HX3.out);have HHv:=ah hh;have HLn:=ah HL.out.1;have HG4:=ah hjr.be.size;have d1:decide ((m.length:Int)<(m.length:Int))=false:=bY (by omega);clear hjr hh hlt HJ3 HK3 HX3 HL HB;go_wp2;clear d1 hg
   go_loopg [11,12] nf (fun g v11 v12 w'=>∃(i:Nat)(xs:List Nat),v12= .int .i64 i/\i+g=nf/\aC (uq n mt.fields m L i xs)/\aC (AB w' W4.heap.size v11 xs)/\aC (lW w0 W4 w' p P s i (fun X=>X=[])))
   case atStart=>exact⟨0,[],rfl,by omega,⟨uq.zero _ _ _ _⟩,⟨Kd.mP _ _ _ _ _⟩,⟨s,[],vb,vl,HJ4.out,bD.refl _,kC.refl s 0,rfl⟩⟩
   case round=>
    obtain⟨i,xs,rfl,hg,Wh,HOr,HWo⟩:=hrel;obtain⟨s1,X,vb1,vl1,hj1,hk1,hst1,rfl⟩:=HWo.out;obtain⟨A3,c3,rfl⟩:=Kd.fC HOr.out;obtain⟨N,hN⟩:∃N,N=(xs.map (fun(k:Nat)=>(k:Int))).length:=⟨_,rfl⟩
    have hNx:N=xs.length:=by rw[hN,List.length_map]
    rw[<-hN]at HOr ⊢;have HN:=ah hNx;clear hN hNx
    by_cases hlt:i<nf
    ·obtain⟨x,hx⟩:=bF (show i<L.length by rw[HLn.out];exact hlt)
     have hcell:=Kd.sW (0:Int) (jd HR.out hk1) (i:Int) (by omega) (by omega);rw[Int.toNat_natCast,wG,Int.toNat_natCast,bT hx.out]at hcell;obtain⟨y0,y1⟩:=hcell;have d1:decide ((i:Int)<(nf:Int))=true:=bZ (by omega);have i0:(0:Int)<=(i:Int):=by omega
     have i1:(i:Int)<(nf:Int):=by omega
     have HXl:=ah (Wh.out.len1 (by have:=qH.out.2.1;omega));obtain⟨g',rfl⟩:∃g',gk=g'+1:=⟨gk-1,by omega⟩
     have HHg:=ah hg;have HJ1:=ah hj1;have HK1:=ah hk1;have HS1:=ah hst1;have hsm:=sm1 hlt (by have:=qH.out.2.1;omega);have e1:IntKind.i64.wrap ((i:Int)+1)=(i:Int)+1:=yD hsm.1 hsm.2;have e2:wrap64 ((i:Int)+1)=(i:Int)+1:=w64 hsm.1 hsm.2
     by_cases h0:0<x
     ·have d2:decide (0<x)=true:=bZ h0
      clear h0 hg hj1 hk1 hst1 hsm
      go_wp2_with (at_builtin;refine Qc W4.heap.size (W:=wr) (v:=.slice A3 N c3) (xs:=xs) rfl (.tmp 57) (.tmp 59) rfl i rfl rfl HOr.out HK1.out.1 HXl.out.1 ?_;intro v2 w2 ho2 hg2;have HO2:=ah ho2;have HG2:=ah hg2;clear ho2 hg2)
      go_roundg g'
      case measure=>exact Nat.lt_succ_self _
      case rel=>exact⟨i+1,xs++[i],rfl,(Nat.add_right_comm i 1 g').trans HHg.out,⟨Wh.out.take⟩,HO2,⟨s1,[],vb1,vl1,HJ1.out.ints HOr.out HG4.out HG2.out,HK1.out.new HG2.out (Kd.lC HOr.out),HS1.out.mono (Nat.le_succ _),rfl⟩⟩
     ·have d2:decide (0<x)=false:=bY h0
      have HX0:=ah h0;have uV:=ah (NV w0 wr p P s1 vb1 vl1 8 (by decide) HP.out (acp kQ.out HS1.out.sz (by have:=qH.out.2.1;omega)) HJ1.out);clear h0 hg hj1 hk1 hst1 hsm
      go_upto_if 56 with(go_at_call 43;(with_reducible refine uV.out.mono ?_);rintro e w2⟨v,rfl,hv,ho⟩;have HO2:=ah ho;clear ho)
      obtain⟨s2,Y,vb2,vl2,hj2,hk2,hst2,rfl⟩:=HO2.out;have HOr2:=ah (jd HOr.out hk2);have HJ2:=ah hj2;have HK2:=ah (HK1.out.trans hk2);have HS2:=ah (HS1.out.trans hst2);clear hj2 hk2 hst2 HO2 y0 y1
      by_cases hv1:v=1
      ·subst hv1
       clear hv
       go_wp2_with (at_builtin;refine Qc W4.heap.size (W:=w2) (v:=.slice A3 N c3) (xs:=xs) rfl (.tmp 57) (.tmp 59) rfl i rfl rfl HOr2.out HK2.out.1 HXl.out.1 ?_;intro v2 w3 ho2 hg2;have HO3:=ah ho2;have HG3:=ah hg2;clear ho2 hg2)
       go_roundg g'
       case measure=>exact Nat.lt_succ_self _
       case rel=>exact⟨i+1,xs++[i],rfl,(Nat.add_right_comm i 1 g').trans HHg.out,⟨Wh.out.take⟩,HO3,⟨s2,[],vb2,vl2,HJ2.out.ints HOr2.out HG4.out HG3.out,HK2.out.new HG3.out (Kd.lC HOr2.out),HS2.out,rfl⟩⟩
      ·have d3:=eqF hv1
       clear hv1 hv;go_wp2
       go_roundg g'
       case measure=>exact Nat.lt_succ_self _
       case rel=>exact⟨i+1,xs,rfl,(Nat.add_right_comm i 1 g').trans HHg.out,⟨Wh.out.skip hx.out (Int.not_lt.2 HX0.out)⟩,HOr2,⟨s2,[],vb2,vl2,HJ2.out,HK2.out,HS2.out,rfl⟩⟩
    ·obtain rfl:i=nf:=by omega
     have d1:decide ((i:Int)<(i:Int))=false:=bY (by omega);have HT:=ah (VI w0 wr p P s1 vb1 vl1 HP.out (acj kQ.out hst1.sz (by have:=qH.out.2.1;omega)) hj1);have HJ1:=ah hj1;have HK1:=ah hk1;have HS1:=ah hst1;have HOr1:=ah (fun W'(hk:bD wr W')=>jd HOr.out hk);clear hlt hj1 hk1 hst1 hg
     go_upto_region 14 with(go_at_call 44;(with_reducible refine HT.out.mono ?_);rintro e w2⟨rfl,ho⟩;have HO2:=ah ho;clear ho)
     have HW2:=ah (lW.seq HK1.out HS1.out HO2.out (Q':=PQ S (wL S n) mt m L 0 xs) (fun Y hY=>⟨PY,[],[],hY,rfl,IB.zero _,rfl,by simpa using Wh.out.nd,fun g hg=>absurd hg List.not_mem_nil,fun k x hx h0=>.inr (Wh.out.all k x (by have:=(List.getElem?_eq_some_iff.1 hx).1;rw[HLn.out]at this;exact this) hx h0)⟩))
     have HOr2:aC (AB w2 W4.heap.size (.slice A3 N c3) xs):=by
      obtain⟨_,_,_,_,_,hk,_,_⟩:=HO2.out;exact⟨HOr1.out w2 hk⟩
     obtain⟨T,hT⟩:∃T,T=((List.range i).map (yC n mt.fields m)).sum:=⟨_,rfl⟩
     have HTt:=ah (show T<=24000000+KM*(2*iP (n+1) m)by rw[hT,qH.out.1];exact RV n mt.fields m (by have:=qH.out.2.1;rw[<-qH.out.1];exact this) qH.out.2.2);have HXs:=ah (And.intro (Wh.out.len1 (by have:=qH.out.2.1;omega)).2 (And.intro Wh.out.lt (show 0+(xs.map (yC n mt.fields m)).sum<=T by have:=Wh.out.sum;rw[<-hT]at this;omega)));clear hT d1 HT HO2 HOr1 HOr HWo;go_wp2
     go_loopg [11,13,14,15,16,113,123] xs.length (fun g v11 v13 v14 v15 v16 v113 v123 w'=>∃(j:Nat)(ys:List Nat)(D:Nat),v13= .int .i64 j/\g=ys.length/\aC (j+ys.length<=i/\(∀y∈ys,y<i)/\D+(ys.map (yC n mt.fields m)).sum<=T)/\aC (AB w' W4.heap.size v11 ys)/\aC (lW w0 W4 w' p P s (1000+D) (PQ S (wL S n) mt m L j ys)))
     case atStart=>exact⟨0,xs,0,rfl,rfl,⟨by have:=HXs.out.1;omega,HXs.out.2.1,HXs.out.2.2⟩,HOr2,⟨HW2.out.imp (by have:=qH.out.2.1;omega) (fun _ h=>h)⟩⟩
     case round=>
      obtain⟨j,ys,D,rfl,hgk,ED,HOr3,HWo3⟩:=hrel;have JL:=ah hgk;clear hgk;obtain⟨s3,X3,vb3,vl3,hj3,hk3,hst3,hq3⟩:=HWo3.out;obtain⟨A4,c4,rfl⟩:=Kd.fC HOr3.out;obtain⟨N4,hN4⟩:∃N4,N4=(ys.map (fun(k:Nat)=>(k:Int))).length:=⟨_,rfl⟩
      have hNy:N4=ys.length:=by rw[hN4,List.length_map]
      rw[<-hN4]at HOr3 ⊢;have HN4:=ah hNy;have hb3:=acn kQ.out HTt.out hst3.sz ED.out.2.2
      by_cases hy0:ys=[]
      ·subst hy0
       obtain rfl:N4=0:=hNy;have d1:decide ((0:Int)<((0:Nat):Int))=false:=by decide
       have HT3:=ah (VJ w0 wr p P s3 vb3 vl3 HP.out (by omega) hj3);have HK3:=ah hk3;have HS3:=ah hst3;have HQ3:=ah hq3;clear hN4 hj3 hk3 hst3 hq3 hb3
       go_wp2_with (go_at_call 44;(with_reducible refine HT3.out.mono ?_);rintro e w4⟨rfl,ho⟩;have HO4:=ah ho;clear ho)
       go_end0
       refine⟨rfl,((lW.seq HK3.out HS3.out HO4.out (fun Z hZ=>HQ3.out.last RQ.out.1 HHv.out (by rw[HLn.out];exact qH.out.1) (fun f hf=>?_) hZ rfl)).to HK4.out).imp ?_ (fun _ h=>h)⟩
       ·obtain⟨f0,_,ft,fe,_⟩:=Ho.out f hf
        have:=(List.getElem?_eq_some_iff.1 fe).1;exact⟨f0,by omega⟩
       ·exact aco HTt.out ED.out.2.2
      ·have hpos:0<ys.length:=List.length_pos_iff.2 hy0
       obtain⟨gb,cap,er,_⟩:=Kd.TV HOr3.out (by rw[<-hN4];omega);rw[<-hN4]at er;injection er with er1 er2 er3
       subst er1 er3;have d1:decide ((0:Int)<(N4:Int))=true:=bZ (by omega);have n0:0<N4:=by omega
       have n1:decide (0<N4)=true:=bZ n0;have uV:=ah (NV w0 wr p P s3 vb3 vl3 (N4:Int) (by omega) HP.out (by omega) hj3);have HK3:=ah hk3;have HS3:=ah hst3;have HQ3:=ah hq3;have HB3:=ah hb3;have HNl:=ah hN4;obtain⟨g',hg'⟩:∃g',ys.length=g'+1:=⟨ys.length-1,by omega⟩
       have HG':=ah hg';clear hN4 hNy hj3 hk3 hst3 hq3 hb3 hg' hpos hy0 er2
       go_upto_region 18 with(go_at_call 43;(with_reducible refine uV.out.mono ?_);rintro e w4⟨v,rfl,hv,ho⟩;have HO4:=ah ho;clear ho)
       obtain⟨s4,Y4,vb4,vl4,hj4,hk4,hst4,rfl⟩:=HO4.out;obtain⟨q,rfl⟩:∃q:Nat,v=(q:Int):=⟨v.toNat,by omega⟩
       have hq:q<ys.length:=by have:=HN4.out;omega
       obtain⟨a,ha⟩:=bF hq;have hor4:=jd HOr3.out hk4;have hcell:=Kd.sW (0:Int) hor4 (q:Int) (by omega) (by omega)
       have hga:wG (0:Int) (ys.map (fun(k:Nat)=>(k:Int))) (q:Int)=(a:Int):=by
        rw[wG,Int.toNat_natCast];exact bT (by rw[List.getElem?_map,ha.out];rfl)
       rw[Int.toNat_natCast,hga]at hcell;obtain⟨y0,y1⟩:=hcell;have i0:(0:Int)<=(q:Int):=by omega
       have i1:(q:Int)<(N4:Int):=hv.2;have HOr4:=ah hor4;have HJ4':=ah hj4;have HK4':=ah (HK3.out.trans hk4);have HS4:=ah (HS3.out.trans hst4);have HZ4:=ah hst4.sz;clear hga hor4 hj4 hk4 hst4 hv HO4 d1;have HV4:=ah (And.intro hq i1);obtain⟨hnl,hnc,hC4⟩:=Kd.iM HOr4.out;have HC4:=ah hC4;have c0':(q:Int)<=(c4:Int):=by have:=hnc;omega
       have c1':(q:Int)+1<=(c4:Int):=by have:=hnc;omega
       have c2':(q:Int)+1<=(N4:Int):=by omega
       have c3':(N4:Int)<=(c4:Int):=by have:=hnc;omega
       have c5':(0:Int)<=(q:Int)+1:=by omega
       have HT2:=ah (fun(W5:World)(hg:(w4.alloc (.cells #[] 3)).drew.grownBy W5 (some w4.heap.size))=>show(Kd.int .i64).C W5 (if c4=q+1 then some ⟨gb,0,none⟩else some ⟨gb,q+1,none⟩) (N4-(q+1)) ((ys.drop (q+1)).map (fun(k:Nat)=>(k:Int)))by
        have h5:(Kd.int .i64).R 3 W5 W4.heap.size (fun _=>True) (.slice (some ⟨gb,0,none⟩) N4 c4) (ys.map (fun(k:Nat)=>(k:Int))):=by
         refine Kd.gB (Kd.Yi (Kd.nY (Kd.kX (Kd.iR HOr4.out) _)) hg (fun k hk e=>?_)) (fun _ _=>trivial);have:=hk.2.2.1;cases e;omega
        obtain⟨_,_,h6⟩:=Kd.iM h5;have h7:=Kd.Gi (m:=q+1) (c:=c4) h6 (by rw[<-hnl];omega) (by rw[<-hnl];omega);rw[List.length_drop,<-hnl,<-List.map_drop]at h7;simp only[Option.map_some,show(Kd.int .i64).sz=1 from rfl,Nat.mul_one,VQ,Nat.zero_add]at h7;exact h7)
       have hsm:=sm1 (show q<N4 by omega) (by have h1:=ED.out.1;have h2:=qH.out.2.1;have h3:=HN4.out;omega);have e1:IntKind.i64.wrap ((q:Int)+1)=(q:Int)+1:=yD hsm.1 hsm.2;have e2:wrap64 ((q:Int)+1)=(q:Int)+1:=w64 hsm.1 hsm.2;have HN0:=ah (Kd.nY (Zk w4 W4.heap.size HK4'.out.1))
       have HT1:=ah (show(Kd.int .i64).C (w4.alloc (.cells #[] 3)).drew (some ⟨gb,0,none⟩) q ((ys.take q).map (fun(k:Nat)=>(k:Int)))by
        have h:=Kd.BP (m:=q) hC4 (by rw[<-hnl];omega);rw[List.length_take,<-hnl,Nat.min_eq_left (by omega),<-List.map_take]at h;exact Kd.BN (Kd.dP h _))
       have HB5:=ah (show W4.heap.size<=(w4.alloc (.cells #[] 3)).drew.heap.size from Nat.le_trans HK4'.out.1 (aQ (ak (bg _ _) _)).size);have HQl:=ah (show([]:List Nat).length+q<=1000000000 by have h1:=ED.out.1;have h2:=qH.out.2.1;rw[List.length_nil];omega);have HQ2:=ah (show([]++ys.take q).length+(N4-(q+1))<=1000000000 by have h1:=ED.out.1;have h2:=qH.out.2.1;have h3:=HN4.out;rw[List.nil_append,List.length_take];omega);clear hsm hnl hnc hC4 hq;go_wp2;clear y0 y1
       go_region_law (first|(refine wS (W:=(w4.alloc (.cells #[] 3)).drew) (base:=W4.heap.size) (by kernel_rfl) (.tmp 77) (.tmp 80) rfl (v:=.slice (some ⟨w4.heap.size,0,none⟩) 0 0) (xs:=[]) (ys:=ys.take q) (some ⟨gb,0,none⟩) q c4 rfl rfl HN0.out HT1.out HB5.out HQl.out ?_;intro v5 w5 ho5 hg5 hat5;have HO5:=ah ho5;have HG5:=ah hg5;have HA5:=ah hat5;clear ho5 hg5 hat5)|(refine wS (W:=w5) (base:=W4.heap.size) (by kernel_rfl) (.tmp 81) (.tmp 85) rfl (v:=v5) (xs:=[]++ys.take q) (ys:=ys.drop (q+1)) (if c4=q+1 then some ⟨gb,0,none⟩else some ⟨gb,q+1,none⟩) (N4-(q+1)) (c4-(q+1)) rfl rfl HO5.out (HT2.out _ HG5.out) (Nat.le_trans HB5.out HG5.out.size) HQ2.out ?_;intro v6 w6 ho6 hg6 hat6;have HO6:=ah ho6;have HG6:=ah hg6;clear ho6 hg6 hat6))
       all_goals
        generalize (if c4=q+1 then some (⟨gb,0,none⟩:Addr)else some ⟨gb,q+1,none⟩)=AD;have hb0:=aQ (ak (bg w4.heap.size w4) (.cells #[] 3));have hb5:=hb0.grown HG5.out hb0.size (fun k hk=>by cases hk;exact Nat.le_refl _)
        have hb6:=hb5.grown HG6.out hb5.size (fun k hk=>by
         rcases HA5.out with h|⟨b,h,hb⟩
         ·rw[h]at hk;cases hk;exact Nat.le_refl _
         ·rw[h]at hk;cases hk;exact Nat.le_trans hb0.size hb)
        have HJ6:=ah (HJ4'.out.below hb6);have HK6:=ah (HK4'.out.trans (bD.below hb6));have HOr6:aC (AB w6 W4.heap.size v6 (ys.take q++ys.drop (q+1))):=⟨HO6.out⟩;have Yd:=ah (Hf w0 w6 p P s4 vb4 vl4 j HP.out (by have h1:=HZ4.out;have h2:=HB3.out;omega) HJ6.out);clear hb0 hb5 hb6 HG5 HG6 HA5 HO5 HO6 HT1 HT2 HN0 HB5 HQl HQ2
        go_upto_region 21 with(go_at_call 45;(with_reducible refine Yd.out.mono ?_);rintro e w7⟨rfl,ho⟩;have HO7:=ah ho;clear ho)
        obtain⟨s7,Y7,vb7,vl7,hj7,hk7,hst7,hq7⟩:=HO7.out;have hal:a<i:=ED.out.2.1 a (List.mem_of_getElem? ha.out);obtain⟨t,ht⟩:=bF (show a<mt.fields.length by rw[<-qH.out.1];exact hal);obtain⟨adT,TI,u0,u1,u2,u3,u4,u5⟩:=uT (Kd.aU NZ.out hj7.be) ht.out;subst TI;have a0:(0:Int)<=(a:Int):=by omega
        have a1:(a:Int)<(i:Int):=by omega
        go_upto_region 24 with fail
        obtain⟨w8,hw8⟩:∃w8,w8=w7.alloc (.cells #[.string t.name,.int .i64 t.num,.int .i64 t.kind,.bool t.rep,.bool t.map,.int .i64 t.typ] 70):=⟨_,rfl⟩
        rw[<-hw8];have hB8:Below w7.heap.size w7 w8:=by rw[hw8];exact ak (bg _ _) _
        have hk47:=HK6.out.trans hk7
        have HX8:aC (Bx2 w8 W.heap.size w7.heap.size S (some Bo) c0 A1 c1 t):=by
         refine⟨?_,?_⟩
         ·exact(bD.below hB8).cell (hk47.cell HX4.out (by decide) (by decide) (by decide)) (by decide) (by decide) (by decide)
         ·rw[hw8];exact aP w7 _
        obtain⟨x,hx⟩:=bF (show a<L.length by rw[HLn.out];exact hal);have hcell:=Kd.sW (0:Int) (jd HR.out (hk47.trans (bD.below hB8))) (a:Int) (by omega) (by omega);rw[Int.toNat_natCast,wG,Int.toNat_natCast,bT hx.out]at hcell;obtain⟨y0,y1⟩:=hcell;have HJ8:=ah (hj7.below hB8);have HK8:=ah (hk47.trans (bD.below hB8));have HS7:=ah (HS4.out.trans hst7);have HZ7:=ah (show s7.sz<=s3.sz+7 by have h1:=HZ4.out;have h2:=hst7.sz;omega);have HOr8:=ah (jd HOr6.out (hk7.trans (bD.below hB8)));have AL:=ah (Kt.out t (List.mem_of_getElem? ht.out));have HQ7:=ah hq7;have hcm:=Zl (yC n mt.fields m) ha.out;have Oa:=ah hcm;have Zm:=ah (show yC n mt.fields m a=3100+(21*t.name.size+KM*(2*jl n (valuesOf m a)))by unfold yC;rw[ht.out]);clear hcm;clear hw8 hB8 hk47 hj7 hk7 hst7 hq7 HO7 Yd u0 u1 u2 u3 u4 u5;obtain⟨z1,z2,z3,z4,z5,z6,z7,z8⟩:=HX8.out.cells
        by_cases hx0:x=0
        ·have d2:(x==0)=true:=kZ hx0
         have HX0:=ah hx0
         have hv0:valuesOf m a=[]:=by
          rcases HHv.out a x hx.out with⟨_,h⟩|⟨i2,f2,h,_⟩
          ·exact Ez h
          ·exact absurd hx0 (by omega)
         have HV0:=ah hv0;have HAb:=ah (VX S n w0 p P (some Bo) c0 A1 c1 HP.out t AL.out (HLi.out t AL.out) w8 s7 vb7 vl7 (by have h1:=HZ7.out;have h2:=HB3.out;have h3:=Oa.out;have h4:=Zm.out;omega) HJ8.out);clear hx0 hv0
         go_wp2_with (go_at_call 46;(with_reducible refine HAb.out.mono ?_);rintro e w9⟨rfl,ho⟩;have HO9:=ah ho;clear ho)
         go_roundg g'
         case measure=>have h1:=JL.out;have h2:=HG'.out;omega
         case rel=>
          obtain⟨_,_,_,_,_,hk9,_,_⟩:=HO9.out;have hs7:=HS7.out;rw[List.append_nil]at hs7;refine⟨j+1,ys.take q++ys.drop (q+1),D+yC n mt.fields m a,?_,?_,⟨?_,?_,?_⟩,⟨jd HOr8.out hk9⟩,⟨(lW.seq HK8.out hs7 HO9.out (fun Z hZ=>HQ3.out.step ha.out ht.out HQ7.out (by rw[HV0.out];exact hZ))).imp ?_ (fun _ h=>h)⟩⟩
          ·rw[w64 (by omega) (by have h1:=ED.out.1;have h2:=qH.out.2.1;omega)];rfl
          ·have h1:=HG'.out;have h2:=HV4.out.1;rw[List.length_append,List.length_take,List.length_drop];omega
          ·have h1:=ED.out.1;have h2:=HV4.out.1;rw[List.length_append,List.length_take,List.length_drop];omega
          ·intro y hy
           rcases List.mem_append.1 hy with hy|hy
           ·exact ED.out.2.1 y (List.mem_of_mem_take hy)
           ·exact ED.out.2.1 y (List.mem_of_mem_drop hy)
          ·have h1:=ED.out.2.2;have h2:=Oa.out;omega
          ·have h1:=Zm.out;omega
        ·have d2:(x==0)=false:=eqF hx0
         obtain⟨i2,f2,hx2,hf2,hfa2⟩:∃(i2:Nat)(f2:dD),x=(i2:Int)+1/\m[i2]? =some f2/\f2.At=(a:Int):=by
          rcases HHv.out a x hx.out with⟨h,_⟩|h
          ·exact absurd h hx0
          ·exact h
         obtain⟨_,hfv,t2,ht2,aaG,hfit⟩:=Ho.out f2 (List.mem_of_getElem? hf2);have hvs:=Kr HRi.out (List.mem_of_getElem? hf2) hfa2
         have e2:t2=t:=by
          rw[hfa2,Int.toNat_natCast,ht.out]at ht2;exact(Option.some.inj ht2).symm
         subst e2;obtain⟨kk,adf,B2,d3,hkk,eA,x0,x1,x2,Ey⟩:=qm HC.out hf2;obtain rfl:n=kk:=by omega
         subst eA;have x1':=ay HJ8.out.be x1;have sS:=ah (PX w0 w8 p P s7 vb7 vl7 t2.name HP.out AL.out.sz AL.out.name AL.out.camel (by have h1:=HZ7.out;have h2:=HB3.out;have h3:=Oa.out;have h4:=Zm.out;omega) HJ8.out);subst hx2;have HHk:=ah (And.intro hf2 (And.intro hfa2 hvs));have HCv:=ah Ey;have HX1:=ah x1;have Hq:=ah (fun W'(hk:bD w8 W')=>Kd.sW (0:Int) (jd HR.out (HK8.out.trans hk)) (a:Int) (by omega) (by omega));have HLa:=ah (show wG (0:Int) L (a:Int)=(i2:Int)+1 by rw[wG,Int.toNat_natCast];exact bT hx.out);have QE:=ah (And.intro aaG hfit);have j0:(0:Int)<=(i2:Int):=by omega
         have j1:(i2:Int)<(m.length:Int):=by have:=(List.getElem?_eq_some_iff.1 hf2).1;omega
         have hi2:(i2:Int)<9223372036854775807:=by have:=HM5.out;omega
         have e5:IntKind.i64.wrap ((i2:Int)+1-1)=(i2:Int):=by rw[show(i2:Int)+1-1=(i2:Int)by omega];exact yD j0 (by omega)
         have e6:wrap64 ((i2:Int)+1-1)=(i2:Int):=by rw[show(i2:Int)+1-1=(i2:Int)by omega];exact w64 j0 (by omega)
         have e7:IntKind.i64.wrap (i2:Int)=(i2:Int):=yD j0 (by omega);have e8:wrap64 (i2:Int)=(i2:Int):=w64 j0 (by omega);clear hx0 hf2 hfa2 hfv ht2 aaG hfit hvs hkk x0 x1 x2 Ey hi2;cases hrep:t2.rep
         ·have HRp:=ah hrep
          rw[hrep]at z6
          have HMp:=ah (show t2.map=false by
           cases hm:t2.map
           ·rfl
           ·have:=(AL.out.map hm).1;rw[hrep]at this;cases this)
          clear hrep
          go_upto_region 23 with(go_at_call 47;(with_reducible refine sS.out.mono ?_);rintro e w9⟨rfl,ho⟩;have HO9:=ah ho;clear ho)
          obtain⟨s9,Y9,vb9,vl9,hj9,hk9,hst9,hq9⟩:=HO9.out;clear z1 z2 z3 z4 z5 z6 z7 z8 y0 y1 x1';obtain⟨z1,z2,z3,z4,z5,z6,z7,z8⟩:=(HX8.out.keep hk9).cells;have hcell:=Hq.out w9 hk9;rw[Int.toNat_natCast,HLa.out]at hcell;obtain⟨y0,y1⟩:=hcell;have x1':=ay hj9.be HX1.out;have HJ9:=ah hj9;have HK9:=ah ((HK8.out.trans hk9).trans (bD.below (aQ (bg _ _))));have HS9:=ah (HS7.out.trans hst9);have HOr9:=ah (jd HOr8.out (hk9.trans (bD.below (aQ (bg _ _)))));have HQ9:=ah hq9;have HZ9:=ah hst9.sz;have HV9:=ah HHk.out.2.2;obtain⟨v,hv1⟩:∃v,f2.Values=[v]:=List.length_eq_one_iff.1 (QE.out.1 HRp.out)
          obtain⟨adv,Bv,ev,eBv,a0,a1',a2,a3,a4,a5,_,LW⟩:=qL (i:=0) (x:=v) HCv.out (by rw[hv1];rfl);subst eBv;have Ko:=ah (HOn.out t2 v Bv ev w9.drew s9 vb9 vl9 LW AL.out (QE.out.2 v (by rw[hv1];simp)) (acg HZ9.out HZ7.out HB3.out Oa.out (by rw[Zm.out,HV9.out,hv1];simp[jl])) (HJ9.out.below (aQ (bg _ _))));have HCa2:=ah (show yC n mt.fields m a=3100+(21*t2.name.size+KM*(2*(1+iP n v.dA)))by rw[Zm.out,HV9.out,hv1];simp[jl]);have HV1:=ah (HV9.out.trans hv1);rw[hv1]at x1';have b0:=ay hj9.be a0;have b1:=ay hj9.be a1';have b2:=ay hj9.be a2;have b3:=ay hj9.be a3;have b4:=ay hj9.be a4;have b5:=ay hj9.be a5;rw[List.length_singleton]at x1';simp only[Nat.zero_mul,VP]at b0 b1 b2 b3 b4 b5;clear a0 a1' a2 a3 a4 a5 LW hv1 hj9 hk9 hst9 hq9 HO9
          go_still_tail 14,(by kernel_rfl)
          go_wp2_with (go_at_call 49;(with_reducible refine Ko.out.mono ?_);rintro e w10⟨rfl,ho⟩;have HO10:=ah ho;clear ho)
          go_roundg g'
          case measure=>have h1:=JL.out;have h2:=HG'.out;omega
          case rel=>
           obtain⟨_,_,_,_,_,hk10,_,_⟩:=HO10.out;have hs9:=HS9.out;rw[List.append_nil]at hs9;refine⟨j+1,ys.take q++ys.drop (q+1),D+yC n mt.fields m a,?_,?_,⟨?_,?_,?_⟩,⟨jd HOr9.out hk10⟩,⟨(lW.seq HK9.out hs9 HO10.out (fun Z hZ=>HQ3.out.step2 ha.out ht.out HQ7.out HQ9.out ⟨hZ.1,by rw[HV1.out];exact .inr (.inr (.inr ⟨HRp.out,HMp.out,v,rfl,hZ.2⟩))⟩)).imp ?_ (fun _ h=>h)⟩⟩
           ·rw[w64 (by omega) (by have h1:=ED.out.1;have h2:=qH.out.2.1;omega)];rfl
           ·have h1:=HG'.out;have h2:=HV4.out.1;rw[List.length_append,List.length_take,List.length_drop];omega
           ·have h1:=ED.out.1;have h2:=HV4.out.1;rw[List.length_append,List.length_take,List.length_drop];omega
           ·intro y hy
            rcases List.mem_append.1 hy with hy|hy
            ·exact ED.out.2.1 y (List.mem_of_mem_take hy)
            ·exact ED.out.2.1 y (List.mem_of_mem_drop hy)
           ·have h1:=ED.out.2.2;have h2:=Oa.out;omega
           ·exact aci HCa2.out
         ·have ND:=ah (HLi.out t2 AL.out hrep)
          have HRp:=ah hrep;rw[hrep]at z6;clear hrep
          go_upto_region 28 with(go_at_call 47;(with_reducible refine sS.out.mono ?_);rintro e w9⟨rfl,ho⟩;have HO9:=ah ho;clear ho)
          obtain⟨s9,Y9,vb9,vl9,hj9,hk9,hst9,hq9⟩:=HO9.out;clear z1 z2 z3 z4 z5 z6 z7 z8 y0 y1 x1';obtain⟨z1,z2,z3,z4,z5,z6,z7,z8⟩:=(HX8.out.keep hk9).cells;have hcell:=Hq.out w9 hk9;rw[Int.toNat_natCast,HLa.out]at hcell;obtain⟨y0,y1⟩:=hcell;have x1':=ay hj9.be HX1.out;have HJ9:=ah hj9;have HK9:=ah ((HK8.out.trans hk9).trans (bD.below (aQ (bg _ _))));have HS9:=ah (HS7.out.trans hst9);have HOr9:=ah (jd HOr8.out (hk9.trans (bD.below (aQ (bg _ _)))));have HQ9:=ah hq9;have HZ9:=ah hst9.sz;have HV9:=ah HHk.out.2.2;have HLc:=ah (ND.out f2.Values B2 d3 w9.drew s9 vb9 vl9 HCv.out QE.out.2 (acf HZ9.out HZ7.out HB3.out Oa.out (by rw[Zm.out,HV9.out])) (HJ9.out.below (aQ (bg _ _))));clear hj9 hk9 hst9 hq9 HO9
          go_still_tail 12,(by kernel_rfl)
          go_wp2_with (go_at_call 48;(with_reducible refine HLc.out.mono ?_);rintro e w10⟨rfl,ho⟩;have HO10:=ah ho;clear ho)
          go_roundg g'
          case measure=>have h1:=JL.out;have h2:=HG'.out;omega
          case rel=>
           obtain⟨_,_,_,_,_,hk10,_,_⟩:=HO10.out;have hs9:=HS9.out;rw[List.append_nil]at hs9;refine⟨j+1,ys.take q++ys.drop (q+1),D+yC n mt.fields m a,?_,?_,⟨?_,?_,?_⟩,⟨jd HOr9.out hk10⟩,⟨(lW.seq HK9.out hs9 HO10.out (fun Z hZ=>HQ3.out.step2 ha.out ht.out HQ7.out HQ9.out (by rw[HV9.out];exact hZ))).imp ?_ (fun _ h=>h)⟩⟩
           ·rw[w64 (by omega) (by have h1:=ED.out.1;have h2:=qH.out.2.1;omega)];rfl
           ·have h1:=HG'.out;have h2:=HV4.out.1;rw[List.length_append,List.length_take,List.length_drop];omega
           ·have h1:=ED.out.1;have h2:=HV4.out.1;rw[List.length_append,List.length_take,List.length_drop];omega
           ·intro y hy
            rcases List.mem_append.1 hy with hy|hy
            ·exact ED.out.2.1 y (List.mem_of_mem_take hy)
            ·exact ED.out.2.1 y (List.mem_of_mem_drop hy)
           ·have h1:=ED.out.2.2;have h2:=Oa.out;omega
           ·exact ach (by rw[Zm.out,HV9.out])
end Go.Proofs.YtapkmjfjikpnlaaGreatDoor
