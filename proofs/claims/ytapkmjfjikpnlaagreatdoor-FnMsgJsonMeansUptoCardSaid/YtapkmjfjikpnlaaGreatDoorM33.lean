/- A part of FnMsgJsonMeans. No conditions. -/
import Derived.Test.YtapkmjfjikpnlaaGreatDoorM31
import Derived.Test.YtapkmjfjikpnlaaGreatDoorM32
set_option maxRecDepth 100000
set_option maxHeartbeats 8000000
namespace Go.Proofs.YtapkmjfjikpnlaaGreatDoor
open Go.RowKit YtapkmjfjikpnlaaGreatDoorW.aG YtapkmjfjikpnlaaGreatDoorW.aJ
set_option linter.unusedVariables false
set_option linter.unusedSimpArgs false
theorem Hz(w:World):Calls Tryz.prog 186 #[.string ⟨#[78,97,78]⟩] w fun e w'=>e= .returned (.int .u64 9221120237041090561)/\w=w':=by
 go_enter Tryz.func186,Tryz.ntmps186;go_wp2
 go_ret
 exact⟨rfl,rfl⟩
theorem Ia(w:World):Calls Tryz.prog 186 #[.string ⟨#[73,110,102,105,110,105,116,121]⟩] w fun e w'=>e= .returned (.int .u64 9218868437227405312)/\w=w':=by
 go_enter Tryz.func186,Tryz.ntmps186;go_wp2
 go_ret
 exact⟨rfl,rfl⟩
theorem Ib(w:World):Calls Tryz.prog 186 #[.string ⟨#[45,73,110,102,105,110,105,116,121]⟩] w fun e w'=>e= .returned (.int .u64 18442240474082181120)/\w=w':=by
 go_enter Tryz.func186,Tryz.ntmps186;go_wp2
 go_ret
 exact⟨rfl,rfl⟩
theorem Ic(e:ET)(k:Nat)(nm:ByteArray)(n:Int)(A0:Option Addr)(c0:Nat)(A1:Option Addr)(c1:Nat)(w:World)(hr0:Kd.C Kd.string w A0 e.names.length e.names)(hr1:Kd.C (Kd.int .i32) w A1 e.nums.length e.nums)(hl:e.names.length=e.nums.length)(hn:∀x∈e.nums,-2147483648<=x/\x<=2147483647)(h1:e.names[k]? =some nm)(h2:e.nums[k]? =some n)(hu:∀i,i<k->e.names[i]? ≠some nm):
 Calls Tryz.prog 184 #[.agg #[.slice A0 e.names.length c0,.slice A1 e.nums.length c1],.string nm] w fun r w'=>r= .returned (.tuple #[.int .i64 n,.bool true])/\Below w.heap.size w w':=by
 have hmax:=Kd.ou hr0;have HR0:=ah hr0;have HR1:=ah hr1;have HN:=ah (hn n (List.mem_of_getElem? h2));have HL:=ah hl;have H1:=ah h1;have H2:=ah h2;have HU:=ah hu;have HK:=ah (List.getElem?_eq_some_iff.1 h1).1;clear hr0 hr1 hn hl h1 h2 hu;go_enter Tryz.func184,Tryz.ntmps184;go_wp2
 go_loopg [11] (e.names.length) (fun g v11 w'=>∃i:Nat,v11= .int .i64 i/\i+g=e.names.length/\i<=k/\w'=w.alloc (.cells #[.slice A0 e.names.length c0,.slice A1 e.nums.length c1] 97))
 case atStart=>exact⟨0,rfl,by omega,by omega,rfl⟩
 case round=>
  obtain⟨i,rfl,hg,hik,rfl⟩:=hrel;have hlt:i<e.names.length:=Nat.lt_of_le_of_lt hik HK.out;obtain⟨x,hx⟩:=bF (show i<e.nums.length by rw[<-HL.out];exact hlt);obtain⟨nm',hnm⟩:=bF hlt;obtain⟨ad1,rfl,q1⟩:=iD (Kd.dP HR1.out (.cells #[.slice A0 e.names.length c0,.slice A1 e.nums.length c1] 97)) hx.out;obtain⟨ad0,rfl,q0⟩:=IV (Kd.dP HR0.out (.cells #[.slice A0 e.names.length c0,.slice (some ad1) e.nums.length c1] 97)) hnm.out;have w2:IntKind.i64.wrap ((i:Int)+1)=(i:Int)+1:=kL (by omega) (by omega);have i0:(0:Int)<=(i:Int):=by omega
  have i1:(i:Int)<(e.names.length:Int):=by omega
  have i2:(i:Int)<(e.nums.length:Int):=by rw[<-HL.out];exact i1
  obtain⟨g',rfl⟩:∃g',gk=g'+1:=⟨gk-1,by omega⟩
  by_cases hk:i=k
  ·subst hk
   have hxn:x=n:=by have:=hx.out;rw[H2.out]at this;exact(Option.some.inj this).symm
   have hnn:nm'=nm:=by have:=hnm.out;rw[H1.out]at this;exact(Option.some.inj this).symm
   subst hxn;subst hnn;have hr:=HN.out;have w1:IntKind.i64.wrap x=x:=by rw[IntKind.wrap_i64];omega
   have d:(nm'.toList==nm'.toList)=true:=by simp
   clear hr;go_wp2
   go_ret2
   exact⟨rfl,ak (bg _ _) _⟩
  ·have hne:nm'≠nm:=fun e=>HU.out i (by omega) (by rw[hnm.out,e])
   have d:(nm'.toList==nm.toList)=false:=by
    cases h:(nm'.toList==nm.toList)
    ·rfl
    ·exact absurd (toList_inj h) hne
   clear hne;go_wp2
   go_roundg g'
   case measure=>omega
   case rel=>exact⟨i+1,by go_num,by omega,by omega,rfl⟩
theorem Zt(w0 W:World)(q:Nat)(S:fM)(A0:Option Addr)(c0:Nat)(A1:Option Addr)(c1:Nat)(At:Option Addr)(cT:Nat)(L:List Tok)(a:Nat)(hR:RS w0 W q S A0 c0 A1 c1 At cT L a)(hSR:qZ w0 S A0 c0 A1 c1)(ty:Nat)(mt:MT)(hmt:S.ms[ty]? =some mt)(k:Nat)(t:FT)(ht:mt.fields[k]? =some t)(name:ByteArray)(hn:camel t.name=name∨t.name=name)(hu:∀i f,i<k->mt.fields[i]? =some f->camel f.name≠name/\f.name≠name)(hsz:∀f∈mt.fields,f.name.size<=1100000)(h50:mt.fields.length<=50):
 Calls Tryz.prog 56 #[.pointer (some ⟨q,0,none⟩),.int .i64 ty,.string name] W fun e w'=>e= .returned (.int .i64 k)/\Below W.heap.size W w':=by
 obtain⟨ad,AF,cF,rfl,_,m1,m2,uK⟩:=Ag (Kd.aU hSR.ms hR.be) hmt;obtain⟨r0,_⟩:=hR.cells;have i0:(0:Int)<=(ty:Int):=by omega
 have i1:(ty:Int)<(S.ms.length:Int):=by have:=(List.getElem?_eq_some_iff.1 hmt).1;omega
 have NZ:=ah uK;have kQ:=ah hsz;have HU:=ah hu;have HN:=ah hn;have HT:=ah ht;have HK:=ah (List.getElem?_eq_some_iff.1 ht).1;have hmax:=Kd.ou uK;obtain⟨nf,hnf⟩:∃nf,nf=mt.fields.length:=⟨_,rfl⟩
 have qH:=ah hnf;have H50:=ah (show nf<=1000000 by omega);rw[<-hnf]at m1 hmax;clear uK hsz hu hn ht hR hmt hSR m2 hnf h50;go_enter Tryz.func56,Tryz.ntmps56;go_wp2
 go_loopg [8] nf (fun g v8 w'=>∃i:Nat,v8= .int .i64 i/\i+g=nf/\i<=k/\aC (Below W.heap.size W w'))
 case atStart=>exact⟨0,rfl,by omega,by omega,⟨bg _ _⟩⟩
 case round=>
  obtain⟨i,rfl,hg,hik,uM⟩:=hrel;have hlt:i<mt.fields.length:=Nat.lt_of_le_of_lt hik HK.out;obtain⟨f,hf⟩:=bF hlt;obtain⟨VU,rfl,x0,_⟩:=uT NZ.out hf.out;have x1:=ay uM.out x0;have acF:=ah (nO f.name wr (by have:=kQ.out f (List.mem_of_getElem? hf.out);omega));have i2:(0:Int)<=(i:Int):=by omega
  have i3:(i:Int)<(nf:Int):=by rw[qH.out];omega
  have i4:decide ((i:Int)<(nf:Int))=true:=bZ i3;have i5:decide (i<nf)=true:=bZ (by omega);obtain⟨wa,wb⟩:=wr50 (k:=i) (n:=nf) (by omega) H50.out
  by_cases hk:i=k
  ·subst hk
   have hft:f=t:=by have:=hf.out;rw[HT.out]at this;exact(Option.some.inj this).symm
   subst hft
   by_cases hc:camel f.name=name
   ·have d1:((camel f.name).toList==name.toList)=true:=Dv hc
    clear x0 hc
    go_wp2_with (go_at_call 41;(with_reducible refine acF.out.mono ?_);rintro e w5⟨rfl,hb⟩;have x2:=ay hb x1;have HB5:=ah (au uM.out hb);clear hb)
    go_ret
    exact⟨rfl,HB5.out⟩
   ·have d1:((camel f.name).toList==name.toList)=false:=by
     cases h:((camel f.name).toList==name.toList)
     ·rfl
     ·exact absurd (toList_inj h) hc
    have d2:(f.name.toList==name.toList)=true:=Dv (HN.out.resolve_left hc);clear x0 hc
    go_wp2_with (go_at_call 41;(with_reducible refine acF.out.mono ?_);rintro e w5⟨rfl,hb⟩;have x2:=ay hb x1;have HB5:=ah (au uM.out hb);clear hb)
    go_ret
    exact⟨rfl,HB5.out⟩
  ·obtain⟨g',rfl⟩:∃g',gk=g'+1:=⟨gk-1,by omega⟩
   obtain⟨hc1,hc2⟩:=HU.out i f (by omega) hf.out
   have d1:((camel f.name).toList==name.toList)=false:=by
    cases h:((camel f.name).toList==name.toList)
    ·rfl
    ·exact absurd (toList_inj h) hc1
   have d2:(f.name.toList==name.toList)=false:=by
    cases h:(f.name.toList==name.toList)
    ·rfl
    ·exact absurd (toList_inj h) hc2
   clear x0 hc1 hc2
   go_wp2_with (go_at_call 41;(with_reducible refine acF.out.mono ?_);rintro e w5⟨rfl,hb⟩;have x2:=ay hb x1;have HB5:=ah (au uM.out hb);clear hb)
   go_roundg g'
   case measure=>omega
   case rel=>exact⟨i+1,by go_num,by omega,by omega,HB5⟩
theorem gu{l r:List Int}{k:Nat}{c:Int}(h:l.drop k=c::r):l[k]? =some c/\l.drop (k+1)=r/\k<l.length:=by
 have h1:(l.drop k)[0]? =some c:=by rw[h];rfl
 rw[List.getElem?_drop,Nat.add_zero]at h1;refine⟨h1,?_,(List.getElem?_eq_some_iff.1 h1).1⟩;rw[<-List.drop_drop,h];rfl
theorem iQ{k n:Nat}(h:k<n):decide ((k:Int)<(n:Int))=true/\decide (k<n)=true/\(0:Int)<=(k:Int)/\(k:Int)<(n:Int):=⟨bZ (by omega),bZ h,by omega,by omega⟩
theorem Dw{k m:Nat}(h:m=k+1)(hk:k<1000000000000):wrap64 ((k:Int)+1)=(m:Int)/\IntKind.i64.wrap ((k:Int)+1)=(m:Int):=by
 subst h;obtain⟨a,b⟩:=kD hk;exact⟨a.trans (by omega),b.trans (by omega)⟩
theorem KP(n:Nat):decide ((n:Int)<(n:Int))=false/\decide (n<n)=false:=⟨bY (by omega),bY (by omega)⟩
noncomputable def jnC:Code:=sq2 (sq2 (sq2 (sq2 (sq2 (sq2 (dF Tryz.f166))))))
noncomputable def jnE:Code:=sq2 jnC
structure JN(x:NT)(w:World)(ad:Addr)(n N1 N2 N3:Nat):Prop where
 ok:x.ok
 rd:RdB w (some ad) n x.bytes
 lim:n<900000000000
 nn:N1=x.wJ.length/\N2=N1+x.ip.length/\N3=N2+x.kJ.length/\n=N3+x.iV.length
theorem JN.d1{x:NT}{w:World}{ad:Addr}{n N1 N2 N3:Nat}(h:JN x w ad n N1 N2 N3):x.bytes.drop N1=x.ip++(x.kJ++x.iV):=by rw[h.nn.1];exact List.drop_left
theorem JN.d2{x:NT}{w:World}{ad:Addr}{n N1 N2 N3:Nat}(h:JN x w ad n N1 N2 N3):x.bytes.drop N2=x.kJ++x.iV:=by rw[h.nn.2.1,<-List.drop_drop,h.d1,List.drop_left]
theorem JN.d3{x:NT}{w:World}{ad:Addr}{n N1 N2 N3:Nat}(h:JN x w ad n N1 N2 N3):x.bytes.drop N3=x.iV:=by rw[h.nn.2.2.1,<-List.drop_drop,h.d2,List.drop_left]
theorem JN.len{x:NT}{w:World}{ad:Addr}{n N1 N2 N3:Nat}(h:JN x w ad n N1 N2 N3):x.bytes.length=n:=Kd.dG h.rd
theorem JN.cell{x:NT}{w:World}{ad:Addr}{n N1 N2 N3:Nat}(h:JN x w ad n N1 N2 N3){k:Nat}{c:Int}(hk:x.bytes[k]? =some c):w.cell? (ad.add k)=some (.int .u8 c):=by
 obtain⟨a,e,hc⟩:=iD h.rd hk;cases e;exact hc
theorem afj(x:NT)(w:World)(ad:Addr)(n c N1 N2 N3:Nat)(hJ:JN x w ad n N1 N2 N3){u1 u2 u4 u5 u6 u7 u8 u9 u10 u11 u12 u13 u14 u15 u16 u17 u18 u19 u20 u21 u22 u23 u24 u25 u26 u27 u28 u29 u30 u31 u32 u33 u34 u35 u36 u37 u38 u39 u40 u41 u42 u43 u44 u45 u46 u47 u48 u49 u50 u51 u52 u53 u54 u55 u56 u57 u58 u59 u60 u61 u62 u63 u64 u65 u66 u67 u68 u69 u70 u71 u72 u73 u74 u75 u76 u77 u78 u79 u80 u81 u82 u83 u84 u85 u86 u87 u88 u89 u90 u91 u92 u93 u94 u95 u96 u97 u98 u99 u100 u101 u102 u103 u104 u105 u106 u107 u108 u109 u110 u111 u112 u113 u114 u115 u116 u117 u118 u119 u120 u121 u122 u123 u124 u125 u126 u127 u128 u129 u130 u131 u132 u133 u134 u135 u136 u137 u138 u139 u140 u141 u142 u143 u144 u145 u146 u147 u148 u149 u150 u151 u152 u153 u154 u155 u156:Value}:
 jnE.wp Tryz.prog (bodyPost Tryz.prog Tryz.f166 (fun e w'=>e= .returned (.int .i64 n)/\w=w')) {tmps:=List.toArray ((.slice (some ad) n c)::u1::u2::(.int .i64 ((N3:Nat):Int))::u4::u5::u6::u7::u8::u9::u10::u11::u12::u13::u14::u15::u16::u17::u18::u19::u20::u21::u22::u23::u24::u25::u26::u27::u28::u29::u30::u31::u32::u33::u34::u35::u36::u37::u38::u39::u40::u41::u42::u43::u44::u45::u46::u47::u48::u49::u50::u51::u52::u53::u54::u55::u56::u57::u58::u59::u60::u61::u62::u63::u64::u65::u66::u67::u68::u69::u70::u71::u72::u73::u74::u75::u76::u77::u78::u79::u80::u81::u82::u83::u84::u85::u86::u87::u88::u89::u90::u91::u92::u93::u94::u95::u96::u97::u98::u99::u100::u101::u102::u103::u104::u105::u106::u107::u108::u109::u110::u111::u112::u113::u114::u115::u116::u117::u118::u119::u120::u121::u122::u123::u124::u125::u126::u127::u128::u129::u130::u131::u132::u133::u134::u135::u136::u137::u138::u139::u140::u141::u142::u143::u144::u145::u146::u147::u148::u149::u150::u151::u152::u153::u154::u155::u156::[]),defers:=[]} w:=by
 have HJ:=ah hJ;clear hJ;generalize hQ:bodyPost Tryz.prog Tryz.f166 (fun e w'=>e= .returned (.int .i64 n)/\w=w')=Q;dsimp only[jnE,jnC,dF,sq2,Tryz.f166];subst hQ;cases hex:x.ex with
 |none=>
  have hn:N3=n:=by have:=HJ.out.nn.2.2.2;have h2:x.iV=[]:=by unfold NT.iV;rw[hex]
                   rw[h2]at this;exact this.symm
  subst hn;obtain⟨g1,g2⟩:=KP N3;go_wp2
  go_ret
  exact⟨rfl,rfl⟩
 |some v=>
  obtain⟨E,sg,ds0⟩:=v;obtain⟨hE,hsg,hds,hdg,_⟩:=HJ.out.ok.TF E sg ds0 hex;have hL:x.iV=E::(sg++ds0):=by unfold NT.iV;rw[hex]
  have hd3:=HJ.out.d3;rw[hL]at hd3;obtain⟨hc,hdr,hlt⟩:=gu hd3;rw[HJ.out.len]at hlt;have x0:=HJ.out.cell hc;obtain⟨g1,g2,g3,g4⟩:=iQ hlt;have hk1:N3<1000000000000:=by have:=HJ.out.lim;omega
  obtain⟨M,hM⟩:∃M,M=N3+1:=⟨_,rfl⟩
  obtain⟨e1,e2⟩:=Dw hM hk1;obtain⟨h1,t1,hh⟩:∃h t,sg++ds0=h::t:=List.exists_cons_of_ne_nil (by intro e;have h:=congrArg List.length e;rw[List.length_append,List.length_nil]at h;have:=List.length_pos_iff.2 hds;omega)
  rw[<-hM]at hdr;obtain⟨hc1,_,hlt1⟩:=gu (show x.bytes.drop M=h1::t1 by rw[hdr,hh]);rw[HJ.out.len]at hlt1;have x1:=HJ.out.cell hc1;obtain⟨l1,l2,l3,l4⟩:=iQ hlt1;have HDr0:=ah hdr;have HHd:=ah hh;have HDS0:=ah hdg;have HNe:=ah hds;have Nu:=ah hsg;have HM:=ah hM;have yu:=ah (show M+sg.length+ds0.length=n by have:=HJ.out.nn.2.2.2;rw[hL,List.length_cons,List.length_append]at this;omega)
  have HHr:=ah (show sg=[]->48<=h1/\h1<=57 from fun h=>by
   subst h;obtain⟨d,ds',hd⟩:=List.exists_cons_of_ne_nil hds;rw[hd]at hh;injection hh with hh _
   have:=hdg d (by rw[hd];exact List.mem_cons_self);omega)
  have HHs:=ah (show(sg=[43]->h1=43)/\(sg=[45]->h1=45)from⟨fun h=>by subst h;injection hh with hh _;exact hh.symm,fun h=>by subst h;injection hh with hh _;exact hh.symm⟩)
  have dE:(E==101)=true∨((E==101)=false/\(E==69)=true):=by rcases hE with rfl|rfl;·exact .inl rfl
                                                           ·exact .inr ⟨rfl,rfl⟩
  clear hd3 hc hdr hlt hL hh hdg hds hsg hE hk1 hM hc1 hlt1
  go_upto_region 16 with fail
  go_cut [109] (fun s109 wx=>w=wx/\s109= .bool true)
  case first=>
   rcases dE with h|⟨h,h'⟩
   ·go_wp2
    go_meet
    exact⟨rfl,rfl⟩
   ·go_wp2
    go_meet
    exact⟨rfl,rfl⟩
  case rest=>
  obtain⟨rfl,rfl⟩:=hcut;clear dE
  go_upto_region 18 with fail
  obtain⟨sb,hsb⟩:∃sb:Bool,sb=decide (sg≠[]):=⟨_,rfl⟩
  have Bg:=ah hsb;clear hsb e1 e2 x0 g1 g2 g3 g4
  go_cut [129] (fun s129 wx=>w=wx/\s129= .bool sb)
  case first=>
   rcases Nu.out with hsg|hsg|hsg
   ·have hr:=HHr.out hsg
    have d1:(h1==43)=false:=eqF (by omega);have d2:(h1==45)=false:=eqF (by omega);clear hr;go_wp2
    go_meet
    exact⟨rfl,by rw[Bg.out,hsg];rfl⟩
   ·have d1:(h1==43)=true:=kZ (HHs.out.1 hsg)
    go_wp2
    go_meet
    exact⟨rfl,by rw[Bg.out,hsg];rfl⟩
   ·have hr:=HHs.out.2 hsg
    have d1:(h1==43)=false:=eqF (by omega);have d2:(h1==45)=true:=kZ hr;clear hr;go_wp2
    go_meet
    exact⟨rfl,by rw[Bg.out,hsg];rfl⟩
  case rest=>
  obtain⟨rfl,rfl⟩:=hcut;clear x1 l1 l2 l3 l4;obtain⟨M2,hM2⟩:∃M2,M2=M+sg.length:=⟨_,rfl⟩
  have HM2:=ah hM2;have HDr1:=ah (show x.bytes.drop M2=ds0++[]by rw[hM2,<-List.drop_drop,HDr0.out,List.drop_left,List.append_nil]);have sS:=ah (show M2+ds0.length=n by rw[hM2];exact yu.out);have Aw:=ah (Nat.le_refl n)
  go_upto_if 129 with fail
  go_cut [3] (fun s3 wx=>w=wx/\s3= .int .i64 ((M2:Nat):Int))
  case first=>
   rcases Nu.out with hsg|hsg|hsg
   ·have f9:sb=false:=by rw[Bg.out,hsg];rfl
    subst f9;have hmm:M2=M:=by rw[hM2,hsg];rfl
    clear hM2;subst hmm;go_wp2
    go_meet
    exact⟨rfl,rfl⟩
   all_goals
    have f9:sb=true:=by rw[Bg.out,hsg];rfl
    subst f9;have hmm:M2=M+1:=by rw[hM2,hsg];rfl
    obtain⟨e1,e2⟩:=Dw hmm (by have:=HJ.out.lim;have:=yu.out;omega);clear hM2 hmm hsg;go_wp2
    go_meet
    exact⟨rfl,rfl⟩
  case rest=>
  obtain⟨rfl,rfl⟩:=hcut;clear hM2;have hne:((n:Int)==(M2:Int))=false:=eqF (by have:=sS.out;have:=List.length_pos_iff.2 HNe.out;omega)
  go_upto_block 4 with fail
  go_cut [3] (fun s3 wx=>w=wx/\s3= .int .i64 ((n:Nat):Int))
  case first=>
   go_wp2
   go_loopg [3] ds0.length (fun g v3 w'=>w=w'/\∃(k:Nat)(ds:List Int),v3= .int .i64 k/\g=ds.length/\aC (k+ds.length=n)/\aC (jT ds)/\aC (x.bytes.drop k=ds++([])))
   case atStart=>exact⟨rfl,M2,ds0,rfl,rfl,sS,HDS0,HDr1⟩
   case round=>
    obtain⟨rfl,k,ds,rfl,hgk,JK,zo,sK⟩:=hrel;have JL:=ah hgk;clear hgk;cases ds with
    |nil=>
     have hkn:=JK.out;rw[List.length_nil,Nat.add_zero]at hkn;subst k;rcases(show Vg []from .inl rfl)with hT|⟨h,t,hT,hnd⟩
     ·have h1:x.bytes.drop (n)=[]:=sK.out.trans hT
      have h2:=congrArg List.length h1;rw[List.length_drop,HJ.out.len,List.length_nil]at h2;have g1:decide (((n:Nat):Int)<(n:Int))=false:=bY (by have:=Aw.out;omega);have g2:decide ((n)<n)=false:=bY (by have:=Aw.out;omega);clear hT h1 h2;go_wp2
      go_meet
      exact⟨rfl,rfl⟩
     ·obtain⟨hc,_,hlt⟩:=gu (show x.bytes.drop (n)=h::t from sK.out.trans hT)
      rw[HJ.out.len]at hlt;have x0:=HJ.out.cell hc;obtain⟨g1,g2,g3,g4⟩:=iQ hlt;clear hT hc hlt
      by_cases h1:48<=h
      ·have d1:decide (48<=h)=true:=bZ h1
       have d2:decide (h<=57)=false:=bY (by omega);clear h1 hnd;go_wp2
       go_meet
       exact⟨rfl,rfl⟩
      ·have d1:decide (48<=h)=false:=bY h1
       clear h1 hnd;go_wp2
       go_meet
       exact⟨rfl,rfl⟩
    |cons d ds=>
     obtain⟨hc,hdr,hlt⟩:=gu (show x.bytes.drop k=d::(ds++([]))from sK.out);rw[HJ.out.len]at hlt;have x0:=HJ.out.cell hc;obtain⟨g1,g2,g3,g4⟩:=iQ hlt;have hd:=zo.out d List.mem_cons_self;have d1:decide (48<=d)=true:=bZ hd.1;have d2:decide (d<=57)=true:=bZ hd.2;have hkn:=JK.out;rw[List.length_cons]at hkn;have HKN2:=ah (show(k+1)+ds.length=n by omega);have HDS2:=ah (show jT ds from fun y hy=>zo.out y (List.mem_cons_of_mem _ hy));have HDr2:=ah hdr;have vH:=JL.out;rw[List.length_cons]at vH;subst vH;have hk1:k<1000000000000:=by have:=HJ.out.lim;omega
     clear hc hdr hlt hd hkn;obtain⟨e1,e2⟩:=kD hk1;go_wp2
     go_roundg ds.length
     case measure=>exact Nat.lt_succ_self _
     case rel=>exact⟨rfl,k+1,ds,rfl,rfl,HKN2,HDS2,HDr2⟩
  case rest=>
   obtain⟨rfl,rfl⟩:=hcut;go_wp2
   go_ret
   exact⟨rfl,rfl⟩
theorem aht(x:NT)(w:World)(ad:Addr)(n c N1 N2 N3:Nat)(hJ:JN x w ad n N1 N2 N3){u1 u2 u4 u5 u6 u7 u8 u9 u10 u11 u12 u13 u14 u15 u16 u17 u18 u19 u20 u21 u22 u23 u24 u25 u26 u27 u28 u29 u30 u31 u32 u33 u34 u35 u36 u37 u38 u39 u40 u41 u42 u43 u44 u45 u46 u47 u48 u49 u50 u51 u52 u53 u54 u55 u56 u57 u58 u59 u60 u61 u62 u63 u64 u65 u66 u67 u68 u69 u70 u71 u72 u73 u74 u75 u76 u77 u78 u79 u80 u81 u82 u83 u84 u85 u86 u87 u88 u89 u90 u91 u92 u93 u94 u95 u96 u97 u98 u99 u100 u101 u102 u103 u104 u105 u106 u107 u108 u109 u110 u111 u112 u113 u114 u115 u116 u117 u118 u119 u120 u121 u122 u123 u124 u125 u126 u127 u128 u129 u130 u131 u132 u133 u134 u135 u136 u137 u138 u139 u140 u141 u142 u143 u144 u145 u146 u147 u148 u149 u150 u151 u152 u153 u154 u155 u156:Value}:
 jnC.wp Tryz.prog (bodyPost Tryz.prog Tryz.f166 (fun e w'=>e= .returned (.int .i64 n)/\w=w')) {tmps:=List.toArray ((.slice (some ad) n c)::u1::u2::(.int .i64 ((N2:Nat):Int))::u4::u5::u6::u7::u8::u9::u10::u11::u12::u13::u14::u15::u16::u17::u18::u19::u20::u21::u22::u23::u24::u25::u26::u27::u28::u29::u30::u31::u32::u33::u34::u35::u36::u37::u38::u39::u40::u41::u42::u43::u44::u45::u46::u47::u48::u49::u50::u51::u52::u53::u54::u55::u56::u57::u58::u59::u60::u61::u62::u63::u64::u65::u66::u67::u68::u69::u70::u71::u72::u73::u74::u75::u76::u77::u78::u79::u80::u81::u82::u83::u84::u85::u86::u87::u88::u89::u90::u91::u92::u93::u94::u95::u96::u97::u98::u99::u100::u101::u102::u103::u104::u105::u106::u107::u108::u109::u110::u111::u112::u113::u114::u115::u116::u117::u118::u119::u120::u121::u122::u123::u124::u125::u126::u127::u128::u129::u130::u131::u132::u133::u134::u135::u136::u137::u138::u139::u140::u141::u142::u143::u144::u145::u146::u147::u148::u149::u150::u151::u152::u153::u154::u155::u156::[]),defers:=[]} w:=by
 have HJ:=ah hJ;clear hJ;generalize hQ:bodyPost Tryz.prog Tryz.f166 (fun e w'=>e= .returned (.int .i64 n)/\w=w')=Q;dsimp only[jnE,jnC,dF,sq2,Tryz.f166];subst hQ;cases hfp:x.fp with
 |nil=>
  have hL:x.kJ=[]:=by unfold NT.kJ;rw[hfp];rfl
  have hn:N2=N3:=by have:=HJ.out.nn.2.2.1;rw[hL]at this;exact this.symm
  have hd2:=HJ.out.d2;rw[hL,List.nil_append]at hd2
  go_upto_region 9 with fail
  go_cut [65] (fun s65 wx=>w=wx/\s65= .bool false)
  case first=>
   rcases NT.JJ HJ.out.ok (R:=[]) (.inl rfl)with he|⟨h,t,he,hne⟩
   ·rw[List.append_nil]at he
    have hnn:N2=n:=by
     have h2:=congrArg List.length hd2;rw[he,List.length_drop,HJ.out.len]at h2;have:=HJ.out.nn.2.2.2;rw[he]at this;simp only[List.length_nil]at h2 this;omega
    obtain⟨g1,g2⟩:=KP N2;clear hd2 he hn;subst hnn;go_wp2
    go_meet
    exact⟨rfl,rfl⟩
   ·rw[List.append_nil]at he
    obtain⟨hc,_,hlt⟩:=gu (hd2.trans he);rw[HJ.out.len]at hlt;have x0:=HJ.out.cell hc;obtain⟨g1,g2,g3,g4⟩:=iQ hlt;have d1:(h==46)=false:=eqF hne;clear hd2 he hn hc hlt hne;go_wp2
    go_meet
    exact⟨rfl,rfl⟩
  case rest=>
   obtain⟨rfl,rfl⟩:=hcut;clear hd2;subst hn
   go_upto_if 65 with fail
   go_cut [3] (fun s3 wx=>w=wx/\s3= .int .i64 ((N2:Nat):Int))
   case first=>
    go_wp2
    go_meet
    exact⟨rfl,rfl⟩
   case rest=>
    obtain⟨rfl,rfl⟩:=hcut
    go_step
    exact afj x w ad n c N1 N2 N2 HJ.out
 |cons d0 ds1=>
  obtain⟨ds0,hds0⟩:∃ds0,ds0=x.fp:=⟨_,rfl⟩
  have hL:x.kJ=46::ds0:=by unfold NT.kJ;rw[hds0,if_neg (by rw[hfp];simp)]
  have hd2:=HJ.out.d2;rw[hL]at hd2;obtain⟨hc,hdr,hlt⟩:=gu hd2;rw[HJ.out.len]at hlt;have x0:=HJ.out.cell hc;obtain⟨g1,g2,g3,g4⟩:=iQ hlt;obtain⟨M,hM⟩:∃M,M=N2+1:=⟨_,rfl⟩
  rw[<-hM]at hdr;have hk1:N2<1000000000000:=by have:=HJ.out.lim;omega
  obtain⟨e1,e2⟩:=Dw hM hk1;have HDr1:=ah hdr;have HDS0:=ah (show jT ds0 by rw[hds0];exact HJ.out.ok.fpD);have hpos:0<ds0.length:=by rw[hds0,hfp];simp
  have sS:=ah (show M+ds0.length=N3 by have:=HJ.out.nn.2.2.1;rw[hL,List.length_cons]at this;omega);have Aw:=ah (show N3<=n by have:=HJ.out.nn.2.2.2;omega);have Rl:=ah (show Vg x.iV by have:=NT.Ns HJ.out.ok (R:=[]) (.inl rfl);rwa [List.append_nil]at this);have hne:((N3:Int)==(M:Int))=false:=eqF (by have:=sS.out;omega);clear hfp hds0 hL hd2 hc hdr hlt hM hk1 hpos
  go_upto_block 2 with fail
  clear x0 g1 g2 g3 g4 e1 e2
  go_cut [3] (fun s3 wx=>w=wx/\s3= .int .i64 ((N3:Nat):Int))
  case first=>
   go_wp2
   go_loopg [3] ds0.length (fun g v3 w'=>w=w'/\∃(k:Nat)(ds:List Int),v3= .int .i64 k/\g=ds.length/\aC (k+ds.length=N3)/\aC (jT ds)/\aC (x.bytes.drop k=ds++(x.iV)))
   case atStart=>exact⟨rfl,M,ds0,rfl,rfl,sS,HDS0,HDr1⟩
   case round=>
    obtain⟨rfl,k,ds,rfl,hgk,JK,zo,sK⟩:=hrel;have JL:=ah hgk;clear hgk;cases ds with
    |nil=>
     have hkn:=JK.out;rw[List.length_nil,Nat.add_zero]at hkn;subst k;rcases Rl.out with hT|⟨h,t,hT,hnd⟩
     ·have h1:x.bytes.drop (N3)=[]:=sK.out.trans hT
      have h2:=congrArg List.length h1;rw[List.length_drop,HJ.out.len,List.length_nil]at h2;have g1:decide (((N3:Nat):Int)<(n:Int))=false:=bY (by have:=Aw.out;omega);have g2:decide ((N3)<n)=false:=bY (by have:=Aw.out;omega);clear hT h1 h2;go_wp2
      go_meet
      exact⟨rfl,rfl⟩
     ·obtain⟨hc,_,hlt⟩:=gu (show x.bytes.drop (N3)=h::t from sK.out.trans hT)
      rw[HJ.out.len]at hlt;have x0:=HJ.out.cell hc;obtain⟨g1,g2,g3,g4⟩:=iQ hlt;clear hT hc hlt
      by_cases h1:48<=h
      ·have d1:decide (48<=h)=true:=bZ h1
       have d2:decide (h<=57)=false:=bY (by omega);clear h1 hnd;go_wp2
       go_meet
       exact⟨rfl,rfl⟩
      ·have d1:decide (48<=h)=false:=bY h1
       clear h1 hnd;go_wp2
       go_meet
       exact⟨rfl,rfl⟩
    |cons d ds=>
     obtain⟨hc,hdr,hlt⟩:=gu (show x.bytes.drop k=d::(ds++(x.iV))from sK.out);rw[HJ.out.len]at hlt;have x0:=HJ.out.cell hc;obtain⟨g1,g2,g3,g4⟩:=iQ hlt;have hd:=zo.out d List.mem_cons_self;have d1:decide (48<=d)=true:=bZ hd.1;have d2:decide (d<=57)=true:=bZ hd.2;have hkn:=JK.out;rw[List.length_cons]at hkn;have HKN2:=ah (show(k+1)+ds.length=N3 by omega);have HDS2:=ah (show jT ds from fun y hy=>zo.out y (List.mem_cons_of_mem _ hy));have HDr2:=ah hdr;have vH:=JL.out;rw[List.length_cons]at vH;subst vH;have hk1:k<1000000000000:=by have:=HJ.out.lim;omega
     clear hc hdr hlt hd hkn;obtain⟨e1,e2⟩:=kD hk1;go_wp2
     go_roundg ds.length
     case measure=>exact Nat.lt_succ_self _
     case rel=>exact⟨rfl,k+1,ds,rfl,rfl,HKN2,HDS2,HDr2⟩
  case rest=>
   obtain⟨rfl,rfl⟩:=hcut
   go_upto_if 91 with fail
   go_cut [3] (fun s3 wx=>w=wx/\s3= .int .i64 ((N3:Nat):Int))
   case first=>
    go_wp2
    go_meet
    exact⟨rfl,rfl⟩
   case rest=>
    obtain⟨rfl,rfl⟩:=hcut
    go_step
    exact afj x w ad n c N1 N2 N3 HJ.out
theorem Fj(x:NT)(hx:x.ok)(A:Option Addr)(n c:Nat)(w:World)(hr:RdB w A n x.bytes)(hn:n<900000000000):
 Calls Tryz.prog 166 #[.slice A n c] w fun e w'=>e= .returned (.int .i64 n)/\w=w':=by
 have hlen:=Kd.dG hr;have Iz:=List.length_pos_iff.2 hx.ip1;obtain⟨N1,hN1⟩:∃N1,N1=x.wJ.length:=⟨_,rfl⟩
 obtain⟨N2,hN2⟩:∃N2,N2=N1+x.ip.length:=⟨_,rfl⟩
 obtain⟨N3,hN3⟩:∃N3,N3=N2+x.kJ.length:=⟨_,rfl⟩
 have hN4:n=N3+x.iV.length:=by
  rw[<-hlen];unfold NT.bytes;simp only[List.length_append];omega
 obtain⟨ad,rfl⟩:∃ad,A=some ad:=by obtain⟨ad,e,_⟩:=hr.2.2 (by omega);exact⟨ad,e⟩
 have HJ:=ah (show JN x w ad n N1 N2 N3 from⟨hx,hr,hn,hN1,hN2,hN3,hN4⟩);obtain⟨h0,t0,hh0⟩:∃h t,x.bytes=h::t:=by obtain⟨c,r,e,_⟩:=x.qw hx;exact⟨c,r,e⟩
 have x0:=HJ.out.cell (k:=0) (c:=h0) (by rw[hh0];rfl);rw[show ad.add 0=ad by simp[Addr.add]]at x0
 have hneg:x.neg=(h0==45):=by
  cases hb:x.neg
  ·have hd:48<=h0:=by
    cases hi:x.ip with
    |nil=>exact absurd hi hx.ip1
    |cons d l=>
     have e1:x.bytes=d::(l++(x.kJ++x.iV)):=by unfold NT.bytes NT.wJ;rw[hb,hi];rfl
     rw[e1]at hh0;injection hh0 with e2 _
     have:=hx.QY d (by rw[hi];exact List.mem_cons_self);omega
   exact(eqF (by omega)).symm
  ·have e1:x.bytes=45::(x.ip++(x.kJ++x.iV)):=by unfold NT.bytes NT.wJ;rw[hb];rfl
   rw[e1]at hh0;injection hh0 with e2 _
   exact(kZ e2.symm).symm
 have g1:decide ((0:Int)<(n:Int))=true:=bZ (by omega);have g2:decide (0<n)=true:=bZ (by omega);have g3:(0:Int)<(n:Int):=by omega
 have HN1:=ah (show x.neg=true->N1=1 from fun h=>by rw[hN1];unfold NT.wJ;rw[h];rfl);have HN1':=ah (show x.neg=false->N1=0 from fun h=>by rw[hN1];unfold NT.wJ;rw[h];rfl);have HIp:=ah (show N1+x.ip.length=N2 from hN2.symm);have HDS0:=ah hx.QY;have HDr1:=ah HJ.out.d1;have Aw:=ah (show N2<=n by omega);have Rl:=ah (show Vg (x.kJ++x.iV)by have:=NT.Vh hx (R:=[]) (.inl rfl);rwa [List.append_nil]at this);obtain⟨sb,hsb⟩:∃sb:Bool,sb=x.neg:=⟨_,rfl⟩
 have Bg:=ah (show(h0==45)=sb by rw[hsb,hneg]);rw[<-hsb]at HN1 HN1';have HP:=ah Iz;clear hr hn hlen Iz hN1 hN2 hN3 hN4 hh0 hneg hx hsb;go_enter Tryz.func166,Tryz.ntmps166
 go_upto_if 15 with fail
 have hsb:=Bg.out;clear x0 g1 g2 g3
 go_cut [3] (fun s3 wx=>w=wx/\s3= .int .i64 ((N1:Nat):Int))
 case first=>
  cases sb
  ·obtain rfl:=HN1'.out rfl
   go_wp2
   go_meet
   exact⟨rfl,rfl⟩
  ·obtain rfl:=HN1.out rfl
   go_wp2
   go_meet
   exact⟨rfl,rfl⟩
 case rest=>
 obtain⟨rfl,rfl⟩:=hcut;clear hsb
 go_upto_block 0 with fail
 go_cut [3] (fun s3 wx=>w=wx/\s3= .int .i64 ((N2:Nat):Int))
 case first=>
  go_wp2
  go_loopg [3] x.ip.length (fun g v3 w'=>w=w'/\∃(k:Nat)(ds:List Int),v3= .int .i64 k/\g=ds.length/\aC (k+ds.length=N2)/\aC (jT ds)/\aC (x.bytes.drop k=ds++(x.kJ++x.iV)))
  case atStart=>exact⟨rfl,N1,x.ip,rfl,rfl,HIp,HDS0,HDr1⟩
  case round=>
   obtain⟨rfl,k,ds,rfl,hgk,JK,zo,sK⟩:=hrel;have JL:=ah hgk;clear hgk;cases ds with
   |nil=>
    have hkn:=JK.out;rw[List.length_nil,Nat.add_zero]at hkn;subst k;rcases Rl.out with hT|⟨h,t,hT,hnd⟩
    ·have h1:x.bytes.drop (N2)=[]:=sK.out.trans hT
     have h2:=congrArg List.length h1;rw[List.length_drop,HJ.out.len,List.length_nil]at h2;have g1:decide (((N2:Nat):Int)<(n:Int))=false:=bY (by have:=Aw.out;omega);have g2:decide ((N2)<n)=false:=bY (by have:=Aw.out;omega);clear hT h1 h2;go_wp2
     go_meet
     exact⟨rfl,rfl⟩
    ·obtain⟨hc,_,hlt⟩:=gu (show x.bytes.drop (N2)=h::t from sK.out.trans hT)
     rw[HJ.out.len]at hlt;have x0:=HJ.out.cell hc;obtain⟨g1,g2,g3,g4⟩:=iQ hlt;clear hT hc hlt
     by_cases h1:48<=h
     ·have d1:decide (48<=h)=true:=bZ h1
      have d2:decide (h<=57)=false:=bY (by omega);clear h1 hnd;go_wp2
      go_meet
      exact⟨rfl,rfl⟩
     ·have d1:decide (48<=h)=false:=bY h1
      clear h1 hnd;go_wp2
      go_meet
      exact⟨rfl,rfl⟩
   |cons d ds=>
    obtain⟨hc,hdr,hlt⟩:=gu (show x.bytes.drop k=d::(ds++(x.kJ++x.iV))from sK.out);rw[HJ.out.len]at hlt;have x0:=HJ.out.cell hc;obtain⟨g1,g2,g3,g4⟩:=iQ hlt;have hd:=zo.out d List.mem_cons_self;have d1:decide (48<=d)=true:=bZ hd.1;have d2:decide (d<=57)=true:=bZ hd.2;have hkn:=JK.out;rw[List.length_cons]at hkn;have HKN2:=ah (show(k+1)+ds.length=N2 by omega);have HDS2:=ah (show jT ds from fun y hy=>zo.out y (List.mem_cons_of_mem _ hy));have HDr2:=ah hdr;have vH:=JL.out;rw[List.length_cons]at vH;subst vH;have hk1:k<1000000000000:=by have:=HJ.out.lim;omega
    clear hc hdr hlt hd hkn;obtain⟨e1,e2⟩:=kD hk1;go_wp2
    go_roundg ds.length
    case measure=>exact Nat.lt_succ_self _
    case rel=>exact⟨rfl,k+1,ds,rfl,rfl,HKN2,HDS2,HDr2⟩
 case rest=>
  obtain⟨rfl,rfl⟩:=hcut;have e0:((N2:Int)==(N1:Int))=false:=eqF (by have:=HIp.out;have:=HP.out;omega);obtain⟨M1,hM1⟩:∃M1,M1=N1+1:=⟨_,rfl⟩
  obtain⟨e1,e2⟩:=Dw hM1 (by have:=HJ.out.lim;have:=Aw.out;have:=HIp.out;omega)
  have hcase:decide ((M1:Int)<(N2:Int))=false∨(decide ((M1:Int)<(N2:Int))=true/\∃h,w.cell? (ad.add N1)=some (.int .u8 h)/\(h==48)=false):=by
   by_cases hm:M1<N2
   ·refine .inr ⟨bZ (by omega),?_⟩
    cases hi:x.ip with
    |nil=>exact absurd hi HJ.out.ok.ip1
    |cons d l=>
     obtain⟨hc,_,_⟩:=gu (show x.bytes.drop N1=d::(l++(x.kJ++x.iV))by rw[HDr1.out,hi];rfl);refine⟨d,HJ.out.cell hc,eqF fun h=>?_⟩;have h1:=HJ.out.ok.ip0 (by rw[hi,h];rfl);have h2:=HIp.out;rw[h1]at h2;simp only[List.length_singleton]at h2;omega
   ·exact .inl (bY (by omega))
  have l3:(0:Int)<=(N1:Int):=by omega
  have l4:(N1:Int)<(n:Int):=by have:=Aw.out;have:=HIp.out;have:=HP.out;omega
  go_upto_region 7 with fail
  go_cut [54] (fun s54 wx=>w=wx/\s54= .bool false)
  case first=>
   rcases hcase with h|⟨h,d,hc,hd⟩
   ·have h':decide (M1<N2)=false:=bY (fun hh=>by have:=of_decide_eq_false h;omega)
    clear hM1;go_wp2
    go_meet
    exact⟨rfl,rfl⟩
   ·have h':decide (M1<N2)=true:=bZ (by have:=of_decide_eq_true h;omega)
    clear hM1;go_wp2
    go_meet
    exact⟨rfl,rfl⟩
  case rest=>
   obtain⟨rfl,rfl⟩:=hcut;clear e1 e2 hM1 hcase l3 l4 e0
   go_upto_if 54 with fail
   go_cut [3] (fun s3 wx=>w=wx/\s3= .int .i64 ((N2:Nat):Int))
   case first=>
    go_wp2
    go_meet
    exact⟨rfl,rfl⟩
   case rest=>
    obtain⟨rfl,rfl⟩:=hcut
    go_step
    exact aht x w ad n c N1 N2 N3 HJ.out
end Go.Proofs.YtapkmjfjikpnlaaGreatDoor
