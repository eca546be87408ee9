/- A part of FnMsgJsonMeans. No conditions. -/
import Derived.Test.YtapkmjfjikpnlaaGreatDoorM33
set_option maxHeartbeats 8000000
set_option maxRecDepth 100000
namespace Go.Proofs.YtapkmjfjikpnlaaGreatDoor
open Go.RowKit YtapkmjfjikpnlaaGreatDoorW.aG YtapkmjfjikpnlaaGreatDoorW.aJ FP
set_option linter.unusedVariables false
set_option linter.unusedSimpArgs false
theorem SE{s:ByteArray}{l:List Int}{k:Nat}{c:Int}(hs:bytesOf s=l)(hk:l[k]? =some c):∀h:k<s.size,((s[k]'h).toNat:Int)=c:=by
 intro h;have h1:=jX s (k:Int);rw[Int.toNat_natCast]at h1;rw[h1 h,<-lu,hs];unfold rd;rw[Int.toNat_natCast,List.getD_eq_getElem?_getD,hk]
 rfl
noncomputable def rcL:Code:=sq2 (sq2 (sq2 (sq2 (sq2 (sq2 (dF Tryz.f215))))))
noncomputable def rcT:Code:=sq2 rcL
noncomputable def rcU:Code:=sq2 (sq2 (sq2 (sq2 (sq2 rcT))))
structure ng(W w:World)(D2 D4:Nat)(neg:Bool)(vd:Value)(pw:Int)(d:List Int):Prop where
 b2:w.heap[D2]? =some (.cells #[.bool false,.slice none 0 0,.int .i64 0,.bool false] 254 (0,0))
 b4:w.heap[D4]? =some (.cells #[.bool neg,vd,.int .i64 pw,.bool false] 254 (0,0))
 own:OwnB w W.heap.size vd d
 be:Below W.heap.size W w
 lt:W.heap.size<=D2/\D2<D4
theorem box4{w:World}{g:Nat}{v0 v1 v2 v3:Value}{t:TypeId}(h:w.heap[g]? =some (.cells #[v0,v1,v2,v3] t (0,0))):(w.cell? ⟨g,0,none⟩=some v0/\w.cell? ⟨g,1,none⟩=some v1/\w.cell? ⟨g,2,none⟩=some v2/\w.cell? ⟨g,3,none⟩=some v3)/\(w.frozen? ⟨g,0,none⟩=false/\w.frozen? ⟨g,1,none⟩=false/\w.frozen? ⟨g,2,none⟩=false/\w.frozen? ⟨g,3,none⟩=false):=
 ⟨⟨(aA h 0).trans rfl,(aA h 1).trans rfl,(aA h 2).trans rfl,(aA h 3).trans rfl⟩,aN h 0,aN h 1,aN h 2,aN h 3⟩
theorem Dx{w w1:World}{g:Nat}{v0 v1 v2 v3 u0 u1 u2 u3:Value}{t:TypeId}(hx:w.heap[g]? =some (.cells #[v0,v1,v2,v3] t (0,0)))(h1:w1=(((w.setCell ⟨g,0,none⟩ u0).setCell ⟨g,1,none⟩ u1).setCell ⟨g,2,none⟩ u2).setCell ⟨g,3,none⟩ u3):
 w1.heap[g]? =some (.cells #[u0,u1,u2,u3] t (0,0))/\(∀B w0,Below B w0 w->B<=g->Below B w0 w1)/\(∀base v xs,OwnB w base v xs->t≠5->OwnB w1 base v xs):=by
 subst h1;have d0:=aW hx 0 u0;have d1:=aW d0 1 u1;have d2:=aW d1 2 u2;have d3:=aW d2 3 u3;refine⟨d3,fun B w0 hb hg=>?_,fun base v xs ho ht=>?_⟩
 ·exact((((hb.setCell (p:=⟨g,0,none⟩) hg u0).setCell (p:=⟨g,1,none⟩) hg u1).setCell (p:=⟨g,2,none⟩) hg u2).setCell (p:=⟨g,3,none⟩) hg u3)
 ·have hq:∀q,q∈5::(Kd.int .u8).E->q≠t:=fun q hq=>by
   have:q=5:=by simpa [Kd.int,Kd.scalar]using hq
   rw[this];exact fun h=>ht h.symm
  exact Kd.jY (Kd.jY (Kd.jY (Kd.jY ho hx hq 0 u0) d0 hq 1 u1) d1 hq 2 u2) d2 hq 3 u3
theorem WO{t:TypeId}(h:5≠t):∀q,q∈5::(Kd.int .u8).E->q≠t:=fun q hq=>by
 have:q=5:=by simpa [Kd.int,Kd.scalar]using hq
 rw[this];exact h
theorem ng.pw{W w:World}{D2 D4:Nat}{neg:Bool}{vd:Value}{pw:Int}{d:List Int}(h:ng W w D2 D4 neg vd pw d)(p:Int):ng W (w.setCell ⟨D4,2,none⟩ (.int .i64 p)) D2 D4 neg vd p d:=
 ⟨bI (p:=⟨D4,2,none⟩) h.b2 (show D2≠D4 by have:=h.lt;omega) _,(aW h.b4 2 _).trans rfl,Kd.jY h.own h.b4 (WO (by decide)) 2 _,aV h.be (by have:=h.lt;omega),h.lt⟩
theorem ng.open_{W w:World}{D2 D4:Nat}{neg:Bool}{vd:Value}{pw:Int}{d:List Int}(h:ng W w D2 D4 neg vd pw d):ng W (w.setCell ⟨D4,3,none⟩ (.bool false)) D2 D4 neg vd pw d:=
 ⟨bI (p:=⟨D4,3,none⟩) h.b2 (show D2≠D4 by have:=h.lt;omega) _,(aW h.b4 3 _).trans rfl,Kd.jY h.own h.b4 (WO (by decide)) 3 _,aV h.be (by have:=h.lt;omega),h.lt⟩
def Ie(W:World)(neg:Bool)(pw:Int)(d:List Int)(e:Ending)(w':World):Prop:=∃vd,e= .returned (.tuple #[.agg #[.bool neg,vd,.int .i64 pw,.bool false],.bool true])/\OwnB w' W.heap.size vd d/\Below W.heap.size W w'
theorem afk(x:NT)(hx:x.ok)(s:ByteArray)(hs:bytesOf s=x.bytes)(W w:World)(D2 D4 N3:Nat)(vd:Value)(hN:N3=s.size)(hex:x.ex=none)(hJ:ng W w D2 D4 x.neg vd (-(x.fp.length:Int)) x.dg){u1 u3 u6 u7 u8 u9 u10 u11 u12 u13 u14 u15 u16 u17 u18 u19 u20 u21 u22 u23 u24 u25 u26 u27 u28 u29 u30 u31 u32 u33 u34 u35 u36 u37 u38 u39 u40 u41 u42 u43 u44 u45 u46 u47 u48 u49 u50 u51 u52 u53 u54 u55 u56 u57 u58 u59 u60 u61 u62 u63 u64 u65 u66 u67 u68 u69 u70 u71 u72 u73 u74 u75 u76 u77 u78 u79 u80 u81 u82 u83 u84 u85 u86 u87 u88 u89 u90 u91 u92 u93 u94 u95 u96 u97 u98 u99 u100 u101 u102 u103 u104 u105 u106 u107 u108 u109 u110 u111 u112 u113 u114 u115 u116 u117 u118 u119 u120 u121 u122 u123 u124 u125 u126 u127 u128 u129 u130 u131 u132 u133:Value}:
 rcT.wp Tryz.prog (bodyPost Tryz.prog Tryz.f215 (Ie W x.neg x.pw x.dg)) {tmps:=List.toArray ((.string s)::u1::(.pointer (some ⟨D2,0,none⟩))::u3::(.pointer (some ⟨D4,0,none⟩))::(.int .i64 ((N3:Nat):Int))::u6::u7::u8::u9::u10::u11::u12::u13::u14::u15::u16::u17::u18::u19::u20::u21::u22::u23::u24::u25::u26::u27::u28::u29::u30::u31::u32::u33::u34::u35::u36::u37::u38::u39::u40::u41::u42::u43::u44::u45::u46::u47::u48::u49::u50::u51::u52::u53::u54::u55::u56::u57::u58::u59::u60::u61::u62::u63::u64::u65::u66::u67::u68::u69::u70::u71::u72::u73::u74::u75::u76::u77::u78::u79::u80::u81::u82::u83::u84::u85::u86::u87::u88::u89::u90::u91::u92::u93::u94::u95::u96::u97::u98::u99::u100::u101::u102::u103::u104::u105::u106::u107::u108::u109::u110::u111::u112::u113::u114::u115::u116::u117::u118::u119::u120::u121::u122::u123::u124::u125::u126::u127::u128::u129::u130::u131::u132::u133::[]),defers:=[]} w:=by
 have hpw:x.pw= -(x.fp.length:Int):=by unfold NT.pw NT.exV;rw[hex];show(0:Int)-_=_;omega
 obtain⟨Av,nv,cv,rfl⟩:=fQ hJ.own;obtain⟨⟨k0,k1,k2,k3⟩,f0,f1,f2,f3⟩:=box4 hJ.b4;obtain⟨⟨l0,l1,l2,l3⟩,g0,g1,g2,g3⟩:=box4 hJ.b2;have e1:((N3:Int)==(s.size:Int))=true:=kZ (by omega);have HX2:=ah hJ.b2;have HJ:=ah hJ;have HPw:=ah hpw;clear hJ hpw hN hs hx;generalize hQ:bodyPost Tryz.prog Tryz.f215 (Ie W x.neg x.pw x.dg)=Q;dsimp only[rcT,rcL,dF,sq2,Tryz.f215];subst hQ;go_wp2;obtain⟨z1,z2,z3⟩:=Dx HX2.out rfl;refine bodyPost_ret (dI rfl _ _ D2 _ _ _ _ rfl z1 Tryz.underlying254 rfl (by kernel_rfl)) rfl ?_;have h1:=HJ.out.lt.1;refine⟨_,?_,z3 _ _ _ HJ.out.own (by decide),z2 _ _ HJ.out.be h1⟩;rw[HPw.out]
 rfl
theorem WQ{l:List Int}(h:jT l)(h4:l.length<=4):bC l<10000:=by
 have:=Bd h;have h2:10^l.length<=10^4:=Nat.pow_le_pow_right (by omega) h4;omega
theorem SG{e d:Nat}(he:e<10000)(hd:d<=9):IntKind.i64.wrap ((e:Int)*10)=(e:Int)*10/\wrap64 ((e:Int)*10)=(e:Int)*10/\IntKind.i64.wrap ((e:Int)*10+(d:Int))=((e*10+d:Nat):Int)/\wrap64 ((e:Int)*10+(d:Int))=((e*10+d:Nat):Int):=by
 refine⟨?_,?_,?_,?_⟩
 ·rw[IntKind.wrap_i64];omega
 ·unfold wrap64;omega
 ·rw[IntKind.wrap_i64];omega
 ·unfold wrap64;omega
theorem SH(x:NT)(s:ByteArray)(hs:bytesOf s=x.bytes)(hn:s.size<900000000000)(W w:World)(D2 D4:Nat)(vd:Value)(Z:Int)(mb:Bool)(M2:Nat)(ds0:List Int)(hDr:x.bytes.drop M2=ds0)(hM:M2+ds0.length=s.size)(hds:jT ds0)(hd4:ds0.length<=4)(hpw:x.pw=(if mb=true then -(bC ds0:Int)else(bC ds0:Int))+Z)(hZ: -900000000000<Z/\Z<=0)(hJ:ng W w D2 D4 x.neg vd Z x.dg){u1 u3 u6 u8 u9 u10 u11 u12 u13 u14 u15 u16 u17 u18 u19 u20 u21 u22 u23 u24 u25 u26 u27 u28 u29 u30 u31 u32 u33 u34 u35 u36 u37 u38 u39 u40 u41 u42 u43 u44 u45 u46 u47 u48 u49 u50 u51 u52 u53 u54 u55 u56 u57 u58 u59 u60 u61 u62 u63 u64 u65 u66 u67 u68 u69 u70 u71 u72 u73 u74 u75 u76 u77 u78 u79 u80 u81 u82 u83 u84 u85 u86 u87 u88 u89 u90 u91 u92 u93 u94 u95 u96 u97 u98 u99 u100 u101 u102 u103 u104 u105 u106 u107 u108 u109 u110 u111 u112 u113 u114 u115 u116 u117 u118 u119 u120 u121 u122 u123 u124 u125 u126 u127 u128 u129 u130 u131 u132 u133:Value}:
 rcU.wp Tryz.prog (bodyPost Tryz.prog Tryz.f215 (Ie W x.neg x.pw x.dg)) {tmps:=List.toArray ((.string s)::u1::(.pointer (some ⟨D2,0,none⟩))::u3::(.pointer (some ⟨D4,0,none⟩))::(.int .i64 ((M2:Nat):Int))::u6::(.bool mb)::u8::u9::u10::u11::u12::u13::u14::u15::u16::u17::u18::u19::u20::u21::u22::u23::u24::u25::u26::u27::u28::u29::u30::u31::u32::u33::u34::u35::u36::u37::u38::u39::u40::u41::u42::u43::u44::u45::u46::u47::u48::u49::u50::u51::u52::u53::u54::u55::u56::u57::u58::u59::u60::u61::u62::u63::u64::u65::u66::u67::u68::u69::u70::u71::u72::u73::u74::u75::u76::u77::u78::u79::u80::u81::u82::u83::u84::u85::u86::u87::u88::u89::u90::u91::u92::u93::u94::u95::u96::u97::u98::u99::u100::u101::u102::u103::u104::u105::u106::u107::u108::u109::u110::u111::u112::u113::u114::u115::u116::u117::u118::u119::u120::u121::u122::u123::u124::u125::u126::u127::u128::u129::u130::u131::u132::u133::[]),defers:=[]} w:=by
 have HS:=ah hs;have EF:=ah hn;have zo:=ah hds;have HD4:=ah hd4;have HJ:=ah hJ;have sK:=ah hDr;have HMm:=ah hM;have HPw:=ah hpw;have HZ:=ah hZ;have hlen:x.bytes.length=s.size:=by rw[<-hs,bytesOf_length]
 have HLen:=ah hlen;obtain⟨Av,nv,cv,rfl⟩:=fQ hJ.own;clear hs hn hDr hM hds hd4 hpw hZ hJ hlen;generalize hQ:bodyPost Tryz.prog Tryz.f215 (Ie W x.neg x.pw x.dg)=Q;dsimp only[rcU,rcT,rcL,dF,sq2,Tryz.f215];subst hQ;go_wp2
 go_loopg [5,8] ds0.length (fun g v5 v8 w'=>w=w'/\∃(k e:Nat)(p ds:List Int),v5= .int .i64 k/\v8= .int .i64 e/\aC (g=ds.length/\p++ds=ds0/\e=bC p/\x.bytes.drop k=ds/\k+ds.length=s.size))
 case atStart=>exact⟨rfl,M2,0,[],ds0,rfl,rfl,⟨rfl,rfl,rfl,sK.out,HMm.out⟩⟩
 case round=>
  obtain⟨rfl,k,e,p,ds,rfl,rfl,HH⟩:=hrel;have hp:jT p:=fun y hy=>zo.out y (by rw[<-HH.out.2.1];exact List.mem_append_left _ hy)
  have hpl:p.length<=4:=by have:=congrArg List.length HH.out.2.1;rw[List.length_append]at this;have:=HD4.out;omega
  have he4:e<10000:=by rw[HH.out.2.2.1];exact WQ hp hpl
  have d9:decide ((e:Int)<100000)=true:=bZ (by omega);have d9':decide (e<100000)=true:=bZ (by omega);cases ds with
  |nil=>
   have hk:k=s.size:=by have:=HH.out.2.2.2.2;simpa using this
   have g1:decide ((k:Int)<(s.size:Int))=false:=bY (by omega);have g2:decide (k<s.size)=false:=bY (by omega);have hpd:p=ds0:=by have:=HH.out.2.1;rwa [List.append_nil]at this
   have hed:e=bC ds0:=by rw[HH.out.2.2.1,hpd]
   obtain⟨⟨k0,k1,k2,k3⟩,f0,f1,f2,f3⟩:=box4 HJ.out.b4;have HPe:=ah (show x.pw=(if mb=true then -(e:Int)else(e:Int))+Z by rw[hed];exact HPw.out)
   have HZe:=ah (show IntKind.i64.wrap (-(e:Int))= -(e:Int)/\IntKind.i64.wrap (Z+(e:Int))=Z+(e:Int)/\IntKind.i64.wrap (Z+ -(e:Int))=Z+ -(e:Int)/\wrap64 (-(e:Int))= -(e:Int)/\wrap64 (Z+(e:Int))=Z+(e:Int)/\wrap64 (Z+ -(e:Int))=Z+ -(e:Int)by
    have:=HZ.out;simp only[IntKind.wrap_i64];unfold wrap64;omega)
   clear hk hpd hed hp hpl he4 d9 d9' HH;cases mb
   ·obtain⟨_,z2,_,_,z5,_⟩:=HZe.out
    go_upto_region 30 with fail
    obtain⟨w3,h3⟩:∃w3,w3=w.setCell ⟨D4,2,none⟩ (.int .i64 (Z+(e:Int))):=⟨_,rfl⟩
    rw[<-h3];have HJ3:=ah (show ng W w3 D2 D4 x.neg (.slice Av nv cv) (Z+(e:Int)) x.dg by rw[h3];exact HJ.out.pw _);clear h3 k0 k1 k2 k3 f0 f1 f2 f3 z2 z5;obtain⟨⟨k0,k1,k2,k3⟩,_⟩:=box4 HJ3.out.b4;obtain⟨⟨l0,l1,l2,l3⟩,y0,y1,y2,y3⟩:=box4 HJ3.out.b2;have HX2:=ah HJ3.out.b2;go_wp2;obtain⟨z1,z2,z3⟩:=Dx HX2.out rfl;refine bodyPost_ret (dI rfl _ _ D2 _ _ _ _ rfl z1 Tryz.underlying254 rfl (by kernel_rfl)) rfl ?_;have h1:=HJ3.out.lt.1;refine⟨_,?_,z3 _ _ _ HJ3.out.own (by decide),z2 _ _ HJ3.out.be h1⟩;rw[HPe.out,if_neg (by simp),Int.add_comm]
    rfl
   ·obtain⟨z1,_,z4',z4,_,z6⟩:=HZe.out
    go_upto_region 30 with fail
    obtain⟨w3,h3⟩:∃w3,w3=w.setCell ⟨D4,2,none⟩ (.int .i64 (Z+ -(e:Int))):=⟨_,rfl⟩
    rw[<-h3];have HJ3:=ah (show ng W w3 D2 D4 x.neg (.slice Av nv cv) (Z+ -(e:Int)) x.dg by rw[h3];exact HJ.out.pw _);clear h3 k0 k1 k2 k3 f0 f1 f2 f3 z1 z4 z4' z6;obtain⟨⟨k0,k1,k2,k3⟩,_⟩:=box4 HJ3.out.b4;obtain⟨⟨l0,l1,l2,l3⟩,y0,y1,y2,y3⟩:=box4 HJ3.out.b2;have HX2:=ah HJ3.out.b2;go_wp2;obtain⟨z1,z2,z3⟩:=Dx HX2.out rfl;refine bodyPost_ret (dI rfl _ _ D2 _ _ _ _ rfl z1 Tryz.underlying254 rfl (by kernel_rfl)) rfl ?_;have h1:=HJ3.out.lt.1;refine⟨_,?_,z3 _ _ _ HJ3.out.own (by decide),z2 _ _ HJ3.out.be h1⟩;rw[HPe.out];simp only[if_true];rw[Int.add_comm]
    rfl
  |cons d ds=>
   obtain⟨hc,hdr,hlt⟩:=gu HH.out.2.2.2.1;rw[HLen.out]at hlt;have x0:=SE HS.out hc;obtain⟨g1,g2,g3,g4⟩:=iQ hlt;have hd:=zo.out d (by rw[<-HH.out.2.1];simp);obtain⟨d',hd'⟩:∃d':Nat,(d':Int)=d-48:=⟨(d-48).toNat,by omega⟩
   have h8:IntKind.u8.wrap (d-48)=(d':Int):=by rw[IntKind.wrap_u8];omega
   have h64:IntKind.i64.wrap (d':Int)=(d':Int):=by rw[IntKind.wrap_i64];omega
   obtain⟨m1,m2,m3,m4⟩:=SG (e:=e) (d:=d') he4 (by omega);obtain⟨e',he'⟩:∃e',e'=e*10+d':=⟨_,rfl⟩
   rw[<-he']at m3 m4
   have HN:=ah (show ds.length=ds.length/\(p++[d])++ds=ds0/\e'=bC (p++[d])/\x.bytes.drop (k+1)=ds/\(k+1)+ds.length=s.size from
    ⟨rfl,by rw[List.append_assoc];exact HH.out.2.1,by rw[iK,he',HH.out.2.2.1];omega,hdr,by have:=HH.out.2.2.2.2;rw[List.length_cons]at this;omega⟩)
   have JL:=ah (show gk=ds.length+1 from HH.out.1);have hk1:k<1000000000000:=by have:=EF.out;omega
   clear hc hdr hlt hd hd' he' hp hpl he4;obtain⟨e1,e2⟩:=kD hk1;go_wp2
   go_roundg ds.length
   case measure=>have:=JL.out;omega
   case rel=>exact⟨rfl,k+1,e',p++[d],ds,rfl,rfl,⟨rfl,HN.out.2⟩⟩
theorem afm(x:NT)(hx:x.ok)(s:ByteArray)(hs:bytesOf s=x.bytes)(hn:s.size<900000000000)(W w:World)(D2 D4 N3:Nat)(vd:Value)(E:Int)(sg ds0:List Int)(hex:x.ex=some (E,sg,ds0))(hd3:x.bytes.drop N3=x.iV)(hJ:ng W w D2 D4 x.neg vd (-(x.fp.length:Int)) x.dg){u1 u3 u6 u7 u8 u9 u10 u11 u12 u13 u14 u15 u16 u17 u18 u19 u20 u21 u22 u23 u24 u25 u26 u27 u28 u29 u30 u31 u32 u33 u34 u35 u36 u37 u38 u39 u40 u41 u42 u43 u44 u45 u46 u47 u48 u49 u50 u51 u52 u53 u54 u55 u56 u57 u58 u59 u60 u61 u62 u63 u64 u65 u66 u67 u68 u69 u70 u71 u72 u73 u74 u75 u76 u77 u78 u79 u80 u81 u82 u83 u84 u85 u86 u87 u88 u89 u90 u91 u92 u93 u94 u95 u96 u97 u98 u99 u100 u101 u102 u103 u104 u105 u106 u107 u108 u109 u110 u111 u112 u113 u114 u115 u116 u117 u118 u119 u120 u121 u122 u123 u124 u125 u126 u127 u128 u129 u130 u131 u132 u133:Value}:
 rcT.wp Tryz.prog (bodyPost Tryz.prog Tryz.f215 (Ie W x.neg x.pw x.dg)) {tmps:=List.toArray ((.string s)::u1::(.pointer (some ⟨D2,0,none⟩))::u3::(.pointer (some ⟨D4,0,none⟩))::(.int .i64 ((N3:Nat):Int))::u6::u7::u8::u9::u10::u11::u12::u13::u14::u15::u16::u17::u18::u19::u20::u21::u22::u23::u24::u25::u26::u27::u28::u29::u30::u31::u32::u33::u34::u35::u36::u37::u38::u39::u40::u41::u42::u43::u44::u45::u46::u47::u48::u49::u50::u51::u52::u53::u54::u55::u56::u57::u58::u59::u60::u61::u62::u63::u64::u65::u66::u67::u68::u69::u70::u71::u72::u73::u74::u75::u76::u77::u78::u79::u80::u81::u82::u83::u84::u85::u86::u87::u88::u89::u90::u91::u92::u93::u94::u95::u96::u97::u98::u99::u100::u101::u102::u103::u104::u105::u106::u107::u108::u109::u110::u111::u112::u113::u114::u115::u116::u117::u118::u119::u120::u121::u122::u123::u124::u125::u126::u127::u128::u129::u130::u131::u132::u133::[]),defers:=[]} w:=by
 obtain⟨hE,hsg,hds,hdg,hd4,hop⟩:=hx.TF E sg ds0 hex;have hlen:x.bytes.length=s.size:=by rw[<-hs,bytesOf_length]
 have hL:x.iV=E::(sg++ds0):=by unfold NT.iV;rw[hex]
 rw[hL]at hd3;obtain⟨hc,hdr,hlt⟩:=gu hd3;rw[hlen]at hlt;have e0:((N3:Int)==(s.size:Int))=false:=eqF (by omega);obtain⟨M,hM⟩:∃M,M=N3+1:=⟨_,rfl⟩
 obtain⟨e1,e2⟩:=Dw hM (by omega);obtain⟨h1,t1,hh⟩:∃h t,sg++ds0=h::t:=List.exists_cons_of_ne_nil (by intro e;have h:=congrArg List.length e;rw[List.length_append,List.length_nil]at h;have:=List.length_pos_iff.2 hds;omega)
 rw[<-hM]at hdr;obtain⟨hc1,_,hlt1⟩:=gu (show x.bytes.drop M=h1::t1 by rw[hdr,hh]);rw[hlen]at hlt1;have x1:=SE hs hc1;obtain⟨l1,l2,l3,l4⟩:=iQ hlt1
 have hnn:M+sg.length+ds0.length=s.size:=by
  have:=congrArg List.length hdr;rw[List.length_drop,List.length_append,hlen]at this;omega
 have hh1:(sg=[]/\(h1==45)=false/\(h1==43)=false)∨(sg=[45]/\(h1==45)=true)∨(sg=[43]/\(h1==45)=false/\(h1==43)=true):=by
  rcases hsg with rfl|rfl|rfl
  ·left
   obtain⟨d,ds',hd⟩:=List.exists_cons_of_ne_nil hds;rw[hd]at hh;injection hh with hh _
   have:=hdg d (by rw[hd];exact List.mem_cons_self);exact⟨rfl,eqF (by omega),eqF (by omega)⟩
  ·right;right
   injection hh with hh _
   subst hh;exact⟨rfl,rfl,rfl⟩
  ·right;left
   injection hh with hh _
   subst hh;exact⟨rfl,rfl⟩
 obtain⟨M2,hM2⟩:∃M2,M2=M+sg.length:=⟨_,rfl⟩
 have HDr1:=ah (show x.bytes.drop M2=ds0 by rw[hM2,<-List.drop_drop,hdr,List.drop_left]);have hnm:M2+ds0.length=s.size:=by rw[hM2];exact hnn
 have sS:=ah hnm;have HLen:=ah hlen;have HNe:=ah hds;have HD4:=ah hd4;have zo:=ah hdg;have EF:=ah hn;have HS:=ah hs;have HJ:=ah hJ;obtain⟨Av,nv,cv,rfl⟩:=fQ hJ.own
 obtain⟨c9,hc9,hop2⟩:∃c9,w.cell? (Av.getD ⟨0,0,none⟩)=some (.int .u8 c9)/\(c9=48->sg≠[45]->ds0.length<=1)/\0<nv/\Av=some (Av.getD ⟨0,0,none⟩):=by
  obtain⟨A',c',e,_,hC⟩:=Kd.jo hJ.own;injection e with q1 q2 q3
  subst q1;cases hi:x.ip with
  |nil=>exact absurd hi hx.ip1
  |cons d l=>
   have h0:x.dg[0]? =some d:=by unfold NT.dg;rw[hi];rfl
   have hp:0<x.dg.length:=by unfold NT.dg;rw[hi];simp
   obtain⟨ad,e2,hcc⟩:=iD hC h0;subst e2;rw[show ad.add 0=ad by simp[Addr.add]]at hcc;exact⟨d,hcc,fun h=>hop (by rw[hi,h];rfl),by omega,rfl⟩
 obtain⟨hop3,hnv,hAv⟩:=hop2;obtain⟨av,hav⟩:∃av,av=Av.getD ⟨0,0,none⟩:=⟨_,rfl⟩
 rw[<-hav]at hc9 hAv;clear hav;subst hAv;have HPw:=ah (show x.pw=(if sg=[45]then -(bC ds0:Int)else(bC ds0:Int))-x.fp.length by unfold NT.pw NT.exV;rw[hex])
 have EJ:=ah (show x.fp.length<900000000000 by
  have:x.fp.length<=x.bytes.length:=by
   unfold NT.bytes NT.kJ
   split
   ·rename_i h;rw[h];simp
   ·simp only[List.length_append,List.length_cons];omega
  omega)
 have e5:IntKind.i64.wrap ((s.size:Int)-(M2:Int))=(ds0.length:Int):=by rw[IntKind.wrap_i64];omega
 have e6:wrap64 ((s.size:Int)-(M2:Int))=(ds0.length:Int):=by unfold wrap64;omega
 have e7:decide ((4:Int)<(ds0.length:Int))=false:=bY (by omega);have i9:(0:Int)<(nv:Int):=by omega
 have hcz:(c9==48)=false∨((c9==48)=true/\(sg≠[45]->decide ((1:Int)<(ds0.length:Int))=false)):=by
  by_cases h:c9=48
  ·exact .inr ⟨kZ h,fun h2=>bY (by have:=hop3 h h2;omega)⟩
  ·exact .inl (eqF h)
 obtain⟨⟨k0,k1,k2,k3⟩,f0,f1,f2,f3⟩:=box4 hJ.b4;have HEx:=ah (show x.pw+x.fp.length=(if sg=[45]then -(bC ds0:Int)else(bC ds0:Int))by have:=HPw.out;omega);obtain⟨Z,hZ⟩:∃Z:Int,Z= -(x.fp.length:Int):=⟨_,rfl⟩
 have HZ:=ah hZ;rw[<-hZ]at k2 HJ;clear hE hsg hds hdg hd4 hop hlen hL hd3 hc hdr hlt hM hh hc1 hlt1 hnn hn hs hJ hx hex hnm hop3 hnv hZ;generalize hQ:bodyPost Tryz.prog Tryz.f215 (Ie W x.neg x.pw x.dg)=Q;dsimp only[rcT,rcL,dF,sq2,Tryz.f215];subst hQ;rcases hh1 with⟨rfl,q2,q3⟩|⟨rfl,q2⟩|⟨rfl,q2,q3⟩
 ·obtain rfl:M2=M:=hM2
  rcases hcz with q4|⟨q4,q5⟩
  ·skip
   go_upto_region 22 with fail
   go_cut [] (fun wx=>aC (ng W wx D2 D4 x.neg (.slice (some av) nv cv) Z x.dg))
   case first=>
    go_wp2
    go_meet
    exact⟨HJ.out.open_⟩
   case rest=>
    go_step
    exact SH x s HS.out EF.out W _ D2 D4 _ Z false M2 ds0 HDr1.out sS.out zo.out HD4.out (by have:=HEx.out;have:=HZ.out;simp at*;omega) (by have:=HZ.out;have:=EJ.out;omega) hcut.out
  ·have q6:=q5 (by simp)
   clear q5
   go_upto_region 22 with fail
   go_cut [] (fun wx=>aC (ng W wx D2 D4 x.neg (.slice (some av) nv cv) Z x.dg))
   case first=>
    go_wp2
    go_meet
    exact⟨HJ.out.open_⟩
   case rest=>
    go_step
    exact SH x s HS.out EF.out W _ D2 D4 _ Z false M2 ds0 HDr1.out sS.out zo.out HD4.out (by have:=HEx.out;have:=HZ.out;simp at*;omega) (by have:=HZ.out;have:=EJ.out;omega) hcut.out
 ·obtain⟨e8,e9⟩:=Dw (k:=M) (m:=M2) hM2 (by have:=sS.out;have:=EF.out;omega)
  clear hM2;rcases hcz with q4|⟨q4,q5⟩
  ·skip
   go_upto_region 22 with fail
   go_cut [] (fun wx=>aC (ng W wx D2 D4 x.neg (.slice (some av) nv cv) Z x.dg))
   case first=>
    go_wp2
    go_meet
    exact⟨HJ.out.open_⟩
   case rest=>
    go_step
    exact SH x s HS.out EF.out W _ D2 D4 _ Z true M2 ds0 HDr1.out sS.out zo.out HD4.out (by have:=HEx.out;have:=HZ.out;simp at*;omega) (by have:=HZ.out;have:=EJ.out;omega) hcut.out
  ·clear q5
   go_upto_region 22 with fail
   go_cut [] (fun wx=>aC (ng W wx D2 D4 x.neg (.slice (some av) nv cv) Z x.dg))
   case first=>
    go_wp2
    go_meet
    exact⟨HJ.out.open_⟩
   case rest=>
    go_step
    exact SH x s HS.out EF.out W _ D2 D4 _ Z true M2 ds0 HDr1.out sS.out zo.out HD4.out (by have:=HEx.out;have:=HZ.out;simp at*;omega) (by have:=HZ.out;have:=EJ.out;omega) hcut.out
 ·obtain⟨e8,e9⟩:=Dw (k:=M) (m:=M2) hM2 (by have:=sS.out;have:=EF.out;omega)
  clear hM2;rcases hcz with q4|⟨q4,q5⟩
  ·skip
   go_upto_region 22 with fail
   go_cut [] (fun wx=>aC (ng W wx D2 D4 x.neg (.slice (some av) nv cv) Z x.dg))
   case first=>
    go_wp2
    go_meet
    exact⟨HJ.out.open_⟩
   case rest=>
    go_step
    exact SH x s HS.out EF.out W _ D2 D4 _ Z false M2 ds0 HDr1.out sS.out zo.out HD4.out (by have:=HEx.out;have:=HZ.out;simp at*;omega) (by have:=HZ.out;have:=EJ.out;omega) hcut.out
  ·have q6:=q5 (by simp)
   clear q5
   go_upto_region 22 with fail
   go_cut [] (fun wx=>aC (ng W wx D2 D4 x.neg (.slice (some av) nv cv) Z x.dg))
   case first=>
    go_wp2
    go_meet
    exact⟨HJ.out.open_⟩
   case rest=>
    go_step
    exact SH x s HS.out EF.out W _ D2 D4 _ Z false M2 ds0 HDr1.out sS.out zo.out HD4.out (by have:=HEx.out;have:=HZ.out;simp at*;omega) (by have:=HZ.out;have:=EJ.out;omega) hcut.out
theorem ng.app{W w w1:World}{D2 D4:Nat}{neg:Bool}{vd v1:Value}{pw:Int}{d:List Int}{c:Int}(h:ng W w D2 D4 neg vd pw d)(ho:OwnB w1 W.heap.size v1 (d++[c]))(hg:w.grownBy w1 vd.ownBlock):ng W (w1.setCell ⟨D4,1,none⟩ v1) D2 D4 neg v1 pw (d++[c]):=by
 have k2:=(hg.block _ (bJ h.b2) (Kd.xP h.own h.b2 (by decide))).trans h.b2;have k4:=(hg.block _ (bJ h.b4) (Kd.xP h.own h.b4 (by decide))).trans h.b4;exact⟨bI (p:=⟨D4,1,none⟩) k2 (show D2≠D4 by have:=h.lt;omega) _,(aW k4 1 _).trans rfl,Kd.jY ho k4 (WO (by decide)) 1 _,aV (h.be.grown hg h.be.size (Kd.lC h.own)) (by have:=h.lt;omega),h.lt⟩
theorem Qe(x:NT):x.ip.length+x.fp.length<=x.bytes.length:=by
 unfold NT.bytes NT.kJ
 split
 ·rename_i h;rw[h];simp only[List.length_append,List.length_nil];omega
 ·simp only[List.length_append,List.length_cons];omega
theorem WR{pw:Int}(h1: -900000000000<=pw)(h2:pw<=0):IntKind.i64.wrap (pw-1)=pw-1/\wrap64 (pw-1)=pw-1:=⟨by rw[IntKind.wrap_i64];omega,by unfold wrap64;omega⟩
def Zu(x:NT)(k:Nat)(pb:Bool)(pw:Int)(d:List Int):Prop:=
 (pb=false/\pw=0/\∃ds,d++ds=x.ip/\x.bytes.drop k=ds++(x.kJ++x.iV))∨(pb=true/\∃ds,d++ds=x.dg/\pw= -((x.fp.length:Int)-ds.length)/\ds.length<=x.fp.length/\x.bytes.drop k=ds++x.iV)
theorem Zu.len{x:NT}{k:Nat}{pb:Bool}{pw:Int}{d:List Int}(h:Zu x k pb pw d):d.length<=x.ip.length+x.fp.length:=by
 rcases h with⟨_,_,ds,h1,_⟩|⟨_,ds,h1,_⟩
 ·have:=congrArg List.length h1;rw[List.length_append]at this;omega
 ·have:=congrArg List.length h1;unfold NT.dg at this;rw[List.length_append,List.length_append]at this;omega
theorem Zu.step{x:NT}(hx:x.ok){k:Nat}{pb:Bool}{pw:Int}{d:List Int}(h:Zu x k pb pw d):
 (∃c,x.bytes[k]? =some c/\48<=c/\c<=57/\Zu x (k+1) pb (if pb=true then pw-1 else pw) (d++[c])/\ -(x.fp.length:Int)<=pw/\pw<=0)∨(x.bytes[k]? =some 46/\pb=false/\Zu x (k+1) true pw d)∨(d=x.dg/\pw= -(x.fp.length:Int)/\x.bytes.drop k=x.iV):=by
 rcases h with⟨rfl,rfl,ds,h1,h2⟩|⟨rfl,ds,h1,h2,h3,h4⟩
 ·cases ds with
  |cons c ds=>
   obtain⟨hc,hdr,_⟩:=gu h2;have:=hx.QY c (by rw[<-h1];simp);exact .inl ⟨c,hc,this.1,this.2,.inl ⟨rfl,rfl,ds,by rw[List.append_assoc];exact h1,hdr⟩,by omega,by omega⟩
  |nil=>
   rw[List.append_nil]at h1
   by_cases hf:x.fp=[]
   ·right;right
    refine⟨by unfold NT.dg;rw[hf,List.append_nil];exact h1,by rw[hf];rfl,?_⟩;rw[h2];unfold NT.kJ;rw[if_pos hf]
    rfl
   ·right;left
    have e:x.kJ=46::x.fp:=by unfold NT.kJ;rw[if_neg hf]
    rw[e]at h2;obtain⟨hc,hdr,_⟩:=gu (show x.bytes.drop k=46::(x.fp++x.iV)from h2);exact⟨hc,rfl,.inr ⟨rfl,x.fp,by rw[h1];rfl,by omega,Nat.le_refl _,hdr⟩⟩
 ·cases ds with
  |cons c ds=>
   obtain⟨hc,hdr,_⟩:=gu h4
   have hcd:48<=c/\c<=57:=by
    have hm:c∈x.dg:=by rw[<-h1];simp
    unfold NT.dg at hm;rcases List.mem_append.1 hm with hm|hm
    ·exact hx.QY c hm
    ·exact hx.fpD c hm
   rw[List.length_cons]at h2 h3;exact .inl ⟨c,hc,hcd.1,hcd.2,.inr ⟨rfl,ds,by rw[List.append_assoc];exact h1,by rw[if_pos rfl];omega,by omega,hdr⟩,by omega,by omega⟩
  |nil=>
   rw[List.append_nil]at h1;exact .inr (.inr ⟨h1,by rw[h2];simp,h4⟩)
theorem afn(x:NT)(hx:x.ok)(s:ByteArray)(hs:bytesOf s=x.bytes)(hn:s.size<900000000000)(W w:World)(D2 D4 N1:Nat)(hN1:N1<=s.size)(hR:Zu x N1 false 0 [])(hJ:ng W w D2 D4 x.neg (.slice none 0 0) 0 []){u1 u3 u7 u8 u9 u10 u11 u12 u13 u14 u15 u16 u17 u18 u19 u20 u21 u22 u23 u24 u25 u26 u27 u28 u29 u30 u31 u32 u33 u34 u35 u36 u37 u38 u39 u40 u41 u42 u43 u44 u45 u46 u47 u48 u49 u50 u51 u52 u53 u54 u55 u56 u57 u58 u59 u60 u61 u62 u63 u64 u65 u66 u67 u68 u69 u70 u71 u72 u73 u74 u75 u76 u77 u78 u79 u80 u81 u82 u83 u84 u85 u86 u87 u88 u89 u90 u91 u92 u93 u94 u95 u96 u97 u98 u99 u100 u101 u102 u103 u104 u105 u106 u107 u108 u109 u110 u111 u112 u113 u114 u115 u116 u117 u118 u119 u120 u121 u122 u123 u124 u125 u126 u127 u128 u129 u130 u131 u132 u133:Value}:
 rcL.wp Tryz.prog (bodyPost Tryz.prog Tryz.f215 (Ie W x.neg x.pw x.dg)) {tmps:=List.toArray ((.string s)::u1::(.pointer (some ⟨D2,0,none⟩))::u3::(.pointer (some ⟨D4,0,none⟩))::(.int .i64 ((N1:Nat):Int))::(.bool false)::u7::u8::u9::u10::u11::u12::u13::u14::u15::u16::u17::u18::u19::u20::u21::u22::u23::u24::u25::u26::u27::u28::u29::u30::u31::u32::u33::u34::u35::u36::u37::u38::u39::u40::u41::u42::u43::u44::u45::u46::u47::u48::u49::u50::u51::u52::u53::u54::u55::u56::u57::u58::u59::u60::u61::u62::u63::u64::u65::u66::u67::u68::u69::u70::u71::u72::u73::u74::u75::u76::u77::u78::u79::u80::u81::u82::u83::u84::u85::u86::u87::u88::u89::u90::u91::u92::u93::u94::u95::u96::u97::u98::u99::u100::u101::u102::u103::u104::u105::u106::u107::u108::u109::u110::u111::u112::u113::u114::u115::u116::u117::u118::u119::u120::u121::u122::u123::u124::u125::u126::u127::u128::u129::u130::u131::u132::u133::[]),defers:=[]} w:=by
 have hlen:x.bytes.length=s.size:=by rw[<-hs,bytesOf_length]
 have HX:=ah hx;have HS:=ah hs;have EF:=ah hn;have HLen:=ah hlen;have HR0:=ah hR;have HN1:=ah hN1;have HJ0:=ah hJ;clear hx hs hn hlen hR hJ hN1;generalize hQ:bodyPost Tryz.prog Tryz.f215 (Ie W x.neg x.pw x.dg)=Q;dsimp only[rcL,dF,sq2,Tryz.f215];subst hQ
 go_upto_block 0 with fail
 go_cut [5,6] (fun s5 s6 wx=>∃(k:Nat)(vd:Value),s5= .int .i64 k/\aC (k<=s.size/\x.bytes.drop k=x.iV/\ng W wx D2 D4 x.neg vd (-(x.fp.length:Int)) x.dg))
 case first=>
  go_wp2
  go_loopg [5,6] s.size (fun g v5 v6 w'=>∃(k:Nat)(pb:Bool)(d:List Int)(vd:Value)(pw:Int),v5= .int .i64 k/\v6= .bool pb/\aC (Zu x k pb pw d)/\aC (ng W w' D2 D4 x.neg vd pw d)/\aC (k+g=N1+s.size)/\aC (N1<=k/\k<=s.size))
  case atStart=>exact⟨N1,false,[],_,0,rfl,rfl,HR0,HJ0,⟨rfl⟩,⟨Nat.le_refl _,HN1.out⟩⟩
  case round=>
   obtain⟨k,pb,d,vd,pw,rfl,rfl,HR,HJ,HG,HK⟩:=hrel;rcases HR.out.step HX.out with⟨c,hc,hc1,hc2,hr,hp1,hp2⟩|⟨hc,rfl,hr⟩|⟨hd,hp,hdr⟩
   ·have hlt:k<s.size:=by rw[<-HLen.out];exact(List.getElem?_eq_some_iff.1 hc).1
    have x0:=SE HS.out hc;obtain⟨g1,g2,g3,g4⟩:=iQ hlt;have d1:(c !=101)=true:=Ci (by omega);have d2:(c !=69)=true:=Ci (by omega);have d3:(c==46)=false:=eqF (by omega);obtain⟨e1,e2⟩:=kD (k:=k) (by have:=EF.out;omega);have HR2:=ah hr;have hdl:d.length<=1000000000000:=by have h1:=HR.out.len;have h2:=Qe x;have:=HLen.out;have:=EF.out;omega
    have HDl:=ah (show d.length+1<=140737488355328 by omega);obtain⟨e3,e4⟩:=WR (show -900000000000<=pw by have h2:=Qe x;have:=HLen.out;have:=EF.out;omega) hp2;obtain⟨⟨_,k1,_,_⟩,_,f1,_,_⟩:=box4 HJ.out.b4;have hal:=fun(o:Obj)=>(box4 (bn HJ.out.b4 o)).1.2.1
    have wH:=ah (show W.heap.size<=wr.heap.size from HJ.out.be.size);have HO:=ah HJ.out.own;obtain⟨Ad,nd,cd,rfl⟩:=fQ HO.out;have Eh:=ah (show gk≠0 by have:=HG.out;have:=HK.out;omega);have Kq:=ah (show N1<=k+1/\k+1<=s.size by have:=HK.out;omega);clear hc hlt hc1 hc2 hr hp1 hp2 hdl
    go_upto_region 13 with fail
    go_region_law (first|(refine Ej (W:=wr) (base:=W.heap.size) (by kernel_rfl) (.tmp 47) (.tmp 51) rfl (.slice Ad nd cd) d c (by kernel_rfl) (by kernel_rfl) HO.out wH.out HDl.out ?_;intro v5 w5 ho5 hg5;have HA5:=ah (HJ.out.app ho5 hg5);have hb5:=(hg5.block _ (bJ HJ.out.b4) (Kd.xP HJ.out.own HJ.out.b4 (by decide))).trans HJ.out.b4;have u0:=(box4 hb5).1.2.1;have u1:=aN hb5 1;obtain⟨A5,n5,c5,rfl⟩:=fQ ho5;clear ho5 hg5 hb5))
    all_goals
     cases pb
     ·go_wp2
      go_roundg (gk-1)
      case measure=>have:=Eh.out;omega
      case rel=>exact⟨k+1,false,d++[c],_,pw,rfl,rfl,HR2,HA5,⟨by have:=HG.out;have:=Eh.out;omega⟩,Kq⟩
     ·obtain⟨w6,h6⟩:∃w6,w6=w5.setCell ⟨D4,1,none⟩ (.slice A5 n5 c5):=⟨_,rfl⟩
      have HA6:=ah (show ng W w6 D2 D4 x.neg (.slice A5 n5 c5) pw (d++[c])by rw[h6];exact HA5.out);obtain⟨⟨_,_,k2,_⟩,_,_,f2,_⟩:=box4 HA6.out.b4
      go_upto_region 15 with fail
      rw[<-h6];clear h6 u0 u1 k1 f1 hal;go_wp2
      go_roundg (gk-1)
      case measure=>have:=Eh.out;omega
      case rel=>exact⟨k+1,true,d++[c],_,pw-1,rfl,rfl,HR2,⟨HA6.out.pw _⟩,⟨by have:=HG.out;have:=Eh.out;omega⟩,Kq⟩
   ·have hlt:k<s.size:=by rw[<-HLen.out];exact(List.getElem?_eq_some_iff.1 hc).1
    have x0:=SE HS.out hc;obtain⟨g1,g2,g3,g4⟩:=iQ hlt;obtain⟨e1,e2⟩:=kD (k:=k) (by have:=EF.out;omega);have HR2:=ah hr;have Eh:=ah (show gk≠0 by have:=HG.out;have:=HK.out;omega);have Kq:=ah (show N1<=k+1/\k+1<=s.size by have:=HK.out;omega);clear hc hlt hr;go_wp2
    go_roundg (gk-1)
    case measure=>have:=Eh.out;omega
    case rel=>exact⟨k+1,true,d,vd,pw,rfl,rfl,HR2,HJ,⟨by have:=HG.out;have:=Eh.out;omega⟩,Kq⟩
   ·have HE:=ah (show k<=s.size/\x.bytes.drop k=x.iV/\ng W wr D2 D4 x.neg vd (-(x.fp.length:Int)) x.dg from⟨HK.out.2,hdr,by have:=HJ.out;rwa [hd,hp]at this⟩)
    cases hex:x.ex with
    |none=>
     have h0:x.bytes.drop k=[]:=by rw[hdr];unfold NT.iV;rw[hex]
     have h1:=congrArg List.length h0;rw[List.length_drop,HLen.out,List.length_nil]at h1;have g1:decide ((k:Int)<(s.size:Int))=false:=bY (by omega);have g2:decide (k<s.size)=false:=bY (by omega);clear h0 h1 hd hp hdr;go_wp2
     go_meet
     exact⟨k,vd,rfl,HE⟩
    |some v=>
     obtain⟨E,sg,ds0⟩:=v;obtain⟨hE,_⟩:=HX.out.TF E sg ds0 hex;obtain⟨hc,_,hlt⟩:=gu (show x.bytes.drop k=E::(sg++ds0)by rw[hdr];unfold NT.iV;rw[hex]);rw[HLen.out]at hlt;have x0:=SE HS.out hc;obtain⟨g1,g2,g3,g4⟩:=iQ hlt;clear hc hlt hd hp hdr;rcases hE with rfl|rfl
     all_goals
      go_wp2
      go_meet
      exact⟨k,vd,rfl,HE⟩
 case rest=>
  obtain⟨k,vd,rfl,HE⟩:=hcut
  go_step
  cases hex:x.ex with
  |none=>
   have h0:x.bytes.drop k=[]:=by rw[HE.out.2.1];unfold NT.iV;rw[hex]
   have h1:=congrArg List.length h0;rw[List.length_drop,HLen.out,List.length_nil]at h1;exact afk x HX.out s HS.out W _ D2 D4 k vd (by have:=HE.out.1;omega) hex HE.out.2.2
  |some v=>
   obtain⟨E,sg,ds0⟩:=v;exact afm x HX.out s HS.out EF.out W _ D2 D4 k vd E sg ds0 hex HE.out.2.1 HE.out.2.2
theorem NT.WT{x:NT}(hx:x.ok){h0:Int}{t0:List Int}(hh0:x.bytes=h0::t0):x.neg=(h0==45):=by
 cases hb:x.neg
 ·have hd:48<=h0:=by
   cases hi:x.ip with
   |nil=>exact absurd hi hx.ip1
   |cons d l=>
    have e1:x.bytes=d::(l++(x.kJ++x.iV)):=by unfold NT.bytes NT.wJ;rw[hb,hi];rfl
    rw[e1]at hh0;injection hh0 with e2 _
    have:=hx.QY d (by rw[hi];exact List.mem_cons_self);omega
  exact(eqF (by omega)).symm
 ·have e1:x.bytes=45::(x.ip++(x.kJ++x.iV)):=by unfold NT.bytes NT.wJ;rw[hb];rfl
  rw[e1]at hh0;injection hh0 with e2 _
  exact(kZ e2.symm).symm
theorem NT.rem0(x:NT)(hx:x.ok):Zu x x.wJ.length false 0 []:=
 .inl ⟨rfl,rfl,x.ip,rfl,by unfold NT.bytes;exact List.drop_left⟩
theorem rD(x:NT)(hx:x.ok)(s:ByteArray)(hs:bytesOf s=x.bytes)(hn:s.size<900000000000)(w:World):
 Calls Tryz.prog 215 #[.string s] w (Ie w x.neg x.pw x.dg):=by
 have hlen:x.bytes.length=s.size:=by rw[<-hs,bytesOf_length]
 obtain⟨h0,t0,hh0⟩:∃h t,x.bytes=h::t:=by obtain⟨c,r,e,_⟩:=x.qw hx;exact⟨c,r,e⟩
 have hneg:=x.WT hx hh0;have hpos:0<s.size:=by rw[<-hlen,hh0];exact Nat.succ_pos _
 have x0:=SE (k:=0) (c:=h0) hs (by rw[hh0];rfl)
 have hemp:s.toList.isEmpty=false:=by
  rw[<-decide_eq_emptyBytes];exact bY (fun h=>by rw[h]at hpos;cases hpos)
 obtain⟨W1,hW1⟩:∃W1,W1=w.alloc (.cells #[.bool false,.slice none 0 0,.int .i64 0,.bool false] 254):=⟨_,rfl⟩
 have hb1:Below w.heap.size w W1:=by rw[hW1];exact ak (bg _ _) _
 have y1:W1.heap[w.heap.size]? =some (.cells #[.bool false,.slice none 0 0,.int .i64 0,.bool false] 254 (0,0)):=by rw[hW1];exact aP w _
 have hcv:=mW s W1;have hb2:=je (bg W1.heap.size W1) (Nat.le_refl _) 5 s;have hrd:=qg W1 s (by omega);rw[hs]at hrd;obtain⟨W2,hW2⟩:∃W2,W2=Lib.bytesWorld W1 5 s:=⟨_,rfl⟩
 rw[<-hW2]at hcv hb2 hrd;have HJ:=ah (Fj x hx (some ⟨W1.heap.size,0,none⟩) s.size (grownCap W1 s.size 0 5) W2 hrd hn);obtain⟨W3,hW3⟩:∃W3,W3=W2.alloc (.cells #[.bool false,.slice none 0 0,.int .i64 0,.bool false] 254):=⟨_,rfl⟩
 have hb3:Below W2.heap.size W2 W3:=by rw[hW3];exact ak (bg _ _) _
 have y3:W3.heap[W2.heap.size]? =some (.cells #[.bool false,.slice none 0 0,.int .i64 0,.bool false] 254 (0,0)):=by rw[hW3];exact aP W2 _
 have hD3:=ah (show ng w W3 w.heap.size W2.heap.size false (.slice none 0 0) 0 []from
  ⟨aI (aI y1 hb2) hb3,y3,Kd.mP _ _ _ _ _,au (au hb1 hb2) hb3,Nat.le_refl _,Nat.lt_of_lt_of_le (bJ y1) hb2.size⟩)
 have HX:=ah hx;have HS:=ah hs;have EF:=ah hn;have HR:=ah (x.rem0 hx);have HW1:=ah hW1;have HW3:=ah hW3;have HNl:=ah (show x.wJ.length<=s.size by rw[<-hlen];unfold NT.bytes;rw[List.length_append];omega);have Bg:=ah hneg;have HN1:=ah (show x.neg=true->x.wJ.length=1 from fun h=>by unfold NT.wJ;rw[h];rfl);have HN0:=ah (show x.neg=false->x.wJ.length=0 from fun h=>by unfold NT.wJ;rw[h];rfl);have i0:(0:Int)<(s.size:Int):=by omega
 clear hx hs hn hlen hh0 hneg hW1 hb1 y1 hb2 hrd hW2 hW3 hb3 y3;go_enter Tryz.func215,Tryz.ntmps215
 go_upto_region 1 with fail
 rw[<-HW1.out]
 go_upto_region 3 with(go_at_call 166;(with_reducible refine HJ.out.mono ?_);rintro e w5⟨rfl,rfl⟩)
 go_upto_region 4 with fail
 rw[<-HW3.out];obtain⟨⟨k0,_,_,_⟩,f0,_,_,_⟩:=box4 hD3.out.b4;cases hb:x.neg
 ·have hsb:(h0==45)=false:=by rw[<-Bg.out,hb]
  go_upto_region 8 with fail
  go_cut [6] (fun s6 wx=>s6= .bool false/\wx=W3)
  case first=>
   go_wp2
   go_meet
   exact⟨rfl,rfl⟩
  case rest=>
   obtain⟨rfl,rfl⟩:=hcut;have hr:=HR.out;rw[HN0.out hb]at hr
   go_step
   exact afn x HX.out s HS.out EF.out w _ _ _ 0 (Nat.zero_le _) hr (by rw[hb];exact hD3.out)
 ·have hsb:(h0==45)=true:=by rw[<-Bg.out,hb]
  go_upto_region 8 with fail
  have hJ4:=ah (show ng w (W3.setCell ⟨W2.heap.size,0,none⟩ (.bool true)) w.heap.size W2.heap.size true (.slice none 0 0) 0 []from
   ⟨bI (p:=⟨W2.heap.size,0,none⟩) hD3.out.b2 (show w.heap.size≠W2.heap.size by have:=hD3.out.lt;omega) _,(aW hD3.out.b4 0 _).trans rfl,Kd.mP _ _ _ _ _,aV hD3.out.be (by have:=hD3.out.lt;omega),hD3.out.lt⟩)
  go_cut [6] (fun s6 wx=>s6= .bool false/\wx=W3.setCell ⟨W2.heap.size,0,none⟩ (.bool true))
  case first=>
   go_wp2
   go_meet
   exact⟨rfl,rfl⟩
  case rest=>
   obtain⟨rfl,rfl⟩:=hcut;have hr:=HR.out;rw[HN1.out hb]at hr
   go_step
   exact afn x HX.out s HS.out EF.out w _ _ _ 1 (by have:=HNl.out;rw[HN1.out hb]at this;exact this) hr (by rw[hb];exact hJ4.out)
end Go.Proofs.YtapkmjfjikpnlaaGreatDoor
