/- A part of FnMsgJsonMeans. No conditions. -/
import Derived.Test.YtapkmjfjikpnlaaGreatDoorM39
set_option maxHeartbeats 16000000
set_option maxRecDepth 100000
namespace Go.Proofs.YtapkmjfjikpnlaaGreatDoor
open Go.RowKit YtapkmjfjikpnlaaGreatDoorW.aG YtapkmjfjikpnlaaGreatDoorW.aJ
set_option linter.unusedVariables false
set_option linter.unusedSimpArgs false
theorem Iq{S:fM}{n:Nat}{t:FT}{v:Val}{ts:List TK}(h:wL S n t v ts):∃x r,ts=x::r/\x.kind≠2/\x.kind≠512:=by
 have hN:∀{s:ByteArray}{ts:List TK},zW ts s->∃x r,ts=x::r/\x.kind≠2/\x.kind≠512:=by
  intro s ts h;obtain⟨x,e,hk⟩:=h.one;exact⟨x,[],e,by omega⟩
 rcases h with⟨_,h⟩|⟨_,raw,sx,rfl⟩|⟨_,raw,b,rfl⟩|⟨_,raw,x,b,rfl,_⟩|⟨_,e,_,⟨raw,b,_,rfl⟩|⟨x,sx,b,rfl,_⟩⟩|⟨_,x,h,_⟩|⟨_,x,h,_⟩|⟨_,h⟩
 ·cases n with
  |zero=>exact h.elim
  |succ n=>
   obtain⟨mt,o,c,L,_,_,h3,_,h5,_⟩:=h;exact⟨o,_,h5,by omega⟩
 ·exact⟨_,_,rfl,(by decide:(4:Int)≠2),(by decide:(4:Int)≠512)⟩
 ·exact⟨_,_,rfl,(by decide:(16:Int)≠2),(by decide:(16:Int)≠512)⟩
 ·exact⟨_,_,rfl,(by decide:(16:Int)≠2),(by decide:(16:Int)≠512)⟩
 ·exact⟨_,_,rfl,(by decide:(16:Int)≠2),(by decide:(16:Int)≠512)⟩
 ·exact⟨_,_,rfl,(by decide:(8:Int)≠2),(by decide:(8:Int)≠512)⟩
 ·exact hN h
 ·exact hN h
 ·rcases h with⟨raw,b,_,rfl⟩|⟨raw,b,_,rfl⟩|⟨raw,b,_,rfl⟩|⟨_,x,h,_⟩
  ·exact⟨_,_,rfl,(by decide:(16:Int)≠2),(by decide:(16:Int)≠512)⟩
  ·exact⟨_,_,rfl,(by decide:(16:Int)≠2),(by decide:(16:Int)≠512)⟩
  ·exact⟨_,_,rfl,(by decide:(16:Int)≠2),(by decide:(16:Int)≠512)⟩
  ·exact hN h
theorem Xw{rec:List dD->List dD->Bool}{y u:Val}(h:y≠u)(hF:y.F=0)(hu:u.F=0)(hM:y.dA=[])(hm:u.dA=[]):gq rec y u=false:=by
 cases hs:gq rec y u with
 |false=>rfl
 |true=>
  unfold gq at hs;simp only[Bool.and_eq_true,beq_iff_eq]at hs;obtain⟨⟨⟨⟨⟨h1,h2⟩,h3⟩,_⟩,h5⟩,_⟩:=hs;refine absurd ?_ h;cases y;cases u;simp only[Val.B,Val.I,Val.U,Val.F,Val.S,Val.dA]at*;rw[h1,h2,h3,hF,hu,hM,hm,toList_inj (beq_iff_eq.2 h5)]
theorem Bz{α:Type}(d:Kd α)(W:World)(base e:Nat){xs:List α}{inner:List Value}{ok:Nat->Prop}(hrep:kS (d.M W base ok) d.sz xs inner)(hfresh:ok W.heap.size)(hbase:base<=W.heap.size)(hm:xs.length<=1000000):
 d.R e (W.alloc (.cells inner.toArray e)) base ok (.slice (some ⟨W.heap.size,0,none⟩) xs.length xs.length) xs:=by
 refine⟨fun k hk=>?_,inner,?_,?_⟩
 ·have:W.heap.size=k:=by simpa [Value.ownBlock]using hk
  subst this;exact hfresh
 ·have h2:=World.ownsRow_lit (base:=base) (e:=e) (size:=d.sz) W inner.toArray xs.length hbase (by simp only[maxLen];omega) (by simpa using hrep.1)
  simpa using h2
 ·refine hrep.oH (fun p c hp=>d.fP (fun k hk=>⟨hk.1,fun he=>?_⟩) (Kd.Ph (d.fK hp) (ak (bg _ _) _)))
  have h3:k=W.heap.size:=by simpa [Value.ownBlock]using he
  have:=hk.2.2.1;omega
theorem Xx{S:fM}{F:Int->List dD->Prop}{t:FT}{v:Val}(h:qF S F t v)(hk:aT t.kind=1∨aT t.kind=2∨aT t.kind=3∨aT t.kind=5):v.F=0/\v.dA=[]:=by
 rcases hk with hk|hk|hk|hk
 ·rw[OG h hk];exact⟨rfl,rfl⟩
 ·rw[(OH h hk).1];exact⟨rfl,rfl⟩
 ·rw[(OI h hk).1];exact⟨rfl,rfl⟩
 ·rw[OJ h hk];exact⟨rfl,rfl⟩
theorem Qj{α:Type}{R:α->List Value->Prop}{sz:Nat}{x:α}{cs:List Value}(h:R x cs)(hl:cs.length=sz):kS R sz [x] cs:=(kS.none R sz).snoc h hl
theorem afu{α:Type}{R:α->List Value->Prop}{sz:Nat}{x y:α}{cs ds:List Value}(h:R x cs)(hl:cs.length=sz)(k:R y ds)(kl:ds.length=sz):kS R sz [x,y] (cs++ds):=(Qj h hl).snoc k kl
theorem ZI{nn:Nat}{wr w10 w2:World}{base b9 g:Nat}{u:Val}{X:Val}{ks cs:List Value}(hk:ks=[.bool u.B,.int .i64 u.I,.int .u64 u.U,.int .u64 u.F,.string u.S,.slice none 0 0])(hu:u.dA=[])(hM:(iU nn).M w10 b9 (fun _=>True) X cs)(hb9:g<b9)(hbase:base<=b9)(hb:Below w10.heap.size w10 wr)(h9:b9<=w10.heap.size)
 (hw:∀k,k≠g->w2.heap[k]? =(((wr.alloc (.cells ks.toArray 76)).alloc (.cells cs.toArray 76)).alloc (.cells #[.int .i64 0,.slice (some ⟨wr.heap.size,0,none⟩) 1 1,.int .i64 1,.slice (some ⟨wr.heap.size+1,0,none⟩) 1 1] 68)).heap[k]?):
 (iU (nn+1)).M w2 base (fun _=>True) (.mk false 0 0 0 ⟨#[]⟩ [.mk 0 [u],.mk 1 [X]]) [.bool false,.int .i64 0,.int .u64 0,.int .u64 0,.string ⟨#[]⟩,.slice (some ⟨wr.heap.size+2,0,none⟩) 2 2]:=by
 have hsz:=hb.size
 have hK:(iU nn).M wr base (fun k=>k≠g) u ks:=by
  rw[hk];have:=Ih (n:=nn) (w:=wr) (base:=base) (ok:=fun k=>k≠g) (v:=u) (vm:=.slice none 0 0) (by rw[hu];exact Fq _ _ _ _);exact this
 have hlk:ks.length=6:=(iU nn).lN ((iU nn).fJ hK);have hlc:cs.length=6:=(iU nn).lN ((iU nn).fJ hM);obtain⟨wa,ha⟩:∃wa,wa=wr.alloc (.cells ks.toArray 76):=⟨_,rfl⟩
 obtain⟨wb,hbb⟩:∃wb,wb=wa.alloc (.cells cs.toArray 76):=⟨_,rfl⟩
 have sa:wa.heap.size=wr.heap.size+1:=by rw[ha];simp
 have sb:wb.heap.size=wr.heap.size+2:=by rw[hbb];simp[sa]
 have R1:=Bz (iU nn) wr base 76 (Qj hK hlk) (by omega) (by omega) (by simp);rw[<-ha]at R1
 have hMa:(iU nn).M wa base (fun k=>k≠g) X cs:=by
  have h1:=Kd.Ph ((iU nn).fK hM) (au hb (show Below wr.heap.size wr wa by rw[ha];exact ak (bg _ _) _));exact(iU nn).iG hbase ((iU nn).fP (fun k hk=>by have:=hk.2.1;omega) h1)
 have R2:=Bz (iU nn) wa base 76 (Qj hMa hlc) (by omega) (by omega) (by simp);rw[<-hbb,sa]at R2;have R1b:=Kd.dY R1 (show Below wa.heap.size wa wb by rw[hbb];exact ak (bg _ _) _);have R3:=Bz (jh (nn+1)) wb base 68 (afu (Ox (f:=.mk 0 [u]) R1b) (by rw[lg];rfl) (Ox (f:=.mk 1 [X]) R2) (by rw[lg];rfl)) (by omega) (by omega) (by simp);rw[sb]at R3;have R4:=Kd.gB (Kd.uP (w1:=w2) R3 (fun k hk _=>by rw[hw k hk,<-ha,<-hbb];rfl)) (ok':=fun _=>True) (fun _ _=>trivial);exact Ih (v:=.mk false 0 0 0 ⟨#[]⟩ [.mk 0 [u],.mk 1 [X]]) R4
section
variable(w0:World)(q:Nat)(S:fM)(A0:Option Addr)(c0:Nat)(A1:Option Addr)(c1:Nat)(At:Option Addr)(cT:Nat)(L:List Tok)
structure aaO(nn n a:Nat)(t kt vt:FT)(v u1 u2:Val)(e:TK×List TK):Prop where
 typ0:0<=t.typ
 ms:∃mt,S.ms[t.typ.toNat]? =some mt/\mt.fields=[kt,vt]
 vok:sG S vt
 is:v= .mk false 0 0 0 ⟨#[]⟩ [.mk 0 [u1],.mk 1 [u2]]
 k1:qF S (qG S nn) kt u1
 k2:u1.dA=[]
 k3:aT kt.kind=1∨aT kt.kind=2∨aT kt.kind=3∨aT kt.kind=5
 v1:AO S (oZ S nn) vt u2
 v2:aT vt.kind=8->rC S nn vt.typ u2.dA
 t1:e.1.kind=32
 t2:e.1.str=dL kt.kind u1
 t3:wL S n vt u2 e.2
 at_:lI L a (e.1::e.2)
def acW(nn:Nat):Prop:=∀(t kt vt:FT)(v u1 u2:Val)(e:TK×List TK)(n a:Nat)(deep:Int)(W:World)(Ab:Option Addr)(cb:Nat)(bl:List Val),aaO S L nn n a t kt vt v u1 u2 e->(nn:Int)+1<deep->deep<=25->
 (∀W',aH W W' q none->Kd.C (iU (nn+1)) W' Ab bl.length bl)->(∀x∈bl,∃y1 y2,x.dA=[.mk 0 [y1],.mk 1 [y2]]/\y1.dA=[]/\y1.F=0/\y1≠u1)->RS w0 W q S A0 c0 A1 c1 At cT L a->
 Calls Tryz.prog 115 #[.pointer (some ⟨q,0,none⟩),mQ t,.slice Ab bl.length cb,.int .i64 deep] W (ZE w0 q S A0 c0 A1 c1 At cT L W (nn+1) (gQ (eG (nn+1)) v) (a+(e.1::e.2).length))
end
theorem Xy(w0:World)(q:Nat)(S:fM)(A0:Option Addr)(c0:Nat)(A1:Option Addr)(c1:Nat)(At:Option Addr)(cT:Nat)(L:List Tok)(hSR:qZ w0 S A0 c0 A1 c1)(nn:Nat)(DL:Xr w0 q S A0 c0 A1 c1 At cT L nn):acW w0 q S A0 c0 A1 c1 At cT L nn:=by
 intro t kt vt v u1 u2 e n a deep W Ab cb bl hI hd1 hd2 hbl hbs hR;have yM:=bJ hR.blk;obtain⟨W1,hW1⟩:∃W1,W1=W.alloc (.cells #[.string t.name,.int .i64 t.num,.int .i64 t.kind,.bool t.rep,.bool t.map,.int .i64 t.typ] 70):=⟨_,rfl⟩
 obtain⟨hR1,hk1,hz1⟩:=hR.boxed (aH.refl W q none) hW1;obtain⟨W2,hW2⟩:∃W2,W2=W1.alloc xI:=⟨_,rfl⟩
 obtain⟨hR2,hk2,hz2⟩:=hR1.boxed hk1 hW2;have hs1:W1.heap.size=W.heap.size+1:=by rw[hW1];simp
 have hs2:W2.heap.size=W.heap.size+2:=by rw[hW2];simp[hs1]
 rw[hs1]at hz2;have HQ:=ah yM;have HS2:=ah hs2;have HW12:=ah (show W2=(W.alloc (.cells #[.string t.name,.int .i64 t.num,.int .i64 t.kind,.bool t.rep,.bool t.map,.int .i64 t.typ] 70)).alloc xI by rw[hW2,hW1]);have HK2:=ah hk2;have hz12:W2.heap[W.heap.size]? =some (.cells #[.string t.name,.int .i64 t.num,.int .i64 t.kind,.bool t.rep,.bool t.map,.int .i64 t.typ] 70 (0,0)):=by rw[hW2];exact bn hz1 _
 have uN:=ah (fun(w2:World)(hk:aH W2 w2 q none)=>And.intro (hk.blk hz2 (by omega) (by simp)) (hk.blk hz12 (by omega) (by simp)));obtain⟨mt,hmt,hfs⟩:=hI.ms;obtain⟨ty,hty⟩:∃ty:Nat,t.typ=(ty:Int):=⟨t.typ.toNat,by have:=hI.typ0;omega⟩
 rw[hty,Int.toNat_natCast]at hmt;obtain⟨ad,AF,cF,hA0,_,x1,_,uK⟩:=Ag hSR.ms hmt;subst hA0;rw[hfs]at x1 uK;rw[show([kt,vt]:List FT).length=2 from rfl]at x1;obtain⟨VU,hAF,_,_,k2,_⟩:=uT uK (i:=0) rfl;obtain⟨abY,acX,m0,m1,m2,m3,m4,m5⟩:=uT uK (i:=1) rfl;subst hAF;injection acX with acX
 subst acX;simp only[Nat.zero_mul,Nat.one_mul,VP,VQ,Nat.add_assoc,Nat.reduceAdd]at k2 m0 m1 m2 m3 m4 m5;have HM:=ah (fun(Wx:World)(hb:Below w0.heap.size w0 Wx)=>And.intro (ay hb x1) (And.intro (ay hb k2) (And.intro (ay hb m0) (And.intro (ay hb m1) (And.intro (ay hb m2) (And.intro (ay hb m3) (And.intro (ay hb m4) (ay hb m5))))))));obtain⟨u,hu,hut,hat⟩:=hI.at_.head;obtain⟨x,r,hxr,hx2,_⟩:=Iq hI.t3;have hat2:=hat;rw[hxr]at hat2;obtain⟨u',hu',rF,_⟩:=hat2.head;have hk2':u'.kind=x.kind:=congrArg TK.kind rF;have oC:=ah (fun Wx(h:RS w0 Wx q S (some ad) c0 A1 c1 At cT L a)=>lJ w0 Wx q S (some ad) c0 A1 c1 At cT L a h u hu.out 32 (by rw[<-hI.t1,<-hut];rfl));have wQ:=ah (show u.str=dL kt.kind u1 by rw[<-hI.t2,<-hut];rfl);have Eb:=ah (fun Wx(h:RS w0 Wx q S (some ad) c0 A1 c1 At cT L (a+1))=>zC w0 Wx q S (some ad) c0 A1 c1 At cT L (a+1) h u' hu'.out);have dn:(u'.kind==2)=false:=eqF (by rw[hk2'];exact hx2);have HVc:=ah (fun Wx(h:RS w0 Wx q S (some ad) c0 A1 c1 At cT L (a+1))=>DL vt u2 e.2 n (a+1) (deep-1) Wx hI.vok hI.v1 hI.v2 hI.t3 hat (by omega) (by omega) h);have HI:=ah hI;have HBl:=ah hbl;have wH:=ah hbs;have HKy:=ah (fun Wx=>Tf kt u1 hI.k1 hI.k3 Wx);obtain⟨tx,htx⟩:∃tx,tx=dL kt.kind u1:=⟨_,rfl⟩
 rw[<-htx]at HKy wQ;have r0:=hR2.cells.1;obtain⟨⟨_,_,_,_,_,b5⟩,_⟩:=eu hz12;rw[hty]at b5;have y1:=(HM.out W2 hR2.be).1;have i0:(0:Int)<=(ty:Int):=by omega
 have i1:(ty:Int)<(S.ms.length:Int):=by have:=(List.getElem?_eq_some_iff.1 hmt).1;omega
 have e1:IntKind.i64.wrap (deep-1)=deep-1:=by rw[IntKind.wrap_i64];omega
 have e2:wrap64 (deep-1)=deep-1:=by unfold wrap64;omega
 have HR2:=ah hR2;clear hR yM hW1 hR1 hk1 hz1 hW2 hR2 hk2 hz2 hs1 hs2 hz12 hI hd1 hd2 hbl hbs hmt hfs uK x1 k2 m0 m1 m2 m3 m4 m5 hut hat hxr hx2 hat2 rF hk2' htx hSR DL hty;go_enter Tryz.func115,Tryz.ntmps115
 go_upto_region 1 with fail
 rw[<-HW12.out]
 go_quiet (fail)
 have hb3:=aS (bg W2.heap.size W2) nq;obtain⟨W3,h3⟩:∃W3,W3=W2.drewN nq:=⟨_,rfl⟩
 rw[<-h3]at hb3;have HT3:=ah (oC.out W3 (HR2.out.below hb3));have HK3:=ah (aH.of_below hb3 q none);clear y1 i0 i1 b5 r0;rw[<-h3];clear h3 hb3
 go_upto_region 3 with(go_at_call 54;(with_reducible refine HT3.out.mono ?_);rintro e' w4⟨rfl,hr,hk⟩;have HR4:=ah hr;have HK4:=ah (HK3.out.trans hk (.inl rfl));clear hr hk)
 obtain⟨w5,h5⟩:∃w5,w5=w4.alloc (.cells #[.int .i64 u.kind,.int .i64 u.pos,.string u.raw,.string u.str,.bool u.boo] 39):=⟨_,rfl⟩
 rw[<-h5];obtain⟨hR5,hk5,hx5⟩:=HR4.out.boxed HK4.out h5;have cs:w5.cell? ⟨w4.heap.size,3,none⟩=some (.string tx):=by rw[<-wQ.out];exact(aA hx5 3).trans rfl
 have ck:=(HM.out w5 hR5.be).2.1;have HR5:=ah (And.intro hR5 hk5);clear h5 hR5 hk5 hx5
 go_cut [12,13] (fun s12 s13 wx=>∃g,s12= .pointer (some ⟨g,0,none⟩)/\s13= .int .i64 1/\aC (Below w5.heap.size w5 wx/\w5.heap.size<=g/\wx.heap[g]? =some (.cells #[.bool u1.B,.int .i64 u1.I,.int .u64 u1.U,.int .u64 u1.F,.string u1.S,.slice none 0 0] 76 (0,0))))
 case first=>
  clear HI HBl wH HVc Eb oC wQ HM uN HK2 HR2 HQ HS2 HW12 HK3 HT3 HR4 HK4 HR5 dn e1 e2 hu hu';have cka:=fun o=>ay (ak (bg w5.heap.size w5) o) ck
  have csa:=fun o=>ay (ak (bg w5.heap.size w5) o) cs
  go_region_law (first|(go_simp;go_at_call 146;(with_reducible refine(HKy.out _).mono ?_);rintro e' w7⟨rfl,hba⟩;(first|(have hbz:=aI (pU (aP w5 xI)) hba;have HBc:=ah (au (aQ (ak (bg w5.heap.size w5) xI)) hba);have HT3:=ah hbz;obtain⟨⟨k0,k1,k2,k3,k4,k5⟩,f0,f1,f2,f3,f4,f5⟩:=eu hbz;clear hbz)|(have hbz:=aI (aP w5 xI) hba;have HBc:=ah (au (ak (bg w5.heap.size w5) xI) hba);have HT3:=ah hbz;obtain⟨⟨k0,k1,k2,k3,k4,k5⟩,f0,f1,f2,f3,f4,f5⟩:=eu hbz;clear hbz)|(have HBc:=ah (au (aQ (bg w5.heap.size w5)) hba))|(have HBc:=ah hba))))
  all_goals(try clear k0 k1 k2 k3 k4 k5 f0 f1 f2 f3 f4 f5)
  all_goals clear cka csa HKy cs ck
  all_goals
   go_wp2
   go_meet
   first
    |(have ht:=HT3.out;exact⟨_,rfl,rfl,⟨pO HBc.out (Nat.le_refl _) rfl,Nat.le_refl _,iJ ht rfl⟩⟩)
    |exact⟨_,rfl,rfl,⟨au HBc.out (ak (bg _ _) _),HBc.out.size,aP w7 _⟩⟩
 case rest=>
  obtain⟨gk,rfl,rfl,ZH⟩:=hcut;have hb7:=ZH.out.1;have HR7:=ah (And.intro (HR5.out.1.below hb7) (iq HR5.out.2 hb7));have MO:=ah (fun(w2:World)(hk:aH wc w2 q none)=>hk.blk ZH.out.2.2 (by have:=HQ.out;have:=ZH.out.2.1;have:=HR5.out.2.1;have:=HS2.out;omega) (by simp));clear hb7 cs ck
  go_step
  go_upto_region 7 with(first|(go_at_call 26;(with_reducible refine(Bq w0 _ q S (some ad) c0 A1 c1 At cT L (a+1) HR7.out.1).mono ?_);rintro e' w8⟨rfl,hr,hk⟩;have HR8:=ah (And.intro hr (HR7.out.2.trans hk (.inl rfl)));have HC8:=ah hk;have t8:=hr.cells.2.2.2.2;clear hr hk)|(go_at_call 55;(with_reducible refine(Eb.out _ HR8.out.1).mono ?_);rintro e' w9⟨rfl,hb⟩;have HR9:=ah (And.intro (HR8.out.1.below hb) (iq HR8.out.2 hb));have HC9:=ah (iq HC8.out hb);clear hb t8))
  obtain⟨_,_,m0,m1,m2,m3,m4,m5⟩:=HM.out w9 HR9.out.1.be;obtain⟨X,hX⟩:∃X,X=gQ (eG nn) u2:=⟨_,rfl⟩
  have HX:=ah hX;have HV9:=ah (HVc.out w9 HR9.out.1);rw[<-hX]at HV9;clear hX dn
  go_upto_region 8 with(go_at_call 116;(with_reducible refine HV9.out.mono ?_);rintro e' w10⟨cs,rfl,hM,hr,hk⟩;obtain⟨Av,cv,rfl,_,_⟩:=sF ((iU nn).fJ hM);have HM10:=ah hM;have HR10:=ah (And.intro hr (HR9.out.2.trans hk (.inl rfl)));have HC10:=ah (HC9.out.trans hk (.inl rfl));have H910:=ah hk.1;clear hM hr hk)
  obtain⟨w11,h11⟩:∃w11,w11=w10.alloc (.cells #[.bool X.B,.int .i64 X.I,.int .u64 X.U,.int .u64 X.F,.string X.S,.slice Av X.dA.length cv] 76):=⟨_,rfl⟩
  rw[<-h11];obtain⟨hR11,hk11,hx11⟩:=HR10.out.1.boxed HR10.out.2 h11;have HR11:=ah (And.intro hR11 hk11);have HX11:=ah hx11;have HB11:=ah (show Below w10.heap.size w10 w11 by rw[h11];exact ak (bg _ _) _);have HC11:=ah (iq HC10.out HB11.out);have Sj:=ah (Kd.ou (HBl.out W (aH.refl _ _ _)));clear h11 hR11 hk11 hx11 m0 m1 m2 m3 m4 m5;go_wp2
  go_loopg [15] bl.length (fun g v15 w'=>∃i:Nat,v15= .int .i64 i/\i+g=bl.length/\aC (Below w11.heap.size w11 w'))
  case atStart=>exact⟨0,rfl,by omega,⟨bg _ _⟩⟩
  case round=>
   obtain⟨i,rfl,hg,HB⟩:=hrel;obtain⟨⟨l0,l1,l2,l3,l4,l5⟩,_⟩:=eu (MO.out wr (iq HC11.out HB.out));obtain⟨go,rfl⟩:∃go:Nat,go=gk:=⟨_,rfl⟩
   cases go with
   |succ g=>
    obtain⟨x,hx⟩:=bF (show i<bl.length by omega);obtain⟨y1,y2,hms,hym,hyf,hyn⟩:=wH.out x (List.mem_of_getElem? hx.out);have hC:=HBl.out wr (HK2.out.trans (iq HR11.out.2 HB.out) (.inl rfl));obtain⟨aX,aE,e1',aK,d1',BK,eK,eX,P1,P2,K0,K1,K2,K3,K4,K5,hCK⟩:=Du rfl hC hx.out hms;subst eX;have hu0:=Xx HI.out.k1 HI.out.k3;have WB:=fun Wx(hb:Below wr.heap.size wr Wx)=>oW (ji nn) y1 u1 BK eK none 0 Wx (fun W2 hb2=>ru nn y1.dA u1.dA BK eK none 0 W2 (Kd.aU hCK (au hb hb2)) (by rw[hu0.2];exact Kd.IQ _ _))
    rw[Xw hyn hyf hu0.1 hym hu0.2,show u1.dA.length=0 by rw[hu0.2];rfl]at WB;have WB:=ah WB;have d0:decide ((i:Int)<(bl.length:Int))=true:=bZ (by omega);have d1:decide (i<bl.length)=true:=bZ (by omega);have i0:(0:Int)<=(i:Int):=by omega
    have i1:(i:Int)<(bl.length:Int):=by omega
    have hl:i<bl.length:=by omega
    have k2:=Hu hl Sj.out;have k1:IntKind.i64.wrap ((i:Int)+1)=(i:Int)+1:=jM hl Sj.out;have HG:=ah hg;clear hms hym hyf hyn hC hCK hu0 hg hl
    go_upto_region 11 with fail
    go_still_tail 11,(by kernel_rfl)
    change wpList _ _ _ _ _ wr.drew
    obtain⟨w12,h12⟩:∃w12,w12=wr.drew:=⟨_,rfl⟩
    rw[<-h12];have HB12:=ah (show Below wr.heap.size wr w12 by rw[h12];exact aQ (bg _ _));clear h12 P1 P2 K0 K1 K2 K3 K4 K5 l0 l1 l2 l3 l4 l5
    go_wp2_with (go_at_call 28;(with_reducible refine(WB.out _ HB12.out).mono ?_);rintro e' w13⟨rfl,hb⟩;have HB13:=ah (au HB.out (au HB12.out hb));clear hb)
    go_roundg g
    case measure=>omega
    case rel=>exact⟨i+1,by go_num,by have:=HG.out;omega,HB13⟩
   |zero=>
    obtain rfl:i=bl.length:=by omega
    have hu0:=Xx HI.out.k1 HI.out.k3
    have HIs:=ah (show gQ (eG (nn+1)) v= .mk false 0 0 0 ⟨#[]⟩ [.mk 0 [u1],.mk 1 [X]]by
     rw[pq HI.out.is,rE,HX.out]
     have hu1:gQ (eG nn) u1=u1:=by
      conv=>rhs;rw[Val.eta u1]
      unfold gQ;rw[hu0.1,hu0.2,rE,kH]
     show Val.mk false 0 0 0 ⟨#[]⟩ [.mk 0 [gQ (eG nn) u1],.mk 1 [gQ (eG nn) u2]]=_;rw[hu1])
    have d0:decide ((bl.length:Int)<(bl.length:Int))=false:=bY (by omega);have d1:decide (bl.length<bl.length)=false:=bY (by omega);have hxv:=aI HX11.out HB.out;have hal:∀o1 o2:Obj,Below wr.heap.size wr ((wr.alloc o1).alloc o2):=fun o1 o2=>ak (ak (bg _ _) _) _
    obtain⟨⟨v0,v1,v2,v3,v4,v5⟩,_⟩:=eu hxv;have a0:=fun o=>ay (ak (bg wr.heap.size wr) o) v0
    have a1:=fun o=>ay (ak (bg wr.heap.size wr) o) v1
    have a2:=fun o=>ay (ak (bg wr.heap.size wr) o) v2
    have a3:=fun o=>ay (ak (bg wr.heap.size wr) o) v3
    have a4:=fun o=>ay (ak (bg wr.heap.size wr) o) v4
    have a5:=fun o=>ay (ak (bg wr.heap.size wr) o) v5
    have hk12:=iq HR11.out.2 HB.out;have hbx:∀o1 o2 o3:Obj,(((wr.alloc o1).alloc o2).alloc o3).heap[W.heap.size+1]? =some xI:=fun o1 o2 o3=>bn (bn (bn (uN.out wr hk12).1 _) _) _
    have q0:=fun o1 o2 o3=>(eu (hbx o1 o2 o3)).1.1
    have q1:=fun o1 o2 o3=>(eu (hbx o1 o2 o3)).1.2.1
    have q2:=fun o1 o2 o3=>(eu (hbx o1 o2 o3)).1.2.2.1
    have q3:=fun o1 o2 o3=>(eu (hbx o1 o2 o3)).1.2.2.2.1
    have q4:=fun o1 o2 o3=>(eu (hbx o1 o2 o3)).1.2.2.2.2.1
    have q5:=fun o1 o2 o3=>(eu (hbx o1 o2 o3)).1.2.2.2.2.2
    have f0:=fun o1 o2 o3=>(eu (hbx o1 o2 o3)).2.1
    have f1:=fun o1 o2 o3=>(eu (hbx o1 o2 o3)).2.2.1
    have f2:=fun o1 o2 o3=>(eu (hbx o1 o2 o3)).2.2.2.1
    have f3:=fun o1 o2 o3=>(eu (hbx o1 o2 o3)).2.2.2.2.1
    have f4:=fun o1 o2 o3=>(eu (hbx o1 o2 o3)).2.2.2.2.2.1
    have f5:=fun o1 o2 o3=>(eu (hbx o1 o2 o3)).2.2.2.2.2.2
    have HBX:=ah hbx;have HK12:=ah hk12;have HUm:=ah hu0.2;clear hxv hal hk12 hbx hu0 hg;go_wp2;refine bodyPost_ret (results_cell_row rfl _ _ (W.heap.size+1) _ _ _ _ rfl (iJ (HBX.out _ _ _) rfl) Tryz.underlying76 rfl (by kernel_rfl)) rfl ?_;rw[HIs.out];have hRe:=HR11.out.1.below HB.out;rw[show a+1+e.2.length=a+(e.2.length+1)by omega]at hRe;have h9:=HR9.out.2.1;refine Ip (hRe.below (ak (ak (ak (bg _ _) _) _) _)) (HK2.out.trans (iq HK12.out (ak (ak (ak (bg _ _) _) _) _)) (.inl rfl)) HQ.out (show W.heap.size<=W.heap.size+1 from Nat.le_succ _) (fun w2 hw2=>?_) rfl;exact ZI (w10:=w10) (b9:=w9.heap.size) rfl HUm.out HM10.out (by have:=HS2.out;omega) (by have:=HS2.out;omega) (au HB11.out HB.out) H910.out hw2
end Go.Proofs.YtapkmjfjikpnlaaGreatDoor
