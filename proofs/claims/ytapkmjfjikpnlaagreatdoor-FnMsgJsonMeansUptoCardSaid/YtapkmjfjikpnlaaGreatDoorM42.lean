/- A part of FnMsgJsonMeans. No conditions. -/
import Derived.Test.YtapkmjfjikpnlaaGreatDoorM41
set_option maxHeartbeats 16000000
set_option maxRecDepth 100000
namespace Go.Proofs.YtapkmjfjikpnlaaGreatDoor
open Go.RowKit YtapkmjfjikpnlaaGreatDoorW.aG YtapkmjfjikpnlaaGreatDoorW.aJ
set_option linter.unusedVariables false
set_option linter.unusedSimpArgs false
structure EL(w0 W w:World)(q gh gs nf k:Nat)(S:fM)(A0:Option Addr)(c0:Nat)(A1:Option Addr)(c1:Nat)(At:Option Addr)(cT:Nat)(L:List Tok)(p:Nat)(m:List dD)(db dc:List Nat)(hs:List Yg)(bs:List Bool):Prop where
 rs:RS w0 w q S A0 c0 A1 c1 At cT L p
 ke:aH W w q none
 h:kSl.R 66 w W.heap.size (fun b=>b=gh) (.slice (some ⟨gh,0,none⟩) nf nf) hs
 b:Kd.bool.R 4 w W.heap.size (fun b=>b=gs) (.slice (some ⟨gs,0,none⟩) nf nf) bs
 hl:hs.length=nf
 bl:bs.length=nf
 bt:∀(i:Nat)(b:Bool),bs[i]? =some b->(b=true↔i∈db)
 ct:∀(i:Nat)(h:Yg),hs[i]? =some h->(iU k).R 76 w W.heap.size (fun b=>b≠gh/\b≠gs) (uw h) (if i∈dc then(valuesOf m i).map (gQ (eG k))else[])
 hq:q<W.heap.size
 ne:gh≠gs
 hg:W.heap.size<=gh
 sg:W.heap.size<=gs
 lt:gh<w.heap.size/\gs<w.heap.size
section
variable{w0 W w w2:World}{q gh gs nf k:Nat}{S:fM}{A0:Option Addr}{c0:Nat}{A1:Option Addr}{c1:Nat}{At:Option Addr}{cT:Nat}{L:List Tok}{p p2:Nat}{m:List dD}{db dc:List Nat}{hs:List Yg}{bs:List Bool}
theorem EL.keep(h:EL w0 W w q gh gs nf k S A0 c0 A1 c1 At cT L p m db dc hs bs)(hk:aH w w2 q none)(hr:RS w0 w2 q S A0 c0 A1 c1 At cT L p2):EL w0 W w2 q gh gs nf k S A0 c0 A1 c1 At cT L p2 m db dc hs bs:=by
 have hq:=h.hq;have h1:=h.hg;have h2:=h.sg;have h3:=hk.1;refine⟨hr,h.ke.trans hk (.inl rfl),Kd.sV h.h hk (fun b hb=>by omega),Kd.sV h.b hk (fun b hb=>by omega),h.hl,h.bl,h.bt,fun i hd hi=>?_,h.hq,h.ne,h.hg,h.sg,by have:=h.lt;omega⟩;exact Kd.gB (Kd.sV (Kd.iR (h.ct i hd hi)) hk (fun b hb=>by have:=hb.2.1;omega)) (fun b hb=>hb.1)
theorem EL.below(h:EL w0 W w q gh gs nf k S A0 c0 A1 c1 At cT L p m db dc hs bs)(hb:Below w.heap.size w w2):EL w0 W w2 q gh gs nf k S A0 c0 A1 c1 At cT L p m db dc hs bs:=h.keep (aH.of_below hb q none) (h.rs.below hb)
theorem EL.afD(h:EL w0 W w q gh gs nf k S A0 c0 A1 c1 At cT L p m db dc hs bs){i:Nat}(hi:i<nf):∃b,w.cell? ⟨gs,i,none⟩=some (.bool b)/\w.frozen? ⟨gs,i,none⟩=false/\(b=true↔i∈db):=by
 have hc:=Kd.sW (enc:=Value.bool) false h.b (i:Int) (by omega) (by omega);rw[Int.toNat_natCast]at hc;refine⟨_,hc.1,hc.2,h.bt i _ ?_⟩;unfold wG;rw[Int.toNat_natCast,List.getD_eq_getElem?_getD,List.getElem?_eq_getElem (by rw[h.bl];exact hi)]
 rfl
theorem EL.aaS(h:EL w0 W w q gh gs nf k S A0 c0 A1 c1 At cT L p m db dc hs bs){i:Nat}(hi:i<nf):∃hd:Yg,w.cell? ⟨gh,i,none⟩=some (.slice hd.1 hd.2.1 hd.2.2)/\w.frozen? ⟨gh,i,none⟩=false/\(iU k).R 76 w W.heap.size (fun b=>b≠gh/\b≠gs) (uw hd) (if i∈dc then(valuesOf m i).map (gQ (eG k))else[]):=by
 have hc:=Kd.sW (enc:=uw) ((none,0,0):Yg) h.h (i:Int) (by omega) (by omega);rw[Int.toNat_natCast]at hc;refine⟨_,hc.1,hc.2,h.ct i _ ?_⟩;unfold wG;rw[Int.toNat_natCast,List.getD_eq_getElem?_getD,List.getElem?_eq_getElem (by rw[h.hl];exact hi)]
 rfl
theorem EL.setB(h:EL w0 W w q gh gs nf k S A0 c0 A1 c1 At cT L p m db dc hs bs)(i:Nat):EL w0 W (w.setCell ⟨gs,i,none⟩ (.bool true)) q gh gs nf k S A0 c0 A1 c1 At cT L p m (db++[i]) dc hs (bs.set i true):=by
 have hq:=h.hq;have h1:=h.hg;have h2:=h.sg;have hw:=h.rs.be.size;have hp:=Kd.Mc (enc:=Value.bool) h.b (i:Int) true;rw[Int.toNat_natCast]at hp;refine⟨⟨bI (p:=⟨gs,i,none⟩) h.rs.blk (show q≠gs by omega) _,aV h.rs.be (by have:=h.rs.ge;omega),h.rs.ge,h.rs.toks,h.rs.len⟩,bU h.ke h2 i _,Kd.zI (p:=⟨gs,i,none⟩) h.h (fun b hb=>by have:=h.ne;show b≠gs;omega) _,hp,h.hl,by rw[List.length_set];exact h.bl,fun j b hj=>?_,fun j hd hj=>Kd.zI (p:=⟨gs,i,none⟩) (h.ct j hd hj) (fun b hb=>hb.2) _,h.hq,h.ne,h.hg,h.sg,by simpa using h.lt⟩
 by_cases hji:j=i
 ·subst hji
  have hlt:j<bs.length:=by have:=(List.getElem?_eq_some_iff.1 hj).1;rwa [List.length_set]at this
  rw[List.getElem?_set_self hlt]at hj;cases hj;simp
 ·rw[List.getElem?_set_ne (fun e=>hji e.symm)]at hj
  rw[h.bt j b hj];simp[hji]
theorem EL.setH(h:EL w0 W w q gh gs nf k S A0 c0 A1 c1 At cT L p m db dc hs bs)(i:Nat)(hd:Yg){B:Nat}(hB:gh<B/\gs<B)(hc:(iU k).R 76 w B (fun _=>True) (uw hd) ((valuesOf m i).map (gQ (eG k))))(hBW:W.heap.size<=B):EL w0 W (w.setCell ⟨gh,i,none⟩ (uw hd)) q gh gs nf k S A0 c0 A1 c1 At cT L p m db (dc++[i]) (hs.set i hd) bs:=by
 have hq:=h.hq;have h1:=h.hg;have h2:=h.sg;have hp:=Kd.Mc (enc:=uw) h.h (i:Int) hd;rw[Int.toNat_natCast]at hp
 have hcc:(iU k).R 76 (w.setCell ⟨gh,i,none⟩ (uw hd)) W.heap.size (fun b=>b≠gh/\b≠gs) (uw hd) ((valuesOf m i).map (gQ (eG k))):=
  Kd.zI (p:=⟨gh,i,none⟩) (Kd.oI (Kd.gB (Kd.iR hc) (fun b hb=>(by have:=hb.2.1;omega:b≠gh/\b≠gs))) hBW) (fun b hb=>hb.1) _
 refine⟨⟨bI (p:=⟨gh,i,none⟩) h.rs.blk (show q≠gh by omega) _,aV h.rs.be (by have:=h.rs.ge;omega),h.rs.ge,h.rs.toks,h.rs.len⟩,bU h.ke h1 i _,hp,Kd.zI (p:=⟨gh,i,none⟩) h.b (fun b hb=>by have:=h.ne;show b≠gh;omega) _,by rw[List.length_set];exact h.hl,h.bl,h.bt,fun j hd' hj=>?_,h.hq,h.ne,h.hg,h.sg,by simpa using h.lt⟩
 by_cases hji:j=i
 ·subst hji
  have hlt:j<hs.length:=by have:=(List.getElem?_eq_some_iff.1 hj).1;rwa [List.length_set]at this
  rw[List.getElem?_set_self hlt]at hj;cases hj;rw[if_pos (by simp)];exact hcc
 ·rw[List.getElem?_set_ne (fun e=>hji e.symm)]at hj
  have h5:=Kd.zI (p:=⟨gh,i,none⟩) (h.ct j hd' hj) (fun b hb=>hb.1) (uw hd)
  by_cases hjd:j∈dc
  ·rw[if_pos hjd]at h5
   rw[if_pos (List.mem_append_left _ hjd)];exact h5
  ·rw[if_neg hjd]at h5
   rw[if_neg (by simp[hjd,hji])];exact h5
end
theorem OU{L:List Seg}(h:(L.map Seg.k).Nodup){j:Nat}{g:Seg}(hg:L[j]? =some g):g.k∉(L.take j).map Seg.k:=by
 intro hm;obtain⟨hlt,he⟩:=List.getElem?_eq_some_iff.1 hg;rw[<-List.take_append_drop j L,List.map_append,List.nodup_append]at h;refine h.2.2 g.k hm g.k ?_ rfl;rw[List.drop_eq_getElem_cons hlt,he];simp
theorem Ir(w0:World)(q:Nat)(S:fM)(hS:jW S)(hN:∀mt∈S.ms,qO mt)(hU:∀mt∈S.ms,Oy mt)(A0:Option Addr)(c0:Nat)(A1:Option Addr)(c1:Nat)(At:Option Addr)(cT:Nat)(L:List Tok)(hSR:qZ w0 S A0 c0 A1 c1)(k:Nat)(hVs:aaP w0 q S A0 c0 A1 c1 At cT L k):ZF w0 q S A0 c0 A1 c1 At cT L (k+1):=by
 intro typ m ts n a deep W hF hK hM hA hd1 hd2 hR;cases n with
 |zero=>exact hM.elim
 |succ n=>
 obtain⟨mt,o,c,Ls,hty,hmt,hok,hck,rfl,hnd,hseg,hcov⟩:=hM;obtain⟨ty,rfl⟩:∃ty:Nat,typ=(ty:Int):=⟨typ.toNat,by omega⟩
 rw[Int.toNat_natCast]at hmt;have hmem:=List.mem_of_getElem? hmt;obtain⟨ad,AF,cF,hA0,_,x1,_,uK⟩:=Ag hSR.ms hmt;subst hA0;have hfl:=hS.fl mt hmem;obtain⟨nf,hnf⟩:∃nf,nf=mt.fields.length:=⟨_,rfl⟩
 rw[<-hnf]at x1 uK;obtain⟨u,hu,hut,hat⟩:=hA.head;have hk64:u.kind=64:=by have:=congrArg TK.kind hut;rw[hok]at this;exact this
 have oC:=ah (lJ w0 W q S (some ad) c0 A1 c1 At cT L a hR u hu.out 64 hk64);have HX1:=ah (fun(Wx:World)(hb:Below w0.heap.size w0 Wx)=>ay hb x1);have NZ:=ah uK;have HF:=ah hF;have HK:=ah hK;have HAt:=ah hat;have XY:=ah hck;have Rl:=ah hnd;have ahK:=ah hseg;have ahL:=ah hcov;have qH:=ah hnf;have HNf50:=ah (show nf<=50 by rw[hnf];exact hfl.1);have RQ:=ah hmt;have HFc:=ah (fun(Wx:World)(p:Nat)(h:RS w0 Wx q S (some ad) c0 A1 c1 At cT L p)(i:Nat)(t:FT)(ht:mt.fields[i]? =some t)(name:ByteArray)(hn:camel t.name=name∨t.name=name)=>Zt w0 Wx q S (some ad) c0 A1 c1 At cT L p h hSR ty mt hmt i t ht name hn (Oz (hN mt hmem) (hU mt hmem) ht hn) (fun f hf=>(hS.Vw mt hmem f hf).sz) hfl.1);have HVs:=ah hVs;have HSc:=ah hS;have HD:=ah (And.intro hd1 hd2);have HQ:=ah (bJ hR.blk);have HRi:=ah (show jk (-1) m from by obtain⟨_,mt2,e2,hr,_⟩:=hF;exact hr);have HDf:=ah (show(deep==0)=false from eqF (by omega));have d0:=HDf.out;have mk1:=afA nf (by have:=HNf50.out;omega);have mk2:=afB nf (by have:=HNf50.out;omega);have i0:(0:Int)<=(ty:Int):=by omega
 have i1:(ty:Int)<(S.ms.length:Int):=by have:=(List.getElem?_eq_some_iff.1 hmt).1;omega
 clear hF hK hA hd1 hd2 hR hty hmt hok hck hnd hseg hcov hmem x1 uK hfl hnf hut hat hk64 hN hU hS hSR hVs;go_enter Tryz.func25,Tryz.ntmps25
 go_upto_region 5 with(go_at_call 54;(with_reducible refine oC.out.mono ?_);rintro e' w1⟨rfl,hr,hk⟩;have HR1:=ah (And.intro hr hk);clear hr hk)
 have r0:=HR1.out.1.cells.1;have x1:=HX1.out w1 HR1.out.1.be
 go_upto_region 8 with fail
 obtain⟨w2,h2⟩:∃w2,w2=w1.alloc (.cells (madeCells #[.slice none 0 0] nf) 66):=⟨_,rfl⟩
 rw[<-h2];obtain⟨w3,h3⟩:∃w3,w3=w2.alloc (.cells (madeCells #[.bool false] nf) 4):=⟨_,rfl⟩
 rw[<-h3]
 have hst:EL w0 W w3 q w1.heap.size (w1.heap.size+1) nf k S (some ad) c0 A1 c1 At cT L (a+1) m [] [] (List.replicate nf (none,0,0)) (List.replicate nf false):=by
  have hs2:w2.heap.size=w1.heap.size+1:=by rw[h2];simp
  have hs3:w3.heap.size=w1.heap.size+2:=by rw[h3];simp[hs2]
  have b12:Below w1.heap.size w1 w2:=by rw[h2];exact ak (bg _ _) _
  have b23:Below w2.heap.size w2 w3:=by rw[h3];exact ak (bg _ _) _
  have hsl:=ahI w1 nf (by have:=HNf50.out;omega);rw[<-h2]at hsl;have hbo:=ahJ w2 nf (by have:=HNf50.out;omega);rw[<-h3,hs2]at hbo;have hw:=HR1.out.2.1;refine⟨HR1.out.1.below (au b12 b23),iq HR1.out.2 (au b12 b23),Kd.oI (Kd.dY hsl b23) hw,Kd.oI hbo (by omega),List.length_replicate ..,List.length_replicate ..,fun i b hb=>?_,fun i h hh=>?_,HQ.out,by omega,hw,by omega,by omega⟩
  ·rw[List.getElem?_replicate]at hb
   split at hb
   ·cases hb;simp
   ·cases hb
  ·rw[List.getElem?_replicate]at hh
   split at hh
   ·cases hh
    rw[if_neg List.not_mem_nil];exact Kd.mP _ _ _ _ _
   ·cases hh
 obtain⟨gh,hgh⟩:∃gh,gh=w1.heap.size:=⟨_,rfl⟩
 rw[<-hgh]at hst ⊢;have wQ:=ah hst;clear h2 h3 hst hgh mk1 mk2 r0 x1 i0 i1;go_wp2
 go_loopg [10,11,12] Ls.length (fun g v10 v11 v12 w'=>∃(j p:Nat)(hs:List Yg)(bs:List Bool),j+g=Ls.length/\aC (lI L p ((Ls.drop j).flatMap Seg.ts++[c])/\p+((Ls.drop j).flatMap Seg.ts++[c]).length=a+(o::(Ls.flatMap Seg.ts++[c])).length)/\aC (EL w0 W w' q gh (gh+1) nf k S (some ad) c0 A1 c1 At cT L p m ((Ls.take j).map Seg.k) ((Ls.take j).map Seg.k) hs bs))
 case atStart=>exact⟨0,a+1,_,_,by omega,⟨HAt.out,by simp;omega⟩,wQ⟩
 case round=>
  obtain⟨j,p,hs,bs,hg,HP,HM⟩:=hrel;have tr:=HM.out.rs.cells.2.2.2.2;cases gk with
  |succ g=>
   obtain⟨sg,hsg⟩:=bF (show j<Ls.length by omega);have EJ:=ah (show(Ls.drop j).flatMap Seg.ts++[c]=sg.ts++((Ls.drop (j+1)).flatMap Seg.ts++[c])by rw[DR hsg.out,List.flatMap_cons,List.append_assoc]);obtain⟨t,ht,hnk,hnn,htok⟩:=ahK.out sg (List.mem_of_getElem? hsg.out);have hA:=HP.out.1;rw[EJ.out]at hA;have HA2:=ah hA.right;obtain⟨u',hu',rF,hat'⟩:=lI.head (t:=sg.nt) (ts:=sg.tk) hA.left;have hk32:u'.kind=32:=by have:=congrArg TK.kind rF;rw[hnk]at this;exact this
   have hstr:u'.str=sg.nt.str:=congrArg TK.str rF;have Eb:=ah (qA w0 wr q S (some ad) c0 A1 c1 At cT L p HM.out.rs u' hu'.out 32 hk32);have HTk2:=ah (fun Wx(h:RS w0 Wx q S (some ad) c0 A1 c1 At cT L p)=>lJ w0 Wx q S (some ad) c0 A1 c1 At cT L p h u' hu'.out 32 hk32);have Ye:=ah (adb HSc.out (L:=L) (a:=p+1) (show S.ms[((ty:Nat):Int).toNat]? =some mt from RQ.out) HF.out HK.out ht htok hat');have HVc:=ah (fun Wx(h:RS w0 Wx q S (some ad) c0 A1 c1 At cT L (p+1))=>HVs.out t (valuesOf m sg.k) sg.tk n (p+1) deep Wx Ye.out (by have:=HD.out;omega) HD.out.2 h);have HFc2:=ah (fun Wx(h:RS w0 Wx q S (some ad) c0 A1 c1 At cT L (p+1))=>HFc.out Wx (p+1) h sg.k t ht sg.nt.str (hnn.elim (fun e=>.inr e.symm) (fun e=>.inl e.symm)));have HSs:=ah hstr;obtain⟨i,hi⟩:∃i,i=sg.k:=⟨_,rfl⟩
   rw[<-hi]at HFc2 HVc ht;have hin:i<nf:=by rw[qH.out];exact(List.getElem?_eq_some_iff.1 ht).1
   have sS:=ah (show i∉(Ls.take j).map Seg.k by rw[hi];exact OU Rl.out hsg.out);have FD:=ah (show(Ls.take (j+1)).map Seg.k=(Ls.take j).map Seg.k++[i]by rw[hi];exact uj hsg.out _);obtain⟨VU,hAF,m0,m1,m2,m3,m4,m5⟩:=uT NZ.out ht;subst hAF;have TL:=ah (fun(Wx:World)(hb:Below w0.heap.size w0 Wx)=>And.intro (ay hb m0) (And.intro (ay hb m1) (And.intro (ay hb m2) (And.intro (ay hb m3) (And.intro (ay hb m4) (ay hb m5))))));have i0:(0:Int)<=(i:Int):=by omega
   have i1:(i:Int)<(nf:Int):=by omega
   have dk:decide ((i:Int)<0)=false:=bY (by omega);have HG:=ah hg;have HTl:=ah (show sg.ts.length=sg.tk.length+1 from rfl);have HIn:=ah hin;obtain⟨nm,hnm⟩:∃nm,nm=sg.nt.str:=⟨_,rfl⟩
   rw[<-hnm]at HSs HFc2;clear hg hA hu' rF hat' hk32 hstr ht hnk hnn htok hi hin m0 m1 m2 m3 m4 m5 hsg hnm
   go_upto_region 10 with(first|(go_at_call 55;(with_reducible refine Eb.out.mono ?_);rintro e' w4⟨rfl,hb⟩;have HM4:=ah (HM.out.below hb);clear hb)|(go_at_call 54;(with_reducible refine(HTk2.out _ HM4.out.rs).mono ?_);rintro e' w5⟨rfl,hr,hk⟩;have HM5:=ah (HM4.out.keep hk hr);clear hr hk))
   obtain⟨w6,h6⟩:∃w6,w6=w5.alloc (.cells #[.int .i64 u'.kind,.int .i64 u'.pos,.string u'.raw,.string u'.str,.bool u'.boo] 39):=⟨_,rfl⟩
   rw[<-h6];have HM6:=ah (show EL w0 W w6 q gh (gh+1) nf k S (some ad) c0 A1 c1 At cT L (p+1) m ((Ls.take j).map Seg.k) ((Ls.take j).map Seg.k) hs bs by rw[h6];exact HM5.out.below (ak (bg _ _) _));have cs:w6.cell? ⟨w5.heap.size,3,none⟩=some (.string nm):=by rw[<-HSs.out,h6];exact(aA (aP w5 _) 3).trans rfl
   clear h6 tr
   go_upto_region 13 with(go_at_call 56;(with_reducible refine(HFc2.out _ HM6.out.rs).mono ?_);rintro e' w7⟨rfl,hb⟩;have HM7:=ah (HM6.out.below hb);clear hb)
   obtain⟨b7,cb,fb,hb7⟩:=HM7.out.afD HIn.out
   obtain rfl:b7=false:=by
    cases b7 with
    |false=>rfl
    |true=>exact absurd (hb7.1 rfl) sS.out
   clear hb7 cs
   go_upto_region 12 with fail
   obtain⟨w8,h8⟩:∃w8,w8=w7.setCell ⟨gh+1,i,none⟩ (.bool true):=⟨_,rfl⟩
   rw[<-h8];have HM8:=ah (show EL w0 W w8 q gh (gh+1) nf k S (some ad) c0 A1 c1 At cT L (p+1) m ((Ls.take j).map Seg.k++[i]) ((Ls.take j).map Seg.k) hs (bs.set i true)by rw[h8];exact HM7.out.setB i);obtain⟨m0,m1,m2,m3,m4,m5⟩:=TL.out w8 HM8.out.rs.be;clear h8 cb fb
   go_wp2_with (go_at_call 57;(with_reducible refine(HVc.out _ HM8.out.rs).mono ?_);rintro e' w9⟨v9,rfl,ho,hr,hk⟩;obtain⟨A9,c9,rfl⟩:=Kd.fC ho;have HM9:=ah (HM8.out.keep hk hr);have HO9:=ah ho;obtain⟨hd9,ch,fh,_⟩:=HM9.out.aaS HIn.out;clear ho hr hk m0 m1 m2 m3 m4 m5)
   go_roundg g
   case measure=>omega
   case rel=>
    refine⟨j+1,p+sg.ts.length,hs.set i (A9,(valuesOf m i).length,c9),bs.set i true,by have:=HG.out;omega,⟨HA2.out,?_⟩,⟨?_⟩⟩
    ·have h1:=HP.out.2
     rw[EJ.out,List.length_append]at h1;omega
    ·rw[FD.out,HTl.out,show p+(sg.tk.length+1)=p+1+sg.tk.length by omega]
     exact HM9.out.setH i (A9,(valuesOf m i).length,c9) (B:=w8.heap.size) (by have:=HM8.out.lt;omega) (by have h:=HO9.out;rw[List.length_map]at h;exact h) HM8.out.ke.1
  |zero=>
   obtain rfl:j=Ls.length:=by omega
   have hA:=HP.out.1;rw[List.drop_eq_nil_of_le (Nat.le_refl _)]at hA;obtain⟨u',hu',rF,_⟩:=lI.head (t:=c) (ts:=[]) hA;have hk128:u'.kind=128:=by have:=congrArg TK.kind rF;rw[XY.out]at this;exact this
   have Eb:=ah (qA w0 wr q S (some ad) c0 A1 c1 At cT L p HM.out.rs u' hu'.out 128 hk128);have HTk2:=ah (fun Wx(h:RS w0 Wx q S (some ad) c0 A1 c1 At cT L p)=>lJ w0 Wx q S (some ad) c0 A1 c1 At cT L p h u' hu'.out 128 hk128)
   have HPe:=ah (show p+1=a+(o::(Ls.flatMap Seg.ts++[c])).length by
    have h1:=HP.out.2;rw[List.drop_eq_nil_of_le (Nat.le_refl _)]at h1;exact h1)
   have HM0:=ah (show EL w0 W wr q gh (gh+1) nf k S (some ad) c0 A1 c1 At cT L p m (Ls.map Seg.k) (Ls.map Seg.k) hs bs by have:=HM.out;rwa [List.take_of_length_le (Nat.le_refl _)]at this);clear hA rF hk128 hu' hg
   go_upto_region 18 with(first|(go_at_call 55;(with_reducible refine Eb.out.mono ?_);rintro e' w4⟨rfl,hb⟩;have HM4:=ah (HM0.out.below hb);clear hb)|(go_at_call 54;(with_reducible refine(HTk2.out _ HM4.out.rs).mono ?_);rintro e' w5⟨rfl,hr,hk⟩;have HM5:=ah (HM4.out.keep hk hr);clear hr hk))
   obtain⟨wN,hwN⟩:∃wN,wN=w5:=⟨_,rfl⟩
   have HwN:=ah hwN;clear hwN;go_wp2
   go_loopg [13,14] nf (fun g v13 v14 w'=>∃i:Nat,v14= .int .i64 i/\i+g=nf/\aC ((jh (k+1)).R 68 w' W.heap.size (fun _=>True) v13 ((upTo m i).map (aaR k))/\(∀b,v13.ownBlock=some b->wN.heap.size<=b)/\(upTo m i).length<=i)/\aC (Below w5.heap.size w5 w'))
   case atStart=>exact⟨0,rfl,by omega,⟨by rw[wF (fun f hf=>by have:=HRi.out.gt f hf;omega)];exact⟨Kd.mP _ _ _ _ _,fun b hb=>by simp[Value.ownBlock]at hb,Nat.le_refl _⟩⟩,⟨bg _ _⟩⟩
   case round=>
    obtain⟨i,rfl,hg,HO,HB⟩:=hrel;have HMr:=ah (HM5.out.below HB.out);cases gk with
    |succ g=>
     have hin:i<nf:=by omega
     obtain⟨hd,ch5,_,hct⟩:=HM5.out.aaS hin
     have hxs:(if i∈Ls.map Seg.k then(valuesOf m i).map (gQ (eG k))else[])=(valuesOf m i).map (gQ (eG k)):=by
      by_cases hi:i∈Ls.map Seg.k
      ·rw[if_pos hi]
      ·rw[if_neg hi]
       cases hv:valuesOf m i with
       |nil=>rfl
       |cons v vs=>
        obtain⟨f,hf,hfa,_⟩:=pz (m:=m) (i:=i) (v:=v) (by rw[hv];exact List.mem_cons_self);obtain⟨g',hg',hgk⟩:=ahL.out f hf;exact absurd (List.mem_map.2 ⟨g',hg',by omega⟩) hi
     rw[hxs]at hct;have ch:=ay HB.out ch5;have hrd:=Kd.iM hct;rw[List.length_map]at hrd;have i0:(0:Int)<=(i:Int):=by omega
     have i1:(i:Int)<(nf:Int):=by omega
     have d0:decide ((i:Int)<(nf:Int))=true:=bZ i1;have d1:decide (i<nf)=true:=bZ hin;have e1:IntKind.i64.wrap ((i:Int)+1)=(i:Int)+1:=by rw[IntKind.wrap_i64];have:=HNf50.out;omega
     have e2:wrap64 ((i:Int)+1)=(i:Int)+1:=by have:=HNf50.out;unfold wrap64;omega
     have HG:=ah hg;have UN:=ah hct;obtain⟨hn,hhn⟩:∃hn,hn=hd.2.1:=⟨_,rfl⟩
     rw[<-hhn]at ch hrd;have HHn:=ah hhn;have HIn:=ah hin
     by_cases hv:valuesOf m i=[]
     ·have hn0:hn=0:=by rw[hrd.1,hv];rfl
      subst hn0;have HSk:=ah (Tj HRi.out (by obtain⟨_,mt2,_,_,hall⟩:=HF.out;exact fun f hf=>(hall f hf).2.1) hv);clear hg hin ch5 hct hxs hrd hhn hv;go_wp2
      go_roundg g
      case measure=>omega
      case rel=>exact⟨i+1,by go_num,by have:=HG.out;omega,⟨by rw[HSk.out];exact⟨HO.out.1,HO.out.2.1,by have:=HO.out.2.2;omega⟩⟩,HB⟩
     ·have hnp:0<hn:=by rw[hrd.1];exact List.length_pos_iff.2 hv
      have g1:decide ((0:Int)<(hn:Int))=true:=bZ (by omega);have g2:decide (0<hn)=true:=bZ hnp;have HPt:=ah (XD HRi.out hv);have hwN:wN.heap.size=w5.heap.size:=by rw[HwN.out]
      have HMf:=ah (show(jh (k+1)).M wr W.heap.size (fun b=>b<wN.heap.size) (.mk (i:Int) ((valuesOf m i).map (gQ (eG k)))) [.int .i64 (i:Int),.slice hd.1 hn hd.2.2]by
       have h1:=Kd.dY (Kd.gB (Kd.iR UN.out) (ok':=fun b=>b<wN.heap.size) (fun b hb=>by have:=hb.2.2.1;omega)) HB.out;rw[show uw hd= .slice hd.1 hn hd.2.2 by rw[HHn.out]]at h1;exact Ox (f:=.mk (i:Int) ((valuesOf m i).map (gQ (eG k)))) h1)
      obtain⟨A13,n13,c13,rfl⟩:∃A n c,u13= .slice A n c:=by obtain⟨A,c,e⟩:=Kd.fC HO.out.1;exact⟨A,_,c,e⟩
      have kQ:=ah (And.intro hwN HB.out.size);clear hg hin ch5 hct hxs hrd hhn hv hnp hwN
      go_wp2_with (at_builtin;refine ZK (B:=W.heap.size) (N:=wN.heap.size) (v:=.slice A13 n13 c13) (xs:=(upTo m i).map (aaR k)) rfl (.tmp 95) (.tmp 102) rfl (.mk (i:Int) ((valuesOf m i).map (gQ (eG k)))) _ rfl rfl HMf.out HO.out.2.1 ?sN ?sB HO.out.1 ?sl ?_;(case sN=>have:=kQ.out;omega);(case sB=>exact HMr.out.ke.1);(case sl=>rw[List.length_map];have:=HO.out.2.2;have:=HIn.out;have:=HNf50.out;omega);intro v1 w7 ho hb hw;have HO7:=ah (And.intro ho hw);have HB7:=ah hb;clear ho hb hw)
      go_roundg g
      case measure=>omega
      case rel=>
       refine⟨i+1,by go_num,by have:=HG.out;omega,⟨?_⟩,⟨?_⟩⟩
       ·rw[HPt.out]
        refine⟨by rw[List.map_append];exact HO7.out.1,HO7.out.2,?_⟩;rw[List.length_append];have:=HO.out.2.2;show _+1<=i+1;omega
       ·have h1:=HB7.out
        rw[kQ.out.1]at h1;exact Gj HB.out (Nat.le_refl _) h1
    |zero=>
     obtain rfl:i=nf:=by omega
     have d0:decide ((i:Int)<(i:Int))=false:=bY (by omega);have d1:decide (i<i)=false:=bY (by omega)
     have Ho:=ah (show upTo m i=m from XE (fun f hf=>by
      obtain⟨_,mt2,e2,_,hall⟩:=HF.out;obtain⟨h0,_,t,ht,_⟩:=hall f hf;have e3:S.ms[((ty:Nat):Int).toNat]? =some mt:=RQ.out;rw[e3]at e2;obtain rfl:=Option.some.inj e2;have:=(List.getElem?_eq_some_iff.1 ht).1;have:=qH.out;omega))
     have HOx:=HO.out.1;rw[Ho.out]at HOx;have HOx:=ah HOx;clear hg;go_wp2
     go_ret
     refine⟨_,rfl,HOx.out,?_,HMr.out.ke⟩;have h1:=HMr.out.rs;rw[HPe.out]at h1;exact h1
theorem Lp(w0:World)(q:Nat)(S:fM)(hS:jW S)(hE:∀e∈S.es,Dy e)(hN:∀mt∈S.ms,qO mt)(hU:∀mt∈S.ms,Oy mt)(A0:Option Addr)(c0:Nat)(A1:Option Addr)(c1:Nat)(At:Option Addr)(cT:Nat)(L:List Tok)(hSR:qZ w0 S A0 c0 A1 c1):∀k,ZF w0 q S A0 c0 A1 c1 At cT L k/\∀nn,k=nn+1->ZF w0 q S A0 c0 A1 c1 At cT L nn:=by
 intro k
 induction k with
 |zero=>exact⟨fun _ _ _ _ _ _ _ hF=>hF.elim,fun nn h=>absurd h (by omega)⟩
 |succ k ih=>
  refine⟨?_,fun nn h=>?_⟩
  ·refine Ir w0 q S hS hN hU A0 c0 A1 c1 At cT L hSR k (Ti w0 q S hS A0 c0 A1 c1 At cT L k (value_of w0 q S hS hE A0 c0 A1 c1 At cT L hSR k ih.1) (fun nn h=>?_))
   exact Xy w0 q S A0 c0 A1 c1 At cT L hSR nn (value_of w0 q S hS hE A0 c0 A1 c1 At cT L hSR nn (ih.2 nn h))
  ·obtain rfl:k=nn:=by omega
   exact ih.1
theorem Lu{S:fM}{n:Nat}{typ:Int}{m:List dD}{ts:List TK}(h:Vu S n typ m ts):∃ts' c,ts=ts'++[c]/\c.kind=128:=by
 cases n with
 |zero=>exact h.elim
 |succ n=>
  obtain⟨mt,o,c,L,_,_,_,hc,e,_⟩:=h;exact⟨o::L.flatMap Seg.ts,c,by rw[e];rfl,hc⟩
theorem LC(S:fM)(hS:jW S)(hE:∀e∈S.es,Dy e)(hN:∀mt∈S.ms,qO mt)(hU:∀mt∈S.ms,Oy mt)(A0:Option Addr)(c0:Nat)(A1:Option Addr)(c1:Nat)(At:Option Addr)(cT:Nat)(L:List Tok)(w:World)(hSR:qZ w S A0 c0 A1 c1)(typ:Int)(m:List dD)(k n:Nat)(hk:k<=20)(hF:oZ S k typ m)(hK:rC S k typ m)(hM:Vu S n typ m (L.map Tok.tk))(hC:Kd.C uG w At L.length L)(hL:L.length<=1000000000000):
 Calls Tryz.prog 9 #[kG S A0 c0 A1 c1,.int .i64 typ,.slice At L.length cT] w fun e w'=>∃Am cm,e= .returned (.tuple #[.slice Am m.length cm,.int .i64 1])/\Kd.C (jh k) w' Am m.length (eG k m)/\Below w.heap.size w w':=by
 obtain⟨ts',c,hts,hc⟩:=Lu hM;have hlen:L.length=ts'.length+1:=by have:=congrArg List.length hts;rwa [List.length_map,List.length_append]at this
 obtain⟨u,hu⟩:=bF (show L.length-1<L.length by omega)
 have hk128:u.kind=128:=by
  have h1:(L.map Tok.tk)[L.length-1]? =some u.tk:=by rw[List.getElem?_map,hu.out];rfl
  rw[hts,show L.length-1=ts'.length by omega,List.getElem?_concat_length]at h1;have:=congrArg TK.kind (Option.some.inj h1);rw[hc]at this;exact this.symm
 obtain⟨W1,hW1⟩:∃W1,W1=w.alloc (.cells #[.slice A0 S.ms.length c0,.slice A1 S.es.length c1] 25):=⟨_,rfl⟩
 obtain⟨W2,hW2⟩:∃W2,W2=W1.alloc (.cells #[.slice A0 S.ms.length c0,.slice A1 S.es.length c1,.slice At L.length cT,.int .i64 0,.int .i64 1] 63):=⟨_,rfl⟩
 have hb1:Below w.heap.size w W1:=by rw[hW1];exact ak (bg _ _) _
 have hb2:Below W1.heap.size W1 W2:=by rw[hW2];exact ak (bg _ _) _
 have hs1:W1.heap.size=w.heap.size+1:=by rw[hW1];simp
 have hR:RS w W2 W1.heap.size S A0 c0 A1 c1 At cT L 0:=⟨by rw[hW2];exact aP W1 _,au hb1 hb2,by omega,hC,hL⟩;have hx1:W1.heap[w.heap.size]? =some (.cells #[.slice A0 S.ms.length c0,.slice A1 S.es.length c1] 25 (0,0)):=by rw[hW1];exact aP w _
 have z0:W1.cell? ⟨w.heap.size,0,none⟩=some (.slice A0 S.ms.length c0):=(aA hx1 0).trans rfl;have z1:W1.cell? ⟨w.heap.size,1,none⟩=some (.slice A1 S.es.length c1):=(aA hx1 1).trans rfl;obtain⟨ad,cs,rfl,hKd,hcc⟩:=yO (Kd.aU hC hb1) hu.out;have e5:uG.sz=5:=rfl;rw[e5]at hcc;obtain rfl:=yR hKd;have t0:=hcc 0 _ rfl;rw[hk128,Nat.add_zero]at t0;have HMs:=ah ((Lp w W1.heap.size S hS hE hN hU A0 c0 A1 c1 (some ad) cT L hSR k).1 typ m (L.map Tok.tk) n 0 25 W2 hF hK hM ⟨[],by rw[List.drop_zero,List.append_nil]⟩ (by omega) (by omega) hR);have HW1:=ah hW1;have HW2:=ah hW2;have HLn:=ah hL;have HLp:=ah (show 0<L.length by omega);obtain⟨N,hN'⟩:∃N,N=L.length:=⟨_,rfl⟩
 have HNe:=ah hN';have p0:(0:Int)<(N:Int):=by omega
 have p1:decide ((0:Int)<(N:Int))=true:=bZ p0;have p2:0<N:=by omega
 have e1:IntKind.i64.wrap ((N:Int)-1)=((N-1:Nat):Int):=by rw[IntKind.wrap_i64];omega
 have e2:wrap64 ((N:Int)-1)=((N-1:Nat):Int):=by unfold wrap64;omega
 have i0:(0:Int)<=((N-1:Nat):Int):=by omega
 have i1:((N-1:Nat):Int)<(N:Int):=by omega
 have i2:N-1<N:=by omega
 have dl:decide ((N:Int)<(N:Int))=false:=bY (by omega);rw[<-hN']at t0 HW2;rw[<-hN'];have HTs:=ah (show 0+(L.map Tok.tk).length=N by rw[List.length_map];omega);have HS1:=ah hs1;have HLm:=ah (show(eG k m).length=m.length by cases k with|zero=>exact hF.elim|succ k=>exact KO k m);clear hts hc hlen hk128 hW1 hW2 hb1 hb2 hR hx1 hs1 hC hKd hcc hF hK hM hS hE hN hU hSR hk hL hN' hu;go_enter Tryz.func9,Tryz.ntmps9
 go_upto_region 1 with fail
 rw[<-HW1.out]
 go_upto_region 5 with fail
 rw[<-HW2.out];clear HW1 HW2 z0 z1 t0 i0 i1 i2 e1 e2 p0 p1 p2
 go_wp2_with (go_at_call 25;(with_reducible refine HMs.out.mono ?_);rintro e' w3⟨vm,rfl,hr,hR3,hk3⟩;obtain⟨Am,cm,rfl⟩:=Kd.fC hr;have HRm:=ah hr;have HR3:=ah hR3;obtain⟨_,_,_,t3,t4⟩:=hR3.cells;rw[HTs.out]at t3;clear hr hR3 hk3)
 go_wp2
 go_ret2
 obtain⟨_,_,hrd⟩:=Kd.iM HRm.out;refine⟨Am,cm,by rw[<-HLm.out];rfl,?_,aS HR3.out.be 0⟩;rw[<-HLm.out];exact hrd
theorem XF{S:fM}{F F':Int->List dD->Prop}{t:FT}{v:Val}(hF:∀{a:Int}{b:List dD},F a b->F' a b)(h:qF S F t v):qF S F' t v:=by
 rcases h with k|k|k|k|k|k|k|⟨k1,k2,k3,k4⟩
 ·exact .inl k
 ·exact .inr (.inl k)
 ·exact .inr (.inr (.inl k))
 ·exact .inr (.inr (.inr (.inl k)))
 ·exact .inr (.inr (.inr (.inr (.inl k))))
 ·exact .inr (.inr (.inr (.inr (.inr (.inl k)))))
 ·exact .inr (.inr (.inr (.inr (.inr (.inr (.inl k))))))
 ·exact .inr (.inr (.inr (.inr (.inr (.inr (.inr ⟨k1,k2,hF k3,k4⟩))))))
theorem FI{S:fM}:∀(n:Nat){typ:Int}{m:List dD},qG S n typ m->qG S (n+1) typ m
 |0,_,_,h=>h.elim
 |n+1,typ,m,⟨h0,mt,h1,h2,h3⟩=>⟨h0,mt,h1,h2,fun f hf=>by
  obtain⟨k1,k2,t,k3,k4,k5⟩:=h3 f hf;exact⟨k1,k2,t,k3,k4,fun v hv=>XF (fun h=>FI n h) (k5 v hv)⟩⟩
theorem Ql{S:fM}{k n:Nat}(h:k<=n){typ:Int}{m:List dD}(hF:qG S k typ m):qG S n typ m:=by
 induction n with
 |zero=>rwa [show k=0 by omega]at hF
 |succ n ih=>
  by_cases e:k=n+1
  ·rwa [e]at hF
  ·exact FI n (ih (by omega))
theorem FM{S:fM}:∀(n:Nat){typ:Int}{m:List dD},rC S (n+1) typ m->rC S n typ m
 |0,_,_,_=>trivial
 |n+1,typ,m,h=>fun mt hmt f hf t ht h8=>⟨fun v hv=>FM n ((h mt hmt f hf t ht h8).1 v hv),(h mt hmt f hf t ht h8).2⟩
theorem ZL{S:fM}{k n:Nat}(h:k<=n){typ:Int}{m:List dD}(hK:rC S n typ m):rC S k typ m:=by
 induction n with
 |zero=>rwa [show k=0 by omega]
 |succ n ih=>
  by_cases e:k=n+1
  ·rwa [e]
  ·exact ih (by omega) (FM n hK)
theorem LG{S:fM}{F:Int->List dD->Prop}{t:FT}{v:Val}(h:qF S F t v):v.dA=[]∨F t.typ v.dA:=by
 by_cases h8:aT t.kind=8
 ·exact .inr (OL h h8).2
 ·exact .inl (xH h h8)
theorem Qm{S:fM}:∀(k n:Nat){typ:Int}{m:List dD},k<=n->qG S k typ m->eG n m=eG k m
 |0,_,_,_,_,h=>h.elim
 |k+1,0,_,_,hn,_=>absurd hn (by omega)
 |k+1,n+1,typ,m,hn,⟨_,mt,_,_,h3⟩=>by
  show m.map _=m.map _;refine List.map_congr_left (fun f hf=>?_);obtain⟨_,_,t,_,_,hfit⟩:=h3 f hf
  congr 1
  refine List.map_congr_left (fun v hv=>?_);unfold gQ
  congr 1
  rcases LG (hfit v hv)with h|h
  ·rw[h,kH,kH]
  ·exact Qm k n (by omega) h
theorem Qn{S:fM}:∀(k n:Nat){typ:Int}{m:List dD},k<=n->qG S k typ m->iP n m=iP k m
 |0,_,_,_,_,h=>h.elim
 |k+1,0,_,_,hn,_=>absurd hn (by omega)
 |k+1,n+1,typ,m,hn,⟨_,mt,_,_,h3⟩=>by
  show(m.map _).sum=(m.map _).sum
  congr 1
  refine List.map_congr_left (fun f hf=>?_);obtain⟨_,_,t,_,_,hfit⟩:=h3 f hf
  congr 1
  refine List.map_congr_left (fun v hv=>?_)
  congr 1
  rcases LG (hfit v hv)with h|h
  ·rw[h,Ht,Ht]
  ·exact Qn k n (by omega) h
structure Args(w:World)(N:Nat)(ms:List MT)(es:List ET)(A0:Option Addr)(c0:Nat)(A1:Option Addr)(c1:Nat)(m:List dD)(A:Option Addr):Prop where
 sr:qZ w ⟨ms,es⟩ A0 c0 A1 c1
 hm:Kd.C (jh N) w A m.length m
 n20:20<=N
 rng:Ky N m
 bulk:kE N m<=1000000000000
 ns:∀mt∈ms,Df mt.fields<=1100000
 en:∀e∈es,∀x∈e.names,x.size<=1100000
 nm:∀e∈es,∀x∈e.nums,-2147483648<=x/\x<=2147483647
theorem Args.below{w w1:World}{N:Nat}{ms:List MT}{es:List ET}{A0:Option Addr}{c0:Nat}{A1:Option Addr}{c1:Nat}{m:List dD}{A:Option Addr}(h:Args w N ms es A0 c0 A1 c1 m A)(hb:Below w.heap.size w w1):Args w1 N ms es A0 c0 A1 c1 m A:=
 ⟨⟨Kd.aU h.sr.ms hb,Kd.aU h.sr.es hb,h.sr.cm,h.sr.ce⟩,Kd.aU h.hm hb,h.n20,h.rng,h.bulk,h.ns,h.en,h.nm⟩
structure Fit1(N:Nat)(ms:List MT)(es:List ET)(typ:Int)(m:List dD):Prop where
 sch:jW ⟨ms,es⟩
 en:∀e∈es,Dy e
 fu:∀mt∈ms,Oy mt
 fit:oZ ⟨ms,es⟩ 20 typ m
 cnt:iP 20 m<=2000
theorem ZM(N:Nat)(ms:List MT)(es:List ET)(A0:Option Addr)(c0:Nat)(A1:Option Addr)(c1:Nat)(typ:Int)(m:List dD)(A:Option Addr)(c:Nat)(w:World)(hA:Args w N ms es A0 c0 A1 c1 m A)(h1:fit1 ms es=true):
 Calls Tryz.prog 17 #[kG ⟨ms,es⟩ A0 c0 A1 c1,.int .i64 typ,.slice A m.length c] w fun e w'=>∃b,e= .returned (.bool b)/\(b=true->Fit1 N ms es typ m)/\Below w.heap.size w w':=by
 obtain⟨W1,hW1⟩:∃W1,W1=w.alloc (.cells #[.slice A0 ms.length c0,.slice A1 es.length c1] 25):=⟨_,rfl⟩
 have hb1:Below w.heap.size w W1:=by rw[hW1];exact ak (bg _ _) _
 have hx1:W1.heap[w.heap.size]? =some (.cells #[.slice A0 ms.length c0,.slice A1 es.length c1] 25 (0,0)):=by rw[hW1];exact aP w _
 have HX:=ah (fun(Wx:World)(hb:Below W1.heap.size W1 Wx)=>And.intro ((aA (aI hx1 hb) 0).trans (rfl:_=some (Value.slice A0 ms.length c0))) ((aA (aI hx1 hb) 1).trans (rfl:_=some (Value.slice A1 es.length c1))));have hA1:=hA.below hb1;have HSc:=ah (Gs ms es A0 c0 A1 c1 W1 hA1.sr.ms hA1.sr.es h1);have HMf:=ah (fun(Wx:World)(hb:Below W1.heap.size W1 Wx)(hs:fV ms es=true)=>EI ⟨ms,es⟩ (KT hs hA.ns hA.en hA.nm).1 Wx A0 c0 A1 c1 (hA1.below hb).sr N typ m A c (hA1.below hb).hm hA.rng);have QM:=ah (fun(Wx:World)(hb:Below W1.heap.size W1 Wx)=>acv N m A c Wx (hA1.below hb).hm hA.bulk);have Yu:=ah (And.intro hA.ns (And.intro hA.en hA.nm));have HB1:=ah hb1;have HW1:=ah hW1;obtain⟨z0,z1⟩:=HX.out W1 (bg _ _);clear hA hA1 hb1 hx1 hW1;go_enter Tryz.func17,Tryz.ntmps17
 go_upto_region 1 with fail
 rw[<-HW1.out];cases hs:fV ms es
 ·go_wp2_with (go_at_call 38;(with_reducible refine HSc.out.mono ?_);rw[hs];rintro e w2⟨rfl,hb⟩;have HB2:=ah hb;clear hb)
  go_ret
  exact⟨false,rfl,(fun h=>by cases h),au HB1.out HB2.out⟩
 ·have HS:=ah hs
  go_wp2_with (first|(go_at_call 38;(with_reducible refine HSc.out.mono ?_);rw[hs];rintro e w2⟨rfl,hb⟩;have HB2:=ah hb;clear z0 z1;obtain⟨z0,z1⟩:=HX.out w2 hb;clear hb)|(go_at_call 39;(with_reducible refine(HMf.out _ HB2.out HS.out).mono ?_);rintro e w3⟨b3,rfl,hq,hb⟩;have HQ3:=ah hq;have HB3:=ah (au HB2.out hb);clear hq hb;cases b3)|(go_at_call 40;(with_reducible refine(QM.out _ HB3.out).mono ?_);rintro e w4⟨rfl,hb⟩;have HB4:=ah (au HB3.out hb);clear hb))
  ·go_ret
   exact⟨false,rfl,(fun h=>by cases h),au HB1.out HB3.out⟩
  ·go_ret
   refine⟨_,rfl,fun _=>?_,au HB1.out HB4.out⟩;obtain⟨h1,h2,h3⟩:=KT HS.out Yu.out.1 Yu.out.2.1 Yu.out.2.2;have hq:=HQ3.out;simp only[true_implies,forall_const]at hq;exact⟨h1,h2,h3,hq.1,hq.2⟩
structure Fit2(N:Nat)(ms:List MT)(es:List ET)(typ:Int)(m:List dD):Prop extends Fit1 N ms es typ m where
 nm:∀mt∈ms,qO mt
 key:rC ⟨ms,es⟩ N typ m
theorem LH(N:Nat)(ms:List MT)(es:List ET)(A0:Option Addr)(c0:Nat)(A1:Option Addr)(c1:Nat)(typ:Int)(m:List dD)(A:Option Addr)(c:Nat)(w:World)(hA:Args w N ms es A0 c0 A1 c1 m A)(h1:fit1 ms es=true):
 Calls Tryz.prog 6 #[kG ⟨ms,es⟩ A0 c0 A1 c1,.int .i64 typ,.slice A m.length c] w fun e w'=>∃b,e= .returned (.bool b)/\(b=true->Fit2 N ms es typ m)/\Below w.heap.size w w':=by
 obtain⟨W1,hW1⟩:∃W1,W1=w.alloc (.cells #[.slice A0 ms.length c0,.slice A1 es.length c1] 25):=⟨_,rfl⟩
 have hb1:Below w.heap.size w W1:=by rw[hW1];exact ak (bg _ _) _
 have hx1:W1.heap[w.heap.size]? =some (.cells #[.slice A0 ms.length c0,.slice A1 es.length c1] 25 (0,0)):=by rw[hW1];exact aP w _
 have HX:=ah (fun(Wx:World)(hb:Below W1.heap.size W1 Wx)=>And.intro ((aA (aI hx1 hb) 0).trans (rfl:_=some (Value.slice A0 ms.length c0))) ((aA (aI hx1 hb) 1).trans (rfl:_=some (Value.slice A1 es.length c1))));have hA1:=hA.below hb1;have AL:=ah (ZM N ms es A0 c0 A1 c1 typ m A c W1 hA1 h1);have sS:=ah (fun(Wx:World)(hb:Below W1.heap.size W1 Wx)(hf:Fit1 N ms es typ m)=>Oq ⟨ms,es⟩ hf.sch Wx A0 c0 A1 c1 (hA1.below hb).sr);have HKy:=ah (fun(Wx:World)(hb:Below W1.heap.size W1 Wx)(hf:Fit1 N ms es typ m)=>WC ⟨ms,es⟩ hf.sch Wx A0 c0 A1 c1 (hA1.below hb).sr N typ m A c Wx (hA1.below hb).hm (Ql hA.n20 (oZ.fit 20 hf.fit)) (bg _ _));have HB1:=ah hb1;have HW1:=ah hW1;obtain⟨z0,z1⟩:=HX.out W1 (bg _ _);clear hA hA1 hb1 hx1 hW1;go_enter Tryz.func6,Tryz.ntmps6
 go_upto_region 1 with fail
 rw[<-HW1.out]
 go_wp2_with (first|(go_at_call 17;(with_reducible refine AL.out.mono ?_);rintro e w2⟨b2,rfl,hq,hb⟩;have HQ2:=ah hq;have HB2:=ah hb;clear z0 z1;obtain⟨z0,z1⟩:=HX.out w2 hb;clear hb hq;cases b2)|(go_at_call 18;(with_reducible refine(sS.out _ HB2.out (HQ2.out (by first|rfl|trivial))).mono ?_);rintro e w3⟨b3,rfl,hq,hb⟩;have HQ3:=ah hq;have HB3:=ah (au HB2.out hb);clear z0 z1;obtain⟨z0,z1⟩:=HX.out w3 HB3.out;clear hq hb;cases b3)|(go_at_call 19;(with_reducible refine(HKy.out _ HB3.out (HQ2.out (by first|rfl|trivial))).mono ?_);rintro e w4⟨b4,rfl,hq,hb⟩;have HQ4:=ah hq;have HB4:=ah (au HB3.out hb);clear hq hb))
 ·go_ret
  exact⟨false,rfl,(fun h=>by cases h),au HB1.out HB2.out⟩
 ·go_ret
  exact⟨false,rfl,(fun h=>by cases h),au HB1.out HB3.out⟩
 ·go_ret
  refine⟨b4,rfl,fun h=>?_,au HB1.out HB4.out⟩;exact{toFit1:=HQ2.out (by first|rfl|trivial),nm:=HQ3.out (by first|rfl|trivial),key:=HQ4.out h}
end Go.Proofs.YtapkmjfjikpnlaaGreatDoor
