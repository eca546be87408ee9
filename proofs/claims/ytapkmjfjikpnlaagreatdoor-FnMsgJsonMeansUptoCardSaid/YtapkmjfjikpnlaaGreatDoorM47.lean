/- A part of FnMsgJsonMeans. No conditions. -/
import Derived.Test.YtapkmjfjikpnlaaGreatDoorM46
import Derived.Test.YtapkmjfjikpnlaaGreatDoorM42
set_option maxHeartbeats 16000000
set_option maxRecDepth 100000
namespace Go.Proofs.YtapkmjfjikpnlaaGreatDoor
open Go.RowKit YtapkmjfjikpnlaaGreatDoorW.aG YtapkmjfjikpnlaaGreatDoorW.aJ
set_option linter.unusedVariables false
set_option linter.unusedSimpArgs false
def DU:Kd Tok:=Kd.iso (Kd.pair (Kd.int .i64) (Kd.pair (Kd.int .i64) (Kd.pair Kd.bool (Kd.pair Kd.string Kd.string)))) (fun x:Tok=>(x.kind,x.pos,x.boo,x.raw,x.str))
theorem OX{w:World}{x:Tok}{cs:List Value}(h:DU.K w x cs):cs=[.int .i64 x.kind,.int .i64 x.pos,.bool x.boo,.string x.raw,.string x.str]:=by
 obtain⟨_,_,rfl,rfl,⟨_,_,rfl,rfl,⟨_,_,rfl,rfl,⟨_,_,rfl,rfl,rfl⟩⟩⟩⟩:=h;exact rfl
theorem Tq(w:World)(base:Nat)(ok:Nat->Prop)(x:Tok):DU.M w base ok x [.int .i64 x.kind,.int .i64 x.pos,.bool x.boo,.string x.raw,.string x.str]:=
 ⟨[_],[_,_,_,_],rfl,rfl,⟨[_],[_,_,_],rfl,rfl,⟨[_],[_,_],rfl,rfl,⟨[_],[_],rfl,rfl,rfl⟩⟩⟩⟩
abbrev DV(W:World)(base:Nat)(v:Value)(xs:List Tok):Prop:=DU.R 37 W base (fun _=>True) v xs
theorem afK:(Tryz.prog.info? 37).map (fun i=>(i.zero,i.size,i.bytes))=some (some (.agg #[.int .i64 0,.int .i64 0,.bool false,.string ⟨#[]⟩,.string ⟨#[]⟩]),5,56):=by kernel_rfl
theorem XL{w0 W:World}{ops:Array Oper}{rest:List Oper}{o:Oper}{a:Act}{Q:Exit->Act->World->Prop}(hgd:o.guard=none)(s x:Operand)
 (ho:o.op= .call {callee:=.builtin .append,args:=#[s,x],argTypes:=#[33,33]}) {v:Value} {xs:List Tok} (y:Tok) (hs:a.eval s=v) (hx:a.eval x= .slice (some ⟨W.heap.size,0,none⟩) 1 1)
 (HO:DV W w0.heap.size v xs) (HB:Below w0.heap.size w0 W) (hl:xs.length<=1000000000000)
 (h:∀v1 w1,DV w1 w0.heap.size v1 (xs++[y])->Below w0.heap.size w0 w1->W.grownBy w1 v.ownBlock->wpList Tryz.prog ops Q rest (a.put o.dst v1) w1):
 wpList Tryz.prog ops Q (o::rest) a (W.alloc (.cells #[.int .i64 y.kind,.int .i64 y.pos,.bool y.boo,.string y.raw,.string y.str] 37)):=
 Kd.nJ DU (w0:=w0) w0.heap.size hgd s x 33 37 (.agg #[.int .i64 0,.int .i64 0,.bool false,.string ⟨#[]⟩,.string ⟨#[]⟩]) 56 ho Tryz.underlying33 afK rfl (by decide) (by omega) v xs y [.int .i64 y.kind,.int .i64 y.pos,.bool y.boo,.string y.raw,.string y.str] (fun _=>True) (fun _=>False) hs hx (Tq _ _ _ _) (fun _ hk=>hk.elim) (fun _ _=>trivial) HO HB HB.size (by omega)
  fun v1 w1 ho hb hg hat=>h v1 w1 ho hb hg
theorem DV.keep{W w:World}{base:Nat}{v:Value}{xs:List Tok}(h:DV W base v xs)(hk:iw W w):DV w base v xs:=by
 refine Kd.gB (Kd.wW (Kd.iR h) (fun k hk'=>?_)) (fun _ _=>trivial);obtain⟨_,_,_,q,hq,cells,hc⟩:=hk';have:q=37:=by simpa [DU,Kd.iso,Kd.pair,Kd.int,Kd.bool,Kd.string,Kd.scalar]using hq
 subst this;exact hk.2 k cells _ _ hc (by decide) (by decide)
theorem jO.adu{w0 w w1:World}{p:Nat}{T:List Int}{i:Nat}{st:List Int}{last:Int}{A:Option Addr}{c:Nat}(h:jO w0 w p T i st last A c){base:Nat}{v:Value}{xs:List Tok}(ho:DV w base v xs)(hg:w.grownBy w1 v.ownBlock)(hb:Below w0.heap.size w0 w1):jO w0 w1 p T i st last A c:=by
 obtain⟨bK,bM,bP,bQ,eF,⟨⟨Ai,r,ci,hd,hi⟩,h2⟩,hk⟩:=h;refine⟨bK,bM,bP,bQ,eF,⟨⟨Ai,r,ci,(hg.block _ (bJ hd) (Kd.xP ho hd (by decide))).trans hd,hi⟩,hb⟩,?_⟩;refine Kd.gB (Kd.wW (Kd.iR hk) (fun k hk'=>?_)) (fun _ _=>trivial);obtain⟨_,_,hlt,q,hq,cells,hc⟩:=hk';have:q=109:=by simpa [Kd.int,Kd.scalar]using hq
 subst this;exact hg.block k hlt (Kd.xP ho hc (by decide))
def Qq(t:Tok):Prop:=(t.kind≠4->t.boo=false)/\(t.kind≠16->t.kind≠32->t.str=⟨#[]⟩)
theorem BD:∀(X:List Item),Jy X->∀pos,∀t∈jV pos X,Qq t
 |[],_,_,t,ht=>absurd ht List.not_mem_nil
 |(w,.tok k)::X,h,pos,t,ht=>by
  rcases List.mem_cons.1 ht with rfl|ht
  ·have hk:nR k:=(h _ List.mem_cons_self).2
   cases hk<;>exact⟨fun h=>by first|rfl|exact absurd rfl h,fun h1 h2=>by first|rfl|exact absurd rfl h1|exact absurd rfl h2⟩
  ·exact BD X (fun j hj=>h j (List.mem_cons_of_mem _ hj)) _ t ht
 |(w,.comma)::X,h,pos,t,ht=>BD X (fun j hj=>h j (List.mem_cons_of_mem _ hj)) _ t ht
 |(w,.colon)::X,h,pos,t,ht=>BD X (fun j hj=>h j (List.mem_cons_of_mem _ hj)) _ t ht
theorem OY(w0 W:World)(p:Nat)(T:List Int)(A:Option Addr)(c:Nat)(hp:w0.heap.size<=p)(hT:vK T)(hU:Lib.Utf8Tabs 3 4 w0)(L:List Tok)(hL:∀t∈L,Qq t)(hLl:L.length<=900000000000)(i:Nat)(Y:List Item)(we st:List Int)(last:Int)(hX:fA T i Y we)(hA:Acc st last (Y.map Prod.snd))(hlo:eH last)(hst:st.length<=i)(hD:jO w0 W p T i st last A c)(hE:jV i Y=L):
 Calls Tryz.prog 22 #[.pointer (some ⟨p,0,none⟩),.slice none 0 0,.slice none 0 0] W fun e w'=>∃v1,e= .returned (.tuple #[v1,.bool true])/\DV w' w0.heap.size v1 L/\Below w0.heap.size w0 w':=by
 have HT:=ah hT;have HU:=ah hU;have HL:=ah hL;have HLl:=ah hLl;have HP:=ah hp;have H0:=ah (show∃(i:Nat)(Y:List Item)(we st:List Int)(last:Int),fA T i Y we/\Acc st last (Y.map Prod.snd)/\eH last/\st.length<=i/\jO w0 W p T i st last A c/\([]:List Tok)++jV i Y=L/\L.length=(jV i Y).length from⟨i,Y,we,st,last,hX,hA,hlo,hst,hD,hE,by rw[hE]⟩);clear hT hU hL hLl hp hX hA hlo hst hD hE;go_enter Tryz.func22,Tryz.ntmps22;go_wp2
 go_loopg [2] L.length (fun g v2 w'=>∃(done:List Tok),aC (DV w' w0.heap.size v2 done)/\aC (∃(i:Nat)(Y:List Item)(we st:List Int)(last:Int),fA T i Y we/\Acc st last (Y.map Prod.snd)/\eH last/\st.length<=i/\jO w0 w' p T i st last A c/\done++jV i Y=L/\g=(jV i Y).length))
 case atStart=>exact⟨[],⟨Kd.mP _ _ _ _ _⟩,H0⟩
 case round=>
  obtain⟨done,HO,HS⟩:=hrel;obtain⟨i,Y,we,st,last,hX,hA,hlo,hst,hD,hE,hg⟩:=HS.out;have hC:=adp w0 p T A c HP.out HT.out HU.out Y.length Y (Nat.le_refl _) i we st last wr hX hA hlo hst hD;obtain⟨A2,n2,c2,rfl⟩:=fQ HO.out
  have hn2:n2=done.length:=by
   obtain⟨A',c',e,_⟩:=Kd.jo HO.out;injection e
  subst hn2;have d0:decide ((done.length:Int)<((0:Nat):Int))=false:=bY (by omega);have d1:decide ((done.length:Int)<0)=false:=bY (by omega);have HG:=ah hg;have HEd:=ah hE;clear HS H0 hX hA hlo hst hD hg hE;cases hY:jV i Y with
  |nil=>
   rw[hY]at hC;have HC:=ah hC;have hd:done=L:=by have:=HEd.out;rw[hY,List.append_nil]at this;exact this
   subst hd;clear hC HG HEd hY
   go_wp2_with (first|(go_at_call 51;(with_reducible refine HC.out.mono ?_);rintro e w1⟨k,pos,Ar,nr,cr,b,s,j,st',hk,rfl,hd1,hk1⟩;have hk0:k=1:=hk;clear hk;subst hk0;have HD1:=ah hd1;have HK1:=ah hk1;clear hd1 hk1)|(go_at_call 52;(with_reducible refine(um _ _ _ _ _ _ _ _).mono ?_);rintro e w3⟨rfl,hb⟩;have HB3:=ah hb;clear hb))
   go_ret2
   refine⟨_,rfl,Kd.dY (Kd.dY (DV.keep HO.out HK1.out) (ak (bg _ _) _)) HB3.out,?_⟩;obtain⟨_,_,_,_,_,hdi,_⟩:=HD1.out;exact au (au hdi.be (ak (bg _ _) _)) HB3.out
  |cons t l=>
   rw[hY]at hC;have HC:=ah hC;have HEd2:=ah (show(done++[t])++l=L by have:=HEd.out;rw[hY]at this;rw[List.append_assoc];exact this);have HG2:=ah (show gk=l.length+1 by rw[HG.out,hY];rfl);have HTf:=ah (HL.out t (by rw[<-HEd2.out];simp))
   have HDl:=ah (show done.length<=1000000000000 by
    have h1:=congrArg List.length HEd2.out;have h2:=HLl.out;simp only[List.length_append]at h1;omega)
   clear hC HG HEd hY
   go_upto_region 5 with(go_at_call 51;(with_reducible refine HC.out.mono ?_);rintro e w1⟨k,pos,Ar,nr,cr,b,s,j,st',hk,rfl,hd1,hk1⟩;have HK:=ah hk;have HD1:=ah hd1;have HK1:=ah hk1;clear hk hd1 hk1)
   obtain⟨hkk,hpos,hrd,hbb,hss,hlo,hk1,hsl,Y',Bl,hX',hE',hA'⟩:=HK.out;obtain⟨w2,h2⟩:∃w2,w2=w1.alloc (.cells #[.int .u16 k,.int .i64 pos,.slice Ar nr cr,.bool b,.string s] 111):=⟨_,rfl⟩
   rw[<-h2];have hb2:Below w1.heap.size w1 w2:=by rw[h2];exact ak (bg _ _) _
   have x2:w2.heap[w1.heap.size]? =some (.cells #[.int .u16 k,.int .i64 pos,.slice Ar nr cr,.bool b,.string s] 111 (0,0)):=by rw[h2];exact aP w1 _
   obtain⟨t0,t1,t2,t3,t4⟩:=box5 x2;have HX2:=ah x2;have HB2:=ah hb2;have d2:(k==1)=false:=eqF hk1;have hkr:0<=k/\k<=1024:=by unfold eH at hlo;omega
   have HJT:=ah (fun(w3:World)(hb:Below w0.heap.size w0 w3)=>adt k pos Ar nr cr b s w3 (bytesOf t.raw) (Kd.aU hrd hb) hkr (by rw[hkk,hbb];exact HTf.out.1) (by rw[hkk,hss];exact HTf.out.2));rw[zy]at HJT;have HT4:=ah (show(⟨k,pos,t.raw,s,b⟩:Tok)=t by rw[hkk,hpos,hbb,hss]);have HN:=ah (And.intro hX' (And.intro hE' (And.intro hA' (And.intro hlo hsl))));have HO1:=ah (Kd.dY (DV.keep HO.out HK1.out) hb2);have HD2:=ah (HD1.out.below hb2);have uM:=ah (show Below w0.heap.size w0 w2 by obtain⟨_,_,_,_,_,hdi,_⟩:=HD2.out;exact hdi.be);clear h2 hb2 x2 HK hkk hpos hrd hbb hss hlo hk1 hsl hX' hE' hA' hkr HC
   go_wp2_with (first|(go_at_call 52;(with_reducible refine(um _ _ _ _ _ _ _ _).mono ?_);rintro e w3⟨rfl,hb⟩;have HB3:=ah hb;clear t0 t1 t2 t3 t4;obtain⟨t0,t1,t2,t3,t4⟩:=box5 (aI HX2.out hb);clear hb)|(go_at_call 53;(with_reducible refine(HJT.out w3 (au uM.out HB3.out)).mono ?_);rintro e w4⟨rfl,hb⟩;have HB4:=ah (au HB3.out hb);clear hb)|(at_builtin;refine XL (w0:=w0) (W:=w4) rfl (.tmp 37) (.tmp 40) rfl ⟨k,pos,t.raw,s,b⟩ rfl rfl (Kd.dY HO1.out HB4.out) (au uM.out HB4.out) HDl.out ?_;intro v5 w5 ho5 hb5 hg5;have HO5:=ah ho5;have HB5:=ah hb5;have HG5:=ah hg5;clear ho5 hb5 hg5))
   go_roundg l.length
   case measure=>have:=HG2.out;omega
   case rel=>
    have ho5:=HO5.out;rw[HT4.out]at ho5;exact⟨done++[t],⟨ho5⟩,⟨j,Y',Bl,st',k,HN.out.1,HN.out.2.2.1,HN.out.2.2.2.1,HN.out.2.2.2.2,(HD2.out.below HB4.out).adu (Kd.dY HO1.out HB4.out) HG5.out HB5.out,by rw[HN.out.2.1];exact HEd2.out,by rw[HN.out.2.1]⟩⟩
theorem iW.reads{w0 W:World}{v:Value}{d:List Int}(h:iW w0 W v d)(hB:Below w0.heap.size w0 W):∃A c,v= .slice A d.length c/\d.length<=c/\RdB W A d.length d:=by
 rcases h with h|⟨A,n,rfl,h⟩
 ·exact Kd.jo h
 ·have:=Kd.dG h
  subst this;exact⟨A,_,rfl,Nat.le_refl _,Kd.aU h hB⟩
theorem OZ:∀(X:List Item)(pos:Nat),Jy X->(jV pos X).length<=(lT X).length
 |[],_,_=>Nat.le_refl _
 |(w,x)::X,pos,h=>by
  obtain⟨c,r,e,_⟩:=Dj (h _ List.mem_cons_self).2;have e':x.raw=c::r:=e;rw[iF,List.length_append,List.length_append,e'];have ih:=fun p=>OZ X p (fun j hj=>h j (List.mem_cons_of_mem _ hj))
  simp only[List.length_cons];cases x with
  |tok t=>show(_::jV _ X).length<=_;have:=ih (pos+w.length+t.raw.size);simp only[List.length_cons];omega
  |comma=>show(jV _ X).length<=_;have:=ih (pos+w.length+1);omega
  |colon=>show(jV _ X).length<=_;have:=ih (pos+w.length+1);omega
theorem Iw(w:World)(X:List Item)(we:List Int)(Ab:Option Addr)(c:Nat)(hr:RdB w Ab (lT X++we).length (lT X++we))(hn:0<(lT X++we).length)(hT:vK (lT X++we))(hX:Jy X)(hw:CV we)(hv:lG (X.map Prod.snd))(hU:Lib.Utf8Tabs 3 4 w):
 Calls Tryz.prog 8 #[.slice Ab (lT X++we).length c] w fun e w'=>∃v1,e= .returned (.tuple #[v1,.bool true])/\DV w' w.heap.size v1 (jV 0 X)/\Below w.heap.size w w':=by
 have hA:Acc [] 0 (X.map Prod.snd):=by
  obtain⟨k,_,h⟩:=hv;have:=h [] 0 [] rfl rfl
  rwa [List.append_nil]at this
 have hTx:fA (lT X++we) 0 X we:=⟨Nat.zero_le _,rfl,hX,hw⟩;have hll:(jV 0 X).length<=900000000000:=by have:=OZ X 0 hX;have:=hT.len;rw[List.length_append]at this;omega
 have aaV:=BD X hX 0;obtain⟨T,hTe⟩:∃T,T=lT X++we:=⟨_,rfl⟩
 rw[<-hTe]at hr hn hT hTx ⊢;have HC:=ah (XK Ab T.length c T w hr hn (by have:=hT.len;omega))
 have HR:=ah (fun(w1 w2:World)(A1:Option Addr)(c1:Nat)(hb:Below w.heap.size w w1)(hc1:T.length<=c1)(hr1:RdB w1 A1 T.length T)(hD:uI w2 w1.heap.size 0 0 (.slice none 0 0) false ⟨#[]⟩ (.slice none 0 0) A1 T.length c1 (.slice A1 T.length c1))(hb2:Below w1.heap.size w1 w2)=>
  OY w1 w2 w1.heap.size T A1 c1 (Nat.le_refl _) hT (Utf8Tabs_below hU hb) (jV 0 X) aaV hll 0 X we [] 0 hTx hA (.inl rfl) (Nat.zero_le _) ⟨0,_,_,_,_,⟨⟨A1,T.length,c1,hD,⟨Nat.add_zero _,hc1,hr1⟩⟩,hb2⟩,Kd.mP _ _ _ _ _⟩ rfl)
 obtain⟨n,hn'⟩:∃n,n=T.length:=⟨_,rfl⟩
 rw[<-hn']at HC HR ⊢;have HN:=ah hn';clear hr hn hT hX hw hv hU hA hTx hll aaV hTe hn';go_enter Tryz.func8,Tryz.ntmps8
 go_wp2_with (first|(go_at_call 24;(with_reducible refine HC.out.mono ?_);rintro e w1⟨v1,rfl,ho,hb⟩;obtain⟨A1,c1,rfl,hc1,hr1⟩:=ho.reads hb;rw[<-HN.out]at hc1 hr1 ⊢;have HC1:=ah (And.intro hb (And.intro hc1 hr1));clear ho hb hc1 hr1)|(go_at_call 23;(with_reducible refine(XJ _ _ _ _).mono ?_);rintro e w2⟨rfl,hD,hb2⟩;have HD2:=ah (And.intro hD hb2);clear hD hb2)|(go_at_call 22;(with_reducible refine(HR.out w1 w2 A1 c1 HC1.out.1 HC1.out.2.1 HC1.out.2.2 HD2.out.1 HD2.out.2).mono ?_);rintro e w3⟨v3,rfl,ho3,hb3⟩;have HO3:=ah ho3;have HB3:=ah hb3;clear ho3 hb3))
 go_ret2
 exact⟨v3,rfl,Kd.oI HO3.out HC1.out.1.size,au HC1.out.1 HB3.out⟩
structure adw(S:fM)(n:Nat)(typ:Int)(m:List dD)(w0 w':World)(vb vl:Value)(X:List Item)(we:List Int):Prop where
 be:Below w0.heap.size w0 w'
 ok:Jy X
 ws:CV we
 ob:OwnB w' w0.heap.size vb (lT X++we)
 ol:wI w' w0.heap.size vl (jV 0 X)
 val:lG (X.map Prod.snd)
 mean:Vu S n typ m (tks X)
 len:(lT X++we).length<=KM*(1+2*iP n m)+100
theorem XM(S:fM)(hS:jW S)(n:Nat)(w0:World)(P:List Int)(A0:Option Addr)(c0:Nat)(A1:Option Addr)(c1:Nat)(hP:qE P)(hSR:qZ w0 S A0 c0 A1 c1)(typ:Int)(m:List dD)(A:Option Addr)(c:Nat)(AP:Option Addr)(cP:Nat)(hC:Kd.C (jh n) w0 A m.length m)(hCP:Kd.C (Kd.int .u8) w0 AP P.length P)(hF:qG S n typ m)(hs:KM*(1+2*iP n m)+100<=1000000000000):
 Calls Tryz.prog 7 #[kG S A0 c0 A1 c1,.int .i64 typ,.slice A m.length c,.slice AP P.length cP] w0 fun e w'=>∃vb vl X we,e= .returned (.tuple #[vb,vl])/\adw S n typ m w0 w' vb vl X we:=by
 obtain⟨W1,hW1⟩:∃W1,W1=(w0.alloc (.cells #[.slice A0 S.ms.length c0,.slice A1 S.es.length c1] 25)).alloc (.cells #[.slice none 0 0,.slice AP P.length cP,.int .i64 0,.slice none 0 0] 55):=⟨_,rfl⟩
 have hB1:Below w0.heap.size w0 W1:=by rw[hW1];exact ak (ak (bg _ _) _) _
 have hx1:W1.heap[w0.heap.size]? =some (.cells #[.slice A0 S.ms.length c0,.slice A1 S.es.length c1] 25 (0,0)):=by rw[hW1];exact bn (aP w0 _) _
 have hx2:W1.heap[w0.heap.size+1]? =some (.cells #[.slice none 0 0,.slice AP P.length cP,.int .i64 0,.slice none 0 0] 55 (0,0)):=by
  rw[hW1];have:=aP (w0.alloc (.cells #[.slice A0 S.ms.length c0,.slice A1 S.es.length c1] 25)) (.cells #[.slice none 0 0,.slice AP P.length cP,.int .i64 0,.slice none 0 0] 55)
  simpa using this
 have hj1:nX w0 W1 (w0.heap.size+1) P ⟨0,[],[]⟩ (.slice none 0 0) (.slice none 0 0):=⟨⟨AP,cP,hx2,by omega,hCP⟩,Kd.mP _ _ _ _ _,Kd.mP _ _ _ _ _,hB1⟩;have z1:W1.cell? ⟨w0.heap.size,0,none⟩=some (.slice A0 S.ms.length c0):=(aA hx1 0).trans rfl;have z2:W1.cell? ⟨w0.heap.size,1,none⟩=some (.slice A1 S.es.length c1):=(aA hx1 1).trans rfl;have HPt:=ah ((parts_all S hS w0 (w0.heap.size+1) P A0 c0 A1 c1 hP hSR n).1 typ m A c W1 ⟨0,[],[]⟩ _ _ hC hF (by simp only[WS.sz,List.length_nil];omega) hj1);have HP:=ah hP;have kQ:=ah hs;have HW1:=ah hW1;clear hW1 hB1 hx1 hx2 hj1 hP hSR hC hCP hF hs hS;go_enter Tryz.func7,Tryz.ntmps7
 go_upto_region 2 with fail
 rw[<-HW1.out];clear HW1
 go_upto_region 3 with(go_at_call 20;(with_reducible refine HPt.out.mono ?_);rintro e w1⟨rfl,ho⟩;have HO:=ah ho;clear ho)
 obtain⟨s1,X,vb,vl,hj1,hk1,hst1,hq1⟩:=HO.out;have hb:=hst1.sz;simp only[WS.sz,List.length_nil]at hb;have HB1:=ah (show s1.sz<=1000000000000 by have:=kQ.out;simp only[WS.sz];omega);have Fa:=ah (PD w0 w1 (w0.heap.size+1) P s1 vb vl HP.out HB1.out hj1);have HS1:=ah hst1;have HQ1:=ah hq1;clear z1 z2 hb hj1 hk1 hst1 hq1 HO HPt
 go_upto_region 4 with(go_at_call 21;(with_reducible refine Fa.out.mono ?_);rintro e w2⟨rfl,ho,hk⟩;have HO2:=ah ho;clear ho hk)
 obtain⟨vb2,vl2,hj2⟩:=HO2.out;obtain⟨A3,c3,z1,z2,z3,z4,_⟩:=hj2.jw.cells;have HJ2:=ah hj2;have HWs:=ah (CW HP.out s1.a);clear hj2 HO2 Fa z2 z3;go_wp2
 go_quiet (fail)
 go_wp2
 go_ret2
 have hl:=HS1.out.l;have hbb:=HS1.out.b;have hj:=HJ2.out;refine⟨vb2,vl2,X,eP (dK P s1.a 8),rfl,aS hj.be _,HS1.out.ok,HWs.out.1,?_,?_,HQ1.out.1,HQ1.out.2,?_⟩
 ·have h1:=hj.ob
  rw[show(Em P s1).b=lT X++eP (dK P s1.a 8)by show s1.b++_=_;rw[hbb];rfl]at h1;exact Kd.Pj h1 _
 ·have h1:=hj.ol
  rw[show(Em P s1).l=jV 0 X by show s1.l=_;rw[hl];rfl]at h1;exact Kd.Pj h1 _
 ·have h1:=HS1.out.sz
  have h2:=kQ.out;have h3:=HWs.out.2;simp only[WS.sz,List.length_nil]at h1;rw[hbb]at h1;rw[List.length_append];simp only[List.length_append,List.length_nil]at h1;omega
theorem ady:(Tryz.prog.info? 39).map (fun i=>(i.zero,i.size,i.bytes))=some (some (.agg #[.int .i64 0,.int .i64 0,.string ⟨#[]⟩,.string ⟨#[]⟩,.bool false]),5,56):=by kernel_rfl
theorem Tt(w:World)(base:Nat)(ok:Nat->Prop)(x:Tok):uG.M w base ok x [.int .i64 x.kind,.int .i64 x.pos,.string x.raw,.string x.str,.bool x.boo]:=
 ⟨[_],[_,_,_,_],rfl,rfl,⟨[_],[_,_,_],rfl,rfl,⟨[_],[_,_],rfl,rfl,⟨[_],[_],rfl,rfl,rfl⟩⟩⟩⟩
theorem adz{B:Nat}{W:World}{ops:Array Oper}{rest:List Oper}{o:Oper}{a:Act}{Q:Exit->Act->World->Prop}(hgd:o.guard=none)(s x:Operand)
 (ho:o.op= .call {callee:=.builtin .append,args:=#[s,x],argTypes:=#[30,30]}) {v:Value} {xs:List Tok} (y:Tok) (hs:a.eval s=v) (hx:a.eval x= .slice (some ⟨W.heap.size,0,none⟩) 1 1)
 (HO:wI W B v xs) (hB:B<=W.heap.size) (hl:xs.length<=1000000000000)
 (h:∀v1 w1,wI w1 B v1 (xs++[y])->Below B W w1->wpList Tryz.prog ops Q rest (a.put o.dst v1) w1):
 wpList Tryz.prog ops Q (o::rest) a (W.alloc (.cells #[.int .i64 y.kind,.int .i64 y.pos,.string y.raw,.string y.str,.bool y.boo] 39)):=
 Kd.nJ uG (w0:=W) B hgd s x 30 39 _ 56 ho Tryz.underlying30 ady rfl (by decide) (by omega) v xs y [.int .i64 y.kind,.int .i64 y.pos,.string y.raw,.string y.str,.bool y.boo] (fun _=>True) (fun _=>False) hs hx (Tt _ _ _ _) (fun _ hk=>hk.elim) (fun _ _=>trivial) HO (bg _ _) hB (by omega)
  fun v1 w1 ho hb hg hat=>h v1 w1 ho hb
theorem cells5{W:World}{k:Nat}{u0 u1 u2 u3 u4:Value}{t:TypeId}(h:W.heap[k]? =some (.cells #[u0,u1,u2,u3,u4] t (0,0))):
 W.cell? ⟨k,0,none⟩=some u0/\W.cell? ⟨k,1,none⟩=some u1/\W.cell? ⟨k,2,none⟩=some u2/\W.cell? ⟨k,3,none⟩=some u3/\W.cell? ⟨k,4,none⟩=some u4:=
 ⟨(aA h 0).trans rfl,(aA h 1).trans rfl,(aA h 2).trans rfl,(aA h 3).trans rfl,(aA h 4).trans rfl⟩
theorem take_snoc{α:Type}{l:List α}{i:Nat}{x:α}(h:l[i]? =some x):l.take (i+1)=l.take i++[x]:=by
 rw[List.take_add_one,h];rfl
theorem afL{W:World}{A:Option Addr}{n:Nat}{L:List Tok}{i:Nat}{u:Tok}(h:Kd.C DU W A n L)(hu:L[i]? =some u):∃ad,A=some ad/\∀Wx:World,Below W.heap.size W Wx->Wx.cell? (ad.add (i*5))=some (.int .i64 u.kind)/\Wx.cell? ⟨(ad.add (i*5)).block,(ad.add (i*5)).off+1,none⟩=some (.int .i64 u.pos)/\Wx.cell? ⟨(ad.add (i*5)).block,(ad.add (i*5)).off+2,none⟩=some (.bool u.boo)/\Wx.cell? ⟨(ad.add (i*5)).block,(ad.add (i*5)).off+3,none⟩=some (.string u.raw)/\Wx.cell? ⟨(ad.add (i*5)).block,(ad.add (i*5)).off+4,none⟩=some (.string u.str):=by
 obtain⟨ad,_,rfl,_,_⟩:=yO h hu;refine⟨ad,rfl,fun Wx hb=>?_⟩;obtain⟨ad',cs,e,hKd,hcc⟩:=yO (Kd.aU h hb) hu;cases e;rw[show DU.sz=5 from rfl]at hcc;obtain rfl:=OX hKd;exact⟨hcc 0 _ rfl,by rw[<-dH _ _ 1 (by omega)];exact hcc 1 _ rfl,by rw[<-dH _ _ 2 (by omega)];exact hcc 2 _ rfl,by rw[<-dH _ _ 3 (by omega)];exact hcc 3 _ rfl,by rw[<-dH _ _ 4 (by omega)];exact hcc 4 _ rfl⟩
theorem afM{W:World}{A:Option Addr}{n:Nat}{L:List Tok}{i:Nat}{u:Tok}(h:Kd.C uG W A n L)(hu:L[i]? =some u):∃ad,A=some ad/\∀Wx:World,Below W.heap.size W Wx->Wx.cell? (ad.add (i*5))=some (.int .i64 u.kind)/\Wx.cell? ⟨(ad.add (i*5)).block,(ad.add (i*5)).off+1,none⟩=some (.int .i64 u.pos)/\Wx.cell? ⟨(ad.add (i*5)).block,(ad.add (i*5)).off+2,none⟩=some (.string u.raw)/\Wx.cell? ⟨(ad.add (i*5)).block,(ad.add (i*5)).off+3,none⟩=some (.string u.str)/\Wx.cell? ⟨(ad.add (i*5)).block,(ad.add (i*5)).off+4,none⟩=some (.bool u.boo):=by
 obtain⟨ad,_,rfl,_,_⟩:=yO h hu;refine⟨ad,rfl,fun Wx hb=>?_⟩;obtain⟨ad',cs,e,hKd,hcc⟩:=yO (Kd.aU h hb) hu;cases e;rw[show uG.sz=5 from rfl]at hcc;obtain rfl:=yR hKd;exact⟨hcc 0 _ rfl,by rw[<-dH _ _ 1 (by omega)];exact hcc 1 _ rfl,by rw[<-dH _ _ 2 (by omega)];exact hcc 2 _ rfl,by rw[<-dH _ _ 3 (by omega)];exact hcc 3 _ rfl,by rw[<-dH _ _ 4 (by omega)];exact hcc 4 _ rfl⟩
theorem aag{X:List Item}(h:Jy X):∀x∈lT X,0<=x/\x<=255:=by
 intro x hx;obtain⟨i,hi,hm⟩:=List.mem_flatMap.1 hx;rcases List.mem_append.1 hm with hm|hm
 ·have:=(h i hi).1 x hm;omega
 ·obtain⟨ws,l⟩:=i
  cases l with
  |tok t=>exact gV t.raw x hm
  |comma=>have:x=44:=by simpa [Lex.raw]using hm
          omega
  |colon=>have:x=58:=by simpa [Lex.raw]using hm
          omega
theorem afN(N:Nat)(ms:List MT)(es:List ET)(A0:Option Addr)(c0:Nat)(A1:Option Addr)(c1:Nat)(typ:Int)(m:List dD)(A:Option Addr)(c:Nat)(P:List Int)(AP:Option Addr)(cP:Nat)(w:World)(hA:Args w N ms es A0 c0 A1 c1 m A)(hP:qE P)(hCP:Kd.C (Kd.int .u8) w AP P.length P)(hU:Lib.Utf8Tabs 3 4 w):
 Calls Tryz.prog 3 #[kG ⟨ms,es⟩ A0 c0 A1 c1,.int .i64 typ,.slice A m.length c,.slice AP P.length cP] w fun e w'=>e= .returned (.bool true)/\Below w.heap.size w w':=by
 obtain⟨W1,hW1⟩:∃W1,W1=w.alloc (.cells #[.slice A0 ms.length c0,.slice A1 es.length c1] 25):=⟨_,rfl⟩
 have hb1:Below w.heap.size w W1:=by rw[hW1];exact ak (bg _ _) _
 have hx1:W1.heap[w.heap.size]? =some (.cells #[.slice A0 ms.length c0,.slice A1 es.length c1] 25 (0,0)):=by rw[hW1];exact aP w _
 have HX:=ah (fun(Wx:World)(hb:Below W1.heap.size W1 Wx)=>And.intro ((aA (aI hx1 hb) 0).trans (rfl:_=some (Value.slice A0 ms.length c0))) ((aA (aI hx1 hb) 1).trans (rfl:_=some (Value.slice A1 es.length c1))));have hA1:=hA.below hb1;have AL:=ah (abf ms es A0 c0 A1 c1 W1 hA1.sr.ms hA1.sr.es);have HA:=ah (fun(Wx:World)(hb:Below W1.heap.size W1 Wx)=>hA1.below hb);have HP:=ah hP;have Iy:=ah (fun(Wx:World)(hb:Below W1.heap.size W1 Wx)=>Kd.aU (Kd.aU hCP hb1) hb);have HU:=ah (fun(Wx:World)(hb:Below W1.heap.size W1 Wx)=>Utf8Tabs_below (Utf8Tabs_below hU hb1) hb);have HB1:=ah hb1;have HW1:=ah hW1;obtain⟨z0,z1⟩:=HX.out W1 (bg _ _);clear hA hA1 hb1 hx1 hW1 hP hCP hU;go_enter Tryz.func3,Tryz.ntmps3
 go_upto_region 1 with fail
 rw[<-HW1.out];clear HW1
 by_cases hm:m.length<=2147483647
 case neg=>
  have q1:=qW hm;cases hf:fit1 ms es
  ·go_wp2_with (go_at_call 5;(with_reducible refine AL.out.mono ?_);rw[hf];rintro e w2⟨rfl,hb⟩;have HB2:=ah hb;clear hb)
   go_ret
   exact⟨rfl,au HB1.out HB2.out⟩
  ·go_wp2_with (go_at_call 5;(with_reducible refine AL.out.mono ?_);rw[hf];rintro e w2⟨rfl,hb⟩;have HB2:=ah hb;clear hb)
   go_ret
   exact⟨rfl,au HB1.out HB2.out⟩
 case pos=>
  have q1:=qV hm
  by_cases hp:P.length<=2147483647
  case neg=>
   have q2:=qW hp;cases hf:fit1 ms es
   ·go_wp2_with (go_at_call 5;(with_reducible refine AL.out.mono ?_);rw[hf];rintro e w2⟨rfl,hb⟩;have HB2:=ah hb;clear hb)
    go_ret
    exact⟨rfl,au HB1.out HB2.out⟩
   ·go_wp2_with (go_at_call 5;(with_reducible refine AL.out.mono ?_);rw[hf];rintro e w2⟨rfl,hb⟩;have HB2:=ah hb;clear hb)
    go_ret
    exact⟨rfl,au HB1.out HB2.out⟩
  case pos=>
   have q2:=qV hp;cases hf:fit1 ms es
   ·go_wp2_with (go_at_call 5;(with_reducible refine AL.out.mono ?_);rw[hf];rintro e w2⟨rfl,hb⟩;have HB2:=ah hb;clear hb)
    go_ret
    exact⟨rfl,au HB1.out HB2.out⟩
   ·go_upto_region 3 with(go_at_call 5;(with_reducible refine AL.out.mono ?_);rw[hf];rintro e w2⟨rfl,hb⟩;have HB2:=ah hb;clear hb)
    clear z0 z1;obtain⟨z0,z1⟩:=HX.out w2 HB2.out;have HJf:=ah (LH N ms es A0 c0 A1 c1 typ m A c w2 (HA.out _ HB2.out) hf)
    by_cases h2:P.length<=2000
    case neg=>
     have q3:decide ((2000:Int)<(P.length:Int))=true:=bZ (by omega)
     go_wp2_with (go_at_call 6;(with_reducible refine HJf.out.mono ?_);rintro e w3⟨b3,rfl,hq,hb⟩;have HB3:=ah (au HB2.out hb);clear hq hb;cases b3)
     ·go_ret
      exact⟨rfl,au HB1.out HB3.out⟩
     ·go_ret
      exact⟨rfl,au HB1.out HB3.out⟩
    case pos=>
     have q3:decide ((2000:Int)<(P.length:Int))=false:=bY (by omega)
     go_upto_region 5 with(go_at_call 6;(with_reducible refine HJf.out.mono ?_);rintro e w3⟨b3,rfl,hq,hb⟩;have HB3:=ah (au HB2.out hb);have HQ:=ah hq;clear hq hb;cases b3)
     ·go_wp2
      go_ret
      exact⟨rfl,au HB1.out HB3.out⟩
     ·have hF2:Fit2 N ms es typ m:=HQ.out (by first|rfl|trivial)
      have hA3:=HA.out _ HB3.out;have hFN:=oZ.fit 20 hF2.fit;have hFM:=Ql hA3.n20 hFN;have hcnt:iP N m<=2000:=by rw[Qn 20 N hA3.n20 hFN];exact hF2.cnt
      have HKM:=ah (show KM*(1+2*iP N m)+100<=500000000000 by unfold KM;omega);have HWr:=ah (XM ⟨ms,es⟩ hF2.sch N w3 P A0 c0 A1 c1 HP.out hA3.sr typ m A c AP cP hA3.hm (Iy.out _ HB3.out) hFM (by have:=HKM.out;omega));have HF2:=ah hF2;have HFN:=ah hFN;have HFM:=ah hFM;have HN20:=ah hA3.n20;have akH:=ah (show iP N m<=2000 from hcnt);clear z0 z1 hF2 hA3 hFN hFM hcnt HJf AL HQ q1 q2 q3 hm hp h2 hf;obtain⟨z0,z1⟩:=HX.out w3 HB3.out
      go_upto_region 6 with(go_at_call 7;(with_reducible refine HWr.out.mono ?_);rintro e w4⟨vb,vl,X,we,rfl,ho⟩;have HO:=ah ho;clear ho)
      obtain⟨Ab,cb,hvb⟩:=Kd.fC HO.out.ob;obtain⟨Al,cl,hvl⟩:=Kd.fC HO.out.ol;subst hvb hvl;have HB4:=ah (au HB3.out HO.out.be);obtain⟨_,_,hrd⟩:=Kd.iM HO.out.ob;obtain⟨_,_,hrl⟩:=Kd.iM HO.out.ol;have HRl:=ah hrl;have hlx:=OZ X 0 HO.out.ok;have hlen:=HO.out.len;have HLL:=ah (show(jV 0 X).length<=500000000000 by have:=HKM.out;rw[List.length_append]at hlen;omega)
      have hne:0<(jV 0 X).length:=by
       obtain⟨ts',cc,e,_⟩:=Lu HO.out.mean;have:=congrArg List.length (WV X 0);rw[e,List.length_map,List.length_append]at this;simp only[List.length_cons]at this;omega
      have HT:=ah (show vK (lT X++we)from⟨fun x hx=>(List.mem_append.1 hx).elim (aag HO.out.ok x) (fun h=>by have:=HO.out.ws x h;omega),by have:=HKM.out;omega⟩);have oC:=ah (Iw w4 X we Ab cb hrd (by rw[List.length_append];omega) HT.out HO.out.ok HO.out.ws HO.out.val (HU.out _ HB4.out));clear hrd hrl hlx hlen hne z0 z1;obtain⟨nT,hnT⟩:∃nT,nT=(lT X++we).length:=⟨_,rfl⟩
      rw[<-hnT]at oC ⊢;clear hnT;obtain⟨n,hn⟩:∃n,n=(jV 0 X).length:=⟨_,rfl⟩
      have yu:=ah hn;obtain⟨L,hL⟩:∃L,L=jV 0 X:=⟨_,rfl⟩
      have Aw:=ah hL;rw[<-hL]at HLL oC HRl hn yu;rw[<-hL,<-hn];rw[<-hn]at HLL HRl;clear hn hL;obtain⟨z0,z1⟩:=HX.out w4 HB4.out
      go_upto_region 7 with(go_at_call 8;(with_reducible refine oC.out.mono ?_);rintro e w5⟨v5,rfl,ho,hb⟩;have HO5:=ah ho;have HB5:=ah hb;clear ho hb)
      obtain⟨A5,c5,hv5⟩:=Kd.fC HO5.out;subst hv5;obtain⟨_,_,hr5⟩:=Kd.iM HO5.out;rw[<-yu.out]at hr5 ⊢;have HR5:=ah hr5;have HRl5:=ah (Kd.aU HRl.out HB5.out);have HB15:=ah (au HB4.out HB5.out);clear hr5 z0 z1;go_wp2
      go_loopg [13,66] n (fun g v13 v66 w'=>∃i:Nat,v66= .int .i64 i/\i+g=n/\aC (wI w' w5.heap.size v13 (L.take i))/\aC (Below w5.heap.size w5 w'))
      case atStart=>exact⟨0,rfl,by omega,⟨Kd.mP _ _ _ _ _⟩,⟨bg _ _⟩⟩
      case round=>
       obtain⟨i,rfl,hg,HOw,HB⟩:=hrel;cases gk with
       |succ g=>
        obtain⟨u,hu⟩:=bF (show i<L.length by rw[<-yu.out];omega);obtain⟨aj,eJ,hJ⟩:=afL HR5.out hu.out;obtain⟨at_,eT,hT⟩:=afM HRl5.out hu.out;subst eJ eT;have HJ:=ah hJ;have HT2:=ah hT;obtain⟨Wb,hWb⟩:∃Wb,Wb=wr.alloc (.cells #[.int .i64 u.kind,.int .i64 u.pos,.bool u.boo,.string u.raw,.string u.str] 37):=⟨_,rfl⟩
        obtain⟨Wc,hWc⟩:∃Wc,Wc=Wb.alloc (.cells #[.int .i64 u.kind,.int .i64 u.pos,.string u.raw,.string u.str,.bool u.boo] 39):=⟨_,rfl⟩
        have hbb:Below wr.heap.size wr Wb:=by rw[hWb];exact ak (bg _ _) _
        have hbc:Below Wb.heap.size Wb Wc:=by rw[hWc];exact ak (bg _ _) _
        have hsb:Wb.heap.size=wr.heap.size+1:=by rw[hWb];simp
        have kb:Wb.heap[wr.heap.size]? =some (.cells #[.int .i64 u.kind,.int .i64 u.pos,.bool u.boo,.string u.raw,.string u.str] 37 (0,0)):=by rw[hWb];exact aP wr _
        have kc:Wc.heap[Wb.heap.size]? =some (.cells #[.int .i64 u.kind,.int .i64 u.pos,.string u.raw,.string u.str,.bool u.boo] 39 (0,0)):=by rw[hWc];exact aP Wb _
        have HBb:=ah (au HB.out hbb);have HBc:=ah (au HBb.out hbc);have ZH:=ah (And.intro (cells5 kb) (And.intro (cells5 (aI kb hbc)) (cells5 kc)));have HWb:=ah hWb;have HWc:=ah hWc;have HG:=ah hg;have Bg:=ah hsb
        have HOc:=ah (show wI Wc w5.heap.size u13 (L.take i)by
         have h1:wI Wb w5.heap.size u13 (L.take i):=by rw[hWb];exact Kd.kX HOw.out _
         rw[hWc];exact Kd.kX h1 _)
        obtain⟨j0,j1,j2,j3,j4⟩:=hJ wr HB.out;have hin:(i:Int)<(n:Int):=by omega
        clear hJ hT hWb hWc hbb hbc kb kc hsb hg
        go_upto_region 13 with fail
        rw[<-HWb.out];clear j0 j1 j2 j3 j4;obtain⟨j0,j1,j2,j3,j4⟩:=HT2.out Wb HBb.out
        go_upto_region 14 with fail
        rw[<-HWc.out];clear j0 j1 j2 j3 j4;obtain⟨⟨j0,j1,j2,j3,j4⟩,⟨k0,k1,k2,k3,k4⟩⟩:=ZH.out.2;have HO2:=ah (show(L.take i).length<=1000000000000 by rw[List.length_take];have:=HLL.out;omega);have HTs:=ah (take_snoc hu.out);obtain⟨A13,n13,c13,rfl⟩:∃A n c,u13= .slice A n c:=by obtain⟨A,c,e⟩:=Kd.fC HOc.out;exact⟨A,_,c,e⟩
        have HSw:=ah (HBc.out.size)
        go_wp2_with (at_builtin;refine adz (B:=w5.heap.size) (W:=Wc) (v:=.slice A13 n13 c13) (xs:=L.take i) rfl (.tmp 108) (.tmp 120) rfl u rfl rfl HOc.out HSw.out HO2.out ?_;intro v1 w6 ho hb;have HO6:=ah ho;have HB6:=ah (HBc.out.trans hb);clear ho hb)
        go_roundg g
        case measure=>omega
        case rel=>
         exact⟨i+1,by simp;unfold wrap64;have:=HLL.out;have:=HG.out;omega,by have:=HG.out;omega,⟨by rw[HTs.out];exact HO6.out⟩,HB6⟩
       |zero=>
        obtain rfl:i=n:=by omega
        clear hg;obtain⟨A13,c13,hv⟩:=Kd.fC HOw.out;subst hv;have hrd13:=(Kd.iM HOw.out).2.2;rw[List.take_of_length_le (by rw[<-yu.out];exact Nat.le_refl _)]at hrd13 ⊢;have adA:=ah (au HB15.out HB.out);have HMo:=ah (LC ⟨ms,es⟩ HF2.out.sch HF2.out.en HF2.out.nm HF2.out.fu A0 c0 A1 c1 A13 c13 L wr (HA.out _ adA.out).sr typ m 20 N (Nat.le_refl _) HF2.out.fit (ZL HN20.out HF2.out.key) (by rw[Aw.out,WV];exact HO.out.mean) hrd13 (by have:=HLL.out;rw[<-yu.out];omega));rw[<-yu.out]at HMo ⊢;clear hrd13;obtain⟨z0,z1⟩:=HX.out wr adA.out
        go_upto_region 19 with(go_at_call 9;(with_reducible refine HMo.out.mono ?_);rintro e w6⟨Am,cm,rfl,hc,hb⟩;have HC6:=ah hc;have HB6:=ah (au adA.out hb);clear hc hb)
        have HA6:=HA.out _ HB6.out;have HAl:=ah (SA ⟨ms,es⟩ HF2.out.sch w6 A0 c0 A1 c1 HA6.sr N typ m Am cm A c w6 (by rw[Qm 20 N HN20.out HFN.out];exact WH HN20.out HC6.out) HA6.hm HFM.out (bg _ _));clear HA6 z0 z1;obtain⟨z0,z1⟩:=HX.out w6 HB6.out
        go_wp2_with (go_at_call 10;(with_reducible refine HAl.out.mono ?_);rintro e w7⟨rfl,hb⟩;have HB7:=ah (au HB6.out hb);clear hb)
        go_ret
        exact⟨rfl,au HB1.out HB7.out⟩
end Go.Proofs.YtapkmjfjikpnlaaGreatDoor
