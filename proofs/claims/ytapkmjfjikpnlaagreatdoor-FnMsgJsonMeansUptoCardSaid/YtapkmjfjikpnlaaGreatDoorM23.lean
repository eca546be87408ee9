/- A part of FnMsgJsonMeans. No conditions. -/
import Derived.Test.YtapkmjfjikpnlaaGreatDoorM22
import Derived.StillTailTactics
set_option maxHeartbeats 8000000
set_option maxRecDepth 100000
namespace Go.Proofs.YtapkmjfjikpnlaaGreatDoor
open Go.RowKit YtapkmjfjikpnlaaGreatDoorW.aG YtapkmjfjikpnlaaGreatDoorW.aJ
set_option linter.unusedVariables false
set_option linter.unusedSimpArgs false
theorem vM(X:List Item):tks X=(X.map Prod.snd).flatMap Lex.tk:=by
 unfold tks
 induction X with
 |nil=>rfl
 |cons i X ih=>simp[List.flatMap_cons,ih]
theorem yB(w0 W:World)(p:Nat)(P:List Int)(s:WS)(vb vl:Value)(t:TK)(pos:Int)(raw:ByteArray)(hP:qE P)(ht:nR t)(hs:s.sz+(6+t.raw.size)<=1000000000000)(h:nX w0 W p P s vb vl):
 Calls Tryz.prog 44 #[.pointer (some ⟨p,0,none⟩),.agg #[.int .i64 t.kind,.int .i64 pos,.string raw,.string t.str,.bool t.boo],.string t.raw] W (vJ w0 W p P s (6+t.raw.size) fun X=>X.map Prod.snd=[.tok t]):=by
 have h1:=rZ hP s t ht;refine(wz w0 W p P s vb vl t.kind pos raw t.str t.raw t.boo hP (Nat.le_trans h1.sz hs) h).mono ?_;rintro e w1⟨rfl,⟨vT,Gw,h3⟩,h4⟩;exact⟨rfl,_,_,vT,Gw,h3,h4,h1,rfl⟩
theorem Hf(w0 W:World)(p:Nat)(P:List Int)(s:WS)(vb vl:Value)(i:Nat)(hP:qE P)(hs:s.sz<=1000000000000)(h:nX w0 W p P s vb vl):
 Calls Tryz.prog 45 #[.pointer (some ⟨p,0,none⟩),.int .i64 i] W (vJ w0 W p P s 6 fun X=>X.map Prod.snd=wM i):=by
 obtain⟨X,h1,h2⟩:=Nh hP s i;refine(Yw w0 W p P s vb vl i hP hs h).mono ?_;rintro e w1⟨rfl,⟨vT,Gw,h3⟩,h4⟩;exact⟨rfl,_,X,vT,Gw,h3,h4,h1,h2⟩
theorem NQ(x:ByteArray):(camel x).size<=x.size:=by
 have:=MR (bytesOf x) false;rw[bytesOf_length]at this;unfold camel;rw[strOfNums_size];exact this
theorem PX(w0 W:World)(p:Nat)(P:List Int)(s:WS)(vb vl:Value)(x:ByteArray)(hP:qE P)(hx:x.size<=1100000)(hv:dh (bytesOf x)=true)(hv2:dh (bytesOf (camel x))=true)(hs:s.sz+(21*x.size+30)<=1000000000000)(h:nX w0 W p P s vb vl):
 Calls Tryz.prog 47 #[.pointer (some ⟨p,0,none⟩),.string x] W (vJ w0 W p P s (21*x.size+30) fun X=>∃raw y,X.map Prod.snd=[.tok ⟨32,raw,y,false⟩,.colon]/\(y=x∨y=camel x)):=by
 have hc:=NQ x;have h0:=dX P s.a;obtain⟨y,hy⟩:∃y,y=(if dK P s.a 3=0 then x else camel x):=⟨_,rfl⟩
 have hy2:y=x∨y=camel x:=by rw[hy];split<;>simp
 have hyv:dh (bytesOf y)=true:=by rcases hy2 with h|h<;>rw[h]<;>assumption
 have hys:y.size<=x.size:=by rcases hy2 with h|h<;>rw[h]<;>omega
 obtain⟨raw,h1,h2⟩:=yw hP (qK (dB P s.a) s) 32 (.inr rfl) y hyv;have h5:=(oN P s (a':=dB P s.a) (K:=1) h0.1 (by omega)).trans (h1.trans (zl hP (uY P 32 y (qK (dB P s.a) s)) 58 .colon rfl (.inr rfl)));have hn:uZ P x s=zQ 58 (Em P (uY P 32 y (qK (dB P s.a) s))):=by unfold uZ keyS;rw[<-hy]
 refine(YA w0 W p P s vb vl x hP (by omega) (by omega) hv hv2 (by rw[hn];exact Nat.le_trans h5.sz (by omega)) h).mono ?_;rintro e w1⟨rfl,⟨vT,Gw,h3⟩,h4⟩;rw[hn]at h3;exact⟨rfl,_,_,vT,Gw,h3,h4,h5.mono (by omega),raw,y,rfl,hy2⟩
def RI(V:Val->List TK->Prop)(l:List Val)(i:Nat)(X:List Item):Prop:=∃o B L,X.map Prod.snd= .tok o::B/\o.kind=256/\IB 256 i B/\B.flatMap Lex.tk=L.flatten/\All2 V (l.take i) L
theorem NR(i:Nat):(wM i).flatMap Lex.tk=[]:=by unfold wM;split<;>rfl
theorem qx{α:Type}{l:List α}{i:Nat}{v:α}(h:l[i]? =some v):l.take (i+1)=l.take i++[v]:=by
 obtain⟨hi,hv⟩:=List.getElem?_eq_some_iff.1 h;rw[List.take_succ_eq_append_getElem hi,hv]
theorem RI.step{V:Val->List TK->Prop}{l:List Val}{i:Nat}{v:Val}{X Y Z:List Item}(hv:l[i]? =some v)(h:RI V l i X)(hY:Y.map Prod.snd=wM i)(hZ:lG (Z.map Prod.snd))(hV:V v (tks Z)):RI V l (i+1) ((X++Y)++Z):=by
 obtain⟨o,B,L,h1,h2,h3,h4,h5⟩:=h;refine⟨o,B++(wM i++Z.map Prod.snd),L++[tks Z],?_,h2,h3.arr hZ,?_,?_⟩
 ·rw[List.map_append,List.map_append,h1,hY];simp
 ·rw[List.flatMap_append,List.flatMap_append,NR,h4,<-vM];simp
 ·rw[qx hv];exact h5.snoc hV
theorem RI.last{S:fM}{V:FT->Val->List TK->Prop}{t:FT}{l:List Val}{X Y:List Item}{c:TK}(hm:t.map=false)(hr:t.rep=true)(h:RI (V t) l l.length X)(hY:Y.map Prod.snd=[.tok c])(hc:c.kind=512):lG ((X++Y).map Prod.snd)/\AA S V t l (tks (X++Y)):=by
 obtain⟨o,B,L,h1,h2,h3,h4,h5⟩:=h;refine⟨?_,.inr (.inr (.inl ⟨hm,hr,o,c,L,h2,hc,?_,?_⟩))⟩
 ·rw[List.map_append,h1,hY];exact h3.Zg h2 hc
 ·rw[vM,List.map_append,h1,hY,List.flatMap_append]
  show[o]++B.flatMap Lex.tk++[c]=_;rw[h4];simp
 ·rw[List.take_length]at h5;exact h5
structure Bx2(W:World)(k1 k2:Nat)(S:fM)(A0:Option Addr)(c0:Nat)(A1:Option Addr)(c1:Nat)(t:FT):Prop where
 b1:W.heap[k1]? =some (.cells #[.slice A0 S.ms.length c0,.slice A1 S.es.length c1] 25 (0,0))
 b2:W.heap[k2]? =some (.cells #[.string t.name,.int .i64 t.num,.int .i64 t.kind,.bool t.rep,.bool t.map,.int .i64 t.typ] 70 (0,0))
section
variable{W W':World}{k1 k2:Nat}{S:fM}{A0:Option Addr}{c0:Nat}{A1:Option Addr}{c1:Nat}{t:FT}
theorem Bx2.keep(h:Bx2 W k1 k2 S A0 c0 A1 c1 t)(hk:bD W W'):Bx2 W' k1 k2 S A0 c0 A1 c1 t:=
 ⟨hk.cell h.b1 (by decide) (by decide) (by decide),hk.cell h.b2 (by decide) (by decide) (by decide)⟩
theorem Bx2.cells(h:Bx2 W k1 k2 S A0 c0 A1 c1 t):
 W.cell? ⟨k1,0,none⟩=some (.slice A0 S.ms.length c0)/\W.cell? ⟨k1,1,none⟩=some (.slice A1 S.es.length c1)/\W.cell? ⟨k2,0,none⟩=some (.string t.name)/\W.cell? ⟨k2,1,none⟩=some (.int .i64 t.num)/\W.cell? ⟨k2,2,none⟩=some (.int .i64 t.kind)/\W.cell? ⟨k2,3,none⟩=some (.bool t.rep)/\W.cell? ⟨k2,4,none⟩=some (.bool t.map)/\W.cell? ⟨k2,5,none⟩=some (.int .i64 t.typ):=
 ⟨(aA h.b1 0).trans rfl,(aA h.b1 1).trans rfl,(aA h.b2 0).trans rfl,(aA h.b2 1).trans rfl,(aA h.b2 2).trans rfl,(aA h.b2 3).trans rfl,(aA h.b2 4).trans rfl,(aA h.b2 5).trans rfl⟩
end
theorem lW.to{w0 W w1 w':World}{p:Nat}{P:List Int}{s:WS}{K:Nat}{Q:List Item->Prop}(hk:bD W w1)(h:lW w0 w1 w' p P s K Q):lW w0 W w' p P s K Q:=by
 obtain⟨s',X,vb,vl,h1,h2,h3,h4⟩:=h;exact⟨s',X,vb,vl,h1,hk.trans h2,h3,h4⟩
theorem lW.seq{w0 W w1 w2:World}{p:Nat}{P:List Int}{s s1:WS}{X:List Item}{K K1:Nat}{Q Q':List Item->Prop}(hk:bD W w1)(hs:kC s s1 X K)(h:lW w0 w1 w2 p P s1 K1 Q)(hQ:∀Y,Q Y->Q' (X++Y)):lW w0 W w2 p P s (K+K1) Q':=by
 obtain⟨s',Y,vb,vl,h1,h2,h3,h4⟩:=h;exact⟨s',X++Y,vb,vl,h1,hk.trans h2,hs.trans h3,hQ _ h4⟩
abbrev VH:TK:=⟨256,⟨#[91]⟩,⟨#[]⟩,false⟩
abbrev aaA:TK:=⟨512,⟨#[93]⟩,⟨#[]⟩,false⟩
abbrev PY:TK:=⟨64,⟨#[123]⟩,⟨#[]⟩,false⟩
abbrev aaB:TK:=⟨128,⟨#[125]⟩,⟨#[]⟩,false⟩
abbrev PZ:TK:=⟨2,⟨#[110,117,108,108]⟩,⟨#[]⟩,false⟩
theorem abR(w0 W:World)(p:Nat)(P:List Int)(s:WS)(vb vl:Value)(hP:qE P)(hs:s.sz+10<=1000000000000)(h:nX w0 W p P s vb vl):
 Calls Tryz.prog 44 #[.pointer (some ⟨p,0,none⟩),.agg #[.int .i64 256,.int .i64 0,.string ⟨#[]⟩,.string ⟨#[]⟩,.bool false],.string ⟨#[91]⟩] W (vJ w0 W p P s 10 fun X=>X.map Prod.snd=[.tok VH]):=by
 refine(yB w0 W p P s vb vl VH 0 ⟨#[]⟩ hP .abt (Nat.le_trans (Nat.add_le_add_left (by decide) _) hs) h).mono ?_;rintro e w1⟨rfl,ho⟩;exact⟨rfl,ho.imp (by decide) (fun _ h=>h)⟩
theorem abS(w0 W:World)(p:Nat)(P:List Int)(s:WS)(vb vl:Value)(hP:qE P)(hs:s.sz+10<=1000000000000)(h:nX w0 W p P s vb vl):
 Calls Tryz.prog 44 #[.pointer (some ⟨p,0,none⟩),.agg #[.int .i64 512,.int .i64 0,.string ⟨#[]⟩,.string ⟨#[]⟩,.bool false],.string ⟨#[93]⟩] W (vJ w0 W p P s 10 fun X=>X.map Prod.snd=[.tok aaA]):=by
 refine(yB w0 W p P s vb vl aaA 0 ⟨#[]⟩ hP .YL (Nat.le_trans (Nat.add_le_add_left (by decide) _) hs) h).mono ?_;rintro e w1⟨rfl,ho⟩;exact⟨rfl,ho.imp (by decide) (fun _ h=>h)⟩
theorem VI(w0 W:World)(p:Nat)(P:List Int)(s:WS)(vb vl:Value)(hP:qE P)(hs:s.sz+10<=1000000000000)(h:nX w0 W p P s vb vl):
 Calls Tryz.prog 44 #[.pointer (some ⟨p,0,none⟩),.agg #[.int .i64 64,.int .i64 0,.string ⟨#[]⟩,.string ⟨#[]⟩,.bool false],.string ⟨#[123]⟩] W (vJ w0 W p P s 10 fun X=>X.map Prod.snd=[.tok PY]):=by
 refine(yB w0 W p P s vb vl PY 0 ⟨#[]⟩ hP .abr (Nat.le_trans (Nat.add_le_add_left (by decide) _) hs) h).mono ?_;rintro e w1⟨rfl,ho⟩;exact⟨rfl,ho.imp (by decide) (fun _ h=>h)⟩
theorem VJ(w0 W:World)(p:Nat)(P:List Int)(s:WS)(vb vl:Value)(hP:qE P)(hs:s.sz+10<=1000000000000)(h:nX w0 W p P s vb vl):
 Calls Tryz.prog 44 #[.pointer (some ⟨p,0,none⟩),.agg #[.int .i64 128,.int .i64 0,.string ⟨#[]⟩,.string ⟨#[]⟩,.bool false],.string ⟨#[125]⟩] W (vJ w0 W p P s 10 fun X=>X.map Prod.snd=[.tok aaB]):=by
 refine(yB w0 W p P s vb vl aaB 0 ⟨#[]⟩ hP .YK (Nat.le_trans (Nat.add_le_add_left (by decide) _) hs) h).mono ?_;rintro e w1⟨rfl,ho⟩;exact⟨rfl,ho.imp (by decide) (fun _ h=>h)⟩
theorem abT(w0 W:World)(p:Nat)(P:List Int)(s:WS)(vb vl:Value)(hP:qE P)(hs:s.sz+10<=1000000000000)(h:nX w0 W p P s vb vl):
 Calls Tryz.prog 44 #[.pointer (some ⟨p,0,none⟩),.agg #[.int .i64 2,.int .i64 0,.string ⟨#[]⟩,.string ⟨#[]⟩,.bool false],.string ⟨#[110,117,108,108]⟩] W (vJ w0 W p P s 10 fun X=>X.map Prod.snd=[.tok PZ]):=by
 refine(yB w0 W p P s vb vl PZ 0 ⟨#[]⟩ hP .null (Nat.le_trans (Nat.add_le_add_left (by decide) _) hs) h).mono ?_;rintro e w1⟨rfl,ho⟩;exact⟨rfl,ho.imp (by decide) (fun _ h=>h)⟩
def Qa(S:fM)(n:Nat)(w0:World)(p:Nat)(P:List Int)(A0:Option Addr)(c0:Nat)(A1:Option Addr)(c1:Nat)(t:FT):Prop:=
 ∀(l:List Val)(A:Option Addr)(c:Nat)(W:World)(s:WS)(vb vl:Value),Kd.C (iU n) w0 A l.length l->(∀v∈l,qF S (qG S n) t v)->s.sz+(1000+KM*(2*jl n l))<=1000000000000->nX w0 W p P s vb vl->
  Calls Tryz.prog 48 #[.pointer (some ⟨p,0,none⟩),kG S A0 c0 A1 c1,mQ t,.slice A l.length c] W (vJ w0 W p P s (1000+KM*(2*jl n l)) fun X=>lG (X.map Prod.snd)/\AA S (wL S n) t l (tks X))
theorem aaC{s k T:Nat}(h:s+(1000+T)<=1000000000000)(hk:k<=900):s+k<=1000000000000:=by omega
theorem abU{s s1 C m T:Nat}(h1:s+(1000+KM*(2*T))<=1000000000000)(h2:s1<=s+(100+KM*(2*C)))(h3:C+(1+m)<=T):s1+6+(99000000+KM*(1+2*m))<=1000000000000:=by unfold KM at*;omega
theorem JZ{n:Nat}{l:List Val}{s:Nat}(h:s+(1000+KM*(2*jl n l))<=1000000000000):l.length<=5000:=by
 have h1:l.length<=jl n l:=by
  clear h
  induction l with
  |nil=>exact Nat.zero_le _
  |cons v l ih=>unfold jl at ih ⊢;rw[List.map_cons,List.sum_cons,List.length_cons];omega
 unfold KM at h;omega
theorem VK{s s1 C T:Nat}(h1:s+(1000+KM*(2*T))<=1000000000000)(h2:s1<=s+(100+KM*(2*C)))(h3:C<=T):s1+10<=1000000000000:=by unfold KM at*;omega
theorem VL{C T:Nat}(h3:C<=T):100+KM*(2*C)+10<=1000+KM*(2*T):=by unfold KM at*;omega
theorem abV(C m:Nat):100+KM*(2*C)+6+(99000000+KM*(1+2*m))<=100+KM*(2*(C+(1+m))):=by unfold KM at*;omega
theorem VN(S:fM)(n:Nat)(w0:World)(p:Nat)(P:List Int)(A0:Option Addr)(c0:Nat)(A1:Option Addr)(c1:Nat)(hP:qE P)(hone:RF S n w0 p P A0 c0 A1 c1)(t:FT)(hF:sG S t)(hm:t.map=false)(hr:t.rep=true):Qa S n w0 p P A0 c0 A1 c1 t:=by
 intro l A c W s vb vl hC hV hs hj;obtain⟨W3,hW3⟩:∃W3,W3=(W.alloc (.cells #[.slice A0 S.ms.length c0,.slice A1 S.es.length c1] 25)).alloc (.cells #[.string t.name,.int .i64 t.num,.int .i64 t.kind,.bool t.rep,.bool t.map,.int .i64 t.typ] 70):=⟨_,rfl⟩
 have hB3:Below W.heap.size W W3:=by rw[hW3];exact ak (ak (bg _ _) _) _
 have hX3:Bx2 W3 W.heap.size (W.heap.size+1) S A0 c0 A1 c1 t:=by
  rw[hW3];refine⟨?_,?_⟩
  ·exact bn (aP W _) _
  ·have:=aP (W.alloc (.cells #[.slice A0 S.ms.length c0,.slice A1 S.es.length c1] 25)) (.cells #[.string t.name,.int .i64 t.num,.int .i64 t.kind,.bool t.rep,.bool t.map,.int .i64 t.typ] 70)
   simpa using this
 have hk3:=bD.below hB3;have hj3:=hj.below hB3;have VO:=ah (abR w0 W3 p P s vb vl hP (aaC hs (by decide)) hj3);have HX3:=ah hX3;have HK3:=ah hk3;have kQ:=ah hs;have HP:=ah hP;have HC:=ah hC;have HV:=ah hV;have HOn:=ah hone;have HF:=ah hF;have Yc:=ah (And.intro hm hr);have HW3:=ah hW3;clear hW3 hB3 hX3 hk3 hj3 hs hP hj hone hC hV hF hm hr;go_enter Tryz.func48,Tryz.ntmps48
 go_upto_region 1 with fail
 rw[<-HW3.out];clear HW3;obtain⟨z1,z2,z3,z4,z5,z6,z7,z8⟩:=HX3.out.cells;rw[Yc.out.1]at z7
 go_upto_region 12 with(go_at_call 44;(with_reducible refine VO.out.mono ?_);rintro e w1⟨rfl,ho⟩;have HO:=ah ho;clear ho)
 clear z1 z2 z3 z4 z5 z6 z7 z8 VO;go_wp2
 go_loopg [10] l.length (fun g v10 w'=>∃i:Nat,v10= .int .i64 i/\i+g=l.length/\aC (lW w0 W3 w' p P s (100+KM*(2*jl n (l.take i))) (RI (wL S n t) l i)))
 case atStart=>
  refine⟨0,rfl,by omega,⟨HO.out.imp (by omega) (fun X hX=>?_)⟩⟩;exact⟨VH,[],[],hX,rfl,IB.zero _,rfl,.nil⟩
 case round=>
  obtain⟨i,rfl,hg,HA⟩:=hrel;obtain⟨s1,X,vb1,vl1,hj1,hk1,hst1,hq1⟩:=HA.out
  by_cases hlt:i<l.length
  ·obtain⟨v,hv⟩:=bF hlt
   have hct:=zA (n:=n) hv.out;have hle:=tX n l (i+1);rw[hct]at hle;have UN:=ah hct;have hb:=abU kQ.out hst1.sz hle;have Yd:=ah (Hf w0 wr p P s1 vb1 vl1 i HP.out (by omega) hj1);have HB:=ah hb;have HK1:=ah hk1;have HS1:=ah hst1;have HQ1:=ah hq1;have d1:decide ((i:Int)<(l.length:Int))=true:=bZ (by omega);have i0:(0:Int)<=(i:Int):=by omega
   have i1:(i:Int)<(l.length:Int):=by omega
   obtain⟨g',rfl⟩:∃g',gk=g'+1:=⟨gk-1,by omega⟩
   clear hct hle hb hj1 hk1 hst1 hq1
   go_wp2_with (go_at_call 45;(with_reducible refine Yd.out.mono ?_);rintro e w2⟨rfl,ho⟩;have HO2:=ah ho;clear ho)
   obtain⟨s2,Y,vb2,vl2,hj2,hk2,hst2,hq2⟩:=HO2.out;obtain⟨z1,z2,z3,z4,z5,z6,z7,z8⟩:=(HX3.out.keep (HK1.out.trans hk2)).cells;obtain⟨ad,B,e1,rfl,q0,q1,q2,q3,q4,q5,q6,Ey⟩:=qL HC.out hv.out;have a0:=ay hj2.be q0;have a1:=ay hj2.be q1;have a2:=ay hj2.be q2;have a3:=ay hj2.be q3;have a4:=ay hj2.be q4;have a5:=ay hj2.be q5;have Ko:=ah (HOn.out t v B e1 w2.drew s2 vb2 vl2 Ey HF.out (HV.out v (List.mem_of_getElem? hv.out)) (Nat.le_trans (Nat.add_le_add_right hst2.sz _) HB.out) (hj2.below (aQ (bg _ _))));have HST:=ah (HS1.out.trans hst2);have HK2:=ah ((HK1.out.trans hk2).trans (bD.below (aQ (bg _ _))));have HQ2:=ah hq2;have HLb:=ah (JZ kQ.out);clear HO2 Yd hj2 hk2 hst2 hq2 Ey q0 q1 q2 q3 q4 q5 q6
   go_still_tail 7,(by kernel_rfl)
   go_wp2_with (go_at_call 49;(with_reducible refine Ko.out.mono ?_);rintro e w4⟨rfl,ho⟩;have HO4:=ah ho;clear ho)
   go_roundg g'
   case measure=>omega
   case rel=>
    refine⟨i+1,by rw[w64 (by omega) (by have:=HLb.out;omega)];rfl,by omega,⟨(lW.seq HK2.out HST.out HO4.out (fun Z hZ=>HQ1.out.step hv.out HQ2.out hZ.1 hZ.2)).imp ?_ (fun _ h=>h)⟩⟩;rw[UN.out];exact abV _ _
  ·obtain rfl:i=l.length:=by omega
   have d1:decide ((l.length:Int)<(l.length:Int))=false:=bY (by omega);have HT:=ah (abS w0 wr p P s1 vb1 vl1 HP.out (VK kQ.out hst1.sz (tX _ _ _)) hj1);have HK1:=ah hk1;have HS1:=ah hst1;have HQ1:=ah hq1;clear hlt hj1 hk1 hst1 hq1
   go_wp2_with (go_at_call 44;(with_reducible refine HT.out.mono ?_);rintro e w2⟨rfl,ho⟩;have HO2:=ah ho;clear ho)
   go_end0
   refine⟨rfl,((lW.seq HK1.out HS1.out HO2.out (fun Z hZ=>HQ1.out.last Yc.out.1 Yc.out.2 hZ rfl)).to HK3.out).imp ?_ (fun _ h=>h)⟩;exact VL (tX _ _ _)
theorem EZ{S:fM}{n:Nat}{typ:Int}{m:List dD}{mt:MT}{kt vt:FT}(h:qG S n typ m)(hl:m.length=2)(hmt:S.ms[typ.toNat]? =some mt)(hf:mt.fields=[kt,vt])(hk:kt.rep=false)(hv:vt.rep=false):
 ∃k u1 u2,n=k+1/\m=[.mk 0 [u1],.mk 1 [u2]]/\qF S (qG S k) kt u1/\qF S (qG S k) vt u2:=by
 cases n with
 |zero=>exact h.elim
 |succ k=>
  obtain⟨h0,mt',e1,hr,hall⟩:=h;rw[hmt]at e1;injection e1 with e1
  subst e1
  match m,hl with
  |[f,g],_=>
   obtain⟨r1,r2,_⟩:=hr;obtain⟨f0,f1,t1,f2,f3,f4⟩:=hall f (by simp);obtain⟨g0,g1,t2,g2,g3,g4⟩:=hall g (by simp);rw[hf]at f2 g2
   have hg:g.At.toNat<2:=by
    have:=(List.getElem?_eq_some_iff.1 g2).1
    simpa using this
   have fa:f.At=0:=by omega
   have ga:g.At=1:=by omega
   rw[fa]at f2;rw[ga]at g2;have ft:t1=kt:=by simpa using f2.symm
   have gt:t2=vt:=by simpa using g2.symm
   subst ft gt;have fl:=f3 hk;have gl:=g3 hv;obtain⟨a,fv⟩:=f;obtain⟨b,gv⟩:=g
   match fv,gv,fl,gl with
   |[u1],[u2],_,_=>
    refine⟨k,u1,u2,rfl,?_,f4 u1 (by simp[dD.Values]),g4 u2 (by simp[dD.Values])⟩;have fa':a=0:=fa;have ga':b=1:=ga;rw[fa',ga']
theorem RJ(k:Nat)(u1 u2:Val):iP (k+1) [.mk 0 [u1],.mk 1 [u2]]=2+iP k u1.dA+iP k u2.dA:=by
 simp[iP,dD.Values];omega
theorem Hg(n:Int):∀c∈bG n,0<=c/\c<128:=by
 intro c hc;rw[jR]at hc;rcases List.mem_append.1 hc with h|h
 ·split at h
  ·rw[List.mem_singleton.1 h];omega
  ·exact absurd h List.not_mem_nil
 ·have:=iT n.natAbs c h;omega
theorem Dk(n:Int)(h0: -9223372036854775808<=n)(h1:n<9223372036854775808):(bG n).length<=30:=by
 unfold bG
 split
 ·have:=dU (show n.toNat<18446744073709551616 by omega);omega
 ·have:=dU (show(-n).toNat<18446744073709551616 by omega);rw[List.length_cons];omega
theorem qy(l:List Int)(h:∀c∈l,0<=c/\c<128):dh (bytesOf (str l))=true:=by
 rw[fO _ (fun c hc=>by have:=h c hc;omega)];exact gX _ h
theorem qF.ranges{S:fM}{F:Int->List dD->Prop}{t:FT}{v:Val}(h:qF S F t v):(-9223372036854775808<=v.I/\v.I<9223372036854775808)/\(0<=v.U/\v.U<18446744073709551616):=by
 rcases h with⟨_,h⟩|⟨_,h,h1,h2,_⟩|⟨_,h,h1,h2,_⟩|⟨_,h,_⟩|⟨_,h,_⟩|⟨_,h,_⟩|⟨_,h,h1,h2⟩|⟨_,h,_⟩
 ·have e1:v.I=0:=congrArg Val.I h
  have e2:v.U=0:=congrArg Val.U h;omega
 ·have e2:v.U=0:=congrArg Val.U h
  omega
 ·have e1:v.I=0:=congrArg Val.I h
  omega
 ·have e1:v.I=0:=congrArg Val.I h
  have e2:v.U=0:=congrArg Val.U h;omega
 ·have e1:v.I=0:=congrArg Val.I h
  have e2:v.U=0:=congrArg Val.U h;omega
 ·have e1:v.I=0:=congrArg Val.I h
  have e2:v.U=0:=congrArg Val.U h;omega
 ·have e2:v.U=0:=congrArg Val.U h
  omega
 ·have e1:v.I=0:=congrArg Val.I h
  have e2:v.U=0:=congrArg Val.U h;omega
theorem NS{S:fM}{F:Int->List dD->Prop}{t:FT}{v:Val}(h:qF S F t v)(hs:aT t.kind=1∨aT t.kind=2∨aT t.kind=3∨aT t.kind=5):dh (bytesOf (dL t.kind v))=true/\(dL t.kind v).size<=1000:=by
 obtain⟨⟨i0,i1⟩,u0,u1⟩:=h.ranges;unfold dL;rcases hs with h1|h1|h1|h1
 ·rw[if_pos h1]
  cases v.B
  ·refine⟨?_,by decide⟩
   rw[if_neg (by decide),show bytesOf ⟨#[102,97,108,115,101]⟩=[102,97,108,115,101]from rfl];exact gX _ (by simp)
  ·refine⟨?_,by decide⟩
   rw[if_pos rfl,show bytesOf ⟨#[116,114,117,101]⟩=[116,114,117,101]from rfl];exact gX _ (by simp)
 ·rw[if_neg (by omega),if_pos h1]
  exact⟨qy _ (Hg _),by rw[bV];have:=Dk v.I i0 i1;omega⟩
 ·rw[if_neg (by omega),if_neg (by omega),if_pos h1]
  exact⟨qy _ (fun c hc=>by have:=iT v.U.toNat c hc;omega),by rw[bV];have:=dU (show v.U.toNat<18446744073709551616 by omega);omega⟩
 ·rw[if_neg (by omega),if_neg (by omega),if_neg (by omega)]
  rcases h with⟨h,_⟩|⟨h,_⟩|⟨h,_⟩|⟨h,_⟩|⟨_,_,h2,h3⟩|⟨h,_⟩|⟨h,_⟩|⟨h,_⟩
  ·omega
  ·omega
  ·omega
  ·omega
  ·exact⟨h2,h3⟩
  ·omega
  ·omega
  ·omega
def RN(V:FT->Val->List TK->Prop)(kt vt:FT)(l:List Val)(i:Nat)(X:List Item):Prop:=∃o B L,X.map Prod.snd= .tok o::B/\o.kind=64/\IB 64 i B/\B.flatMap Lex.tk=L.flatMap (fun e:TK×List TK=>e.1::e.2)/\All2 (Vs V kt vt) (l.take i) L
theorem RN.step{V:FT->Val->List TK->Prop}{kt vt:FT}{l:List Val}{i:Nat}{v:Val}{X Y N Z:List Item}(hv:l[i]? =some v)(h:RN V kt vt l i X)(hY:Y.map Prod.snd=wM i)(hN:∃w raw w',N=[(w,.tok ⟨32,raw,dL kt.kind (qp v),false⟩),(w',.colon)])(hZ:lG (Z.map Prod.snd))(hV:V vt (Rx v) (tks Z)):RN V kt vt l (i+1) (((X++Y)++N)++Z):=by
 obtain⟨o,B,L,h1,h2,h3,h4,h5⟩:=h;obtain⟨w,raw,w',rfl⟩:=hN;refine⟨o,B++(wM i++(.tok ⟨32,raw,dL kt.kind (qp v),false⟩:: .colon::Z.map Prod.snd)),L++[(⟨32,raw,dL kt.kind (qp v),false⟩,tks Z)],?_,h2,h3.obj rfl hZ,?_,?_⟩
 ·rw[List.map_append,List.map_append,List.map_append,h1,hY];simp
 ·rw[List.flatMap_append,List.flatMap_append,NR,h4,List.flatMap_cons,List.flatMap_cons,<-vM];simp[Lex.tk]
 ·rw[qx hv];exact h5.snoc ⟨rfl,rfl,hV⟩
theorem RN.last{S:fM}{V:FT->Val->List TK->Prop}{t kt vt:FT}{mt:MT}{l:List Val}{X Y:List Item}{c:TK}(hm:t.map=true)(h1:S.ms[t.typ.toNat]? =some mt)(h2:mt.fields=[kt,vt])(h:RN V kt vt l l.length X)(hY:Y.map Prod.snd=[.tok c])(hc:c.kind=128):lG ((X++Y).map Prod.snd)/\AA S V t l (tks (X++Y)):=by
 obtain⟨o,B,L,k1,k2,k3,k4,k5⟩:=h;refine⟨?_,.inr (.inl ⟨hm,mt,kt,vt,o,c,L,h1,h2,k2,hc,?_,?_⟩)⟩
 ·rw[List.map_append,k1,hY];exact k3.PW k2 hc
 ·rw[vM,List.map_append,k1,hY,List.flatMap_append]
  show[o]++B.flatMap Lex.tk++[c]=_;rw[k4];simp
 ·rw[List.take_length]at k5;exact k5
theorem abW{s s1 C m u T:Nat}(h1:s+(1000+KM*(2*T))<=1000000000000)(h2:s1<=s+(100+KM*(2*C)))(h3:C+(1+m)<=T)(h4:2+u<=m):s1+30000+(99000000+KM*(1+2*u))<=1000000000000:=by unfold KM at*;omega
theorem aeR{s1 s2 s3 u k:Nat}(h:s1+30000+(99000000+KM*(1+2*u))<=1000000000000)(h2:s2+0<=s1+6+0)(h3:k<=1000)(h4:s3<=s2+(21*k+20)):s3+(99000000+KM*(1+2*u))<=1000000000000:=by unfold KM at*;omega
theorem abX(C m u k:Nat)(h4:2+u<=m)(h3:k<=1000):100+KM*(2*C)+6+(21*k+20)+(99000000+KM*(1+2*u))<=100+KM*(2*(C+(1+m))):=by unfold KM at*;omega
theorem VP(a:Addr):a.add 0=a:=by simp[Addr.add]
theorem VQ(a:Addr)(n:Nat):a.add (n+1)=⟨a.block,a.off+(n+1),none⟩:=by simp[Addr.add]
theorem aeS{s1 s2 T k:Nat}(h:s1+30000+T<=1000000000000)(h2:s2+0<=s1+6+0)(h3:k<=1000):s2+(21*k+20)<=1000000000000:=by omega
theorem VR(S:fM)(hS:jW S)(n:Nat)(w0:World)(p:Nat)(P:List Int)(A0:Option Addr)(c0:Nat)(A1:Option Addr)(c1:Nat)(hP:qE P)(hSR:qZ w0 S A0 c0 A1 c1)(hone:∀k,n=k+1->RF S k w0 p P A0 c0 A1 c1)(t:FT)(hF:sG S t)(hm:t.map=true):Qa S n w0 p P A0 c0 A1 c1 t:=by
 intro l A c W s vb vl hC hV hs hj;obtain⟨hrep,hk8,mt,kt,vt,hmt,hfs,hkr,VT,hks⟩:=hF.map hm;have hFk:=hS.Vw mt (List.mem_of_getElem? hmt) kt (by rw[hfs];simp);have hFv:=hS.Vw mt (List.mem_of_getElem? hmt) vt (by rw[hfs];simp);obtain⟨hty0,hty1⟩:=hF.msg hk8;obtain⟨Bo,AF,cF,eA0,_,m1,m2,uK⟩:=Ag hSR.ms hmt;rw[hfs]at m1 m2 uK;obtain⟨VU,TI,f0,f1,f2,f3,f4,f5⟩:=uT uK (i:=0) rfl;obtain⟨abY,RP,g0,g1,g2,g3,g4,g5⟩:=uT uK (i:=1) rfl;rw[TI]at RP;injection RP with RP
 subst RP;subst TI;subst eA0;simp only[Nat.zero_mul,Nat.one_mul,VP,VQ,Nat.add_assoc,Nat.reduceAdd]at f0 f1 f2 f3 f4 f5 g0 g1 g2 g3 g4 g5;have hb0:=hj.be;obtain⟨k,hk⟩:∃k:Nat,t.typ=(k:Int):=⟨t.typ.toNat,by omega⟩
 have hkn:t.typ.toNat=k:=by omega
 rw[hkn]at m1 hmt;obtain⟨W3,hW3⟩:∃W3,W3=(W.alloc (.cells #[.slice (some Bo) S.ms.length c0,.slice A1 S.es.length c1] 25)).alloc (.cells #[.string t.name,.int .i64 t.num,.int .i64 t.kind,.bool t.rep,.bool t.map,.int .i64 t.typ] 70):=⟨_,rfl⟩
 have hB3:Below W.heap.size W W3:=by rw[hW3];exact ak (ak (bg _ _) _) _
 have hX3:Bx2 W3 W.heap.size (W.heap.size+1) S (some Bo) c0 A1 c1 t:=by
  rw[hW3];refine⟨?_,?_⟩
  ·exact bn (aP W _) _
  ·have:=aP (W.alloc (.cells #[.slice (some Bo) S.ms.length c0,.slice A1 S.es.length c1] 25)) (.cells #[.string t.name,.int .i64 t.num,.int .i64 t.kind,.bool t.rep,.bool t.map,.int .i64 t.typ] 70)
   simpa using this
 have hk3:=bD.below hB3;have hj3:=hj.below hB3;have VO:=ah (VI w0 W3 p P s vb vl hP (aaC hs (by decide)) hj3);have HX3:=ah hX3;have HK3:=ah hk3;have kQ:=ah hs;have HP:=ah hP;have HC:=ah hC;have HV:=ah hV;have HOn:=ah hone;have HF:=ah hF;have HFk:=ah (And.intro hFk hFv);have RQ:=ah (And.intro hmt hfs);have Kq:=ah (And.intro hk8 (And.intro hkr (And.intro VT hks)));have Yc:=ah (And.intro hm (And.intro hk hkn));have HW3:=ah hW3;have r1:=ay hj3.be m1;have HFc:=ah (And.intro f0 (And.intro f1 (And.intro f2 (And.intro f3 (And.intro f4 f5)))));have HGc:=ah (And.intro g0 (And.intro g1 (And.intro g2 (And.intro g3 (And.intro g4 g5)))));have i0:(0:Int)<=(k:Int):=by omega
 have i1:(k:Int)<(S.ms.length:Int):=by omega
 clear hW3 hB3 hX3 hk3 hj3 hs hP hj hone hC hV hF hm hk hkn hrep hk8 hmt hfs hkr VT hks hFk hFv hty0 hty1 m1 m2 uK f0 f1 f2 f3 f4 f5 g0 g1 g2 g3 g4 g5 hb0 hS hSR;go_enter Tryz.func48,Tryz.ntmps48
 go_upto_region 1 with fail
 rw[<-HW3.out];clear HW3;obtain⟨z1,z2,z3,z4,z5,z6,z7,z8⟩:=HX3.out.cells;rw[Yc.out.1]at z7;rw[Yc.out.2.1]at z8
 go_upto_region 4 with(go_at_call 44;(with_reducible refine VO.out.mono ?_);rintro e w1⟨rfl,ho⟩;have HO:=ah ho;clear ho)
 clear z1 z2 z3 z4 z5 z6 z7 z8 VO r1 i0 i1;go_wp2
 go_loopg [9] l.length (fun g v9 w'=>∃i:Nat,v9= .int .i64 i/\i+g=l.length/\aC (lW w0 W3 w' p P s (100+KM*(2*jl n (l.take i))) (RN (wL S n) kt vt l i)))
 case atStart=>
  refine⟨0,rfl,by omega,⟨HO.out.imp (by omega) (fun X hX=>?_)⟩⟩;exact⟨PY,[],[],hX,rfl,IB.zero _,rfl,.nil⟩
 case round=>
  obtain⟨i,rfl,hg,HA⟩:=hrel;obtain⟨s1,X,vb1,vl1,hj1,hk1,hst1,hq1⟩:=HA.out
  by_cases hlt:i<l.length
  ·obtain⟨v,hv⟩:=bF hlt
   have hct:=zA (n:=n) hv.out;have hle:=tX n l (i+1);rw[hct]at hle;have hfv:=HV.out v (List.mem_of_getElem? hv.out)
   obtain⟨hfm,hl2⟩:qG S n t.typ v.dA/\v.dA.length=2:=by
    rcases hfv with h|h|h|h|h|h|h|h
    ·exact absurd h.1 (by rw[Kq.out.1];decide)
    ·exact absurd h.1 (by rw[Kq.out.1];decide)
    ·exact absurd h.1 (by rw[Kq.out.1];decide)
    ·exact absurd h.1 (by rw[Kq.out.1];decide)
    ·exact absurd h.1 (by rw[Kq.out.1];decide)
    ·exact absurd h.1 (by rw[Kq.out.1];decide)
    ·exact absurd h.1 (by rw[Kq.out.1];decide)
    ·exact⟨h.2.2.1,h.2.2.2 Yc.out.1⟩
   obtain⟨nn,u1,u2,hn,hms,hu1,hu2⟩:=EZ hfm hl2 (by rw[Yc.out.2.2];exact RQ.out.1) RQ.out.2 Kq.out.2.1 Kq.out.2.2.1;have hcm:iP n v.dA=2+iP nn u1.dA+iP nn u2.dA:=by rw[hn,hms];exact RJ nn u1 u2
   have hb:=abW (u:=iP nn u2.dA) kQ.out hst1.sz hle (by omega);have aeT:qp v=u1:=by unfold qp;rw[hms]
   have aeU:Rx v=u2:=by unfold Rx;rw[hms]
   have aeV:=NS hu1 Kq.out.2.2.2;have hrg:=hu1.ranges;obtain⟨ad,B,e1,rfl,q0,q1,q2,q3,q4,q5,q6,Ey⟩:=qL HC.out hv.out;rw[hms]at q5 q6 Ey;obtain⟨k1,adE,D1,d1,en,eE,x0,x1,x2,hCa⟩:=qm Ey (i:=0) rfl;obtain⟨k2,ajK,D2,d2,en',eE',y0,y1,y2,hCb⟩:=qm Ey (i:=1) rfl;rw[eE]at eE';injection eE' with eE'
   subst eE';subst eE;obtain rfl:nn=k1:=by omega
   obtain rfl:nn=k2:=by omega
   obtain⟨NU,BK,eK,eD1,ka0,ka1,ka2,ka3,ka4,ka5,ka6,hCk⟩:=qL hCa (i:=0) rfl;obtain⟨adV,BV,eV,eD2,va0,va1,va2,va3,va4,va5,va6,hCu⟩:=qL hCb (i:=0) rfl;subst eD1;subst eD2;rw[show(dD.mk 0 [u1]).Values.length=1 from rfl]at x1;rw[show(dD.mk 1 [u2]).Values.length=1 from rfl]at y1;simp only[Nat.zero_mul,Nat.one_mul,VP,VQ,Nat.add_assoc,Nat.reduceAdd]at x1 y1 ka0 ka1 ka2 ka3 ka4 ka5 va0 va1 va2 va3 va4 va5;have UN:=ah hct;have HCm2:=ah (show 2+iP nn u2.dA<=iP n v.dA by omega);have Yd:=ah (Hf w0 wr p P s1 vb1 vl1 i HP.out (by omega) hj1);have HB:=ah hb;have HK1:=ah hk1;have HS1:=ah hst1;have HQ1:=ah hq1;have HKo:=ah aeV;have yL:=ah hrg;have HU2:=ah hu2;have HFs:=ah (And.intro aeT aeU);have DZ:=ah hn;have HCu:=ah hCu;have HMC:=ah hv.out;have d1:decide ((i:Int)<(l.length:Int))=true:=bZ (by omega);have i0:(0:Int)<=(i:Int):=by omega
   have i1:(i:Int)<(l.length:Int):=by omega
   obtain⟨g',rfl⟩:∃g',gk=g'+1:=⟨gk-1,by omega⟩
   have VW:=ah (fun W'(hb:Below w0.heap.size w0 W')=>(⟨ay hb q5,ay hb x1,ay hb y1,ay hb ka0,ay hb ka1,ay hb ka2,ay hb ka3,ay hb ka4,ay hb ka5⟩:_/\_/\_/\_/\_/\_/\_/\_/\_));have Zh:=ah (fun W'(hb:Below w0.heap.size w0 W')=>(⟨ay hb va0,ay hb va1,ay hb va2,ay hb va3,ay hb va4,ay hb va5⟩:_/\_/\_/\_/\_/\_));have Zi:=ah (fun W'(hb:Below w0.heap.size w0 W')=>ay hb HFc.out.2.2.1);have Zj:=ah (fun W'(hb:Below w0.heap.size w0 W')=>(⟨ay hb HGc.out.1,ay hb HGc.out.2.1,ay hb HGc.out.2.2.1,ay hb HGc.out.2.2.2.1,ay hb HGc.out.2.2.2.2.1,ay hb HGc.out.2.2.2.2.2⟩:_/\_/\_/\_/\_/\_));have HLb:=ah (JZ kQ.out);clear hct hle hb hj1 hk1 hst1 hq1 hcm aeV hrg hu1 hu2 aeT aeU hn hfv hfm hl2 hms hCu hCk hCa hCb Ey en en' q0 q1 q2 q3 q4 q5 q6 x0 x1 x2 y0 y1 y2 ka0 ka1 ka2 ka3 ka4 ka5 ka6 va0 va1 va2 va3 va4 va5 va6 hv
   go_wp2_with (go_at_call 45;(with_reducible refine Yd.out.mono ?_);rintro e w2⟨rfl,ho⟩;have HO2:=ah ho;clear ho)
   obtain⟨s2,Y,vb2,vl2,hj2,hk2,hst2,hq2⟩:=HO2.out;have HJ2:=ah hj2;have HS2:=ah (HS1.out.trans hst2);have HK2:=ah (HK1.out.trans hk2);have HQ2:=ah hq2;obtain⟨p1,p2,p3,p4,p5,p6,p7,p8,p9⟩:=VW.out w2 hj2.be;have t1:=Zi.out w2 hj2.be;have hs2:=hst2.sz;have HB2:=ah (Nat.le_trans (Nat.add_le_add_right (Nat.le_trans hs2 (Nat.le_refl _)) _) (by exact Nat.le_refl _):s2.sz+0<=s1.sz+6+0);clear HO2 Yd hj2 hk2 hst2 hq2 hs2;have HKt:=ah (RD kt.kind u1 BK eK w2.drew yL.out.1 yL.out.2);have HKy:=ah (fun W'(hb:Below w2.drew.heap.size w2.drew W')=>aeO w0 W' p P s2 vb2 vl2 (dL kt.kind u1) HP.out (by have:=HKo.out.2;omega) HKo.out.1 (aeS HB.out HB2.out HKo.out.2) ((HJ2.out.below (aQ (bg _ _))).below hb))
   go_region_law (first|(go_simp;go_at_call 92;(with_reducible refine HKt.out.mono ?_);rintro e w3⟨rfl,hb3⟩;have HB3:=ah hb3;clear hb3)|(go_simp;go_at_call 91;(with_reducible refine(HKy.out _ HB3.out).mono ?_);rintro e w4⟨rfl,ho⟩;have HO4:=ah ho;clear ho))
   all_goals
    obtain⟨s3,N,vb3,vl3,hj3,hk3,hst3,hq3⟩:=HO4.out;have HS3:=ah (HS2.out.trans hst3);have HK3':=ah ((HK2.out.trans (bD.below (aQ (bg _ _)))).trans ((bD.below HB3.out).trans (hk3.trans (bD.below (aQ (bg _ _))))));obtain⟨z1,z2,z3,z4,z5,z6,z7,z8⟩:=(HX3.out.keep ((HK2.out.trans (bD.below (aQ (bg _ _)))).trans ((bD.below HB3.out).trans hk3))).cells;obtain⟨p1,p2,p3,p4,p5,p6,p7,p8,p9⟩:=VW.out _ hj3.be;obtain⟨v1,v2,v3,v4,v5,v6⟩:=Zh.out _ hj3.be;obtain⟨g1,g2,g3,g4,g5,g6⟩:=Zj.out _ hj3.be;have Ko:=ah (HOn.out nn DZ.out vt u2 BV eV w4.drew s3 vb3 vl3 HCu.out HFk.out.2 HU2.out (aeR HB.out HB2.out HKo.out.2 hst3.sz) (hj3.below (aQ (bg _ _))));have HQ3:=ah hq3;clear HO4 HKy HKt hj3 hk3 hst3 hq3;go_wp2
    go_still_tail 15,(by kernel_rfl)
    go_wp2_with (go_at_call 49;(with_reducible refine Ko.out.mono ?_);rintro e w5⟨rfl,ho⟩;have HO5:=ah ho;clear ho)
    go_roundg g'
    case measure=>omega
    case rel=>
     refine⟨i+1,by rw[w64 (by omega) (by have:=HLb.out;omega)];rfl,by omega,⟨(lW.seq HK3'.out HS3.out HO5.out (fun Z hZ=>HQ1.out.step HMC.out HQ2.out (by rw[HFs.out.1];exact HQ3.out) hZ.1 (by rw[HFs.out.2,DZ.out];exact wL.succ hZ.2))).imp ?_ (fun _ h=>h)⟩⟩;rw[UN.out];exact abX _ _ _ _ HCm2.out HKo.out.2
  ·obtain rfl:i=l.length:=by omega
   have d1:decide ((l.length:Int)<(l.length:Int))=false:=bY (by omega);have HT:=ah (VJ w0 wr p P s1 vb1 vl1 HP.out (VK kQ.out hst1.sz (tX _ _ _)) hj1);have HK1:=ah hk1;have HS1:=ah hst1;have HQ1:=ah hq1;clear hlt hj1 hk1 hst1 hq1
   go_wp2_with (go_at_call 44;(with_reducible refine HT.out.mono ?_);rintro e w2⟨rfl,ho⟩;have HO2:=ah ho;clear ho)
   refine bodyPost_ret (results_none rfl _ _ _) rfl ?_;refine⟨rfl,((lW.seq HK1.out HS1.out HO2.out (fun Z hZ=>HQ1.out.last Yc.out.1 (by rw[Yc.out.2.2];exact RQ.out.1) RQ.out.2 hZ rfl)).to HK3.out).imp ?_ (fun _ h=>h)⟩;exact VL (tX _ _ _)
theorem NV(w0 W:World)(p:Nat)(P:List Int)(s:WS)(vb vl:Value)(n:Int)(hn:0<n)(hP:qE P)(hs:s.sz<=1000000000000)(h:nX w0 W p P s vb vl):
 Calls Tryz.prog 43 #[.pointer (some ⟨p,0,none⟩),.int .i64 n] W fun e w'=>∃v,e= .returned (.int .i64 v)/\(0<=v/\v<n)/\lW w0 W w' p P s 1 (fun X=>X=[]):=by
 have hr:=jg (P:=P) (a:=s.a) (n:=n) hn hP;have ha:=dX P s.a;refine(yX w0 W p P s vb vl n hn hP hs h).mono ?_;rintro e w1⟨rfl,h1,h2⟩;exact⟨_,rfl,hr,_,[],_,_,h1,h2,oN P s ha.1 (by omega),rfl⟩
def vN(S:fM)(V:FT->Val->List TK->Prop)(t:FT)(vs:List Val)(X:List Item):Prop:=∃nt Y,X.map Prod.snd= .tok nt:: .colon::Y/\lG Y/\nt.kind=32/\(nt.str=t.name∨nt.str=camel t.name)/\AA S V t vs (Y.flatMap Lex.tk)
theorem vN.join{S:fM}{V:FT->Val->List TK->Prop}{t:FT}{vs:List Val}{X Y Z:List Item}(hX:∃raw y,X.map Prod.snd=[.tok ⟨32,raw,y,false⟩,.colon]/\(y=t.name∨y=camel t.name))(hY:Y=[])(hZ:lG (Z.map Prod.snd)/\AA S V t vs (tks Z)):vN S V t vs ((X++Y)++Z):=by
 obtain⟨raw,y,h1,h2⟩:=hX;subst hY;refine⟨⟨32,raw,y,false⟩,Z.map Prod.snd,?_,hZ.1,rfl,h2,?_⟩
 ·rw[List.append_nil,List.map_append,h1];rfl
 ·rw[<-vM];exact hZ.2
theorem aeX{s k s1:Nat}(h:s+(2000+21*k)<=1000000000000)(h1:s1<=s+(21*k+30)):s1+1100<=1000000000000:=by omega
theorem VX(S:fM)(n:Nat)(w0:World)(p:Nat)(P:List Int)(A0:Option Addr)(c0:Nat)(A1:Option Addr)(c1:Nat)(hP:qE P)(t:FT)(hF:sG S t)(hlist:t.rep=true->Qa S n w0 p P A0 c0 A1 c1 t)(W:World)(s:WS)(vb vl:Value)(hs:s.sz+(2000+21*t.name.size)<=1000000000000)(hj:nX w0 W p P s vb vl):
 Calls Tryz.prog 46 #[.pointer (some ⟨p,0,none⟩),kG S A0 c0 A1 c1,mQ t] W (vJ w0 W p P s (2000+21*t.name.size) (vN S (wL S n) t [])):=by
 obtain⟨W3,hW3⟩:∃W3,W3=(W.alloc (.cells #[.slice A0 S.ms.length c0,.slice A1 S.es.length c1] 25)).alloc (.cells #[.string t.name,.int .i64 t.num,.int .i64 t.kind,.bool t.rep,.bool t.map,.int .i64 t.typ] 70):=⟨_,rfl⟩
 have hB3:Below W.heap.size W W3:=by rw[hW3];exact ak (ak (bg _ _) _) _
 have hX3:Bx2 W3 W.heap.size (W.heap.size+1) S A0 c0 A1 c1 t:=by
  rw[hW3];refine⟨?_,?_⟩
  ·exact bn (aP W _) _
  ·have:=aP (W.alloc (.cells #[.slice A0 S.ms.length c0,.slice A1 S.es.length c1] 25)) (.cells #[.string t.name,.int .i64 t.num,.int .i64 t.kind,.bool t.rep,.bool t.map,.int .i64 t.typ] 70)
   simpa using this
 have hk3:=bD.below hB3;have hj3:=hj.below hB3;have sS:=ah (PX w0 W3 p P s vb vl t.name hP hF.sz hF.name hF.camel (by omega) hj3);have HX3:=ah hX3;have HK3:=ah hk3;have kQ:=ah hs;have HP:=ah hP;have HLi:=ah hlist;have HW3:=ah hW3;clear hW3 hB3 hX3 hk3 hj3 hs hP hj hF hlist;go_enter Tryz.func46,Tryz.ntmps46
 go_upto_region 1 with fail
 rw[<-HW3.out];clear HW3;obtain⟨z1,z2,z3,z4,z5,z6,z7,z8⟩:=HX3.out.cells
 go_upto_region 2 with(go_at_call 47;(with_reducible refine sS.out.mono ?_);rintro e w1⟨rfl,ho⟩;have HO:=ah ho;clear ho)
 obtain⟨s1,X,vb1,vl1,hj1,hk1,hst1,hq1⟩:=HO.out;clear z1 z2 z3 z4 z5 z6 z7 z8;have HX1:=ah (HX3.out.keep hk1);obtain⟨z1,z2,z3,z4,z5,z6,z7,z8⟩:=HX1.out.cells;have hb:=aeX kQ.out hst1.sz;have HJ1:=ah hj1;have HK1:=ah (HK3.out.trans hk1);have HS1:=ah hst1;have HQ1:=ah hq1;have HB:=ah hb;have HNl:=ah (fun W'(s2:WS)vb2 vl2(h2:s2.sz<=s1.sz+1)(h:nX w0 W' p P s2 vb2 vl2)=>abT w0 W' p P s2 vb2 vl2 HP.out (by omega) h);have uV:=ah (NV w0 w1 p P s1 vb1 vl1 2 (by decide) HP.out (by omega) hj1);clear hj1 hk1 hst1 hq1 hb HO sS;cases hrep:t.rep
 ·rw[hrep]at z6
  clear hrep
  go_wp2_with (go_at_call 44;(with_reducible refine(HNl.out _ s1 vb1 vl1 (by omega) HJ1.out).mono ?_);rintro e w2⟨rfl,ho⟩;have HO2:=ah ho;clear ho)
  go_end0
  exact⟨rfl,(lW.seq HK1.out HS1.out HO2.out (fun Z hZ=>by have:=vN.join (Y:=[]) (vs:=[]) (S:=S) (V:=wL S n) HQ1.out rfl (Z:=Z) ⟨by rw[hZ];exact jB (.inl rfl),.inl ⟨rfl,PZ,rfl,by rw[vM,hZ];rfl⟩⟩;rw[List.append_nil]at this;exact this)).imp (by omega) (fun _ h=>h)⟩
 ·have ND:=ah (HLi.out hrep)
  rw[hrep]at z6;have ajN:=ah hrep;clear hrep HLi
  go_upto_if 16 with(go_at_call 43;(with_reducible refine uV.out.mono ?_);rintro e w2⟨v,rfl,hv,ho⟩;have HO2:=ah ho;clear ho)
  obtain⟨s2,Y,vb2,vl2,hj2,hk2,hst2,rfl⟩:=HO2.out;clear z1 z2 z3 z4 z5 z6 z7 z8;obtain⟨z1,z2,z3,z4,z5,z6,z7,z8⟩:=(HX1.out.keep hk2).cells;have HJ2:=ah hj2;have HK2:=ah (HK1.out.trans hk2);have hb2:=hst2.sz;have HS2:=ah (HS1.out.trans hst2);have HB2:=ah hb2;rcases two hv with rfl|rfl
  ·have HL2:=ah (ND.out [] none 0 w2 s2 vb2 vl2 (Kd.IQ _ _) (fun v hv=>absurd hv List.not_mem_nil) (by have:=HB.out;show s2.sz+(1000+KM*0)<=_;omega) hj2)
   rw[List.length_nil]at HL2;clear hj2 hk2 hst2 hb2 HO2 hv
   go_wp2_with (go_at_call 48;(with_reducible refine HL2.out.mono ?_);rintro e w3⟨rfl,ho⟩;have HO3:=ah ho;clear ho)
   refine bodyPost_ret (results_none rfl _ _ _) rfl ?_;exact⟨rfl,(lW.seq HK2.out HS2.out HO3.out (fun Z hZ=>vN.join HQ1.out rfl hZ)).imp (by show 21*t.name.size+30+1+(1000+KM*0)<=_;omega) (fun _ h=>h)⟩
  ·clear hj2 hk2 hst2 hb2 HO2 hv
   go_wp2_with (go_at_call 44;(with_reducible refine(HNl.out _ s2 vb2 vl2 HB2.out HJ2.out).mono ?_);rintro e w3⟨rfl,ho⟩;have HO3:=ah ho;clear ho)
   go_end0
   exact⟨rfl,(lW.seq HK2.out HS2.out HO3.out (fun Z hZ=>vN.join HQ1.out rfl ⟨by rw[hZ];exact jB (.inl rfl),.inl ⟨rfl,PZ,rfl,by rw[vM,hZ];rfl⟩⟩)).imp (by omega) (fun _ h=>h)⟩
end Go.Proofs.YtapkmjfjikpnlaaGreatDoor
