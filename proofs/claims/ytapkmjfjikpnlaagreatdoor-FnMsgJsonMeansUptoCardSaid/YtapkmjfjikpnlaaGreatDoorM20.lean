/- A part of FnMsgJsonMeans. No conditions. -/
import Derived.Test.YtapkmjfjikpnlaaGreatDoorM19
namespace Go.Proofs.YtapkmjfjikpnlaaGreatDoor
open Go.RowKit YtapkmjfjikpnlaaGreatDoorW.aG YtapkmjfjikpnlaaGreatDoorW.aJ
set_option linter.unusedVariables false
set_option linter.unusedSimpArgs false
mutual
inductive Val where
 |mk (B:Bool) (I U F:Int) (S:ByteArray) (dA:List dD):Val
inductive dD where
 |mk (At:Int) (Values:List Val):dD
end
def Val.B:Val->Bool| .mk b _ _ _ _ _=>b
def Val.I:Val->Int| .mk _ i _ _ _ _=>i
def Val.U:Val->Int| .mk _ _ u _ _ _=>u
def Val.F:Val->Int| .mk _ _ _ f _ _=>f
def Val.S:Val->ByteArray| .mk _ _ _ _ s _=>s
def Val.dA:Val->List dD| .mk _ _ _ _ _ m=>m
def dD.At:dD->Int| .mk a _=>a
def dD.Values:dD->List Val| .mk _ l=>l
theorem Val.eta(v:Val):v= .mk v.B v.I v.U v.F v.S v.dA:=by cases v;rfl
theorem dD.eta(f:dD):f= .mk f.At f.Values:=by cases f;rfl
def zq(d:Kd dD):Kd Val:=Kd.iso (Kd.pair Kd.bool (Kd.pair (Kd.int .i64) (Kd.pair (Kd.int .u64) (Kd.pair (Kd.int .u64) (Kd.pair Kd.string (Kd.slice 68 d)))))) (fun v:Val=>(v.B,v.I,v.U,v.F,v.S,v.dA))
def NG(d:Kd dD):Kd dD:=Kd.iso (Kd.pair (Kd.int .i64) (Kd.slice 76 (zq d))) (fun x:dD=>(x.At,x.Values))
def jh(n:Nat):Kd dD:=Kd.upto NG 2 [76,68] n
def iU(n:Nat):Kd Val:=zq (jh n)
theorem lg(n:Nat):(jh n).sz=2:=by cases n<;>rfl
theorem PS(n:Nat):(iU n).sz=6:=rfl
theorem sF{n:Nat}{w:World}{x:Val}{cs:List Value}(h:(iU n).K w x cs):∃A c,cs=[.bool x.B,.int .i64 x.I,.int .u64 x.U,.int .u64 x.F,.string x.S,.slice A x.dA.length c]/\x.dA.length<=c/\Kd.C (jh n) w A x.dA.length x.dA:=by
 obtain⟨_,_,rfl,rfl,⟨_,_,rfl,rfl,⟨_,_,rfl,rfl,⟨_,_,rfl,rfl,⟨_,_,rfl,rfl,⟨A,c,rfl,h1,h2⟩⟩⟩⟩⟩⟩:=h;exact⟨A,c,rfl,h1,h2⟩
theorem Ru{n:Nat}{w:World}{x:dD}{cs:List Value}(h:(jh n).K w x cs):∃k A c,n=k+1/\cs=[.int .i64 x.At,.slice A x.Values.length c]/\x.Values.length<=c/\Kd.C (iU k) w A x.Values.length x.Values:=by
 cases n with
 |zero=>exact h.elim
 |succ k=>
  obtain⟨_,_,rfl,rfl,⟨A,c,rfl,h1,h2⟩⟩:=h;exact⟨k,A,c,rfl,rfl,h1,h2⟩
theorem qL{n:Nat}{w:World}{A:Option Addr}{m:Nat}{xs:List Val}(h:Kd.C (iU n) w A m xs){i:Nat}{x:Val}(hx:xs[i]? =some x):
 ∃ad A1 c1,A=some ad/\w.cell? (ad.add (i*6))=some (.bool x.B)/\w.cell? ⟨(ad.add (i*6)).block,(ad.add (i*6)).off+1,none⟩=some (.int .i64 x.I)/\w.cell? ⟨(ad.add (i*6)).block,(ad.add (i*6)).off+2,none⟩=some (.int .u64 x.U)/\w.cell? ⟨(ad.add (i*6)).block,(ad.add (i*6)).off+3,none⟩=some (.int .u64 x.F)/\w.cell? ⟨(ad.add (i*6)).block,(ad.add (i*6)).off+4,none⟩=some (.string x.S)/\w.cell? ⟨(ad.add (i*6)).block,(ad.add (i*6)).off+5,none⟩=some (.slice A1 x.dA.length c1)/\x.dA.length<=c1/\Kd.C (jh n) w A1 x.dA.length x.dA:=by
 obtain⟨ad,c,e,hK,hc0⟩:=yO h hx;have hc:∀j u,c[j]? =some u->w.cell? (ad.add (i*6+j))=some u:=hc0
 obtain⟨A1,c1,rfl,h1,h2⟩:=sF hK;exact⟨ad,A1,c1,e,hc 0 _ rfl,by rw[<-dH _ _ 1 (by omega)];exact hc 1 _ rfl,by rw[<-dH _ _ 2 (by omega)];exact hc 2 _ rfl,by rw[<-dH _ _ 3 (by omega)];exact hc 3 _ rfl,by rw[<-dH _ _ 4 (by omega)];exact hc 4 _ rfl,by rw[<-dH _ _ 5 (by omega)];exact hc 5 _ rfl,h1,h2⟩
theorem qm{n:Nat}{w:World}{A:Option Addr}{m:Nat}{xs:List dD}(h:Kd.C (jh n) w A m xs){i:Nat}{x:dD}(hx:xs[i]? =some x):
 ∃k ad A1 c1,n=k+1/\A=some ad/\w.cell? (ad.add (i*2))=some (.int .i64 x.At)/\w.cell? ⟨(ad.add (i*2)).block,(ad.add (i*2)).off+1,none⟩=some (.slice A1 x.Values.length c1)/\x.Values.length<=c1/\Kd.C (iU k) w A1 x.Values.length x.Values:=by
 obtain⟨ad,c,e,hK,hc0⟩:=yO h hx;have hc:∀j u,c[j]? =some u->w.cell? (ad.add (i*2+j))=some u:=by rw[lg]at hc0;exact hc0
 obtain⟨k,A1,c1,rfl,rfl,h1,h2⟩:=Ru hK;exact⟨k,ad,A1,c1,rfl,e,hc 0 _ rfl,by rw[<-dH _ _ 1 (by omega)];exact hc 1 _ rfl,h1,h2⟩
def kE:Nat->List dD->Nat
 |0,_=>0
 |n+1,l=>(l.map fun f=>(f.Values.map fun v=>v.S.size+kE n v.dA).sum).sum
inductive All2{α β:Type}(R:α->β->Prop):List α->List β->Prop
 |nil:All2 R [] []
 |cons {a b l m} (h:R a b) (t:All2 R l m):All2 R (a::l) (b::m)
theorem All2.imp{α β:Type}{R R':α->β->Prop}(h:∀a b,R a b->R' a b){l:List α}{m:List β}(k:All2 R l m):All2 R' l m:=by
 induction k with
 |nil=>exact .nil
 |cons h1 _ ih=>exact .cons (h _ _ h1) ih
theorem All2.snoc{α β:Type}{R:α->β->Prop}{l:List α}{m:List β}{a:α}{b:β}(k:All2 R l m)(h:R a b):All2 R (l++[a]) (m++[b]):=by
 induction k with
 |nil=>exact .cons h .nil
 |cons h1 _ ih=>exact .cons h1 ih
theorem All2.length{α β:Type}{R:α->β->Prop}{l:List α}{m:List β}(k:All2 R l m):l.length=m.length:=by
 induction k with
 |nil=>rfl
 |cons _ _ ih=>simp[ih]
structure fM where
 ms:List MT
 es:List ET
def qo(x:NT)(n:Int):Prop:=x.ok/\x.neg=decide (n<0)/\x.dg.length<=60/\ -30<=x.pw/\x.pw<=30/\((0<=x.pw/\bC x.dg*10^x.pw.toNat=n.natAbs)∨(x.pw<0/\bC x.dg=n.natAbs*10^(-x.pw).toNat))
def zW(ts:List TK)(r:ByteArray):Prop:=(∃sx b,ts=[⟨8,r,sx,b⟩])∨(∃raw b,ts=[⟨16,raw,r,b⟩])
def Rw(kind:Int):Nat:=if dQ kind=true then 8 else 16
def PU(kind F:Int)(ts:List TK):Prop:=
 (∃raw b,F=9218868437227405312/\ts=[⟨16,raw,⟨#[73,110,102,105,110,105,116,121]⟩,b⟩])∨
 (∃raw b,F=18442240474082181120/\ts=[⟨16,raw,⟨#[45,73,110,102,105,110,105,116,121]⟩,b⟩])∨
 (∃raw b,9218868437227405312<F%9223372036854775808/\ts=[⟨16,raw,⟨#[78,97,78]⟩,b⟩])∨
 (F%9223372036854775808<9218868437227405312/\∃x,zW ts (str x.bytes)/\vw F.toNat (Rw kind) x)
def NH(S:fM)(M:Int->List dD->List TK->Prop)(t:FT)(v:Val)(ts:List TK):Prop:=
 (aT t.kind=8/\M t.typ v.dA ts)∨
 (aT t.kind=1/\∃raw sx,ts=[⟨4,raw,sx,v.B⟩])∨
 (aT t.kind=5/\∃raw b,ts=[⟨16,raw,v.S,b⟩])∨
 (aT t.kind=6/\∃raw x b,ts=[⟨16,raw,x,b⟩]/\zV x v.S)∨
 (aT t.kind=7/\∃e,S.es[t.typ.toNat]? =some e/\((∃raw b,(dM e v.I).2=true/\ts=[⟨16,raw,(dM e v.I).1,b⟩])∨(∃x sx b,ts=[⟨8,str x.bytes,sx,b⟩]/\qo x v.I)))∨
 (aT t.kind=2/\∃x,zW ts (str x.bytes)/\qo x v.I)∨
 (aT t.kind=3/\∃x,zW ts (str x.bytes)/\qo x v.U)∨
 (aT t.kind=4/\PU t.kind v.F ts)
theorem NH.mono{S:fM}{M M':Int->List dD->List TK->Prop}(h:∀a b c,M a b c->M' a b c){t:FT}{v:Val}{ts:List TK}(k:NH S M t v ts):NH S M' t v ts:=by
 rcases k with⟨h1,h2⟩|k
 ·exact .inl ⟨h1,h _ _ _ h2⟩
 ·exact .inr k
def dL(kind:Int)(v:Val):ByteArray:=if aT kind=1 then(if v.B then⟨#[116,114,117,101]⟩else⟨#[102,97,108,115,101]⟩)else if aT kind=2 then str (bG v.I)else if aT kind=3 then str (fB v.U.toNat)else v.S
def qp(v:Val):Val:=match v.dA with| .mk _ (u::_)::_=>u|_=>.mk false 0 0 0 ⟨#[]⟩ []
def Rx(v:Val):Val:=match v.dA with|_:: .mk _ (u::_)::_=>u|_=>.mk false 0 0 0 ⟨#[]⟩ []
def Vs(V:FT->Val->List TK->Prop)(kt vt:FT)(v:Val)(e:TK×List TK):Prop:=e.1.kind=32/\e.1.str=dL kt.kind (qp v)/\V vt (Rx v) e.2
def AA(S:fM)(V:FT->Val->List TK->Prop)(t:FT)(vs:List Val)(tk:List TK):Prop:=
 (vs=[]/\∃x:TK,x.kind=2/\tk=[x])∨
 (t.map=true/\∃(mt:MT)(kt vt:FT)(o c:TK)(L:List (TK×List TK)),S.ms[t.typ.toNat]? =some mt/\mt.fields=[kt,vt]/\o.kind=64/\c.kind=128/\tk=o::(L.flatMap (fun e=>e.1::e.2)++[c])/\All2 (Vs V kt vt) vs L)∨
 (t.map=false/\t.rep=true/\∃(o c:TK)(L:List (List TK)),o.kind=256/\c.kind=512/\tk=o::(L.flatten++[c])/\All2 (V t) vs L)∨
 (t.rep=false/\t.map=false/\∃v,vs=[v]/\V t v tk)
theorem AA.mono{S:fM}{V V':FT->Val->List TK->Prop}(h:∀a b c,V a b c->V' a b c){t:FT}{vs:List Val}{tk:List TK}(k:AA S V t vs tk):AA S V' t vs tk:=by
 rcases k with k|⟨h1,mt,kt,vt,o,c,L,h2,h3,h4,h5,h6,h7⟩|⟨h1,h2,o,c,L,h3,h4,h5,h6⟩|⟨h1,h2,v,h3,h4⟩
 ·exact .inl k
 ·exact .inr (.inl ⟨h1,mt,kt,vt,o,c,L,h2,h3,h4,h5,h6,h7.imp (fun a b hab=>⟨hab.1,hab.2.1,h _ _ _ hab.2.2⟩)⟩)
 ·exact .inr (.inr (.inl ⟨h1,h2,o,c,L,h3,h4,h5,h6.imp (h t)⟩))
 ·exact .inr (.inr (.inr ⟨h1,h2,v,h3,h _ _ _ h4⟩))
structure Seg where
 k:Nat
 nt:TK
 tk:List TK
def Seg.ts(g:Seg):List TK:=g.nt::g.tk
def valuesOf(m:List dD)(k:Nat):List Val:=match m.find? (fun f=>f.At==(k:Int))with|some f=>f.Values|none=>[]
def aay(S:fM)(V:FT->Val->List TK->Prop)(mt:MT)(m:List dD)(g:Seg):Prop:=∃t,mt.fields[g.k]? =some t/\g.nt.kind=32/\(g.nt.str=t.name∨g.nt.str=camel t.name)/\AA S V t (valuesOf m g.k) g.tk
def Vt(S:fM)(V:FT->Val->List TK->Prop)(typ:Int)(m:List dD)(ts:List TK):Prop:=
 ∃(mt:MT)(o c:TK)(L:List Seg),0<=typ/\S.ms[typ.toNat]? =some mt/\o.kind=64/\c.kind=128/\ts=o::(L.flatMap Seg.ts++[c])/\(L.map Seg.k).Nodup/\(∀g∈L,aay S V mt m g)/\(∀f∈m,∃g∈L,(g.k:Int)=f.At)
theorem Vt.mono{S:fM}{V V':FT->Val->List TK->Prop}(h:∀a b c,V a b c->V' a b c){typ:Int}{m:List dD}{ts:List TK}(k:Vt S V typ m ts):Vt S V' typ m ts:=by
 obtain⟨mt,o,c,L,h1,h2,h3,h4,h5,h6,h7,h8⟩:=k;refine⟨mt,o,c,L,h1,h2,h3,h4,h5,h6,fun g hg=>?_,h8⟩;obtain⟨t,k1,k2,k3,k4⟩:=h7 g hg;exact⟨t,k1,k2,k3,k4.mono h⟩
def Vu(S:fM):Nat->Int->List dD->List TK->Prop
 |0,_,_,_=>False
 |n+1,typ,m,ts=>Vt S (NH S (Vu S n)) typ m ts
theorem Vu.succ{S:fM}{n:Nat}:∀{typ:Int}{m:List dD}{ts:List TK},Vu S n typ m ts->Vu S (n+1) typ m ts:=by
 induction n with
 |zero=>intro typ m ts h;exact h.elim
 |succ n ih=>intro typ m ts h;exact Vt.mono (fun a b c k=>NH.mono (fun _ _ _ k=>ih k) k) h
abbrev wL(S:fM)(n:Nat):FT->Val->List TK->Prop:=NH S (Vu S n)
theorem wL.succ{S:fM}{n:Nat}{t:FT}{v:Val}{ts:List TK}(h:wL S n t v ts):wL S (n+1) t v ts:=NH.mono (fun _ _ _ k=>k.succ) h
def Df(l:List FT):Nat:=(l.map (fun f=>f.name.size)).sum
structure sG(S:fM)(f:FT):Prop where
 name:dh (bytesOf f.name)=true
 camel:dh (bytesOf (camel f.name))=true
 sz:f.name.size<=1100000
 kind:aT f.kind=1∨aT f.kind=2∨aT f.kind=3∨aT f.kind=4∨aT f.kind=5∨aT f.kind=6∨aT f.kind=7∨aT f.kind=8
 enum:aT f.kind=7->0<=f.typ/\f.typ<S.es.length
 msg:aT f.kind=8->0<=f.typ/\f.typ<S.ms.length
 k11:aT f.kind=8->f.kind=11
 map:f.map=true->f.rep=true/\aT f.kind=8/\∃mt kt vt,S.ms[f.typ.toNat]? =some mt/\mt.fields=[kt,vt]/\kt.rep=false/\vt.rep=false/\(aT kt.kind=1∨aT kt.kind=2∨aT kt.kind=3∨aT kt.kind=5)
structure GY(e:ET):Prop where
 len:e.names.length=e.nums.length
 ne:e.names≠[]
 le:e.names.length<=50
 nums:∀x∈e.nums,-2147483648<=x/\x<=2147483647
 names:∀x∈e.names,dh (bytesOf x)=true/\x.size<=1100000
structure jW(S:fM):Prop where
 msl:S.ms.length<=50
 esl:S.es.length<=50
 fl:∀mt∈S.ms,mt.fields.length<=50/\Df mt.fields<=1100000
 Vw:∀mt∈S.ms,∀f∈mt.fields,sG S f
 en:∀e∈S.es,GY e
def qF(S:fM)(F:Int->List dD->Prop)(t:FT)(v:Val):Prop:=
 (aT t.kind=1/\v= .mk v.B 0 0 0 ⟨#[]⟩ [])∨
 (aT t.kind=2/\v= .mk false v.I 0 0 ⟨#[]⟩ []/\ -9223372036854775808<=v.I/\v.I<9223372036854775808/\(dQ t.kind=true-> -2147483648<=v.I/\v.I<2147483648))∨
 (aT t.kind=3/\v= .mk false 0 v.U 0 ⟨#[]⟩ []/\0<=v.U/\v.U<18446744073709551616/\(dQ t.kind=true->v.U<4294967296))∨
 (aT t.kind=4/\v= .mk false 0 0 v.F ⟨#[]⟩ []/\0<=v.F/\v.F<18446744073709551616)∨
 (aT t.kind=5/\v= .mk false 0 0 0 v.S []/\dh (bytesOf v.S)=true/\v.S.size<=1000)∨
 (aT t.kind=6/\v= .mk false 0 0 0 v.S []/\v.S.size<=1000)∨
 (aT t.kind=7/\v= .mk false v.I 0 0 ⟨#[]⟩ []/\ -2147483648<=v.I/\v.I<2147483648)∨
 (aT t.kind=8/\v= .mk false 0 0 0 ⟨#[]⟩ v.dA/\F t.typ v.dA/\(t.map=true->v.dA.length=2))
def jk:Int->List dD->Prop
 |_,[]=>True
 |last,f::l=>last<f.At/\jk f.At l
def qG(S:fM):Nat->Int->List dD->Prop
 |0,_,_=>False
 |n+1,typ,m=>0<=typ/\∃mt,S.ms[typ.toNat]? =some mt/\jk (-1) m/\∀f∈m,0<=f.At/\f.Values≠[]/\∃t,mt.fields[f.At.toNat]? =some t/\(t.rep=false->f.Values.length=1)/\∀v∈f.Values,qF S (qG S n) t v
def iP:Nat->List dD->Nat
 |0,_=>0
 |n+1,m=>(m.map (fun f=>(f.Values.map (fun v=>1+iP n v.dA)).sum)).sum
theorem Ry{P:List Int}{a:Nat}{l:List Int}(h:l≠[]):(jU P a l).1.length<=12*l.length:=by
 have h0:1<=l.length:=List.length_pos_iff.2 h;have e:∀a c,(kM P a c).length=6:=fun _ _=>rfl
 unfold jU mG
 split
 ·show 2<=_;omega
 ·split
  ·show l.length<=_;omega
  ·split
   ·show(kM _ _ _++kM _ _ _).length<=_
    rw[List.length_append,e,e];omega
   ·show(kM _ _ _).length<=_
    rw[e];omega
theorem NI(P:List Int):∀(n:Nat)(l:List Int)(a:Nat),l.length<=n->(iY P a l).1.length<=12*l.length:=by
 intro n
 induction n with
 |zero=>
  intro l a h;obtain rfl:l=[]:=List.eq_nil_of_length_eq_zero (by omega);rw[lF];simp
 |succ n ih=>
  intro l a h
  by_cases h0:l=[]
  ·rw[h0,lF];simp
  ·by_cases hz:aZ l=0
   ·rw[iY,dif_neg h0,dif_pos hz];simp
   ·rw[qJ P a h0 hz]
    have hl:=List.length_pos_iff.2 h0
    have h1:=Ry (P:=P) (a:=a) (l:=l.take (aZ l)) (by
     intro e;have:=congrArg List.length e;rw[List.length_take,List.length_nil]at this;omega)
    have h2:=ih (l.drop (aZ l)) (jU P a (l.take (aZ l))).2 (by rw[List.length_drop];omega);rw[List.length_take]at h1;rw[List.length_drop]at h2;simp only[List.length_append];omega
theorem JR(P:List Int)(a:Nat)(l:List Int):(dO P a l).1.length<=12*l.length+2:=by
 have:=NI P l.length l a (Nat.le_refl _);show(34::(iY P a l).1++[34]).length<=_;rw[List.length_append,List.length_cons,List.length_singleton];omega
theorem yw{P:List Int}(hP:qE P)(s:WS)(kind:Int)(hk:kind=16∨kind=32)(x:ByteArray)(hv:dh (bytesOf x)=true):
 ∃raw,kC s (uY P kind x s) [(eP (dK P (dO P s.a (bytesOf x)).2 8),.tok ⟨kind,raw,x,false⟩)] (21*x.size+10)/\GI raw x:=by
 have hl:=JR P s.a (bytesOf x);have ha:=ES P (bytesOf x).length (bytesOf x) s.a (Nat.le_refl _);rw[bytesOf_length]at hl ha;have hq:GI (str (dO P s.a (bytesOf x)).1) x:=⟨P,s.a,hP,hv,rfl⟩;refine⟨str (dO P s.a (bytesOf x)).1,?_,hq⟩;have h1:=oN P s (a':=(dO P s.a (bytesOf x)).2) (K:=9*x.size) ha.1 ha.2;have h2:=rZ hP (qK (dO P s.a (bytesOf x)).2 s) ⟨kind,str (dO P s.a (bytesOf x)).1,x,false⟩ (by rcases hk with rfl|rfl;exact .string _ _ hq;exact .name _ _ hq);have h3:=h1.trans h2;refine kC.mono h3 ?_;show 9*x.size+(6+(str (dO P s.a (bytesOf x)).1).size)<=_;rw[bV];omega
def lW(w0 W w':World)(p:Nat)(P:List Int)(s:WS)(K:Nat)(Q:List Item->Prop):Prop:=∃s' X vb vl,nX w0 w' p P s' vb vl/\bD W w'/\kC s s' X K/\Q X
abbrev vJ(w0 W:World)(p:Nat)(P:List Int)(s:WS)(K:Nat)(Q:List Item->Prop)(e:Ending)(w':World):Prop:=e= .returned (.tuple #[])/\lW w0 W w' p P s K Q
theorem WK.abO{w0 W w':World}{p:Nat}{P:List Int}{s:WS}{k:Nat}{vb vl:Value}(h:nX w0 W p P s vb vl)(hk:WK w0 W w' p P s.a k vb vl):∃a',s.a<=a'/\a'<=s.a+k/\nX w0 w' p P (qK a' s) vb vl/\bD W w':=by
 obtain⟨a',h1,h2,h3,h4,h5⟩:=hk;exact⟨a',h1,h2,⟨h3,jL h.ob h.jw h5,yS h.ol h.jw h5,h4⟩,bD.but h5 h.jw⟩
theorem lW.pre{w0 W W1 w':World}{p:Nat}{P:List Int}{s s1:WS}{K K1:Nat}{Q:List Item->Prop}{X:List Item}(h:lW w0 W1 w' p P s1 K Q)(hk:bD W W1)(hs:kC s s1 X K1){Q':List Item->Prop}(hQ:∀Y,Q Y->Q' (X++Y)):lW w0 W w' p P s (K1+K) Q':=by
 obtain⟨s',Y,vb,vl,h1,h2,h3,h4⟩:=h;exact⟨s',X++Y,vb,vl,h1,hk.trans h2,hs.trans h3,hQ _ h4⟩
theorem lW.imp{w0 W w':World}{p:Nat}{P:List Int}{s:WS}{K K':Nat}{Q Q':List Item->Prop}(h:lW w0 W w' p P s K Q)(hK:K<=K')(hQ:∀Y,Q Y->Q' Y):lW w0 W w' p P s K' Q':=by
 obtain⟨s',Y,vb,vl,h1,h2,h3,h4⟩:=h;exact⟨s',Y,vb,vl,h1,h2,h3.mono hK,hQ _ h4⟩
theorem zu(w0 W:World)(p:Nat)(P:List Int)(s:WS)(vb vl:Value)(x:ByteArray)(hP:qE P)(hx:x.size<=2000000)(hv:dh (bytesOf x)=true)(hs:s.sz+(21*x.size+10)<=1000000000000)(h:nX w0 W p P s vb vl):
 Calls Tryz.prog 95 #[.pointer (some ⟨p,0,none⟩),.string x] W (vJ w0 W p P s (21*x.size+10) fun X=>∃w raw,X=[(w,.tok ⟨16,raw,x,false⟩)]):=by
 obtain⟨raw,h1,h2⟩:=yw hP s 16 (.inl rfl) x hv;refine(Ux w0 W p P s vb vl x hP (by omega) hv (Nat.le_trans h1.sz hs) h).mono ?_;rintro e w1⟨rfl,⟨vT,Gw,h3⟩,h4⟩;exact⟨rfl,_,_,vT,Gw,h3,h4,h1,_,raw,rfl⟩
theorem aeO(w0 W:World)(p:Nat)(P:List Int)(s:WS)(vb vl:Value)(x:ByteArray)(hP:qE P)(hx:x.size<=2000000)(hv:dh (bytesOf x)=true)(hs:s.sz+(21*x.size+20)<=1000000000000)(h:nX w0 W p P s vb vl):
 Calls Tryz.prog 91 #[.pointer (some ⟨p,0,none⟩),.string x] W (vJ w0 W p P s (21*x.size+20) fun X=>∃w raw w',X=[(w,.tok ⟨32,raw,x,false⟩),(w',.colon)]):=by
 obtain⟨raw,h1,h2⟩:=yw hP s 32 (.inr rfl) x hv;have h5:=h1.trans (zl hP (uY P 32 x s) 58 .colon rfl (.inr rfl));refine(Uy w0 W p P s vb vl x hP (by omega) hv (Nat.le_trans h5.sz (by omega)) h).mono ?_;rintro e w1⟨rfl,⟨vT,Gw,h3⟩,h4⟩;exact⟨rfl,_,_,vT,Gw,h3,h4,h5.mono (by omega),_,raw,_,rfl⟩
theorem zx(w0 W:World)(p:Nat)(P:List Int)(s:WS)(vb vl:Value)(x:NT)(q:Bool)(hP:qE P)(hx:x.ok)(hl:x.bytes.length<=100)(hv:dh (bytesOf (str x.bytes))=true)(hs:s.sz+3000<=1000000000000)(h:nX w0 W p P s vb vl):
 Calls Tryz.prog 98 #[.pointer (some ⟨p,0,none⟩),.string (str x.bytes),.bool q] W (vJ w0 W p P s 3000 fun X=>zW (tks X) (str x.bytes)/\lG (X.map Prod.snd)):=by
 have hsz:(str x.bytes).size<=100:=by rw[bV];exact hl
 cases q with
 |true=>
  obtain⟨raw,h1,h2⟩:=yw hP s 16 (.inl rfl) (str x.bytes) hv;refine(yY w0 W p P s vb vl (str x.bytes) true hP (by omega) hv (Nat.le_trans h1.sz (by omega)) h).mono ?_;rintro e w1⟨rfl,⟨vT,Gw,h3⟩,h4⟩;exact⟨rfl,_,_,vT,Gw,h3,h4,h1.mono (by omega),.inr ⟨raw,false,rfl⟩,jB (.inr (.inr (.inr rfl)))⟩
 |false=>
  have h1:=rZ hP s ⟨8,str x.bytes,⟨#[]⟩,false⟩ (.number x hx hl);refine(yY w0 W p P s vb vl (str x.bytes) false hP (by omega) hv (Nat.le_trans h1.sz (by show _+(6+(str x.bytes).size)<=_;omega)) h).mono ?_;rintro e w1⟨rfl,⟨vT,Gw,h3⟩,h4⟩;exact⟨rfl,_,_,vT,Gw,h3,h4,h1.mono (by show 6+(str x.bytes).size<=_;omega),.inl ⟨_,_,rfl⟩,jB (.inr (.inr (.inl rfl)))⟩
theorem gX:∀l:List Int,(∀c∈l,0<=c/\c<128)->dh l=true:=by
 intro l
 induction l with
 |nil=>intro _;rw[dh];simp
 |cons c l ih=>
  intro h;have hc:=h c List.mem_cons_self
  have hs:aZ (c::l)=1:=by
   unfold aZ;simp[dw,hc.2]
  rw[dh,dif_neg (by simp),dif_neg (by rw[hs];simp),hs];exact ih (fun x hx=>h x (List.mem_cons_of_mem _ hx))
theorem fO(xs:List Int)(h:∀x∈xs,0<=x/\x<=255):bytesOf (str xs)=xs:=by
 show((str xs).data.toList.map fun b=>(b.toNat:Int))=xs;rw[strOfNums_data,List.map_map]
 conv=>rhs;rw[<-List.map_id xs]
 apply List.map_congr_left
 intro x hx;have:=h x hx;simp only[Function.comp,id]
 first|(rw[UInt8.toNat_ofNat'];omega)|(simp;omega)
theorem Dh{xs:List Int}(h:∀x∈xs,0<=x/\x<=255){i:Nat}{x:Int}(hx:xs[i]? =some x):bt (str xs) (i:Int)=x:=by
 rw[<-lu,fO xs h];simp[rd,List.getD_eq_getElem?_getD,hx]
theorem Vx(xs:List Int)(k:Nat):(str xs).extract 0 k=str (xs.take k):=by
 apply rM
 rw[Lib.extract_data,strOfNums_data,strOfNums_data,List.drop_zero,Nat.sub_zero,List.map_take]
theorem sH{l:List Int}(h:jT l):∀x∈l,0<=x/\x<=255:=fun x hx=>by have:=h x hx;omega
theorem EY{n:Nat}(h:n≠0):(fB n).head? ≠some 48:=by
 induction n using Nat.strongRecOn with
 |ind n ih=>
  by_cases h1:n<10
  ·rw[jE h1];simp;omega
  ·rw[rO h1]
   have:=ih (n/10) (by omega) (by omega);cases hd:fB (n/10)with
   |nil=>exact absurd hd (nD _)
   |cons d l=>rw[hd]at this;simpa using this
theorem jR(n:Int):bG n=(if n<0 then[45]else[])++fB n.natAbs:=by
 unfold bG
 by_cases h:0<=n
 ·rw[if_pos h,if_neg (by omega),List.nil_append,show n.natAbs=n.toNat by omega]
 ·rw[if_neg h,if_pos (by omega),show n.natAbs=(-n).toNat by omega];rfl
theorem yx(n:Int):∀x∈bG n,0<=x/\x<=255:=by
 rw[jR];intro x hx;rcases List.mem_append.1 hx with hx|hx
 ·split at hx
  ·rw[List.mem_singleton.1 hx];omega
  ·exact absurd hx List.not_mem_nil
 ·exact sH (iT _) x hx
theorem JU(s:ByteArray):∀g z,(∀i,i<z->XW s i=true)->∀i,i<zf s g z->XW s i=true:=by
 intro g
 induction g with
 |zero=>intro z h;exact h
 |succ g ih=>
  intro z h;unfold zf
  split
  ·rename_i hz
   exact ih (z+1) (fun i hi=>by
    by_cases e:i=z
    ·rw[e];exact hz
    ·exact h i (by omega))
  ·exact h
theorem Et(n:Int){z:Nat}(hz:∀i,i<z->XW (str (bG n)) i=true)(h0:0<z):z<(fB n.natAbs).length/\fB n.natAbs=(fB n.natAbs).take ((fB n.natAbs).length-z)++List.replicate z 48:=by
 have hs:(str (bG n)).size=(bG n).length:=bV _;have he:=jR n;have hr:=yx n;obtain⟨sg,hsg⟩:∃sg:List Int,sg=if n<0 then[45]else[]:=⟨_,rfl⟩
 obtain⟨D,hD⟩:∃D,D=fB n.natAbs:=⟨_,rfl⟩
 rw[<-hsg,<-hD]at he;rw[<-hD];have hsl:sg.length<=1:=by rw[hsg];split<;>simp
 have hl:(bG n).length=sg.length+D.length:=by rw[he,List.length_append]
 have hl2:(sg++D).length=sg.length+D.length:=List.length_append
 have key:∀i,i<z->i+1<(bG n).length/\(bG n)[(bG n).length-1-i]? =some 48/\∃y,(bG n)[(bG n).length-2-i]? =some y/\48<=y:=by
  intro i hi;have h:=hz i hi;unfold XW at h;rw[hs]at h;simp only[Bool.and_eq_true,decide_eq_true_eq]at h;obtain⟨⟨h1,h2⟩,h3⟩:=h;obtain⟨x,hx⟩:=bF (show(bG n).length-1-i<(bG n).length by omega);obtain⟨y,hy⟩:=bF (show(bG n).length-2-i<(bG n).length by omega);rw[Dh hr hx.out]at h2;rw[Dh hr hy.out]at h3;unfold dV at h3;simp only[Bool.and_eq_true,decide_eq_true_eq]at h3;exact⟨h1,by rw[hx.out,h2],y,hy.out,h3.1⟩
 have hzD:z<D.length:=by
  obtain⟨k1,k2,y,k3,k4⟩:=key (z-1) (by omega)
  apply Classical.byContradiction
  intro hc;have h2:(sg++D).length-2-(z-1)<sg.length:=by omega
  rw[he,List.getElem?_append_left h2]at k3;have:y∈sg:=List.mem_of_getElem? k3;rw[hsg]at this
  split at this
  ·rw[List.mem_singleton.1 this]at k4;omega
  ·exact absurd this List.not_mem_nil
 refine⟨hzD,?_⟩
 conv=>lhs;rw[<-List.take_append_drop (D.length-z) D]
 congr 1
 apply List.ext_getElem?
 intro j;rw[List.getElem?_drop,List.getElem?_replicate]
 by_cases hj:j<z
 ·rw[if_pos hj]
  obtain⟨k1,k2,_⟩:=key (z-1-j) (by omega);rw[he,List.getElem?_append_right (by omega)]at k2;rw[<-k2]
  congr 1
  omega
 ·rw[if_neg hj,List.getElem?_eq_none (by omega)]
theorem Di(P:List Int)(hP:qE P)(a:Nat)(n:Int)(hn:n.natAbs<18446744073709551616):∃x:NT,xX P a (str (bG n))=str x.bytes/\qo x n/\x.bytes.length<=60:=by
 have hv:=jg (P:=P) (a:=a) (n:=6) (by decide) hP;have hl20:=dU hn;have hD:=iT n.natAbs;have hDn:=nD n.natAbs
 have hDh:(fB n.natAbs).head? =some 48->fB n.natAbs=[48]:=by
  intro h
  by_cases h0:n.natAbs=0
  ·rw[h0,jE (by omega)];rfl
  ·exact absurd h (EY h0)
 have hnum:=kP n.natAbs;have he:=jR n;obtain⟨sg,hsg⟩:∃sg:List Int,sg=if n<0 then[45]else[]:=⟨_,rfl⟩
 have hsl:sg.length<=1:=by rw[hsg];split<;>simp
 have hsB:∀ip fp ex,NT.wJ ⟨decide (n<0),ip,fp,ex⟩=sg:=by intro ip fp ex;unfold NT.wJ;rw[hsg];simp
 obtain⟨D,hDe⟩:∃D,D=fB n.natAbs:=⟨_,rfl⟩
 rw[<-hDe]at hl20 hD hDn hDh hnum;rw[<-hsg,<-hDe]at he
 have plain:∃x:NT,str (bG n)=str x.bytes/\qo x n/\x.bytes.length<=60:=by
  refine⟨⟨decide (n<0),D,[],none⟩,?_,⟨⟨hDn,hD,hDh,fun d hd=>absurd hd List.not_mem_nil,fun E sg ds e=>by cases e⟩,rfl,by simp[NT.dg];omega,by simp[NT.pw,NT.exV],by simp[NT.pw,NT.exV],.inl ⟨by simp[NT.pw,NT.exV],by simp[NT.pw,NT.exV,NT.dg];exact hnum⟩⟩,?_⟩
  ·rw[NT.bytes,hsB,he];simp[NT.kJ,NT.iV]
  ·rw[NT.bytes,hsB];simp[NT.kJ,NT.iV];omega
 have hz:=JU (str (bG n)) (str (bG n)).size 0 (fun i h=>absurd h (Nat.not_lt_zero _));unfold xX;obtain⟨z,hzd⟩:∃z,z=zh (str (bG n)):=⟨_,rfl⟩
 have hz':∀i,i<z->XW (str (bG n)) i=true:=by rw[hzd];exact hz
 rw[<-hzd];rcases int6 hv.1 hv.2 with h|h|h|h|h|h
 ·rw[h];exact plain
 ·rw[h]
  refine⟨⟨decide (n<0),D,[48],none⟩,?_,⟨⟨hDn,hD,hDh,fun d hd=>by rw[List.mem_singleton.1 hd];omega,fun E sg ds e=>by cases e⟩,rfl,by simp[NT.dg];omega,by simp[NT.pw,NT.exV],by simp[NT.pw,NT.exV],.inr ⟨by simp[NT.pw,NT.exV],?_⟩⟩,?_⟩
  ·show str (bG n)++str [46,48]=_
   rw[mV,NT.bytes,hsB,he];simp[NT.kJ,NT.iV]
  ·show bC (D++[48])=n.natAbs*10^(-(0-(1:Int))).toNat
   rw[iK,hnum];show n.natAbs*10+0=n.natAbs*10^1;omega
  ·rw[NT.bytes,hsB];simp[NT.kJ,NT.iV];omega
 ·rw[h]
  refine⟨⟨decide (n<0),D,[],some (101,[],[48])⟩,?_,⟨⟨hDn,hD,hDh,fun d hd=>absurd hd List.not_mem_nil,?_⟩,rfl,by simp[NT.dg];omega,by show -30<=((bC [48]:Nat):Int)-((0:Nat):Int);decide,by show((bC [48]:Nat):Int)-((0:Nat):Int)<=30;decide,.inl ⟨by show 0<=((bC [48]:Nat):Int)-((0:Nat):Int);decide,?_⟩⟩,?_⟩
  ·show str (bG n)++str [101,48]=_
   rw[mV,NT.bytes,hsB,he];simp[NT.kJ,NT.iV]
  ·intro E sg ds e
   cases e;exact⟨.inl rfl,.inl rfl,by simp,fun x hx=>by rw[List.mem_singleton.1 hx];omega,by simp,fun _ _=>by simp⟩
  ·show bC (D++[])*10^0=_
   rw[List.append_nil,hnum];omega
  ·rw[NT.bytes,hsB];simp[NT.kJ,NT.iV];omega
 ·rw[h]
  show∃x:NT,(if 0<z/\z<9 then(str (bG n)).extract 0 ((str (bG n)).size-z)++str [101]++str (fB z)else str (bG n))=str x.bytes/\qo x n/\x.bytes.length<=60
  by_cases hzz:0<z/\z<9
  ·rw[if_pos hzz]
   obtain⟨k1,k2⟩:=Et n hz' hzz.1;rw[<-hDe]at k1 k2;have htl:(D.take (D.length-z)).length=D.length-z:=by rw[List.length_take];omega
   have aeP:bC (D.take (D.length-z))*10^z=n.natAbs:=by
    rw[<-hnum]
    conv=>rhs;rw[k2]
    rw[nP,xw,List.length_replicate,Nat.add_zero]
   refine⟨⟨decide (n<0),D.take (D.length-z),[],some (101,[],fB z)⟩,?_,⟨⟨?_,hD.take _,?_,fun d hd=>absurd hd List.not_mem_nil,?_⟩,rfl,by simp[NT.dg];omega,?_,?_,.inl ⟨?_,?_⟩⟩,?_⟩
   ·rw[Vx,bV,mV,mV,NT.bytes,hsB,he]
    congr 1
    rw[List.length_append,List.take_append];rw[show sg.length+D.length-z-sg.length=D.length-z by omega,List.take_of_length_le (by omega)];simp[NT.kJ,NT.iV]
   ·intro e
    rw[show D.take (D.length-z)=[]from e]at htl;simp at htl;omega
   ·intro e
    exfalso
    have e2:D.head? =some 48:=by
     have:=List.head?_take (l:=D) (i:=D.length-z);rw[if_neg (by omega)]at this;rw[<-this];exact e
    have:=hDh e2;rw[this]at k1;simp at k1;omega
   ·intro E sg ds e
    cases e;refine⟨.inl rfl,.inl rfl,nD z,iT z,rP 3 z (by omega),fun h1 _=>?_⟩;exact rP 0 z (by omega)
   ·show -30<=((bC (fB z):Nat):Int)-((0:Nat):Int);rw[kP];omega
   ·show((bC (fB z):Nat):Int)-((0:Nat):Int)<=30;rw[kP];omega
   ·show 0<=((bC (fB z):Nat):Int)-((0:Nat):Int);rw[kP];omega
   ·show bC (D.take (D.length-z)++[])*10^(((bC (fB z):Nat):Int)-((0:Nat):Int)).toNat=_
    rw[List.append_nil,kP,show((z:Int)-((0:Nat):Int)).toNat=z by omega];exact aeP
   ·have:=rP 3 z (by omega)
    rw[NT.bytes,hsB];simp[NT.kJ,NT.iV];omega
  ·rw[if_neg hzz];exact plain
 ·rw[h]
  show∃x:NT,(if(str (bG n)).size<9/\((str (bG n)).toList==[48])=false/\bt (str (bG n)) 0≠45 then str (bG n)++str [48,48,69,45,50]else str (bG n))=str x.bytes/\qo x n/\x.bytes.length<=60
  by_cases hc:(str (bG n)).size<9/\((str (bG n)).toList==[48])=false/\bt (str (bG n)) 0≠45
  ·rw[if_pos hc]
   obtain⟨c1,c2,c3⟩:=hc
   have hD48:D≠[48]:=by
    intro e
    by_cases hneg:n<0
    ·rw[e]at hnum
     have:bC [48]=0:=rfl;omega
    ·rw[if_neg hneg]at hsg
     rw[hsg,e]at he;rw[he,toList_eq,strOfNums_data]at c2;exact absurd c2 (by decide)
   refine⟨⟨decide (n<0),D++[48,48],[],some (69,[45],[50])⟩,?_,⟨⟨by simp,hD.append (fun d hd=>by simp at hd;omega),?_,fun d hd=>absurd hd List.not_mem_nil,?_⟩,rfl,by simp[NT.dg];omega,by show -30<= -((bC [50]:Nat):Int)-((0:Nat):Int);decide,by show -((bC [50]:Nat):Int)-((0:Nat):Int)<=30;decide,.inr ⟨by show -((bC [50]:Nat):Int)-((0:Nat):Int)<0;decide,?_⟩⟩,?_⟩
   ·rw[mV,NT.bytes,hsB,he];simp[NT.kJ,NT.iV]
   ·intro e
    exfalso
    apply hD48
    apply hDh
    cases hDD:D with
    |nil=>exact absurd hDD hDn
    |cons d l=>
     have e':((d::l)++[48,48]).head? =some 48:=by rw[<-hDD];exact e
     simpa using e'
   ·intro E sg ds e
    cases e;exact⟨.inr rfl,.inr (.inr rfl),by simp,fun x hx=>by rw[List.mem_singleton.1 hx];omega,by simp,fun _ h=>absurd rfl h⟩
   ·show bC ((D++[48,48])++[])=n.natAbs*10^2
    rw[List.append_nil,show D++[48,48]=(D++[48])++[48]by simp,iK,iK,hnum];show(n.natAbs*10+0)*10+0=n.natAbs*100;omega
   ·rw[NT.bytes,hsB];simp[NT.kJ,NT.iV];omega
  ·rw[if_neg hc];exact plain
 ·rw[h];exact plain
theorem NT.qw{x:NT}(h:x.ok):∃c r,x.bytes=c::r/\(c=45∨(48<=c/\c<=57)):=by
 unfold NT.bytes NT.wJ;cases x.neg
 ·cases hi:x.ip with
  |nil=>exact absurd hi h.ip1
  |cons d l=>exact⟨d,l++(x.kJ++x.iV),rfl,.inr (h.QY d (by rw[hi];exact List.mem_cons_self))⟩
 ·exact⟨45,x.ip++(x.kJ++x.iV),rfl,.inl rfl⟩
theorem NT.pJ{x:NT}(h:x.ok):∀c∈x.bytes,0<=c/\c<=255:=by
 have hd:∀{l:List Int},jT l->∀c∈l,0<=c/\c<=255:=fun h c hc=>by have:=h c hc;omega
 intro c hc;unfold NT.bytes NT.wJ at hc;rcases List.mem_append.1 hc with hc|hc
 ·split at hc
  ·rw[List.mem_singleton.1 hc];omega
  ·exact absurd hc List.not_mem_nil
 ·rcases List.mem_append.1 hc with hc|hc
  ·exact hd h.QY c hc
  ·rcases List.mem_append.1 hc with hc|hc
   ·unfold NT.kJ at hc
    split at hc
    ·exact absurd hc List.not_mem_nil
    ·rcases List.mem_cons.1 hc with rfl|hc
     ·omega
     ·exact hd h.fpD c hc
   ·unfold NT.iV at hc
    cases he:x.ex with
    |none=>rw[he]at hc;exact absurd hc List.not_mem_nil
    |some v=>
     obtain⟨E,sg,ds⟩:=v;rw[he]at hc;obtain⟨h1,h2,_,h4,_⟩:=h.TF E sg ds he;rcases List.mem_cons.1 hc with rfl|hc
     ·omega
     ·rcases List.mem_append.1 hc with hc|hc
      ·rcases h2 with rfl|rfl|rfl
       ·exact absurd hc List.not_mem_nil
       ·rw[List.mem_singleton.1 hc];omega
       ·rw[List.mem_singleton.1 hc];omega
      ·exact hd h4 c hc
structure aeQ(raw s:ByteArray)(r:List Int):Prop where
 eq:bytesOf raw=34::(r++[34])
 qu:yK r (bytesOf s)
theorem GI.raw{raw s:ByteArray}(h:GI raw s):∃r,aeQ raw s r:=by
 obtain⟨P,a,hP,hv,rfl⟩:=h;have hq:=JI P (bytesOf s).length (bytesOf s) (Nat.le_refl _) (gV s) hv a;refine⟨(iY P a (bytesOf s)).1,?_,hq⟩;rw[fO]
 ·rfl
 ·intro x hx
  simp only[dO,List.cons_append,List.mem_cons,List.mem_append,List.not_mem_nil,or_false]at hx;rcases hx with rfl|hx|rfl
  ·omega
  ·exact hq.rng x hx
  ·omega
theorem Vy{t:TK}(h:nR t):∃c r,bytesOf t.raw=c::r/\LU c=false:=by
 cases h with
 |null=>exact⟨110,_,rfl,rfl⟩
 |UO=>exact⟨116,_,rfl,rfl⟩
 |Nc=>exact⟨102,_,rfl,rfl⟩
 |number x h hl=>
  obtain⟨c,r,e,hc⟩:=x.qw h;refine⟨c,r,by rw[fO _ (x.pJ h)];exact e,?_⟩;simp only[LU,Bool.or_eq_false_iff,beq_eq_false_iff_ne];omega
 |string raw s h=>obtain⟨r,hr⟩:=h.raw;exact⟨34,_,hr.eq,rfl⟩
 |name raw s h=>obtain⟨r,hr⟩:=h.raw;exact⟨34,_,hr.eq,rfl⟩
 |abr=>exact⟨123,_,rfl,rfl⟩
 |YK=>exact⟨125,_,rfl,rfl⟩
 |abt=>exact⟨91,_,rfl,rfl⟩
 |YL=>exact⟨93,_,rfl,rfl⟩
theorem Dj{x:Lex}(h:Jw x):∃c r,x.raw=c::r/\LU c=false:=by
 cases x with
 |tok t=>exact Vy h
 |comma=>exact⟨44,[],rfl,rfl⟩
 |colon=>exact⟨58,[],rfl,rfl⟩
structure fA(T:List Int)(i:Nat)(Y:List Item)(we:List Int):Prop where
 le:i<=T.length
 eq:T.drop i=lT Y++we
 ok:Jy Y
 ws:CV we
theorem fA.len{T:List Int}{i:Nat}{Y:List Item}{we:List Int}(h:fA T i Y we):i+(lT Y).length+we.length=T.length:=by
 have h1:=congrArg List.length h.eq;rw[List.length_drop,List.length_append]at h1;have:=h.le;omega
theorem fA.next{T:List Int}{i:Nat}{w:List Int}{x:Lex}{Y:List Item}{we:List Int}(h:fA T i ((w,x)::Y) we):fA T (i+w.length+x.raw.length) Y we:=by
 have h1:=h.len;rw[iF,List.length_append,List.length_append]at h1;refine⟨by omega,?_,fun j hj=>h.ok j (List.mem_cons_of_mem _ hj),h.ws⟩;rw[Nat.add_assoc,<-List.drop_drop,h.eq,iF,List.append_assoc,<-List.length_append,List.drop_left]
theorem fA.skip{T:List Int}{i:Nat}{Y:List Item}{we:List Int}(h:fA T i Y we):
 ∃Y' Bl,fA T (i+qh (T.drop i)) Y' Bl/\jV (i+qh (T.drop i)) Y'=jV i Y/\Y'.map Prod.snd=Y.map Prod.snd/\(∀j∈Y'.head?,j.1=[])/\(Y'=[]->Bl=[]):=by
 cases Y with
 |nil=>
  have h1:=h.eq;have h2:=GK (l:=[]) h.ws;rw[List.append_nil]at h2;have h3:=h.len;have e:qh (T.drop i)=we.length:=by rw[h1];show qh ([]++we)=_;rw[List.nil_append,h2];rfl
  simp only[lT,List.flatMap_nil,List.length_nil]at h3;refine⟨[],[],⟨by rw[e];omega,?_,Jy.nil,fun c hc=>absurd hc List.not_mem_nil⟩,rfl,rfl,fun j hj=>by simp at hj,fun _=>rfl⟩;rw[e];exact List.drop_eq_nil_of_le (by omega)
 |cons i0 Y=>
  obtain⟨w,x⟩:=i0;obtain⟨hw,hx⟩:CV w/\Jw x:=h.ok _ List.mem_cons_self;obtain⟨c,r,ex,hc⟩:=Dj hx;have h3:=h.len;rw[iF,List.length_append,List.length_append]at h3
  have e:qh (T.drop i)=w.length:=by
   rw[h.eq,iF,List.append_assoc,List.append_assoc,GK hw,ex,List.cons_append,Nj hc];omega
  refine⟨([],x)::Y,we,⟨by rw[e];omega,?_,?_,h.ws⟩,?_,rfl,fun j hj=>?_,fun hj=>by cases hj⟩
  ·rw[e,<-List.drop_drop,h.eq,iF,List.append_assoc,List.append_assoc,List.drop_left,iF,List.nil_append,List.append_assoc]
  ·intro j hj
   rcases List.mem_cons.1 hj with rfl|hj
   ·exact⟨fun c hc=>absurd hc List.not_mem_nil,hx⟩
   ·exact h.ok j (List.mem_cons_of_mem _ hj)
  ·rw[e]
   cases x with
   |tok t=>rfl
   |comma=>rfl
   |colon=>rfl
  ·simp only[List.head?_cons,Option.mem_some_iff]at hj
   subst hj
   rfl
theorem Acc.inv{t:TK}{st:List Int}{last:Int}{L:List Lex}(h:Acc st last (.tok t::L)):
 (t.kind=32/\(∃s',st=64::s')/\(last=64∨last=1024)/\∃L',L= .colon::L'/\Acc st 32 L')∨((t.kind=64∨t.kind=256)/\Es st last/\Acc (t.kind::st) t.kind L)∨
 (t.kind=128/\∃st',st=64::st'/\last≠32/\last≠1024/\Acc st' 128 L)∨(t.kind=512/\∃st',st=256::st'/\last≠1024/\Acc st' 512 L)∨(uH t.kind/\Es st last/\Acc st t.kind L):=by
 unfold Acc at h
 split at h
 ·rename_i h1
  obtain⟨h2,h3,h4⟩:=h
  split at h4
  ·rename_i L'
   exact .inl ⟨h1,h2,h3,L',rfl,h4⟩
  ·exact h4.elim
 ·split at h
  ·rename_i h1
   exact .inr (.inl ⟨h1,h⟩)
  ·split at h
   ·rename_i h1
    split at h
    ·rename_i st'
     exact .inr (.inr (.inl ⟨h1,st',rfl,h⟩))
    ·exact h.elim
   ·split at h
    ·rename_i h1
     split at h
     ·rename_i st'
      exact .inr (.inr (.inr (.inl ⟨h1,st',rfl,h⟩)))
     ·exact h.elim
    ·exact .inr (.inr (.inr (.inr h)))
theorem Vz{st:List Int}{last:Int}(hs:uH last):¬Es st last:=by
 unfold uH at hs;unfold Es
 split
 ·omega
 ·omega
theorem Acc.PV{st:List Int}{last:Int}{Y:List Item}{we:List Int}(hs:uH last)(h:Acc st last (Y.map Prod.snd))(hX:Jy Y)(hw:CV we):lT Y++we=[]∨∃c r,lT Y++we=c::r/\lU c:=by
 have hws:∀{w:List Int}{l:List Int},CV w->w≠[]->∃c r,w++l=c::r/\lU c:=by
  intro w l hw hne;cases w with
  |nil=>exact absurd rfl hne
  |cons c w=>
   refine⟨c,w++l,rfl,?_⟩;have:=hw c List.mem_cons_self;unfold lU;omega
 cases Y with
 |nil=>
  by_cases hne:we=[]
  ·subst hne;exact .inl rfl
  ·have:=hws (l:=[]) hw hne
   rw[List.append_nil]at this;exact .inr this
 |cons i0 Y=>
  obtain⟨w,x⟩:=i0;obtain⟨hww,hx⟩:=hX _ List.mem_cons_self
  right
  by_cases hne:w=[]
  ·subst hne
   rw[iF,List.nil_append];cases x with
   |comma=>exact⟨44,lT Y++we,rfl,by unfold lU;omega⟩
   |colon=>exact h.elim
   |tok t=>
    have hx':nR t:=hx;rcases h.inv with h|h|⟨h,_⟩|⟨h,_⟩|h
    ·unfold uH at hs
     exact absurd h.2.2.1 (by omega)
    ·exact absurd h.2.1 (Vz hs)
    ·cases hx' with
     |YK=>exact⟨125,lT Y++we,rfl,by unfold lU;omega⟩
     |_=>simp at h
    ·cases hx' with
     |YL=>exact⟨93,lT Y++we,rfl,by unfold lU;omega⟩
     |_=>simp at h
    ·exact absurd h.2.1 (Vz hs)
  ·obtain⟨c,r,e,hd⟩:=hws (l:=x.raw++lT Y++we) hww hne
   exact⟨c,r,by rw[iF,<-e,List.append_assoc,List.append_assoc,List.append_assoc],hd⟩
end Go.Proofs.YtapkmjfjikpnlaaGreatDoor
