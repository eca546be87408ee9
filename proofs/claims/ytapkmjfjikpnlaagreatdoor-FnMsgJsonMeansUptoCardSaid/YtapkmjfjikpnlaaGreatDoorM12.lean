/- A part of FnMsgJsonMeans. No conditions. -/
import Derived.Test.YtapkmjfjikpnlaaGreatDoorM11
set_option maxHeartbeats 4000000
set_option maxRecDepth 100000
namespace Go.Proofs.YtapkmjfjikpnlaaGreatDoor
open Go.RowKit YtapkmjfjikpnlaaGreatDoorW.aG YtapkmjfjikpnlaaGreatDoorW.aJ
set_option linter.unusedVariables false
set_option linter.unusedSimpArgs false
structure TK where
 kind:Int
 raw:ByteArray
 str:ByteArray
 boo:Bool
inductive Lex where
 |tok (t:TK):Lex
 |comma:Lex
 |colon:Lex
def Lex.raw:Lex->List Int
 | .tok t=>bytesOf t.raw
 | .comma=>[44]
 | .colon=>[58]
abbrev Item:=List Int×Lex
def lT(X:List Item):List Int:=X.flatMap (fun i=>i.1++i.2.raw)
def jV:Nat->List Item->List Tok
 |_,[]=>[]
 |pos,(w,.tok t)::X=>⟨t.kind,((pos+w.length:Nat):Int),t.raw,t.str,t.boo⟩::jV (pos+w.length+t.raw.size) X
 |pos,(w,.comma)::X=>jV (pos+w.length+1) X
 |pos,(w,.colon)::X=>jV (pos+w.length+1) X
def Lex.tk:Lex->List TK
 | .tok t=>[t]
 | .comma=>[]
 | .colon=>[]
def tks(X:List Item):List TK:=X.flatMap (fun i=>i.2.tk)
theorem Na(X Y:List Item):lT (X++Y)=lT X++lT Y:=by unfold lT;rw[List.flatMap_append]
theorem iF(w:List Int)(x:Lex)(X:List Item):lT ((w,x)::X)=w++x.raw++lT X:=rfl
theorem Nb(X Y:List Item):∀pos,jV pos (X++Y)=jV pos X++jV (pos+(lT X).length) Y:=by
 induction X with
 |nil=>intro pos;rfl
 |cons i X ih=>
  intro pos;obtain⟨w,x⟩:=i;cases x with
  |tok t=>
   show _::jV _ (X++Y)=_::(jV _ X++jV _ Y);rw[ih,iF,List.length_append,List.length_append];show _::(_++jV (pos+w.length+t.raw.size+_) Y)=_::(_++jV (pos+(w.length+(bytesOf t.raw).length+_)) Y);rw[bytesOf_length,Nat.add_assoc pos,Nat.add_assoc pos,Nat.add_assoc]
  |comma=>
   show jV _ (X++Y)=jV _ X++jV _ Y;rw[ih,iF,List.length_append,List.length_append];show _++jV (pos+w.length+1+_) Y=_++jV (pos+(w.length+1+_)) Y;rw[Nat.add_assoc pos,Nat.add_assoc pos,Nat.add_assoc]
  |colon=>
   show jV _ (X++Y)=jV _ X++jV _ Y;rw[ih,iF,List.length_append,List.length_append];show _++jV (pos+w.length+1+_) Y=_++jV (pos+(w.length+1+_)) Y;rw[Nat.add_assoc pos,Nat.add_assoc pos,Nat.add_assoc]
def CV(w:List Int):Prop:=∀c∈w,c=32∨c=10∨c=9∨c=13
def GI(raw s:ByteArray):Prop:=∃P a,qE P/\dh (bytesOf s)=true/\raw=str (dO P a (bytesOf s)).1
inductive nR:TK->Prop
 |null:nR ⟨2,⟨#[110,117,108,108]⟩,⟨#[]⟩,false⟩
 |UO:nR ⟨4,⟨#[116,114,117,101]⟩,⟨#[]⟩,true⟩
 |Nc:nR ⟨4,⟨#[102,97,108,115,101]⟩,⟨#[]⟩,false⟩
 |number (x:NT) (h:x.ok) (hl:x.bytes.length<=100):nR ⟨8,str x.bytes,⟨#[]⟩,false⟩
 |string (raw s:ByteArray) (h:GI raw s):nR ⟨16,raw,s,false⟩
 |name (raw s:ByteArray) (h:GI raw s):nR ⟨32,raw,s,false⟩
 |abr:nR ⟨64,⟨#[123]⟩,⟨#[]⟩,false⟩
 |YK:nR ⟨128,⟨#[125]⟩,⟨#[]⟩,false⟩
 |abt:nR ⟨256,⟨#[91]⟩,⟨#[]⟩,false⟩
 |YL:nR ⟨512,⟨#[93]⟩,⟨#[]⟩,false⟩
def Jw:Lex->Prop
 | .tok t=>nR t
 |_=>True
def Jy(X:List Item):Prop:=∀i∈X,CV i.1/\Jw i.2
theorem Jy.append{X Y:List Item}(h:Jy X)(k:Jy Y):Jy (X++Y):=fun i hi=>(List.mem_append.1 hi).elim (h i) (k i)
theorem Jy.nil:Jy []:=fun i h=>absurd h List.not_mem_nil
def uH(k:Int):Prop:=k=2∨k=4∨k=8∨k=16
def xR(k:Int):Prop:=uH k∨k=128∨k=512
def Es(st:List Int)(last:Int):Prop:=match st with
 |[]=>last=0
 |t::_=>(t=64/\last=32)∨(t=256/\(last=256∨last=1024))
def Acc:List Int->Int->List Lex->Prop
 |st,_,[]=>st=[]
 |st,last,.comma::L=>st≠[]/\xR last/\Acc st 1024 L
 |_,_,.colon::_=>False
 |st,last,.tok t::L=>
  if t.kind=32 then(∃s',st=64::s')/\(last=64∨last=1024)/\(match L with| .colon::L'=>Acc st 32 L'|_=>False)
  else if t.kind=64∨t.kind=256 then Es st last/\Acc (t.kind::st) t.kind L
  else if t.kind=128 then(match st with|64::st'=>last≠32/\last≠1024/\Acc st' 128 L|_=>False)
  else if t.kind=512 then(match st with|256::st'=>last≠1024/\Acc st' 512 L|_=>False)
  else uH t.kind/\Es st last/\Acc st t.kind L
def lG(X:List Lex):Prop:=∃k,xR k/\∀st last rest,Es st last->Acc st k rest->Acc st last (X++rest)
theorem jB{t:TK}(h:uH t.kind):lG [.tok t]:=by
 refine⟨t.kind,.inl h,fun st last rest hv hr=>?_⟩;show Acc st last (.tok t::rest);unfold Acc;rw[if_neg (by rcases h with h|h|h|h<;>omega),if_neg (by rcases h with h|h|h|h<;>omega),if_neg (by rcases h with h|h|h|h<;>omega),if_neg (by rcases h with h|h|h|h<;>omega)];exact⟨h,hv,hr⟩
structure kC(s s':WS)(X:List Item)(K:Nat):Prop where
 a:s.a<=s'.a
 b:s'.b=s.b++lT X
 l:s'.l=s.l++jV s.b.length X
 ok:Jy X
 sz:s'.sz<=s.sz+K
 sz0:s.sz<=s'.sz
theorem kC.refl(s:WS)(K:Nat):kC s s [] K:=⟨Nat.le_refl _,by simp[lT],by simp[jV],Jy.nil,by omega,Nat.le_refl _⟩
theorem kC.trans{s s1 s2:WS}{X Y:List Item}{K K':Nat}(h:kC s s1 X K)(k:kC s1 s2 Y K'):kC s s2 (X++Y) (K+K'):=by
 obtain⟨h1,h2,h3,h4,h5,h6⟩:=h;obtain⟨k1,k2,k3,k4,k5,k6⟩:=k;refine⟨by omega,by rw[k2,h2,Na,List.append_assoc],?_,h4.append k4,by omega,by omega⟩;rw[k3,h3,Nb,h2,List.length_append,List.append_assoc]
theorem kC.mono{s s1:WS}{X:List Item}{K K':Nat}(h:kC s s1 X K)(hK:K<=K'):kC s s1 X K':=⟨h.a,h.b,h.l,h.ok,Nat.le_trans h.sz (by omega),h.sz0⟩
theorem CW{P:List Int}(hP:qE P)(a:Nat):CV (eP (dK P a 8))/\(eP (dK P a 8)).length<=4:=by
 have hr:=jg (P:=P) (a:=a) (n:=8) (by decide) hP;rcases int8 hr.1 hr.2 with h|h|h|h|h|h|h|h<;>rw[h]<;>refine⟨fun c hc=>?_,by decide⟩<;>revert hc<;>simp[eP,spaces]<;>omega
theorem oN(P:List Int)(s:WS){a':Nat}(h1:s.a<=a'){K:Nat}(h2:a'<=s.a+K):kC s (qK a' s) [] K:=
 ⟨h1,by simp[lT,qK],by simp[jV,qK],Jy.nil,by simp only[WS.sz,qK];omega,by simp only[WS.sz,qK];omega⟩
theorem rZ{P:List Int}(hP:qE P)(s:WS)(t:TK)(ht:nR t):kC s (Ap P t.kind t.str t.boo t.raw s) [(eP (dK P s.a 8),.tok t)] (6+t.raw.size):=by
 have hw:=CW hP s.a;have ha:=dX P s.a;refine⟨ha.1,?_,?_,?_,?_,?_⟩
 ·show(s.b++eP (dK P s.a 8))++bytesOf t.raw=_
  rw[iF];simp[lT,Lex.raw]
 ·show s.l++[_]=s.l++jV s.b.length [_]
  show s.l++[(⟨t.kind,((s.b++eP (dK P s.a 8)).length:Int),t.raw,t.str,t.boo⟩:Tok)]=_;rw[List.length_append];rfl
 ·intro i hi
  rw[List.mem_singleton.1 hi];exact⟨hw.1,ht⟩
 ·simp only[WS.sz,Ap,Em,List.length_append,List.length_singleton,bytesOf_length]
  omega
 ·simp only[WS.sz,Ap,Em,List.length_append,List.length_singleton,bytesOf_length]
  omega
theorem zl{P:List Int}(hP:qE P)(s:WS)(y:Int)(x:Lex)(hx:x.raw=[y])(h:x= .comma∨x= .colon):kC s (zQ y (Em P s)) [(eP (dK P s.a 8),x)] 6:=by
 have hw:=CW hP s.a;have ha:=dX P s.a;refine⟨ha.1,?_,?_,?_,?_,?_⟩
 ·show(s.b++eP (dK P s.a 8))++[y]=_
  rw[iF,hx];simp[lT]
 ·show s.l=s.l++jV s.b.length [_]
  rcases h with rfl|rfl<;>simp[jV]
 ·intro i hi
  rw[List.mem_singleton.1 hi];exact⟨hw.1,by rcases h with rfl|rfl<;>trivial⟩
 ·simp only[WS.sz,zQ,Em,List.length_append,List.length_singleton]
  omega
 ·simp only[WS.sz,zQ,Em,List.length_append,List.length_singleton]
  omega
theorem Nh{P:List Int}(hP:qE P)(s:WS)(i:Nat):∃X,kC s (CQ P i s) X 6/\X.map Prod.snd=(if 0<i then[.comma]else[]):=by
 unfold CQ
 split
 ·exact⟨_,zl hP s 44 .comma rfl (.inl rfl),rfl⟩
 ·exact⟨[],kC.refl s 6,rfl⟩
def LU(c:Int):Bool:=c==32||c==10||c==13||c==9
def qh(l:List Int):Nat:=(l.takeWhile LU).length
theorem GK{w l:List Int}(h:CV w):qh (w++l)=w.length+qh l:=by
 induction w with
 |nil=>simp
 |cons c w ih=>
  have hc:LU c=true:=by
   rcases h c List.mem_cons_self with h|h|h|h<;>subst h<;>rfl
  have:=ih (fun x hx=>h x (List.mem_cons_of_mem _ hx));unfold qh at this ⊢;rw[List.cons_append,List.takeWhile_cons,if_pos hc,List.length_cons,List.length_cons,this];omega
theorem Nj{c:Int}{l:List Int}(h:LU c=false):qh (c::l)=0:=by
 unfold qh;rw[List.takeWhile_cons,if_neg (by rw[h];simp)];rfl
theorem UQ{l:List Int}{k:Nat}(h:∀c∈l.take k,LU c=true)(hk:k<=l.length)(he:l.drop k=[]∨∃c r,l.drop k=c::r/\LU c=false):qh l=k:=by
 have e:l=l.take k++l.drop k:=(List.take_append_drop k l).symm
 have key:∀(a b:List Int),(∀c∈a,LU c=true)->(b=[]∨∃c r,b=c::r/\LU c=false)->qh (a++b)=a.length:=by
  intro a b ha hb
  induction a with
  |nil=>
   rcases hb with rfl|⟨c,r,rfl,hc⟩
   ·rfl
   ·exact Nj hc
  |cons x a ih=>
   have:=ih (fun c hc=>ha c (List.mem_cons_of_mem _ hc));unfold qh at this ⊢;rw[List.cons_append,List.takeWhile_cons,if_pos (ha x List.mem_cons_self),List.length_cons,this,List.length_cons]
 have h2:=key _ _ h he;rw[<-e,List.length_take,Nat.min_eq_left hk]at h2;exact h2
abbrev uI(W:World)(p:Nat)(last bK:Int)(bM:Value)(bP:Bool)(bQ:ByteArray)(eF:Value)(A:Option Addr)(N c:Nat)(inv:Value):Prop:=
 W.heap[p]? =some (.cells #[.int .u8 0,.int .u16 last,.int .i64 bK,bM,.bool bP,.string bQ,.nilIface,eF,.slice A N c,inv] 119 (0,0))
structure oO(w0:World)(T:List Int)(i r:Nat)(Ai:Option Addr)(ci:Nat):Prop where
 eq:r+i=T.length
 cap:r<=ci
 rd:RdB w0 Ai r (T.drop i)
theorem oO.drop{w0:World}{T:List Int}{i r:Nat}{Ai:Option Addr}{ci:Nat}(h:oO w0 T i r Ai ci){m:Nat}(hm:m<=r):
 ∃Aj r1 cj,(∀W:World,(Instr.slice 27 (.slice Ai r ci) (some (.int .i64 (m:Int))) none none).run Tryz.prog W= .ok (.slice Aj r1 cj) W)/\oO w0 T (i+m) r1 Aj cj:=by
 obtain⟨Aj,h1,h2⟩:=jF Ai r ci m hm h.cap;refine⟨Aj,r-m,ci-m,h1,by have:=h.eq;omega,by have:=h.cap;omega,?_⟩;have:=h2 w0 _ h.rd;rw[List.drop_drop]at this;exact this
theorem oO.head{w0:World}{T:List Int}{i r:Nat}{Ai:Option Addr}{ci:Nat}(h:oO w0 T i r Ai ci){x:Int}(hx:T[i]? =some x):∃ad,Ai=some ad/\w0.cell? ad=some (.int .u8 x):=by
 have h0:(T.drop i)[0]? =some x:=by rw[List.getElem?_drop];exact hx
 obtain⟨ad,e,hc⟩:=iD h.rd h0;refine⟨ad,e,?_⟩;rw[show ad.add 0=ad by simp[Addr.add]]at hc;exact hc
theorem set9{w0 W:World}{p:Nat}{last bK:Int}{bM:Value}{bP:Bool}{bQ:ByteArray}{eF:Value}{A:Option Addr}{N c:Nat}{inv:Value}(hp:w0.heap.size<=p)(hB:Below w0.heap.size w0 W)(hD:uI W p last bK bM bP bQ eF A N c inv)(v:Value):
 uI (W.setCell ⟨p,9,none⟩ v) p last bK bM bP bQ eF A N c v/\Below w0.heap.size w0 (W.setCell ⟨p,9,none⟩ v)/\aH W (W.setCell ⟨p,9,none⟩ v) p none:=
 ⟨(aW hD 9 _).trans rfl,aV hB hp,(aH.refl W p none).xM 9 v⟩
structure QZ(T:List Int)(a j:Nat):Prop where
 le:a<=j
 le2:j<=T.length
 ws:∀c∈(T.drop a).take (j-a),LU c=true
theorem QZ.step{T:List Int}{a j:Nat}(h:QZ T a j){x:Int}(hx:T[j]? =some x)(hw:LU x=true):QZ T a (j+1):=by
 obtain⟨hj,hv⟩:=List.getElem?_eq_some_iff.1 hx;refine⟨by have:=h.le;omega,hj,fun c hc=>?_⟩;have h1:=h.le;rw[show j+1-a=(j-a)+1 by omega]at hc;have h2:(T.drop a)[j-a]? =some x:=by rw[List.getElem?_drop,show a+(j-a)=j by omega];exact hx
 obtain⟨h3,h4⟩:=List.getElem?_eq_some_iff.1 h2;rw[List.take_succ_eq_append_getElem h3,h4]at hc;rcases List.mem_append.1 hc with hc|hc
 ·exact h.ws c hc
 ·rw[List.mem_singleton.1 hc];exact hw
theorem QZ.stop{T:List Int}{a j:Nat}(h:QZ T a j)(he:T.length<=j∨∃x,T[j]? =some x/\LU x=false):a+qh (T.drop a)=j:=by
 have h1:=h.le;have h2:=h.le2
 have:qh (T.drop a)=j-a:=by
  refine UQ h.ws (by rw[List.length_drop];omega) ?_;rw[List.drop_drop,show a+(j-a)=j by omega];rcases he with he|⟨x,hx,hw⟩
  ·exact .inl (List.drop_eq_nil_of_le he)
  ·obtain⟨hj,hv⟩:=List.getElem?_eq_some_iff.1 hx
   exact .inr ⟨x,T.drop (j+1),by rw[<-hv,List.getElem_cons_drop],hw⟩
 omega
theorem gI(w0 W:World)(p:Nat)(T:List Int)(i r n:Nat)(last bK:Int)(bM:Value)(bP:Bool)(bQ:ByteArray)(eF:Value)(A:Option Addr)(N c:Nat)(Ai:Option Addr)(ci:Nat)
 (hp:w0.heap.size<=p) (hB:Below w0.heap.size w0 W) (hD:uI W p last bK bM bP bQ eF A N c (.slice Ai r ci)) (hI:oO w0 T i r Ai ci) (hn:n<=r):
 Calls Tryz.prog 110 #[.pointer (some ⟨p,0,none⟩),.int .i64 n] W fun e w'=>e= .returned (.tuple #[])/\∃Aj rj cj,uI w' p last bK bM bP bQ eF A N c (.slice Aj rj cj)/\oO w0 T (i+n+qh (T.drop (i+n))) rj Aj cj/\Below w0.heap.size w0 w'/\aH W w' p none:=by
 obtain⟨Aj,r1,cj,hs1,hI1⟩:=hI.drop hn;have c9:W.cell? ⟨p,9,none⟩=some (.slice Ai r ci):=(aA hD 9).trans rfl;have f9:W.frozen? ⟨p,9,none⟩=false:=aN hD 9;have HS:=ah (set9 hp hB hD (.slice Aj r1 cj));have HI1:=ah hI1;have HP:=ah hp;clear hD hB hI hI1 hp hn;go_enter Tryz.func110,Tryz.ntmps110;go_wp2;clear c9 f9 hs1
 go_loopg [25] r1 (fun g v25 w'=>∃(j:Nat)(Ak:Option Addr)(ck:Nat),aC (QZ T (i+n) j)/\aC (oO w0 T j g Ak ck)/\aC (uI w' p last bK bM bP bQ eF A N c (.slice Ak g ck))/\aC (Below w0.heap.size w0 w')/\aC (aH W w' p none))
 case atStart=>exact⟨i+n,Aj,cj,⟨⟨Nat.le_refl _,by have:=HI1.out.eq;omega,fun c hc=>by rw[Nat.sub_self,List.take_zero]at hc;exact absurd hc List.not_mem_nil⟩⟩,HI1,⟨HS.out.1⟩,⟨HS.out.2.1⟩,⟨HS.out.2.2⟩⟩
 case round=>
  obtain⟨j,Ak,ck,HW,HI,HD,HB,HK⟩:=hrel;have c9:wr.cell? ⟨p,9,none⟩=some (.slice Ak gk ck):=(aA HD.out 9).trans rfl;cases gk with
  |zero=>
   have d1:decide ((0:Int)<((0:Nat):Int))=false:=by decide
   have HE:=ah (HW.out.stop (.inl (by have:=HI.out.eq;omega)));go_wp2
   go_end0
   refine⟨rfl,Ak,0,ck,HD.out,?_,HB.out,HK.out⟩;rw[HE.out];exact HI.out
  |succ g=>
   obtain⟨x,hx⟩:=bF (show j<T.length by have:=HI.out.eq;omega);obtain⟨ad,rfl,hc⟩:=HI.out.head hx.out;have x0:=ay HB.out hc;have p1:decide ((0:Int)<((g+1:Nat):Int))=true:=bZ (by omega);have p2:(0:Nat)<g+1:=by omega
   have p3:decide (0<g+1)=true:=bZ p2;have p4:(0:Int)<(g:Int)+1:=by omega
   clear hc;cases hw:LU x
   ·have HE:=ah (HW.out.stop (.inr ⟨x,hx.out,hw⟩))
    simp only[LU,Bool.or_eq_false_iff]at hw;obtain⟨⟨⟨w1,w2⟩,w3⟩,w4⟩:=hw;go_wp2;refine bodyPost_ret (results_none rfl _ _ _) rfl ?_;exact⟨rfl,some ad,g+1,ck,HD.out,by rw[HE.out];exact HI.out,HB.out,HK.out⟩
   ·obtain⟨Al,r2,cl,hs0,hI2⟩:=HI.out.drop (m:=1) (by omega)
    obtain rfl:r2=g:=by have h1:=hI2.eq;have h2:=HI.out.eq;omega
    have hs:∀W:World,(Instr.slice 27 (.slice (some ad) (r2+1) ck) (some (.int .i64 1)) none none).run Tryz.prog W= .ok (.slice Al r2 cl) W:=hs0
    have f9:wr.frozen? ⟨p,9,none⟩=false:=aN HD.out 9;have HI2:=ah hI2;have HS2:=ah (set9 HP.out HB.out HD.out (.slice Al r2 cl));have HK2:=ah (HK.out.trans HS2.out.2.2 (.inl rfl));have HW2:=ah (HW.out.step hx.out hw);clear hs0 hI2
    have hwx:x=32∨x=10∨x=13∨x=9:=by
     simp only[LU,Bool.or_eq_true,beq_iff_eq]at hw;omega
    clear hw hx;rcases hwx with rfl|rfl|rfl|rfl
    all_goals
     go_wp2
     go_roundg r2
     case measure=>omega
     case rel=>exact⟨j+1,Al,cl,HW2,HI2,⟨HS2.out.1⟩,⟨HS2.out.2.1⟩,HK2⟩
theorem bU{W w:World}{p:Nat}{row:Option Nat}(h:aH W w p row){g:Nat}(hg:W.heap.size<=g)(j:Nat)(u:Value):aH W (w.setCell ⟨g,j,none⟩ u) p row:=
 ⟨by rw[World.size_setCell];exact h.1,fun i hi hp hr=>(Below.heap_setCell w ⟨g,j,none⟩ u i (by show i≠g;omega)).trans (h.2 i hi hp hr)⟩
theorem ig(w0 W:World)(p:Nat)(T:List Int)(i r n:Nat)(kind:Int)(last bK:Int)(bM:Value)(bP:Bool)(bQ:ByteArray)(eF:Value)(A:Option Addr)(c:Nat)(Ai:Option Addr)(ci:Nat)
 (hp:w0.heap.size<=p) (hB:Below w0.heap.size w0 W) (hT:T.length<=1000000000000) (hD:uI W p last bK bM bP bQ eF A T.length c (.slice Ai r ci)) (hI:oO w0 T i r Ai ci) (hn:n<=r):
 Calls Tryz.prog 140 #[.pointer (some ⟨p,0,none⟩),.int .u16 kind,.int .i64 n] W fun e w'=>∃cr,e= .returned (.agg #[.int .u16 kind,.int .i64 i,.slice Ai n cr,.bool false,.string ⟨#[]⟩])/\RdB w0 Ai n ((T.drop i).take n)/\∃Aj rj cj,uI w' p last bK bM bP bQ eF A T.length c (.slice Aj rj cj)/\oO w0 T (i+n+qh (T.drop (i+n))) rj Aj cj/\Below w0.heap.size w0 w'/\aH W w' p none:=by
 obtain⟨ht1,ht2⟩:=jZ Ai r ci n hn hI.cap;have Jz:=bJ hD;obtain⟨W1,hW1⟩:∃W1,W1=W.alloc (.cells #[.int .u16 0,.int .i64 0,.slice none 0 0,.bool false,.string ⟨#[]⟩] 111):=⟨_,rfl⟩
 have hb1:Below W.heap.size W W1:=by rw[hW1];exact ak (bg _ _) _
 have hD1:=aI hD hb1;have hx1:W1.heap[W.heap.size]? =some (.cells #[.int .u16 0,.int .i64 0,.slice none 0 0,.bool false,.string ⟨#[]⟩] 111 (0,0)):=by rw[hW1];exact aP W _
 have c8:W1.cell? ⟨p,8,none⟩=some (.slice A T.length c):=(aA hD1 8).trans rfl;have c9:W1.cell? ⟨p,9,none⟩=some (.slice Ai r ci):=(aA hD1 9).trans rfl;have e1:wrap64 ((T.length:Int)-(r:Int))=(i:Int):=by have:=hI.eq;unfold wrap64;omega
 have e2:IntKind.i64.wrap ((T.length:Int)-(r:Int))=(i:Int):=by rw[IntKind.wrap_i64];have:=hI.eq;omega
 have HW1:=ah hW1;have HI:=ah hI;clear hW1 hI;go_enter Tryz.func140,Tryz.ntmps140
 go_upto_region 1 with fail
 rw[<-HW1.out];have Ea:=fun(o:Obj)(q:Addr)(u:Value)(h:W1.cell? q=some u)=>(show(W1.alloc o).cell? q=some u from ay (ak (bg _ _) o) h)
 have c8':=fun o=>Ea o _ _ c8
 have c9':=fun o=>Ea o _ _ c9
 clear Ea;have n0:=fun(y0 y1 y2 y3 y4:Value)=>(show(W1.alloc (.cells #[y0,y1,y2,y3,y4] 111)).cell? ⟨W1.heap.size,0,none⟩=some y0 from(aA (aP W1 _) 0).trans rfl)
 have n1:=fun(y0 y1 y2 y3 y4:Value)=>(show(W1.alloc (.cells #[y0,y1,y2,y3,y4] 111)).cell? ⟨W1.heap.size,1,none⟩=some y1 from(aA (aP W1 _) 1).trans rfl)
 have n2:=fun(y0 y1 y2 y3 y4:Value)=>(show(W1.alloc (.cells #[y0,y1,y2,y3,y4] 111)).cell? ⟨W1.heap.size,2,none⟩=some y2 from(aA (aP W1 _) 2).trans rfl)
 have n3:=fun(y0 y1 y2 y3 y4:Value)=>(show(W1.alloc (.cells #[y0,y1,y2,y3,y4] 111)).cell? ⟨W1.heap.size,3,none⟩=some y3 from(aA (aP W1 _) 3).trans rfl)
 have n4:=fun(y0 y1 y2 y3 y4:Value)=>(show(W1.alloc (.cells #[y0,y1,y2,y3,y4] 111)).cell? ⟨W1.heap.size,4,none⟩=some y4 from(aA (aP W1 _) 4).trans rfl)
 have g0:=fun(y0 y1 y2 y3 y4:Value)=>(show(W1.alloc (.cells #[y0,y1,y2,y3,y4] 111)).frozen? ⟨W1.heap.size,0,none⟩=false from aN (aP W1 _) 0)
 have g1:=fun(y0 y1 y2 y3 y4:Value)=>(show(W1.alloc (.cells #[y0,y1,y2,y3,y4] 111)).frozen? ⟨W1.heap.size,1,none⟩=false from aN (aP W1 _) 1)
 have g2:=fun(y0 y1 y2 y3 y4:Value)=>(show(W1.alloc (.cells #[y0,y1,y2,y3,y4] 111)).frozen? ⟨W1.heap.size,2,none⟩=false from aN (aP W1 _) 2)
 have g3:=fun(y0 y1 y2 y3 y4:Value)=>(show(W1.alloc (.cells #[y0,y1,y2,y3,y4] 111)).frozen? ⟨W1.heap.size,3,none⟩=false from aN (aP W1 _) 3)
 have g4:=fun(y0 y1 y2 y3 y4:Value)=>(show(W1.alloc (.cells #[y0,y1,y2,y3,y4] 111)).frozen? ⟨W1.heap.size,4,none⟩=false from aN (aP W1 _) 4)
 go_region
 clear c8' c9' n0 n1 n2 n3 n4 g0 g1 g2 g3 g4 c8 c9 e1 e2 ht1;obtain⟨W5,hW5⟩:∃W5,W5=(W1.alloc (.cells #[.int .u16 kind,.int .i64 i,.slice Ai n ci,.bool false,.string ⟨#[]⟩] 111)).drew:=⟨_,rfl⟩
 rw[<-hW5];have hb5:Below W1.heap.size W1 W5:=by rw[hW5];exact aQ (ak (bg _ _) _)
 have hx5:W5.heap[W1.heap.size]? =some (.cells #[.int .u16 kind,.int .i64 i,.slice Ai n ci,.bool false,.string ⟨#[]⟩] 111 (0,0)):=by rw[hW5];exact pU (aP W1 _)
 clear hW5;have hx1':=aI hx1 hb5;have hl1:=bJ hx1;have HC:=ah (gI w0 W5 p T i r n last bK bM bP bQ eF A T.length c Ai ci hp (au (au hB hb1) hb5) (aI hD1 hb5) HI.out hn);have HX:=ah (fun(w2:World)(hk:aH W5 w2 p none)=>And.intro (hk.blk hx5 (by omega) (by simp)) (hk.blk hx1' (by omega) (by simp)));have HK5:=ah ((aH.of_below hb1 p none).trans (aH.of_below hb5 p none) (.inl rfl));have DX:=ah (ht2 w0 _ HI.out.rd);have HWp:=ah (And.intro Jz hB.size);clear hx1 hx5 hx1' hl1 hD hD1 hb1 hb5 hB hp hn ht2 HW1 Jz
 go_upto_region 3 with(go_at_call 110;(with_reducible refine HC.out.mono ?_);rintro e w2⟨rfl,Aj,rj,cj,hd2,hi2,hb2,hk2⟩;have HD2:=ah hd2;have HI2:=ah hi2;have HB2:=ah hb2;have HK2:=ah hk2;clear hd2 hi2 hb2 hk2)
 obtain⟨hx5,hx1⟩:=HX.out w2 HK2.out;have l0:w2.cell? ⟨W1.heap.size,0,none⟩=some (.int .u16 kind):=(aA hx5 0).trans rfl;have l1:w2.cell? ⟨W1.heap.size,1,none⟩=some (.int .i64 i):=(aA hx5 1).trans rfl;have l2:w2.cell? ⟨W1.heap.size,2,none⟩=some (.slice Ai n ci):=(aA hx5 2).trans rfl;have l3:w2.cell? ⟨W1.heap.size,3,none⟩=some (.bool false):=(aA hx5 3).trans rfl;have l4:w2.cell? ⟨W1.heap.size,4,none⟩=some (.string ⟨#[]⟩):=(aA hx5 4).trans rfl;have k0:w2.cell? ⟨W.heap.size,0,none⟩=some (.int .u16 0):=(aA hx1 0).trans rfl;have k1:w2.cell? ⟨W.heap.size,1,none⟩=some (.int .i64 0):=(aA hx1 1).trans rfl;have k2:w2.cell? ⟨W.heap.size,2,none⟩=some (.slice none 0 0):=(aA hx1 2).trans rfl;have k3:w2.cell? ⟨W.heap.size,3,none⟩=some (.bool false):=(aA hx1 3).trans rfl;have k4:w2.cell? ⟨W.heap.size,4,none⟩=some (.string ⟨#[]⟩):=(aA hx1 4).trans rfl;have f0:w2.frozen? ⟨W.heap.size,0,none⟩=false:=aN hx1 0;have f1:w2.frozen? ⟨W.heap.size,1,none⟩=false:=aN hx1 1;have f2:w2.frozen? ⟨W.heap.size,2,none⟩=false:=aN hx1 2;have f3:w2.frozen? ⟨W.heap.size,3,none⟩=false:=aN hx1 3;have f4:w2.frozen? ⟨W.heap.size,4,none⟩=false:=aN hx1 4;go_wp2;have hblk:=aW (aW (aW (aW (aW hx1 0 (.int .u16 kind)) 1 (.int .i64 i)) 2 (.slice Ai n ci)) 3 (.bool false)) 4 (.string ⟨#[]⟩);have hpw:=HWp.out.2;have hpl:=HWp.out.1;have hne:p≠W.heap.size:=by omega
 have hd:=bI (p:=⟨W.heap.size,4,none⟩) (bI (p:=⟨W.heap.size,3,none⟩) (bI (p:=⟨W.heap.size,2,none⟩) (bI (p:=⟨W.heap.size,1,none⟩) (bI (p:=⟨W.heap.size,0,none⟩) HD2.out hne (.int .u16 kind)) hne (.int .i64 i)) hne (.slice Ai n ci)) hne (.bool false)) hne (.string ⟨#[]⟩);have hb:=aV (g:=W.heap.size) (j:=4) (v:=.string ⟨#[]⟩) (aV (g:=W.heap.size) (j:=3) (v:=.bool false) (aV (g:=W.heap.size) (j:=2) (v:=.slice Ai n ci) (aV (g:=W.heap.size) (j:=1) (v:=.int .i64 i) (aV (g:=W.heap.size) (j:=0) (v:=.int .u16 kind) HB2.out hpw) hpw) hpw) hpw) hpw;have hk:=bU (bU (bU (bU (bU (HK5.out.trans HK2.out (.inl rfl)) (g:=W.heap.size) (Nat.le_refl _) 0 (.int .u16 kind)) (Nat.le_refl _) 1 (.int .i64 i)) (Nat.le_refl _) 2 (.slice Ai n ci)) (Nat.le_refl _) 3 (.bool false)) (Nat.le_refl _) 4 (.string ⟨#[]⟩);refine bodyPost_ret (results_cell_row rfl _ _ W.heap.size _ _ _ _ rfl hblk Tryz.underlying111 rfl (by kernel_rfl)) rfl ?_;exact⟨ci,rfl,DX.out,Aj,rj,cj,hd,HI2.out,hb,hk⟩
theorem qj(w0 W:World)(p:Nat)(T:List Int)(i r n:Nat)(bo:Bool)(last bK:Int)(bM:Value)(bP:Bool)(bQ:ByteArray)(eF:Value)(A:Option Addr)(c:Nat)(Ai:Option Addr)(ci:Nat)
 (hp:w0.heap.size<=p) (hB:Below w0.heap.size w0 W) (hT:T.length<=1000000000000) (hD:uI W p last bK bM bP bQ eF A T.length c (.slice Ai r ci)) (hI:oO w0 T i r Ai ci) (hn:n<=r):
 Calls Tryz.prog 142 #[.pointer (some ⟨p,0,none⟩),.bool bo,.int .i64 n] W fun e w'=>∃cr,e= .returned (.agg #[.int .u16 4,.int .i64 i,.slice Ai n cr,.bool bo,.string ⟨#[]⟩])/\RdB w0 Ai n ((T.drop i).take n)/\∃Aj rj cj,uI w' p last bK bM bP bQ eF A T.length c (.slice Aj rj cj)/\oO w0 T (i+n+qh (T.drop (i+n))) rj Aj cj/\Below w0.heap.size w0 w'/\aH W w' p none:=by
 obtain⟨ht1,ht2⟩:=jZ Ai r ci n hn hI.cap;have Jz:=bJ hD;obtain⟨W1,hW1⟩:∃W1,W1=W.alloc (.cells #[.int .u16 0,.int .i64 0,.slice none 0 0,.bool false,.string ⟨#[]⟩] 111):=⟨_,rfl⟩
 have hb1:Below W.heap.size W W1:=by rw[hW1];exact ak (bg _ _) _
 have hD1:=aI hD hb1;have hx1:W1.heap[W.heap.size]? =some (.cells #[.int .u16 0,.int .i64 0,.slice none 0 0,.bool false,.string ⟨#[]⟩] 111 (0,0)):=by rw[hW1];exact aP W _
 have c8:W1.cell? ⟨p,8,none⟩=some (.slice A T.length c):=(aA hD1 8).trans rfl;have c9:W1.cell? ⟨p,9,none⟩=some (.slice Ai r ci):=(aA hD1 9).trans rfl;have e1:wrap64 ((T.length:Int)-(r:Int))=(i:Int):=by have:=hI.eq;unfold wrap64;omega
 have e2:IntKind.i64.wrap ((T.length:Int)-(r:Int))=(i:Int):=by rw[IntKind.wrap_i64];have:=hI.eq;omega
 have HW1:=ah hW1;have HI:=ah hI;clear hW1 hI;go_enter Tryz.func142,Tryz.ntmps142
 go_upto_region 1 with fail
 rw[<-HW1.out];have Ea:=fun(o:Obj)(q:Addr)(u:Value)(h:W1.cell? q=some u)=>(show(W1.alloc o).cell? q=some u from ay (ak (bg _ _) o) h)
 have c8':=fun o=>Ea o _ _ c8
 have c9':=fun o=>Ea o _ _ c9
 clear Ea;have n0:=fun(y0 y1 y2 y3 y4:Value)=>(show(W1.alloc (.cells #[y0,y1,y2,y3,y4] 111)).cell? ⟨W1.heap.size,0,none⟩=some y0 from(aA (aP W1 _) 0).trans rfl)
 have n1:=fun(y0 y1 y2 y3 y4:Value)=>(show(W1.alloc (.cells #[y0,y1,y2,y3,y4] 111)).cell? ⟨W1.heap.size,1,none⟩=some y1 from(aA (aP W1 _) 1).trans rfl)
 have n2:=fun(y0 y1 y2 y3 y4:Value)=>(show(W1.alloc (.cells #[y0,y1,y2,y3,y4] 111)).cell? ⟨W1.heap.size,2,none⟩=some y2 from(aA (aP W1 _) 2).trans rfl)
 have n3:=fun(y0 y1 y2 y3 y4:Value)=>(show(W1.alloc (.cells #[y0,y1,y2,y3,y4] 111)).cell? ⟨W1.heap.size,3,none⟩=some y3 from(aA (aP W1 _) 3).trans rfl)
 have n4:=fun(y0 y1 y2 y3 y4:Value)=>(show(W1.alloc (.cells #[y0,y1,y2,y3,y4] 111)).cell? ⟨W1.heap.size,4,none⟩=some y4 from(aA (aP W1 _) 4).trans rfl)
 have g0:=fun(y0 y1 y2 y3 y4:Value)=>(show(W1.alloc (.cells #[y0,y1,y2,y3,y4] 111)).frozen? ⟨W1.heap.size,0,none⟩=false from aN (aP W1 _) 0)
 have g1:=fun(y0 y1 y2 y3 y4:Value)=>(show(W1.alloc (.cells #[y0,y1,y2,y3,y4] 111)).frozen? ⟨W1.heap.size,1,none⟩=false from aN (aP W1 _) 1)
 have g2:=fun(y0 y1 y2 y3 y4:Value)=>(show(W1.alloc (.cells #[y0,y1,y2,y3,y4] 111)).frozen? ⟨W1.heap.size,2,none⟩=false from aN (aP W1 _) 2)
 have g3:=fun(y0 y1 y2 y3 y4:Value)=>(show(W1.alloc (.cells #[y0,y1,y2,y3,y4] 111)).frozen? ⟨W1.heap.size,3,none⟩=false from aN (aP W1 _) 3)
 have g4:=fun(y0 y1 y2 y3 y4:Value)=>(show(W1.alloc (.cells #[y0,y1,y2,y3,y4] 111)).frozen? ⟨W1.heap.size,4,none⟩=false from aN (aP W1 _) 4)
 go_region
 clear c8' c9' n0 n1 n2 n3 n4 g0 g1 g2 g3 g4 c8 c9 e1 e2 ht1;obtain⟨W5,hW5⟩:∃W5,W5=(W1.alloc (.cells #[.int .u16 4,.int .i64 i,.slice Ai n ci,.bool bo,.string ⟨#[]⟩] 111)).drew:=⟨_,rfl⟩
 rw[<-hW5];have hb5:Below W1.heap.size W1 W5:=by rw[hW5];exact aQ (ak (bg _ _) _)
 have hx5:W5.heap[W1.heap.size]? =some (.cells #[.int .u16 4,.int .i64 i,.slice Ai n ci,.bool bo,.string ⟨#[]⟩] 111 (0,0)):=by rw[hW5];exact pU (aP W1 _)
 clear hW5;have hx1':=aI hx1 hb5;have hl1:=bJ hx1;have HC:=ah (gI w0 W5 p T i r n last bK bM bP bQ eF A T.length c Ai ci hp (au (au hB hb1) hb5) (aI hD1 hb5) HI.out hn);have HX:=ah (fun(w2:World)(hk:aH W5 w2 p none)=>And.intro (hk.blk hx5 (by omega) (by simp)) (hk.blk hx1' (by omega) (by simp)));have HK5:=ah ((aH.of_below hb1 p none).trans (aH.of_below hb5 p none) (.inl rfl));have DX:=ah (ht2 w0 _ HI.out.rd);have HWp:=ah (And.intro Jz hB.size);clear hx1 hx5 hx1' hl1 hD hD1 hb1 hb5 hB hp hn ht2 HW1 Jz
 go_upto_region 3 with(go_at_call 110;(with_reducible refine HC.out.mono ?_);rintro e w2⟨rfl,Aj,rj,cj,hd2,hi2,hb2,hk2⟩;have HD2:=ah hd2;have HI2:=ah hi2;have HB2:=ah hb2;have HK2:=ah hk2;clear hd2 hi2 hb2 hk2)
 obtain⟨hx5,hx1⟩:=HX.out w2 HK2.out;have l0:w2.cell? ⟨W1.heap.size,0,none⟩=some (.int .u16 4):=(aA hx5 0).trans rfl;have l1:w2.cell? ⟨W1.heap.size,1,none⟩=some (.int .i64 i):=(aA hx5 1).trans rfl;have l2:w2.cell? ⟨W1.heap.size,2,none⟩=some (.slice Ai n ci):=(aA hx5 2).trans rfl;have l3:w2.cell? ⟨W1.heap.size,3,none⟩=some (.bool bo):=(aA hx5 3).trans rfl;have l4:w2.cell? ⟨W1.heap.size,4,none⟩=some (.string ⟨#[]⟩):=(aA hx5 4).trans rfl;have k0:w2.cell? ⟨W.heap.size,0,none⟩=some (.int .u16 0):=(aA hx1 0).trans rfl;have k1:w2.cell? ⟨W.heap.size,1,none⟩=some (.int .i64 0):=(aA hx1 1).trans rfl;have k2:w2.cell? ⟨W.heap.size,2,none⟩=some (.slice none 0 0):=(aA hx1 2).trans rfl;have k3:w2.cell? ⟨W.heap.size,3,none⟩=some (.bool false):=(aA hx1 3).trans rfl;have k4:w2.cell? ⟨W.heap.size,4,none⟩=some (.string ⟨#[]⟩):=(aA hx1 4).trans rfl;have f0:w2.frozen? ⟨W.heap.size,0,none⟩=false:=aN hx1 0;have f1:w2.frozen? ⟨W.heap.size,1,none⟩=false:=aN hx1 1;have f2:w2.frozen? ⟨W.heap.size,2,none⟩=false:=aN hx1 2;have f3:w2.frozen? ⟨W.heap.size,3,none⟩=false:=aN hx1 3;have f4:w2.frozen? ⟨W.heap.size,4,none⟩=false:=aN hx1 4;go_wp2;have hblk:=aW (aW (aW (aW (aW hx1 0 (.int .u16 4)) 1 (.int .i64 i)) 2 (.slice Ai n ci)) 3 (.bool bo)) 4 (.string ⟨#[]⟩);have hpw:=HWp.out.2;have hpl:=HWp.out.1;have hne:p≠W.heap.size:=by omega
 have hd:=bI (p:=⟨W.heap.size,4,none⟩) (bI (p:=⟨W.heap.size,3,none⟩) (bI (p:=⟨W.heap.size,2,none⟩) (bI (p:=⟨W.heap.size,1,none⟩) (bI (p:=⟨W.heap.size,0,none⟩) HD2.out hne (.int .u16 4)) hne (.int .i64 i)) hne (.slice Ai n ci)) hne (.bool bo)) hne (.string ⟨#[]⟩);have hb:=aV (g:=W.heap.size) (j:=4) (v:=.string ⟨#[]⟩) (aV (g:=W.heap.size) (j:=3) (v:=.bool bo) (aV (g:=W.heap.size) (j:=2) (v:=.slice Ai n ci) (aV (g:=W.heap.size) (j:=1) (v:=.int .i64 i) (aV (g:=W.heap.size) (j:=0) (v:=.int .u16 4) HB2.out hpw) hpw) hpw) hpw) hpw;have hk:=bU (bU (bU (bU (bU (HK5.out.trans HK2.out (.inl rfl)) (g:=W.heap.size) (Nat.le_refl _) 0 (.int .u16 4)) (Nat.le_refl _) 1 (.int .i64 i)) (Nat.le_refl _) 2 (.slice Ai n ci)) (Nat.le_refl _) 3 (.bool bo)) (Nat.le_refl _) 4 (.string ⟨#[]⟩);refine bodyPost_ret (results_cell_row rfl _ _ W.heap.size _ _ _ _ rfl hblk Tryz.underlying111 rfl (by kernel_rfl)) rfl ?_;exact⟨ci,rfl,DX.out,Aj,rj,cj,hd,HI2.out,hb,hk⟩
theorem vC(w0 W:World)(p:Nat)(T:List Int)(i r n:Nat)(sx:ByteArray)(last bK:Int)(bM:Value)(bP:Bool)(bQ:ByteArray)(eF:Value)(A:Option Addr)(c:Nat)(Ai:Option Addr)(ci:Nat)
 (hp:w0.heap.size<=p) (hB:Below w0.heap.size w0 W) (hT:T.length<=1000000000000) (hD:uI W p last bK bM bP bQ eF A T.length c (.slice Ai r ci)) (hI:oO w0 T i r Ai ci) (hn:n<=r):
 Calls Tryz.prog 145 #[.pointer (some ⟨p,0,none⟩),.string sx,.int .i64 n] W fun e w'=>∃cr,e= .returned (.agg #[.int .u16 16,.int .i64 i,.slice Ai n cr,.bool false,.string sx])/\RdB w0 Ai n ((T.drop i).take n)/\∃Aj rj cj,uI w' p last bK bM bP bQ eF A T.length c (.slice Aj rj cj)/\oO w0 T (i+n+qh (T.drop (i+n))) rj Aj cj/\Below w0.heap.size w0 w'/\aH W w' p none:=by
 obtain⟨ht1,ht2⟩:=jZ Ai r ci n hn hI.cap;have Jz:=bJ hD;obtain⟨W1,hW1⟩:∃W1,W1=W.alloc (.cells #[.int .u16 0,.int .i64 0,.slice none 0 0,.bool false,.string ⟨#[]⟩] 111):=⟨_,rfl⟩
 have hb1:Below W.heap.size W W1:=by rw[hW1];exact ak (bg _ _) _
 have hD1:=aI hD hb1;have hx1:W1.heap[W.heap.size]? =some (.cells #[.int .u16 0,.int .i64 0,.slice none 0 0,.bool false,.string ⟨#[]⟩] 111 (0,0)):=by rw[hW1];exact aP W _
 have c8:W1.cell? ⟨p,8,none⟩=some (.slice A T.length c):=(aA hD1 8).trans rfl;have c9:W1.cell? ⟨p,9,none⟩=some (.slice Ai r ci):=(aA hD1 9).trans rfl;have e1:wrap64 ((T.length:Int)-(r:Int))=(i:Int):=by have:=hI.eq;unfold wrap64;omega
 have e2:IntKind.i64.wrap ((T.length:Int)-(r:Int))=(i:Int):=by rw[IntKind.wrap_i64];have:=hI.eq;omega
 have HW1:=ah hW1;have HI:=ah hI;clear hW1 hI;go_enter Tryz.func145,Tryz.ntmps145
 go_upto_region 1 with fail
 rw[<-HW1.out];have Ea:=fun(o:Obj)(q:Addr)(u:Value)(h:W1.cell? q=some u)=>(show(W1.alloc o).cell? q=some u from ay (ak (bg _ _) o) h)
 have c8':=fun o=>Ea o _ _ c8
 have c9':=fun o=>Ea o _ _ c9
 clear Ea;have n0:=fun(y0 y1 y2 y3 y4:Value)=>(show(W1.alloc (.cells #[y0,y1,y2,y3,y4] 111)).cell? ⟨W1.heap.size,0,none⟩=some y0 from(aA (aP W1 _) 0).trans rfl)
 have n1:=fun(y0 y1 y2 y3 y4:Value)=>(show(W1.alloc (.cells #[y0,y1,y2,y3,y4] 111)).cell? ⟨W1.heap.size,1,none⟩=some y1 from(aA (aP W1 _) 1).trans rfl)
 have n2:=fun(y0 y1 y2 y3 y4:Value)=>(show(W1.alloc (.cells #[y0,y1,y2,y3,y4] 111)).cell? ⟨W1.heap.size,2,none⟩=some y2 from(aA (aP W1 _) 2).trans rfl)
 have n3:=fun(y0 y1 y2 y3 y4:Value)=>(show(W1.alloc (.cells #[y0,y1,y2,y3,y4] 111)).cell? ⟨W1.heap.size,3,none⟩=some y3 from(aA (aP W1 _) 3).trans rfl)
 have n4:=fun(y0 y1 y2 y3 y4:Value)=>(show(W1.alloc (.cells #[y0,y1,y2,y3,y4] 111)).cell? ⟨W1.heap.size,4,none⟩=some y4 from(aA (aP W1 _) 4).trans rfl)
 have g0:=fun(y0 y1 y2 y3 y4:Value)=>(show(W1.alloc (.cells #[y0,y1,y2,y3,y4] 111)).frozen? ⟨W1.heap.size,0,none⟩=false from aN (aP W1 _) 0)
 have g1:=fun(y0 y1 y2 y3 y4:Value)=>(show(W1.alloc (.cells #[y0,y1,y2,y3,y4] 111)).frozen? ⟨W1.heap.size,1,none⟩=false from aN (aP W1 _) 1)
 have g2:=fun(y0 y1 y2 y3 y4:Value)=>(show(W1.alloc (.cells #[y0,y1,y2,y3,y4] 111)).frozen? ⟨W1.heap.size,2,none⟩=false from aN (aP W1 _) 2)
 have g3:=fun(y0 y1 y2 y3 y4:Value)=>(show(W1.alloc (.cells #[y0,y1,y2,y3,y4] 111)).frozen? ⟨W1.heap.size,3,none⟩=false from aN (aP W1 _) 3)
 have g4:=fun(y0 y1 y2 y3 y4:Value)=>(show(W1.alloc (.cells #[y0,y1,y2,y3,y4] 111)).frozen? ⟨W1.heap.size,4,none⟩=false from aN (aP W1 _) 4)
 go_region
 clear c8' c9' n0 n1 n2 n3 n4 g0 g1 g2 g3 g4 c8 c9 e1 e2 ht1;obtain⟨W5,hW5⟩:∃W5,W5=(W1.alloc (.cells #[.int .u16 16,.int .i64 i,.slice Ai n ci,.bool false,.string sx] 111)).drew:=⟨_,rfl⟩
 rw[<-hW5];have hb5:Below W1.heap.size W1 W5:=by rw[hW5];exact aQ (ak (bg _ _) _)
 have hx5:W5.heap[W1.heap.size]? =some (.cells #[.int .u16 16,.int .i64 i,.slice Ai n ci,.bool false,.string sx] 111 (0,0)):=by rw[hW5];exact pU (aP W1 _)
 clear hW5;have hx1':=aI hx1 hb5;have hl1:=bJ hx1;have HC:=ah (gI w0 W5 p T i r n last bK bM bP bQ eF A T.length c Ai ci hp (au (au hB hb1) hb5) (aI hD1 hb5) HI.out hn);have HX:=ah (fun(w2:World)(hk:aH W5 w2 p none)=>And.intro (hk.blk hx5 (by omega) (by simp)) (hk.blk hx1' (by omega) (by simp)));have HK5:=ah ((aH.of_below hb1 p none).trans (aH.of_below hb5 p none) (.inl rfl));have DX:=ah (ht2 w0 _ HI.out.rd);have HWp:=ah (And.intro Jz hB.size);clear hx1 hx5 hx1' hl1 hD hD1 hb1 hb5 hB hp hn ht2 HW1 Jz
 go_upto_region 3 with(go_at_call 110;(with_reducible refine HC.out.mono ?_);rintro e w2⟨rfl,Aj,rj,cj,hd2,hi2,hb2,hk2⟩;have HD2:=ah hd2;have HI2:=ah hi2;have HB2:=ah hb2;have HK2:=ah hk2;clear hd2 hi2 hb2 hk2)
 obtain⟨hx5,hx1⟩:=HX.out w2 HK2.out;have l0:w2.cell? ⟨W1.heap.size,0,none⟩=some (.int .u16 16):=(aA hx5 0).trans rfl;have l1:w2.cell? ⟨W1.heap.size,1,none⟩=some (.int .i64 i):=(aA hx5 1).trans rfl;have l2:w2.cell? ⟨W1.heap.size,2,none⟩=some (.slice Ai n ci):=(aA hx5 2).trans rfl;have l3:w2.cell? ⟨W1.heap.size,3,none⟩=some (.bool false):=(aA hx5 3).trans rfl;have l4:w2.cell? ⟨W1.heap.size,4,none⟩=some (.string sx):=(aA hx5 4).trans rfl;have k0:w2.cell? ⟨W.heap.size,0,none⟩=some (.int .u16 0):=(aA hx1 0).trans rfl;have k1:w2.cell? ⟨W.heap.size,1,none⟩=some (.int .i64 0):=(aA hx1 1).trans rfl;have k2:w2.cell? ⟨W.heap.size,2,none⟩=some (.slice none 0 0):=(aA hx1 2).trans rfl;have k3:w2.cell? ⟨W.heap.size,3,none⟩=some (.bool false):=(aA hx1 3).trans rfl;have k4:w2.cell? ⟨W.heap.size,4,none⟩=some (.string ⟨#[]⟩):=(aA hx1 4).trans rfl;have f0:w2.frozen? ⟨W.heap.size,0,none⟩=false:=aN hx1 0;have f1:w2.frozen? ⟨W.heap.size,1,none⟩=false:=aN hx1 1;have f2:w2.frozen? ⟨W.heap.size,2,none⟩=false:=aN hx1 2;have f3:w2.frozen? ⟨W.heap.size,3,none⟩=false:=aN hx1 3;have f4:w2.frozen? ⟨W.heap.size,4,none⟩=false:=aN hx1 4;go_wp2;have hblk:=aW (aW (aW (aW (aW hx1 0 (.int .u16 16)) 1 (.int .i64 i)) 2 (.slice Ai n ci)) 3 (.bool false)) 4 (.string sx);have hpw:=HWp.out.2;have hpl:=HWp.out.1;have hne:p≠W.heap.size:=by omega
 have hd:=bI (p:=⟨W.heap.size,4,none⟩) (bI (p:=⟨W.heap.size,3,none⟩) (bI (p:=⟨W.heap.size,2,none⟩) (bI (p:=⟨W.heap.size,1,none⟩) (bI (p:=⟨W.heap.size,0,none⟩) HD2.out hne (.int .u16 16)) hne (.int .i64 i)) hne (.slice Ai n ci)) hne (.bool false)) hne (.string sx);have hb:=aV (g:=W.heap.size) (j:=4) (v:=.string sx) (aV (g:=W.heap.size) (j:=3) (v:=.bool false) (aV (g:=W.heap.size) (j:=2) (v:=.slice Ai n ci) (aV (g:=W.heap.size) (j:=1) (v:=.int .i64 i) (aV (g:=W.heap.size) (j:=0) (v:=.int .u16 16) HB2.out hpw) hpw) hpw) hpw) hpw;have hk:=bU (bU (bU (bU (bU (HK5.out.trans HK2.out (.inl rfl)) (g:=W.heap.size) (Nat.le_refl _) 0 (.int .u16 16)) (Nat.le_refl _) 1 (.int .i64 i)) (Nat.le_refl _) 2 (.slice Ai n ci)) (Nat.le_refl _) 3 (.bool false)) (Nat.le_refl _) 4 (.string sx);refine bodyPost_ret (results_cell_row rfl _ _ W.heap.size _ _ _ _ rfl hblk Tryz.underlying111 rfl (by kernel_rfl)) rfl ?_;exact⟨ci,rfl,DX.out,Aj,rj,cj,hd,HI2.out,hb,hk⟩
end Go.Proofs.YtapkmjfjikpnlaaGreatDoor
