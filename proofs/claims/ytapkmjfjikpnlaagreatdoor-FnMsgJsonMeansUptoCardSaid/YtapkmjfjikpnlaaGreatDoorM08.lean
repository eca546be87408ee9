/- A part of FnMsgJsonMeans. No conditions. -/
import Derived.Test.YtapkmjfjikpnlaaGreatDoorM05
import Derived.Test.YtapkmjfjikpnlaaGreatDoorM07
set_option maxHeartbeats 4000000
set_option maxRecDepth 100000
namespace Go.Proofs.YtapkmjfjikpnlaaGreatDoor
open Go.RowKit YtapkmjfjikpnlaaGreatDoorW.aG YtapkmjfjikpnlaaGreatDoorW.aJ
set_option linter.unusedVariables false
set_option linter.unusedSimpArgs false
section
variable{ops:Array Oper}{o:Oper}{a:Act}{Q:Exit->Act->World->Prop}{Kc:Act->World->Prop}{rest:List Oper}
theorem Ej{W:World}{base:Nat}(hw:Region.wanted o (yielded ops a.tmps)=true)(s x:Operand)
 (ho:o.op= .call {callee:=.builtin .append,args:=#[s,x],argTypes:=#[27,27]}) (v:Value) (xs:List Int) (y:Int) (hs:a.eval s=v) (hx:a.eval x= .slice (some ⟨W.heap.size,0,none⟩) 1 1)
 (HO:OwnB W base v xs) (hbase:base<=W.heap.size) (hl:xs.length+1<=140737488355328)
 (h:∀v1 w1,OwnB w1 base v1 (xs++[y])->W.grownBy w1 v.ownBlock->Kc (a.put o.dst v1) w1):
 if Region.wanted o (yielded ops a.tmps)=true then Oper.wp Tryz.prog o a (W.alloc (.cells #[.int .u8 y] 5)).drew Kc Q
 else Kc (a.put o.dst undef) (W.alloc (.cells #[.int .u8 y] 5)).drew:=
 Kd.qQ (Kd.int .u8) (w0:=W.drew) (W:=W.drew) base hw s x 27 5 (.int .u8 0) 1 ho Tryz.underlying27 uS rfl (by decide) (by omega) v xs y
  [.int .u8 y] (fun _=>True) (fun _=>False) hs hx rfl (fun _ h=>h.elim) (fun _ _=>trivial) (Kd.nY HO) (bg _ _) hbase (by omega) (fun v1 w1 ho _ hg _=>h v1 w1 ho ⟨hg.os,hg.tape,hg.output,hg.size,hg.block⟩)
end
theorem JS.byte{w0 W w2:World}{p:Nat}{P:List Int}{a:Nat}{b:List Int}{l:List Tok}{vb vl v2:Value}{y:Int}(h:JS w0 W p P a b l vb vl)(ho:OwnB w2 w0.heap.size v2 (b++[y]))(hg:W.grownBy w2 vb.ownBlock):
 JS w0 (w2.setCell ⟨p,0,none⟩ v2) p P a (b++[y]) l v2 vl/\bD W (w2.setCell ⟨p,0,none⟩ v2):=by
 have hj:=h.jw.grown hg (h.jw.MI h.ob);refine⟨⟨hj.set0 _,AV ho hj 0 _,IZ (MJ h.ol h.ob hg) hj 0 _,aV (h.be.grown hg h.be.size (Kd.lC h.ob)) hj.ge⟩,(bD.xq hg h.ob).trans (bD.set hj 0 _)⟩
theorem Uw(W:World)(p:Nat)(i:Int)(hi:¬0<i):Calls Tryz.prog 45 #[.pointer (some ⟨p,0,none⟩),.int .i64 i] W fun e w'=>e= .returned (.tuple #[])/\W=w':=by
 have d:decide (0<i)=false:=bY hi;clear hi;go_enter Tryz.func45,Tryz.ntmps45;go_wp2
 go_end0
 exact⟨rfl,rfl⟩
theorem QS(w0 W:World)(p:Nat)(P:List Int)(a:Nat)(vb vl:Value)(b:List Int)(l:List Tok)(i:Int)(hi:0<i)(hP:qE P)(ha:a<=281474976710656)(hl:b.length<=140737488354000)(h:JS w0 W p P a b l vb vl):
 Calls Tryz.prog 45 #[.pointer (some ⟨p,0,none⟩),.int .i64 i] W fun e w'=>e= .returned (.tuple #[])/\(∃vT,JS w0 w' p P (dB P a) (b++eP (dK P a 8)++[44]) l vT vl)/\bD W w':=by
 have d:decide (0<i)=true:=bZ hi;have HC:=ah (Pv w0 W p P a vb vl b l hP ha (by omega) h);obtain⟨b1,hb1⟩:∃b1,b1=b++eP (dK P a 8):=⟨_,rfl⟩
 have Yq:b1.length<=b.length+4:=by
  rw[hb1,List.length_append];have:=jg (P:=P) (a:=a) (n:=8) (by decide) hP;have:=space_bytes this.1 this.2;have e:=bV (eP (dK P a 8));omega
 have HL:=ah (show b1.length+1<=140737488355328 by omega);rw[<-hb1]at HC ⊢;clear hi hP ha hl h hb1 Yq;go_enter Tryz.func45,Tryz.ntmps45
 go_wp2_with (first|(go_at_call 21;(with_reducible refine HC.out.mono ?_);rintro e w1⟨rfl,⟨vT,hj1⟩,hk1⟩;have HJ1:=ah hj1;have HK1:=ah hk1;have c0:=hj1.jw.c0;clear hj1 hk1)|(at_builtin;refine gG w0.heap.size rfl (.tmp 12) (.tmp 13) rfl 44 rfl rfl ?aO ?aB HL.out ?_;(case aO=>exact HJ1.out.ob);(case aB=>exact HJ1.out.be.size);intro v2 w2 ho2 hg2;have HF:=ah (HJ1.out.byte ho2 hg2);obtain⟨A2,n2,c2,rfl⟩:=fQ ho2;have u0:=(HJ1.out.jw.grown hg2 (HJ1.out.jw.MI HJ1.out.ob)).c0;have u1:=(HJ1.out.jw.grown hg2 (HJ1.out.jw.MI HJ1.out.ob)).f0;clear ho2 hg2))
 go_end0
 exact⟨rfl,⟨_,HF.out.1⟩,HK1.out.trans HF.out.2⟩
structure WS where
 a:Nat
 b:List Int
 l:List Tok
def WS.sz(s:WS):Nat:=s.a+s.b.length+s.l.length
abbrev nX(w0 W:World)(p:Nat)(P:List Int)(s:WS)(vb vl:Value):Prop:=JS w0 W p P s.a s.b s.l vb vl
abbrev CP(w0 W:World)(p:Nat)(P:List Int)(s:WS)(e:Ending)(w':World):Prop:=e= .returned (.tuple #[])/\(∃vb vl,nX w0 w' p P s vb vl)/\bD W w'
def Em(P:List Int)(s:WS):WS:=⟨dB P s.a,s.b++eP (dK P s.a 8),s.l⟩
def zQ(y:Int)(s:WS):WS:=⟨s.a,s.b++[y],s.l⟩
def Ap(P:List Int)(kind:Int)(sx:ByteArray)(boo:Bool)(raw:ByteArray)(s:WS):WS:=⟨(Em P s).a,(Em P s).b++bytesOf raw,(Em P s).l++[⟨kind,(Em P s).b.length,raw,sx,boo⟩]⟩
def qK(a:Nat)(s:WS):WS:=⟨a,s.b,s.l⟩
def uY(P:List Int)(kind:Int)(x:ByteArray)(s:WS):WS:=Ap P kind x false (str (dO P s.a (bytesOf x)).1) (qK (dO P s.a (bytesOf x)).2 s)
def textS(P:List Int)(x:ByteArray)(s:WS):WS:=uY P 16 x s
def keyS(P:List Int)(x:ByteArray)(s:WS):WS:=zQ 58 (Em P (uY P 32 x s))
def Jk(P:List Int)(raw:ByteArray)(quoted:Bool)(s:WS):WS:=if quoted then textS P raw s else Ap P 8 ⟨#[]⟩ false raw s
def CQ(P:List Int)(i:Nat)(s:WS):WS:=if 0<i then zQ 44 (Em P s)else s
theorem MQ(P:List Int)(s:WS):s.sz<=(Em P s).sz/\s.a<=(Em P s).a:=by
 have:=dX P s.a;simp only[WS.sz,Em,List.length_append];omega
theorem Jl(y:Int)(s:WS):s.sz<=(zQ y s).sz:=by simp only[WS.sz,zQ,List.length_append];omega
theorem Pz(P:List Int)(kind:Int)(sx:ByteArray)(boo:Bool)(raw:ByteArray)(s:WS):s.sz+raw.size<=(Ap P kind sx boo raw s).sz:=by
 have h:=(MQ P s).1;have e:=bytesOf_length raw;simp only[WS.sz,Ap,List.length_append]at h ⊢;omega
theorem ES(P:List Int):∀(n:Nat)(l:List Int)(a:Nat),l.length<=n->a<=(iY P a l).2/\(iY P a l).2<=a+9*n:=by
 intro n
 induction n with
 |zero=>
  intro l a h;obtain rfl:l=[]:=List.eq_nil_of_length_eq_zero (by omega);rw[lF];simp
 |succ n ih=>
  intro l a h
  by_cases h0:l=[]
  ·rw[h0,lF];simp
  ·by_cases hz:aZ l=0
   ·rw[iY,dif_neg h0,dif_pos hz];simp only;omega
   ·rw[qJ P a h0 hz]
    have h1:=Jj (P:=P) (a:=a) (l:=l.take (aZ l));have h2:=ih (l.drop (aZ l)) (jU P a (l.take (aZ l))).2 (by rw[List.length_drop];omega);simp only;omega
theorem Gz(P:List Int)(kind:Int)(x:ByteArray)(s:WS):s.sz<=(uY P kind x s).sz/\(qK (dO P s.a (bytesOf x)).2 s).sz<=(uY P kind x s).sz/\s.a<=(dO P s.a (bytesOf x)).2/\(str (dO P s.a (bytesOf x)).1).size<=(uY P kind x s).sz:=by
 have h:=Pz P kind x false (str (dO P s.a (bytesOf x)).1) (qK (dO P s.a (bytesOf x)).2 s);have h2:=(ES P (bytesOf x).length (bytesOf x) s.a (Nat.le_refl _)).1;have h3:s.a<=(dO P s.a (bytesOf x)).2:=h2;have h4:s.sz<=(qK (dO P s.a (bytesOf x)).2 s).sz:=by simp only[WS.sz,qK];omega
 unfold uY;omega
theorem WS.Yv(s:WS):s.b.length<=s.sz:=by unfold WS.sz;omega
theorem WS.Jm(s:WS):s.a<=s.sz:=by unfold WS.sz;omega
theorem WS.agI(s:WS):s.l.length<=s.sz:=by unfold WS.sz;omega
theorem PD(w0 W:World)(p:Nat)(P:List Int)(s:WS)(vb vl:Value)(hP:qE P)(hs:s.sz<=1000000000000)(h:nX w0 W p P s vb vl):
 Calls Tryz.prog 21 #[.pointer (some ⟨p,0,none⟩)] W (CP w0 W p P (Em P s)):=by
 have:=s.Yv;have:=s.Jm;refine(Pv w0 W p P s.a vb vl s.b s.l hP (by omega) (by omega) h).mono ?_;rintro e w1⟨rfl,⟨vT,h1⟩,h2⟩;exact⟨rfl,⟨vT,vl,h1⟩,h2⟩
theorem Yw(w0 W:World)(p:Nat)(P:List Int)(s:WS)(vb vl:Value)(i:Nat)(hP:qE P)(hs:s.sz<=1000000000000)(h:nX w0 W p P s vb vl):
 Calls Tryz.prog 45 #[.pointer (some ⟨p,0,none⟩),.int .i64 i] W (CP w0 W p P (CQ P i s)):=by
 have:=s.Yv;have:=s.Jm
 by_cases hi:0<i
 ·unfold CQ
  rw[if_pos hi];refine(QS w0 W p P s.a vb vl s.b s.l i (by omega) hP (by omega) (by omega) h).mono ?_;rintro e w1⟨rfl,⟨vT,h1⟩,h2⟩;exact⟨rfl,⟨vT,vl,h1⟩,h2⟩
 ·unfold CQ
  rw[if_neg hi];refine(Uw W p i (by omega)).mono ?_;rintro e w1⟨rfl,rfl⟩;exact⟨rfl,⟨vb,vl,h⟩,bD.refl _⟩
theorem wz(w0 W:World)(p:Nat)(P:List Int)(s:WS)(vb vl:Value)(kind pos:Int)(raw sx text:ByteArray)(boo:Bool)(hP:qE P)(hs:(Ap P kind sx boo text s).sz<=1000000000000)(h:nX w0 W p P s vb vl):
 Calls Tryz.prog 44 #[.pointer (some ⟨p,0,none⟩),.agg #[.int .i64 kind,.int .i64 pos,.string raw,.string sx,.bool boo],.string text] W (CP w0 W p P (Ap P kind sx boo text s)):=by
 have h1:=Pz P kind sx boo text s;have:=s.Yv;have:=s.Jm;have:=s.agI;refine(Yp w0 W p P s.a vb vl s.b s.l kind pos raw sx text boo hP (by omega) (by omega) (by omega) h).mono ?_;rintro e w1⟨rfl,⟨vT,Gw,h1⟩,h2⟩;exact⟨rfl,⟨vT,Gw,h1⟩,h2⟩
theorem Jo(w0 W:World)(p:Nat)(P:List Int)(s:WS)(vb vl:Value)(x:ByteArray)(hP:qE P)(hx:x.size<=4294967296)(hv:dh (bytesOf x)=true)(hs:s.sz<=1000000000000)(h:nX w0 W p P s vb vl):
 Calls Tryz.prog 136 #[.pointer (some ⟨p,0,none⟩),.string x] W fun e w'=>e= .returned (.string (str (dO P s.a (bytesOf x)).1))/\nX w0 w' p P (qK (dO P s.a (bytesOf x)).2 s) vb vl/\bD W w':=by
 have:=s.Jm;refine(Uu w0 W p P s.a vb vl x (by omega) hv hP (by omega) h.jw h.be).mono ?_;rintro e w1⟨rfl,h1,h2,h3⟩;exact⟨rfl,⟨h1,jL h.ob h.jw h3,yS h.ol h.jw h3,h2⟩,bD.but h3 h.jw⟩
theorem yX(w0 W:World)(p:Nat)(P:List Int)(s:WS)(vb vl:Value)(n:Int)(hn:0<n)(hP:qE P)(hs:s.sz<=1000000000000)(h:nX w0 W p P s vb vl):
 Calls Tryz.prog 43 #[.pointer (some ⟨p,0,none⟩),.int .i64 n] W fun e w'=>e= .returned (.int .i64 (dK P s.a n))/\nX w0 w' p P (qK (dB P s.a) s) vb vl/\bD W w':=by
 have:=s.Jm;refine(yT w0 W p P s.a vb vl n hn hP (by omega) h.jw h.be).mono ?_;rintro e w1⟨rfl,h1,h2,h3⟩;exact⟨rfl,⟨h1,jL h.ob h.jw h3,yS h.ol h.jw h3,h2⟩,bD.but h3 h.jw⟩
theorem Ux(w0 W:World)(p:Nat)(P:List Int)(s:WS)(vb vl:Value)(x:ByteArray)(hP:qE P)(hx:x.size<=4294967296)(hv:dh (bytesOf x)=true)(hs:(textS P x s).sz<=1000000000000)(h:nX w0 W p P s vb vl):
 Calls Tryz.prog 95 #[.pointer (some ⟨p,0,none⟩),.string x] W (CP w0 W p P (textS P x s)):=by
 have hq:=Gz P 16 x s;have HQ:=ah (Jo w0 W p P s vb vl x hP hx hv (Nat.le_trans hq.1 hs) h);have HS:=ah (show(Ap P 16 x false (str (dO P s.a (bytesOf x)).1) (qK (dO P s.a (bytesOf x)).2 s)).sz<=1000000000000 from hs);have HP:=ah hP;clear hP hx hv hs h hq;go_enter Tryz.func95,Tryz.ntmps95
 go_wp2_with (first|(go_at_call 136;(with_reducible refine HQ.out.mono ?_);rintro e w1⟨rfl,hj1,hk1⟩;have HJ1:=ah hj1;have HK1:=ah hk1;clear hj1 hk1)|(go_at_call 44;(with_reducible refine(wz w0 _ p P (qK (dO P s.a (bytesOf x)).2 s) vb vl 16 _ _ x _ false HP.out HS.out HJ1.out).mono ?_);rintro e w2⟨rfl,⟨vb2,vl2,hj2⟩,hk2⟩;have HJ2:=ah hj2;have HK2:=ah (HK1.out.trans hk2);clear hj2 hk2))
 go_end0
 exact⟨rfl,⟨_,_,HJ2.out⟩,HK2.out⟩
theorem Uy(w0 W:World)(p:Nat)(P:List Int)(s:WS)(vb vl:Value)(x:ByteArray)(hP:qE P)(hx:x.size<=4294967296)(hv:dh (bytesOf x)=true)(hs:(keyS P x s).sz<=1000000000000)(h:nX w0 W p P s vb vl):
 Calls Tryz.prog 91 #[.pointer (some ⟨p,0,none⟩),.string x] W (CP w0 W p P (keyS P x s)):=by
 have hq:=Gz P 32 x s;have h3:=Jl 58 (Em P (uY P 32 x s));have h4:=(MQ P (uY P 32 x s)).1;have hs2:(uY P 32 x s).sz<=1000000000000:=Nat.le_trans (Nat.le_trans h4 h3) hs;have hs3:(Em P (uY P 32 x s)).b.length<=1000000000000:=Nat.le_trans (WS.Yv _) (Nat.le_trans h3 hs);have HQ:=ah (Jo w0 W p P s vb vl x hP hx hv (Nat.le_trans hq.1 hs2) h);have HS:=ah (show(Ap P 32 x false (str (dO P s.a (bytesOf x)).1) (qK (dO P s.a (bytesOf x)).2 s)).sz<=1000000000000 from hs2);have HS2:=ah hs2;have HL:=ah (show(Em P (uY P 32 x s)).b.length+1<=140737488355328 by omega);have HP:=ah hP;clear hP hx hv hs h hq h3 h4 hs2 hs3;go_enter Tryz.func91,Tryz.ntmps91
 go_wp2_with (first|(go_at_call 136;(with_reducible refine HQ.out.mono ?_);rintro e w1⟨rfl,hj1,hk1⟩;have HJ1:=ah hj1;have HK1:=ah hk1;clear hj1 hk1)|(go_at_call 44;(with_reducible refine(wz w0 _ p P (qK (dO P s.a (bytesOf x)).2 s) vb vl 32 _ _ x _ false HP.out HS.out HJ1.out).mono ?_);rintro e w2⟨rfl,⟨vb2,vl2,hj2⟩,hk2⟩;have HJ2:=ah (show nX w0 w2 p P (uY P 32 x s) vb2 vl2 from hj2);have HK2:=ah (HK1.out.trans hk2);clear hj2 hk2)|(go_at_call 21;(with_reducible refine(PD w0 _ p P (uY P 32 x s) vb2 vl2 HP.out HS2.out HJ2.out).mono ?_);rintro e w3⟨rfl,⟨vb3,vl3,hj3⟩,hk3⟩;have c0:=hj3.jw.c0;have HJ3:=ah hj3;have HK3:=ah (HK2.out.trans hk3);clear hj3 hk3)|(at_builtin;refine gG w0.heap.size rfl (.tmp 17) (.tmp 18) rfl 58 rfl rfl ?aO ?aB HL.out ?_;(case aO=>exact HJ3.out.ob);(case aB=>exact HJ3.out.be.size);intro v4 w4 ho4 hg4;have HF:=ah (HJ3.out.byte ho4 hg4);obtain⟨A4,n4,c4,rfl⟩:=fQ ho4;have u0:=(HJ3.out.jw.grown hg4 (HJ3.out.jw.MI HJ3.out.ob)).c0;have u1:=(HJ3.out.jw.grown hg4 (HJ3.out.jw.MI HJ3.out.ob)).f0;clear ho4 hg4))
 go_end0
 exact⟨rfl,⟨_,_,HF.out.1⟩,HK3.out.trans HF.out.2⟩
theorem yY(w0 W:World)(p:Nat)(P:List Int)(s:WS)(vb vl:Value)(x:ByteArray)(q:Bool)(hP:qE P)(hx:x.size<=4294967296)(hv:dh (bytesOf x)=true)(hs:(Jk P x q s).sz<=1000000000000)(h:nX w0 W p P s vb vl):
 Calls Tryz.prog 98 #[.pointer (some ⟨p,0,none⟩),.string x,.bool q] W (CP w0 W p P (Jk P x q s)):=by
 cases q
 ·have HX:=ah (show(Ap P 8 ⟨#[]⟩ false x s).sz<=1000000000000 from hs)
  have HP:=ah hP;have HJ:=ah h;clear hP hx hv hs h;go_enter Tryz.func98,Tryz.ntmps98
  go_wp2_with (go_at_call 44;(with_reducible refine(wz w0 _ p P s vb vl 8 _ _ _ _ false HP.out HX.out HJ.out).mono ?_);rintro e w2⟨rfl,⟨vb2,vl2,hj2⟩,hk2⟩;have HJ2:=ah hj2;have HK2:=ah hk2;clear hj2 hk2)
  go_end0
  exact⟨rfl,⟨_,_,HJ2.out⟩,HK2.out⟩
 ·have HX:=ah (Ux w0 W p P s vb vl x hP hx hv hs h)
  clear hP hx hv hs h;go_enter Tryz.func98,Tryz.ntmps98
  go_wp2_with (go_at_call 95;(with_reducible refine HX.out.mono ?_);rintro e w2⟨rfl,⟨vb2,vl2,hj2⟩,hk2⟩;have HJ2:=ah hj2;have HK2:=ah hk2;clear hj2 hk2)
  (try simp only[Exit.inBlock,Exit.then])
  refine bodyPost_ret (results_none rfl _ _ _) rfl ?_;exact⟨rfl,⟨_,_,HJ2.out⟩,HK2.out⟩
def Aq(c:Int):Bool:=decide (97<=c)&&decide (c<=122)
def XV(c:Int):Int:=if Aq c=true then c-32 else c
def mX:Bool->List Int->List Int
 |_,[]=>[]
 |p,c::t=>if c=95 then mX true t else(if p=true then XV c else c)::mX false t
def camel(s:ByteArray):ByteArray:=strOfNums (mX false (bytesOf s))
theorem rU(c:Int)(w:World):Calls Tryz.prog 135 #[.int .u8 c] w fun e w'=>e= .returned (.bool (Aq c))/\w=w':=by
 cases b4:decide (97<=c)<;>cases b5:decide (c<=122)
 all_goals
  have HF:=ah (show Aq c=_ by rw[Aq,b4,b5]);go_enter Tryz.func135,Tryz.ntmps135;go_wp2
  go_ret
  exact⟨by rw[HF.out];rfl,rfl⟩
theorem Yx(c:Int)(w:World):Calls Tryz.prog 89 #[.int .u8 c] w fun e w'=>e= .returned (.int .u8 (XV c))/\w=w':=by
 cases b:Aq c
 ·have HF:=ah (show XV c=c by rw[XV,b];rfl)
  go_enter Tryz.func89,Tryz.ntmps89
  go_wp2_with (go_at_call 135;(with_reducible refine(rU _ _).mono ?_);rw[b];rintro e w1⟨rfl,rfl⟩)
  go_ret
  exact⟨by rw[HF.out];rfl,rfl⟩
 ·have HF:=ah (show XV c=c-32 by rw[XV,b];rfl)
  have hb:97<=c/\c<=122:=by simpa [Aq]using b
  obtain⟨h1,h2⟩:=hb;go_enter Tryz.func89,Tryz.ntmps89
  go_wp2_with (go_at_call 135;(with_reducible refine(rU _ _).mono ?_);rw[b];rintro e w1⟨rfl,rfl⟩)
  go_ret
  exact⟨by rw[HF.out];rfl,rfl⟩
theorem Uz(c:Int)(w:World):Calls Tryz.prog 90 #[.int .u8 c] w fun e w'=>e= .returned (.int .u8 c)/\w=w':=by
 go_enter Tryz.func90,Tryz.ntmps90;go_wp2
 go_ret
 exact⟨rfl,rfl⟩
theorem MR(l:List Int):∀p,(mX p l).length<=l.length:=by
 induction l with
 |nil=>intro p;simp[mX]
 |cons c t ih=>
  intro p;unfold mX
  split
  ·have:=ih true;simp;omega
  ·have:=ih false;simp;omega
def jI(s:ByteArray)(i:Nat)(out:List Int)(p:Bool):Prop:=out++mX p ((bytesOf s).drop i)=mX false (bytesOf s)/\out.length<=i
theorem jI.start(s:ByteArray):jI s 0 [] false:=⟨rfl,Nat.le_refl _⟩
theorem jI.skip{s:ByteArray}{i:Nat}{out:List Int}{p:Bool}(h:jI s i out p)(hi:i<s.size)(hc:bt s i=95):jI s (i+1) out true:=by
 refine⟨?_,by have:=h.2;omega⟩;have:=h.1;rw[pY s i hi,mX,if_pos hc]at this;exact this
theorem jI.put{s:ByteArray}{i:Nat}{out:List Int}{p:Bool}(h:jI s i out p)(hi:i<s.size)(hc:¬bt s i=95):jI s (i+1) (out++[if p=true then XV (bt s i)else bt s i]) false:=by
 refine⟨?_,by have:=h.2;simp;omega⟩;have:=h.1;rw[pY s i hi,mX,if_neg hc]at this;rw[List.append_assoc];exact this
theorem jI.done{s:ByteArray}{i:Nat}{out:List Int}{p:Bool}(h:jI s i out p)(hi:s.size<=i):strOfNums out=camel s:=by
 have:=h.1;rw[BZ s i hi,mX,List.append_nil]at this;rw[camel,this]
def yZ(s:ByteArray)(i:Nat)(p:Bool):Prop:=p=(decide (0<i)&&bt s ((i-1:Nat):Int)==95)
theorem Yy(s:ByteArray)(w:World)(hs:s.size<=2147483647):
 Calls Tryz.prog 88 #[.string s,.bool false,.func (.func 89) #[] #[],.func (.func 90) #[] #[]] w fun e w'=>e= .returned (.string (camel s))/\Below w.heap.size w w':=by
 go_enter Tryz.func88,Tryz.ntmps88;go_wp2
 go_loopg [9,10] s.size (fun g v9 v10 w'=>∃(i:Nat)(out:List Int)(p:Bool),v10= .int .i64 i/\i+g=s.size/\aC (jI s i out p)/\aC (yZ s i p)/\aC (OwnB w' w.heap.size v9 out)/\aC (Below w.heap.size w w'))
 case atStart=>exact⟨0,[],false,rfl,by simp,⟨jI.start s⟩,⟨rfl⟩,⟨Kd.mP _ _ _ _ _⟩,⟨bg _ _⟩⟩
 case round=>
  obtain⟨i,out,p,rfl,hg,HA,HP,HO,HB⟩:=hrel
  by_cases hlt:i<s.size
  ·have hx:=jX s (i:Int)
   rw[Int.toNat_natCast]at hx;have HL:=ah (show out.length+1<=140737488355328 by have:=HA.out.2;omega);obtain⟨g',rfl⟩:∃g',gk=g'+1:=⟨gk-1,by omega⟩
   by_cases hc:bt s i=95
   ·have HN:=ah (HA.out.skip hlt hc)
    have HQ:=ah (show yZ s (i+1) true by simp[yZ,hc]);have c1:=kZ hc;clear hc;go_wp2
    go_roundg g'
    case measure=>omega
    case rel=>exact⟨i+1,out,true,by go_num,by omega,HN,HQ,HO,HB⟩
   ·have HN:=ah (HA.out.put hlt hc)
    have HQ:=ah (show yZ s (i+1) false by simp[yZ,hc]);have c1:=eqF hc;clear hc
    by_cases h0:i=0
    ·subst h0
     replace HN:=ah (show jI s (0+1) (out++[bt s 0]) false by have:=HN.out;rwa [show p=false from HP.out,if_neg (by simp)]at this)
     have c1:(bt s 0==95)=false:=c1;have hx:∀h:0<s.size,((s[0]'h).toNat:Int)=bt s 0:=jX s 0
     go_wp2_with (first|(go_at_call 90;(with_reducible refine(Uz _ _).mono ?_);rintro e w1⟨rfl,rfl⟩)|(at_builtin;refine rJ (w0:=w) rfl (.tmp 17) (.tmp 23) rfl (bt s 0) rfl rfl ?aO ?aB HL.out ?_;(case aO=>exact HO.out);(case aB=>exact HB.out);intro v1 w1 ho hb hg;have HO1:=ah ho;have HB1:=ah hb;clear ho hb hg))
     go_roundg g'
     case measure=>omega
     case rel=>exact⟨0+1,_,false,by go_num,by omega,HN,HQ,HO1,HB1⟩
    ·obtain⟨m,rfl⟩:∃m,i=m+1:=⟨i-1,by omega⟩
     have hp:p=(bt s (m:Int)==95):=by have:=HP.out;simpa [yZ]using this
     have hy:=jX s (m:Int);rw[Int.toNat_natCast]at hy;have c1:(bt s ((m:Int)+1)==95)=false:=c1;have hx:∀h:m+1<s.size,((s[m+1]'h).toNat:Int)=bt s ((m:Int)+1):=hx
     have m0:(((m:Int)+1)==0)=false:=eqF (by omega);cases p
     ·have c5:(bt s (m:Int)==95)=false:=hp.symm
      replace HN:=ah (show jI s (m+1+1) (out++[bt s ((m:Int)+1)]) false from HN.out)
      clear hp
      go_wp2_with (first|(go_at_call 90;(with_reducible refine(Uz _ _).mono ?_);rintro e w1⟨rfl,rfl⟩)|(at_builtin;refine rJ (w0:=w) rfl (.tmp 17) (.tmp 23) rfl (bt s ((m:Int)+1)) rfl rfl ?aO ?aB HL.out ?_;(case aO=>exact HO.out);(case aB=>exact HB.out);intro v1 w1 ho hb hg;have HO1:=ah ho;have HB1:=ah hb;clear ho hb hg))
      go_roundg g'
      case measure=>omega
      case rel=>exact⟨m+1+1,_,false,by go_num,by omega,HN,HQ,HO1,HB1⟩
     ·have c5:(bt s (m:Int)==95)=true:=hp.symm
      replace HN:=ah (show jI s (m+1+1) (out++[XV (bt s ((m:Int)+1))]) false from HN.out)
      clear hp
      go_wp2_with (first|(go_at_call 89;(with_reducible refine(Yx _ _).mono ?_);rintro e w1⟨rfl,rfl⟩)|(at_builtin;refine rJ (w0:=w) rfl (.tmp 47) (.tmp 53) rfl (XV (bt s ((m:Int)+1))) rfl rfl ?aO ?aB HL.out ?_;(case aO=>exact HO.out);(case aB=>exact HB.out);intro v1 w1 ho hb hg;have HO1:=ah ho;have HB1:=ah hb;clear ho hb hg))
      go_roundg g'
      case measure=>omega
      case rel=>exact⟨m+1+1,_,false,by go_num,by omega,HN,HQ,HO1,HB1⟩
  ·have hcv:=kY HO.out
   have HE:=ah (HA.out.done (by omega));go_wp2
   go_ret
   exact⟨by rw[<-HE.out];rfl,HB.out⟩
theorem nO(s:ByteArray)(w:World)(hs:s.size<=2147483647):
 Calls Tryz.prog 41 #[.string s] w fun e w'=>e= .returned (.string (camel s))/\Below w.heap.size w w':=by
 go_enter Tryz.func41,Tryz.ntmps41
 go_wp2_with (go_at_call 88;(with_reducible refine(Yy _ _ hs).mono ?_);rintro e w1⟨rfl,hb⟩)
 go_ret
 exact⟨rfl,hb⟩
end Go.Proofs.YtapkmjfjikpnlaaGreatDoor
