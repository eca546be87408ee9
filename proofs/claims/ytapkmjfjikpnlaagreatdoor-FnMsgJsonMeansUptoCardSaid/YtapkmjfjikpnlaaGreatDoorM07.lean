/- A part of FnMsgJsonMeans. No conditions. -/
import Derived.Test.YtapkmjfjikpnlaaGreatDoorM06
set_option maxHeartbeats 4000000
set_option maxRecDepth 100000
namespace Go.Proofs.YtapkmjfjikpnlaaGreatDoor
open Go.RowKit YtapkmjfjikpnlaaGreatDoorW.aG YtapkmjfjikpnlaaGreatDoorW.aJ
set_option linter.unusedVariables false
set_option linter.unusedSimpArgs false
def hexV(u:Bool)(n:Int):Int:=if n%16<10 then 48+n%16 else(if u then 55 else 87)+n%16
theorem Ur{x:Int}(h0:0<=x)(h1:x<2^62):bits .and .i64 x 15=x%16:=and64 4 (by omega) h0 h1
abbrev Us(P:List Int):Prop:=∀x∈P,0<=x/\x<=255
theorem int16{d:Int}(h0:0<=d)(h1:d<16):d=0∨d=1∨d=2∨d=3∨d=4∨d=5∨d=6∨d=7∨d=8∨d=9∨d=10∨d=11∨d=12∨d=13∨d=14∨d=15:=by omega
theorem hexL{d:Int}(h0:0<=d)(h1:d<16):∀h:d.toNat<(⟨#[48,49,50,51,52,53,54,55,56,57,97,98,99,100,101,102]⟩:ByteArray).size,((((⟨#[48,49,50,51,52,53,54,55,56,57,97,98,99,100,101,102]⟩:ByteArray)[d.toNat]'h).toNat:Nat):Int)=hexV false d:=by
 rcases int16 h0 h1 with rfl|rfl|rfl|rfl|rfl|rfl|rfl|rfl|rfl|rfl|rfl|rfl|rfl|rfl|rfl|rfl<;>intro h<;>rfl
theorem agG{d:Int}(h0:0<=d)(h1:d<16):∀h:d.toNat<(⟨#[48,49,50,51,52,53,54,55,56,57,65,66,67,68,69,70]⟩:ByteArray).size,((((⟨#[48,49,50,51,52,53,54,55,56,57,65,66,67,68,69,70]⟩:ByteArray)[d.toNat]'h).toNat:Nat):Int)=hexV true d:=by
 rcases int16 h0 h1 with rfl|rfl|rfl|rfl|rfl|rfl|rfl|rfl|rfl|rfl|rfl|rfl|rfl|rfl|rfl|rfl<;>intro h<;>rfl
theorem vW(w0 W:World)(p:Nat)(P:List Int)(a:Nat)(vb vl:Value)(n:Int)(h0:0<=n)(h1:n<2^62)(hP:Us P)(ha:a<=281474976710656)(hw:JW w0 W p P a vb vl)(hB:Below w0.heap.size w0 W):
 Calls Tryz.prog 227 #[.pointer (some ⟨p,0,none⟩),.int .i64 n] W fun e w'=>e= .returned (.int .u8 (hexV (dK P a 2==1) n))/\JW w0 w' p P (dB P a) vb vl/\Below w0.heap.size w0 w'/\aH W w' p none:=by
 have HC:=ah (yT w0 W p P a vb vl 2 (by decide) hP ha hw hB);have e1:=Ur h0 h1;obtain⟨d,hd⟩:∃d,d=n%16:=⟨_,rfl⟩
 rw[<-hd]at e1;have d1:0<=d:=by omega
 have d2:d<16:=by omega
 cases b:(dK P a 2==1)
 ·have HF:=ah (show hexV false n=hexV false d by unfold hexV;rw[hd];simp)
  have hx:=hexL d1 d2;clear hd h0 h1 hP hw hB ha;go_enter Tryz.func227,Tryz.ntmps227
  go_wp2_with (go_at_call 43;(with_reducible refine HC.out.mono ?_);rintro e w1⟨rfl,hw1,hb1,hk1⟩)
  go_ret
  exact⟨by rw[HF.out];rfl,hw1,hb1,hk1⟩
 ·have HF:=ah (show hexV true n=hexV true d by unfold hexV;rw[hd];simp)
  have hx:=agG d1 d2;clear hd h0 h1 hP hw hB ha;go_enter Tryz.func227,Tryz.ntmps227
  go_wp2_with (go_at_call 43;(with_reducible refine HC.out.mono ?_);rintro e w1⟨rfl,hw1,hb1,hk1⟩)
  go_ret
  exact⟨by rw[HF.out];rfl,hw1,hb1,hk1⟩
def kM(P:List Int)(a:Nat)(c:Int):List Int:=
 [92,117,hexV (dK P a 2==1) (c/4096),hexV (dK P (dB P a) 2==1) (c/256),hexV (dK P (dB P (dB P a)) 2==1) (c/16),hexV (dK P (dB P (dB P (dB P a))) 2==1) c]
def iy(P:List Int)(a:Nat):Nat:=dB P (dB P (dB P (dB P a)))
theorem dX(P:List Int)(a:Nat):a<=dB P a/\dB P a<=a+1:=by unfold dB;split<;>omega
theorem gG{W:World}(base:Nat){ops:Array Oper}{rest:List Oper}{o:Oper}{a:Act}{Q:Exit->Act->World->Prop}(hgd:o.guard=none)(s x:Operand)
 (ho:o.op= .call {callee:=.builtin .append,args:=#[s,x],argTypes:=#[27,27]}) {v:Value} {xs:List Int} (y:Int) (hs:a.eval s=v) (hx:a.eval x= .slice (some ⟨W.heap.size,0,none⟩) 1 1)
 (HO:OwnB W base v xs) (hb:base<=W.heap.size) (hl:xs.length+1<=140737488355328)
 (h:∀v1 w1,OwnB w1 base v1 (xs++[y])->W.grownBy w1 v.ownBlock->wpList Tryz.prog ops Q rest (a.put o.dst v1) w1):
 wpList Tryz.prog ops Q (o::rest) a (W.alloc (.cells #[.int .u8 y] 5)):=
 Kd.nJ (Kd.int .u8) (w0:=W) base hgd s x 27 5 (.int .u8 0) 1 ho Tryz.underlying27 uS rfl (by decide) (by omega) v xs y [.int .u8 y] (fun _=>True) (fun _=>False) hs hx rfl (fun _ hk=>hk.elim) (fun _ _=>trivial) HO (bg _ _) hb (by omega)
  fun v1 w1 ho hb hg hat=>h v1 w1 ho hg
theorem jG{W:World}{base:Nat}{v:Value}{xs:List Int}(h:OwnB W base v xs):∀k,v.ownBlock=some k->base<=k:=Kd.lC h
theorem nN{W W1 W2:World}{p:Nat}{row:Option Nat}(h:aH W W1 p none)(hg:W1.grownBy W2 row)(hr:∀k,row=some k->W.heap.size<=k):aH W W2 p none:=
 ⟨Nat.le_trans h.1 hg.size,fun i hi hp _=>(hg.block i (Nat.lt_of_lt_of_le hi h.1) (fun e=>by have:=hr i e.symm;omega)).trans (h.2 i hi hp (by simp))⟩
theorem lS{w0 W W1 W2:World}{row:Option Nat}(h:Below w0.heap.size w0 W1)(hg:W1.grownBy W2 row)(hw:w0.heap.size<=W.heap.size)(hr:∀k,row=some k->W.heap.size<=k):Below w0.heap.size w0 W2:=
 h.grown hg h.size (fun k hk=>Nat.le_trans hw (hr k hk))
def jH(P:List Int)(a:Nat):Nat->Nat
 |0=>a
 |k+1=>dB P (jH P a k)
theorem vX(P:List Int)(a k:Nat):jH P a k<=a+k:=by
 induction k with
 |zero=>exact Nat.le_refl _
 |succ k ih=>have:=dX P (jH P a k);show dB P (jH P a k)<=_;omega
theorem rQ(w0 W:World)(p:Nat)(P:List Int)(a:Nat)(vb vl:Value)(c:Int)(h0:0<=c)(h1:c<1114112)(hP:Us P)(ha:a<=281474976710600)(hw:JW w0 W p P a vb vl)(hB:Below w0.heap.size w0 W):
 Calls Tryz.prog 201 #[.pointer (some ⟨p,0,none⟩),.int .i64 c] W fun e w'=>(∃v,e= .returned v/\OwnB w' W.heap.size v (kM P a c))/\JW w0 w' p P (iy P a) vb vl/\Below w0.heap.size w0 w'/\aH W w' p none:=by
 have HP:=ah hP;have HW:=ah hw;have HB:=ah hB;have HA:=ah ha;have HC:=ah (And.intro h0 h1);clear hP hw hB ha h0 h1;go_enter Tryz.func201,Tryz.ntmps201;go_wp2
 go_loopg [5,6] 4 (fun g v5 v6 w'=>∃k:Nat,v6= .int .i64 (12-4*(k:Int))/\k+g=4/\aC (OwnB w' W.heap.size v5 ((kM P a c).take (2+k)))/\aC (JW w0 w' p P (jH P a k) vb vl)/\aC (Below w0.heap.size w0 w')/\aC (aH W w' p none))
 case atStart=>exact⟨0,rfl,rfl,⟨mF W _ [92,117] (Nat.le_refl _) (by simp)⟩,⟨HW.out.alloc _⟩,⟨ak HB.out _⟩,⟨aH.of_below (ak (bg _ _) _) _ _⟩⟩
 case round=>
  obtain⟨k,rfl,hg,HO,HWk,QM,MO⟩:=hrel;have hHC:=HC.out;have hHA:=HA.out;have uV:=ah (vX P a k)
  match k,hg with
  |0,hg=>
   have HX:=ah (vW w0 wr p P (jH P a 0) vb vl (c/4096) (by omega) (by omega) HP.out (by have:=uV.out;omega) HWk.out QM.out);have HT:=ah (show(kM P a c).take (2+(0+1))=(kM P a c).take (2+0)++[hexV (dK P (jH P a 0) 2==1) (c/4096)]by rfl);have HLn:=ah (show((kM P a c).take (2+0)).length+1<=140737488355328 by rw[List.length_take];omega);obtain⟨y,hy⟩:∃y,y=hexV (dK P (jH P a 0) 2==1) (c/4096):=⟨_,rfl⟩
   rw[<-hy]at HX HT;clear hHC hHA hy
   go_wp2_with (first|(go_at_call 227;(with_reducible refine HX.out.mono ?_);rintro e w1⟨rfl,hw1,hb1,hk1⟩;have HW1:=ah hw1;have HB1:=ah hb1;have HK1:=ah (MO.out.trans hk1 (.inl rfl));have HO1:=ah (jL HO.out HWk.out hk1);clear hw1 hb1 hk1)|(at_builtin;refine gG W.heap.size rfl (.tmp 12) (.tmp 18) rfl y rfl rfl ?aO ?aB HLn.out ?_;(case aO=>exact HO1.out);(case aB=>exact HK1.out.1);intro v1 w2 ho hg2;have HO2:=ah ho;have HG2:=ah hg2;clear ho hg2))
   obtain⟨g',rfl⟩:∃g',gk=g'+1:=⟨gk-1,by omega⟩
   go_roundg g'
   case measure=>omega
   case rel=>exact⟨0+1,by go_num,by omega,⟨by rw[HT.out];exact HO2.out⟩,⟨HW1.out.grown HG2.out (HW1.out.MI HO1.out)⟩,⟨lS HB1.out HG2.out HB.out.size (jG HO1.out)⟩,⟨nN HK1.out HG2.out (jG HO1.out)⟩⟩
  |1,hg=>
   have HX:=ah (vW w0 wr p P (jH P a 1) vb vl (c/256) (by omega) (by omega) HP.out (by have:=uV.out;omega) HWk.out QM.out);have HT:=ah (show(kM P a c).take (2+(1+1))=(kM P a c).take (2+1)++[hexV (dK P (jH P a 1) 2==1) (c/256)]by rfl);have HLn:=ah (show((kM P a c).take (2+1)).length+1<=140737488355328 by rw[List.length_take];omega);obtain⟨y,hy⟩:∃y,y=hexV (dK P (jH P a 1) 2==1) (c/256):=⟨_,rfl⟩
   rw[<-hy]at HX HT;clear hHC hHA hy
   go_wp2_with (first|(go_at_call 227;(with_reducible refine HX.out.mono ?_);rintro e w1⟨rfl,hw1,hb1,hk1⟩;have HW1:=ah hw1;have HB1:=ah hb1;have HK1:=ah (MO.out.trans hk1 (.inl rfl));have HO1:=ah (jL HO.out HWk.out hk1);clear hw1 hb1 hk1)|(at_builtin;refine gG W.heap.size rfl (.tmp 12) (.tmp 18) rfl y rfl rfl ?aO ?aB HLn.out ?_;(case aO=>exact HO1.out);(case aB=>exact HK1.out.1);intro v1 w2 ho hg2;have HO2:=ah ho;have HG2:=ah hg2;clear ho hg2))
   obtain⟨g',rfl⟩:∃g',gk=g'+1:=⟨gk-1,by omega⟩
   go_roundg g'
   case measure=>omega
   case rel=>exact⟨1+1,by go_num,by omega,⟨by rw[HT.out];exact HO2.out⟩,⟨HW1.out.grown HG2.out (HW1.out.MI HO1.out)⟩,⟨lS HB1.out HG2.out HB.out.size (jG HO1.out)⟩,⟨nN HK1.out HG2.out (jG HO1.out)⟩⟩
  |2,hg=>
   have HX:=ah (vW w0 wr p P (jH P a 2) vb vl (c/16) (by omega) (by omega) HP.out (by have:=uV.out;omega) HWk.out QM.out);have HT:=ah (show(kM P a c).take (2+(2+1))=(kM P a c).take (2+2)++[hexV (dK P (jH P a 2) 2==1) (c/16)]by rfl);have HLn:=ah (show((kM P a c).take (2+2)).length+1<=140737488355328 by rw[List.length_take];omega);obtain⟨y,hy⟩:∃y,y=hexV (dK P (jH P a 2) 2==1) (c/16):=⟨_,rfl⟩
   rw[<-hy]at HX HT;clear hHC hHA hy
   go_wp2_with (first|(go_at_call 227;(with_reducible refine HX.out.mono ?_);rintro e w1⟨rfl,hw1,hb1,hk1⟩;have HW1:=ah hw1;have HB1:=ah hb1;have HK1:=ah (MO.out.trans hk1 (.inl rfl));have HO1:=ah (jL HO.out HWk.out hk1);clear hw1 hb1 hk1)|(at_builtin;refine gG W.heap.size rfl (.tmp 12) (.tmp 18) rfl y rfl rfl ?aO ?aB HLn.out ?_;(case aO=>exact HO1.out);(case aB=>exact HK1.out.1);intro v1 w2 ho hg2;have HO2:=ah ho;have HG2:=ah hg2;clear ho hg2))
   obtain⟨g',rfl⟩:∃g',gk=g'+1:=⟨gk-1,by omega⟩
   go_roundg g'
   case measure=>omega
   case rel=>exact⟨2+1,by go_num,by omega,⟨by rw[HT.out];exact HO2.out⟩,⟨HW1.out.grown HG2.out (HW1.out.MI HO1.out)⟩,⟨lS HB1.out HG2.out HB.out.size (jG HO1.out)⟩,⟨nN HK1.out HG2.out (jG HO1.out)⟩⟩
  |3,hg=>
   have HX:=ah (vW w0 wr p P (jH P a 3) vb vl (c) (by omega) (by omega) HP.out (by have:=uV.out;omega) HWk.out QM.out);have HT:=ah (show(kM P a c).take (2+(3+1))=(kM P a c).take (2+3)++[hexV (dK P (jH P a 3) 2==1) (c)]by rfl);have HLn:=ah (show((kM P a c).take (2+3)).length+1<=140737488355328 by rw[List.length_take];omega);obtain⟨y,hy⟩:∃y,y=hexV (dK P (jH P a 3) 2==1) (c):=⟨_,rfl⟩
   rw[<-hy]at HX HT;clear hHC hHA hy
   go_wp2_with (first|(go_at_call 227;(with_reducible refine HX.out.mono ?_);rintro e w1⟨rfl,hw1,hb1,hk1⟩;have HW1:=ah hw1;have HB1:=ah hb1;have HK1:=ah (MO.out.trans hk1 (.inl rfl));have HO1:=ah (jL HO.out HWk.out hk1);clear hw1 hb1 hk1)|(at_builtin;refine gG W.heap.size rfl (.tmp 12) (.tmp 18) rfl y rfl rfl ?aO ?aB HLn.out ?_;(case aO=>exact HO1.out);(case aB=>exact HK1.out.1);intro v1 w2 ho hg2;have HO2:=ah ho;have HG2:=ah hg2;clear ho hg2))
   obtain⟨g',rfl⟩:∃g',gk=g'+1:=⟨gk-1,by omega⟩
   go_roundg g'
   case measure=>omega
   case rel=>exact⟨3+1,by go_num,by omega,⟨by rw[HT.out];exact HO2.out⟩,⟨HW1.out.grown HG2.out (HW1.out.MI HO1.out)⟩,⟨lS HB1.out HG2.out HB.out.size (jG HO1.out)⟩,⟨nN HK1.out HG2.out (jG HO1.out)⟩⟩
  |4,hg=>
   have HE:=ah (show(kM P a c).take (2+4)=kM P a c by rfl);clear hHC hHA;go_wp2
   go_ret
   exact⟨⟨_,rfl,by rw[<-HE.out];exact HO.out⟩,HWk.out,QM.out,MO.out⟩
  |k+5,hg=>exact absurd hg (by omega)
theorem QN{W:World}(base:Nat){ops:Array Oper}{rest:List Oper}{o:Oper}{a:Act}{Q:Exit->Act->World->Prop}(hgd:o.guard=none)(s x:Operand)
 (ho:o.op= .call {callee:=.builtin .append,args:=#[s,x],argTypes:=#[27,27]}) {v:Value} {xs:List Int} (A:Option Addr) (m c:Nat) (ys:List Int) (hs:a.eval s=v) (hx:a.eval x= .slice A m c)
 (HO:OwnB W base v xs) (HR:RdB W A m ys) (hb:base<=W.heap.size) (hl:xs.length+m<=140737488355328)
 (h:∀v1 w1,OwnB w1 base v1 (xs++ys)->W.grownBy w1 v.ownBlock->wpList Tryz.prog ops Q rest (a.put o.dst v1) w1):
 wpList Tryz.prog ops Q (o::rest) a W:=
 Kd.wO (Kd.int .u8) (Rr:=(Kd.int .u8).K W) (w0:=W) base hgd s x 27 5 (.int .u8 0) 1 ho Tryz.underlying27 uS rfl (by decide) (by omega) v xs ys A m c (fun _=>True) (fun _=>False) hs hx HO HR (fun _ _ h=>h) (fun _ hk=>hk.elim) (fun _ _=>trivial) (bg _ _) hb (by omega)
  fun v1 w1 ho _ hg _=>h v1 w1 ho hg
def Yr(W:World)(p:Nat)(A:Option Addr)(n:Nat)(l:List Int):Prop:=∀W',aH W W' p none->RdB W' A n l
theorem Yr.now{W:World}{p:Nat}{A:Option Addr}{n:Nat}{l:List Int}(h:Yr W p A n l):RdB W A n l:=h W (aH.refl _ _ _)
theorem Yr.keep{W W1:World}{p:Nat}{A:Option Addr}{n:Nat}{l:List Int}(h:Yr W p A n l)(hk:aH W W1 p none):Yr W1 p A n l:=fun W2 h2=>h W2 (hk.trans h2 (.inl rfl))
def mG(P:List Int)(a:Nat)(l:List Int)(c ch:Int):List Int×Nat:=
 if jv c≠0/\ch<2/\((c<32∨c=34∨c=92)∨ch=1)then([92,jv c],a)
 else if¬(c<32∨c=34∨c=92)/\ch<3 then(l,a)
 else if 65536<=c then(kM P a (55296+(c-65536)/1024)++kM P (iy P a) (56320+(c-65536)%1024),iy P (iy P a))
 else(kM P a c,iy P a)
def jU(P:List Int)(a:Nat)(l:List Int):List Int×Nat:=mG P (dB P a) l (cO l) (dK P a 4)
theorem int4{v:Int}(h0:0<=v)(h1:v<4):v=0∨v=1∨v=2∨v=3:=by omega
theorem vY{c:Int}(h:¬(c=34∨c=92∨c=47∨c=8∨c=12∨c=10∨c=13∨c=9)):jv c=0:=by
 simp only[not_or]at h;simp[jv,h]
theorem Px{P:List Int}{a:Nat}{l:List Int}{c ch:Int}(h:jv c≠0/\ch<2/\((c<32∨c=34∨c=92)∨ch=1)):mG P a l c ch=([92,jv c],a):=by rw[mG,if_pos h]
theorem Gy{P:List Int}{a:Nat}{l:List Int}{c ch:Int}(h:¬(jv c≠0/\ch<2/\((c<32∨c=34∨c=92)∨ch=1)))(h2:¬(c<32∨c=34∨c=92)/\ch<3):mG P a l c ch=(l,a):=by rw[mG,if_neg h,if_pos h2]
theorem Py{P:List Int}{a:Nat}{l:List Int}{c ch:Int}(h:¬(jv c≠0/\ch<2/\((c<32∨c=34∨c=92)∨ch=1)))(h2:¬(¬(c<32∨c=34∨c=92)/\ch<3))(h3:65536<=c):mG P a l c ch=(kM P a (55296+(c-65536)/1024)++kM P (iy P a) (56320+(c-65536)%1024),iy P (iy P a)):=by rw[mG,if_neg h,if_neg h2,if_pos h3]
theorem AY{P:List Int}{a:Nat}{l:List Int}{c ch:Int}(h:¬(jv c≠0/\ch<2/\((c<32∨c=34∨c=92)∨ch=1)))(h2:¬(¬(c<32∨c=34∨c=92)/\ch<3))(h3:¬65536<=c):mG P a l c ch=(kM P a c,iy P a):=by rw[mG,if_neg h,if_neg h2,if_neg h3]
theorem jA{W:World}{b:Nat}{A:Option Addr}{n c:Nat}{xs:List Int}(h:OwnB W b (.slice A n c) xs):RdB W A n xs/\n<=c:=by
 obtain⟨rfl,h1,h2⟩:=Kd.iM h;exact⟨h2,h1⟩
abbrev Jh(w0 W:World)(p:Nat)(P:List Int)(vb vl:Value)(r:List Int×Nat)(e:Ending)(w':World):Prop:=
 (∃A n c,e= .returned (.slice A n c)/\RdB w' A n r.1/\n<=c)/\JW w0 w' p P r.2 vb vl/\Below w0.heap.size w0 w'/\aH W w' p none
theorem Ei(w0 W:World)(p:Nat)(P:List Int)(vb vl:Value)(A:Option Addr)(n c:Nat)(l:List Int)(r:Int)(a1:Nat)
 (hRn:Calls Tryz.prog 199 #[.slice A n c] W fun e w'=>e= .returned (.int .i64 r)/\∃m,w'=W.drewN m)
 (hPk:∀m,Calls Tryz.prog 43 #[.pointer (some ⟨p,0,none⟩),.int .i64 4] (W.drewN m) fun e w'=>e= .returned (.int .i64 3)/\JW w0 w' p P a1 vb vl/\Below w0.heap.size w0 w'/\aH (W.drewN m) w' p none)
 (hP:Us P) (ha:a1<=281474976710501) (hs:¬(r=34∨r=92∨r=47∨r=8∨r=12∨r=10∨r=13∨r=9)) (hv:0<=r/\r<1114112) (hbig:¬r<65536):
 Calls Tryz.prog 172 #[.pointer (some ⟨p,0,none⟩),.slice A n c] W (Jh w0 W p P vb vl (mG P a1 l r 3)):=by
 have HRn:=ah hRn;have uV:=ah hPk;have HPo:=ah hP;have HA1:=ah ha;clear hRn hPk hP ha;have hse:=vY hs;have q1:(r==34)=false:=eqF (by omega);have q2:(r==92)=false:=eqF (by omega);have d1:decide (r<32)=false:=bY (by omega);have d2:decide (65536<=r)=true:=bZ (by omega);have u1:IntKind.i64.wrap (r-65536)=r-65536:=kL (by omega) (by omega);have u2:IntKind.i64.wrap (55296+(r-65536)/1024)=55296+(r-65536)/1024:=kL (by omega) (by omega);have u3:bits .and .i64 (r-65536) 1023=(r-65536)%1024:=and64 10 (by omega) (by omega) (by omega);have u4:IntKind.i64.wrap (56320+(r-65536)%1024)=56320+(r-65536)%1024:=kL (by omega) (by omega);obtain⟨x,hx⟩:∃x,x=55296+(r-65536)/1024:=⟨_,rfl⟩
 have HX:=ah (show 0<=x/\x<1114112/\0<=56320+(r-65536)%1024/\56320+(r-65536)%1024<1114112 by omega);have HE:=ah (show mG P a1 l r 3=(kM P a1 x++kM P (iy P a1) (56320+(r-65536)%1024),iy P (iy P a1))by rw[Py (by rw[hse];omega) (by omega) (by omega),hx]);have HXx:=ah hx;have hp4:=ah (show iy P a1<=a1+4 by have:=vX P a1 4;exact this);have v1:wrap64 (55296+(r-65536)/1024)=x:=by rw[hx];exact w64 (by omega) (by omega)
 have v2:wrap64 (56320+(r-65536)%1024)=56320+(r-65536)%1024:=w64 (by omega) (by omega);rw[<-hx]at u2;clear u2;clear hv hs hx hbig;go_enter Tryz.func172,Tryz.ntmps172
 go_wp2_with (first|(go_at_call 199;(with_reducible refine HRn.out.mono ?_);rintro e w1⟨rfl,m,rfl⟩)|(go_at_call 200;(with_reducible refine(kU _ _).mono ?_);rw[hse];rintro e w1⟨rfl,rfl⟩)|(go_at_call 43;(with_reducible refine(uV.out m).mono ?_);rintro e w1⟨rfl,hw1,hb1,hk1⟩;have HW1:=ah hw1;have HB1:=ah hb1;have HK1:=ah (pW (aH.refl W p none) m |>.trans hk1 (.inl rfl));clear hw1 hb1 hk1)|(go_at_call 201;(with_reducible refine(rQ w0 _ p P a1 vb vl x HX.out.1 HX.out.2.1 HPo.out (by have:=HA1.out;omega) HW1.out HB1.out).mono ?_);rintro e w2⟨⟨v,rfl,ho⟩,hw2,hb2,hk2⟩;obtain⟨A2,n2,c2,rfl⟩:=fQ ho;have HO2:=ah ho;have HW2:=ah hw2;have HB2:=ah hb2;have HK2:=ah (HK1.out.trans hk2 (.inl rfl));have HKx:=ah hk2;clear ho hw2 hb2 hk2)|(go_at_call 201;(with_reducible refine(rQ w0 _ p P (iy P a1) vb vl (56320+(r-65536)%1024) HX.out.2.2.1 HX.out.2.2.2 HPo.out (by have:=HA1.out;have:=hp4.out;omega) HW2.out HB2.out).mono ?_);rintro e w3⟨⟨v,rfl,ho⟩,hw3,hb3,hk3⟩;obtain⟨A3,n3,c3,rfl⟩:=fQ ho;have HO3:=ah ho;have HW3:=ah hw3;have HB3:=ah hb3;have HK3:=ah (HK2.out.trans hk3 (.inl rfl));have HO4:=ah (jL HO2.out HW2.out hk3);have HL3:=ah hk3.1;clear ho hw3 hb3 hk3)|(at_builtin;refine QN w1.heap.size rfl (.tmp 59) (.tmp 65) rfl A3 n3 c3 (kM P (iy P a1) (56320+(r-65536)%1024)) rfl rfl HO4.out (jA HO3.out).1 (Nat.le_trans (QA HKx.out) HL3.out) (by have:=Kd.dG (jA HO3.out).1;rw[<-this];show 6+6<=_;omega) ?_;intro v5 w5 ho hg;obtain⟨A5,n5,c5,rfl⟩:=fQ ho;have HO5:=ah ho;have HG5:=ah hg;clear ho hg))
 go_ret
 rw[HE.out];exact⟨⟨_,_,_,rfl,(jA HO5.out).1,(jA HO5.out).2⟩,HW3.out.grown HG5.out (HW3.out.MI HO4.out),lS HB3.out HG5.out (Nat.le_trans HB1.out.size (Nat.le_refl _)) (jG HO4.out),nN HK3.out HG5.out (fun k hk=>Nat.le_trans HK1.out.1 (jG HO4.out k hk))⟩
theorem Ji(w0 W:World)(p:Nat)(P:List Int)(a:Nat)(vb vl:Value)(A:Option Addr)(n c:Nat)(l:List Int)(hr:Yr W p A n l)(hb:∀x∈l,0<=x/\x<=255)(h1:1<=n)(h4:n<=4)(hc:n<=c)(hv:0<=cO l/\cO l<1114112)(hP:Us P)(ha:a<=281474976710500)(hw:JW w0 W p P a vb vl)(hB:Below w0.heap.size w0 W):
 Calls Tryz.prog 172 #[.pointer (some ⟨p,0,none⟩),.slice A n c] W (Jh w0 W p P vb vl (jU P a l)):=by
 have hn:=Kd.dG hr.now;have hRn:=Uo A c l W (by rw[hn];exact hr.now) hb (by omega) (by omega);rw[hn]at hRn;have HRn:=ah hRn;have HR:=ah hr;have uV:=ah (fun m=>yT w0 (W.drewN m) p P a vb vl 4 (by decide) hP (by omega) (hw.drewN m) (aS hB m));have hpr:=jg (P:=P) (a:=a) (n:=4) (by decide) hP;have hal:=dX P a;obtain⟨r,hr0⟩:∃r,r=cO l:=⟨_,rfl⟩
 obtain⟨ch,hch⟩:∃ch,ch=dK P a 4:=⟨_,rfl⟩
 obtain⟨a1,ha1⟩:∃a1,a1=dB P a:=⟨_,rfl⟩
 have HF:=ah (show jU P a l=mG P a1 l r ch by rw[jU,hr0,hch,ha1]);rw[<-hr0]at HRn hv;rw[<-hch]at uV hpr;rw[<-ha1]at uV hal;have HPo:=ah hP;have HA1:=ah (show a1<=281474976710501 by omega);rw[HF.out];clear hr hRn hP hw hB ha hr0 hch ha1 hal hn hb HF
 by_cases hs:r=34∨r=92∨r=47∨r=8∨r=12∨r=10∨r=13∨r=9
 ·rcases hs with rfl|rfl|rfl|rfl|rfl|rfl|rfl|rfl<;>rcases int4 hpr.1 hpr.2 with rfl|rfl|rfl|rfl
  all_goals
   clear hpr hv;go_enter Tryz.func172,Tryz.ntmps172
   go_wp2_with (first|(go_at_call 199;(with_reducible refine HRn.out.mono ?_);rintro e w1⟨rfl,m,rfl⟩)|(go_at_call 200;(with_reducible refine(kU _ _).mono ?_);rintro e w1⟨rfl,rfl⟩)|(go_at_call 43;(with_reducible refine(uV.out m).mono ?_);rintro e w1⟨rfl,hw1,hb1,hk1⟩;have HW1:=ah hw1;have HB1:=ah hb1;have HK1:=ah (pW (aH.refl W p none) m |>.trans hk1 (.inl rfl));clear hw1 hb1 hk1)|(go_at_call 201;(with_reducible refine(rQ w0 _ p P a1 vb vl _ (by omega) (by omega) HPo.out (by have:=HA1.out;omega) HW1.out HB1.out).mono ?_);rintro e w2⟨⟨v,rfl,ho⟩,hw2,hb2,hk2⟩;obtain⟨A2,n2,c2,rfl⟩:=fQ ho;have HO2:=ah ho;have HW2:=ah hw2;have HB2:=ah hb2;have HK2:=ah (HK1.out.trans hk2 (.inl rfl));clear ho hw2 hb2 hk2))
   go_ret
   first
   |(rw[Px (by decide)];exact⟨⟨_,_,_,rfl,(jA (mF w1 w1.heap.size [92,_] (Nat.le_refl _) (by simp))).1,Nat.le_refl _⟩,HW1.out.alloc _,ak HB1.out _,pX HK1.out _⟩)
   |(rw[Gy (by decide) (by decide)];exact⟨⟨_,_,_,rfl,HR.out _ HK1.out,hc⟩,HW1.out,HB1.out,HK1.out⟩)
   |(rw[AY (by decide) (by decide) (by decide)];exact⟨⟨_,_,_,rfl,(jA HO2.out).1,(jA HO2.out).2⟩,HW2.out,HB2.out,HK2.out⟩)
 have hse:=vY hs;have q1:(r==34)=false:=eqF (by omega);have q2:(r==92)=false:=eqF (by omega)
 by_cases h32:r<32
 ·have d1:decide (r<32)=true:=bZ h32
  have d2:decide (65536<=r)=false:=bY (by omega);have HV:=ah hv;rcases int4 hpr.1 hpr.2 with rfl|rfl|rfl|rfl
  all_goals
   clear hpr hv hs;go_enter Tryz.func172,Tryz.ntmps172
   go_wp2_with (first|(go_at_call 199;(with_reducible refine HRn.out.mono ?_);rintro e w1⟨rfl,m,rfl⟩)|(go_at_call 200;(with_reducible refine(kU _ _).mono ?_);rw[hse];rintro e w1⟨rfl,rfl⟩)|(go_at_call 43;(with_reducible refine(uV.out m).mono ?_);rintro e w1⟨rfl,hw1,hb1,hk1⟩;have HW1:=ah hw1;have HB1:=ah hb1;have HK1:=ah (pW (aH.refl W p none) m |>.trans hk1 (.inl rfl));clear hw1 hb1 hk1)|(go_at_call 201;(with_reducible refine(rQ w0 _ p P a1 vb vl _ HV.out.1 HV.out.2 HPo.out (by have:=HA1.out;omega) HW1.out HB1.out).mono ?_);rintro e w2⟨⟨v,rfl,ho⟩,hw2,hb2,hk2⟩;obtain⟨A2,n2,c2,rfl⟩:=fQ ho;have HO2:=ah ho;have HW2:=ah hw2;have HB2:=ah hb2;have HK2:=ah (HK1.out.trans hk2 (.inl rfl));clear ho hw2 hb2 hk2))
   go_ret
   rw[AY (by rw[hse];omega) (by omega) (by omega)];exact⟨⟨_,_,_,rfl,(jA HO2.out).1,(jA HO2.out).2⟩,HW2.out,HB2.out,HK2.out⟩
 have d1:decide (r<32)=false:=bY h32;have HV:=ah hv;have HN:=ah (And.intro hs h32)
 by_cases hch:ch=3
 ·subst hch
  clear hpr
  by_cases hbig:r<65536
  ·have d2:decide (65536<=r)=false:=bY (by omega)
   clear hv hs h32;go_enter Tryz.func172,Tryz.ntmps172
   go_wp2_with (first|(go_at_call 199;(with_reducible refine HRn.out.mono ?_);rintro e w1⟨rfl,m,rfl⟩)|(go_at_call 200;(with_reducible refine(kU _ _).mono ?_);rw[hse];rintro e w1⟨rfl,rfl⟩)|(go_at_call 43;(with_reducible refine(uV.out m).mono ?_);rintro e w1⟨rfl,hw1,hb1,hk1⟩;have HW1:=ah hw1;have HB1:=ah hb1;have HK1:=ah (pW (aH.refl W p none) m |>.trans hk1 (.inl rfl));clear hw1 hb1 hk1)|(go_at_call 201;(with_reducible refine(rQ w0 _ p P a1 vb vl _ HV.out.1 HV.out.2 HPo.out (by have:=HA1.out;omega) HW1.out HB1.out).mono ?_);rintro e w2⟨⟨v,rfl,ho⟩,hw2,hb2,hk2⟩;obtain⟨A2,n2,c2,rfl⟩:=fQ ho;have HO2:=ah ho;have HW2:=ah hw2;have HB2:=ah hb2;have HK2:=ah (HK1.out.trans hk2 (.inl rfl));clear ho hw2 hb2 hk2))
   go_ret
   rw[AY (by rw[hse];omega) (by omega) (by omega)];exact⟨⟨_,_,_,rfl,(jA HO2.out).1,(jA HO2.out).2⟩,HW2.out,HB2.out,HK2.out⟩
  ·exact Ei w0 W p P vb vl A n c l r a1 HRn.out uV.out HPo.out HA1.out hs hv hbig
 ·have c1:decide (ch<3)=true:=bZ (by omega)
  clear hv hs h32;go_enter Tryz.func172,Tryz.ntmps172
  go_wp2_with (first|(go_at_call 199;(with_reducible refine HRn.out.mono ?_);rintro e w1⟨rfl,m,rfl⟩)|(go_at_call 200;(with_reducible refine(kU _ _).mono ?_);rw[hse];rintro e w1⟨rfl,rfl⟩)|(go_at_call 43;(with_reducible refine(uV.out m).mono ?_);rintro e w1⟨rfl,hw1,hb1,hk1⟩;have HW1:=ah hw1;have HB1:=ah hb1;have HK1:=ah (pW (aH.refl W p none) m |>.trans hk1 (.inl rfl));clear hw1 hb1 hk1))
  go_ret
  rw[Gy (by rw[hse];omega) (by have:=HN.out;omega)];exact⟨⟨_,_,_,rfl,HR.out _ HK1.out,hc⟩,HW1.out,HB1.out,HK1.out⟩
theorem Yr.to{W W1:World}{p:Nat}{A:Option Addr}{n:Nat}{l:List Int}(h:Yr W p A n l)(hk:aH W W1 p none):RdB W1 A n l:=h W1 hk
def LQ(W:World)(k:Nat)(A:Option Addr)(n:Nat)(l:List Int):Prop:=∀W',W'.heap[k]? =W.heap[k]? ->RdB W' A n l
section
variable{W W1:World}{k p:Nat}{A A':Option Addr}{n n':Nat}{l l':List Int}
theorem LQ.now(h:LQ W k A n l):RdB W A n l:=h W rfl
theorem LQ.move(h:LQ W k A n l)(e:W1.heap[k]? =W.heap[k]?):LQ W1 k A n l:=fun W' h'=>h W' (h'.trans e)
theorem LQ.map(h:LQ W k A n l)(f:∀W',RdB W' A n l->RdB W' A' n' l'):LQ W k A' n' l':=fun W' h'=>f W' (h W' h')
theorem LQ.toS(h:LQ W k A n l)(hk:k<W.heap.size)(hp:k≠p):Yr W p A n l:=fun W' h'=>h W' (h'.2 k hk hp (by simp))
theorem LQ.of{ad:Addr}(h:RdB W (some ad) n l):LQ W ad.block (some ad) n l:=by
 intro W' hk;obtain⟨h1,h2,h3⟩:=h;refine⟨h1,h2,fun hn=>?_⟩;obtain⟨ad',e,hc⟩:=h3 hn;cases e;refine⟨ad,rfl,fun j x hj=>?_⟩;obtain⟨cs,hl,hK,hcs⟩:=hc j x hj;refine⟨cs,hl,hK,fun i u hu=>?_⟩;have hq:=hcs i u hu;have hb:∀q,(ad.add q).block=ad.block:=fun q=>by unfold Addr.add;split<;>rfl
 exact(World.cell?_of_block (w:=W) (w':=W') (by rw[hb];exact hk)).trans hq
end
theorem wu{W:World}(base:Nat){ops:Array Oper}{rest:List Oper}{o:Oper}{a:Act}{Q:Exit->Act->World->Prop}(hgd:o.guard=none)(s x:Operand)
 (ho:o.op= .call {callee:=.builtin .append,args:=#[s,x],argTypes:=#[27,27]}) {v:Value} {xs:List Int} (A:Option Addr) (m c:Nat) (ys:List Int) (hs:a.eval s=v) (hx:a.eval x= .slice A m c)
 (HO:OwnB W base v xs) (HR:RdB W A m ys) (hb:base<=W.heap.size) (hl:xs.length+m<=140737488355328)
 (h:∀v1 w1,OwnB w1 base v1 (xs++ys)->W.grownBy w1 v.ownBlock->(v1.ownBlock=v.ownBlock∨∃b,v1.ownBlock=some b/\W.heap.size<=b)->wpList Tryz.prog ops Q rest (a.put o.dst v1) w1):
 wpList Tryz.prog ops Q (o::rest) a W:=
 Kd.wO (Kd.int .u8) (Rr:=(Kd.int .u8).K W) (w0:=W) base hgd s x 27 5 (.int .u8 0) 1 ho Tryz.underlying27 uS rfl (by decide) (by omega) v xs ys A m c (fun _=>True) (fun _=>False) hs hx HO HR (fun _ _ h=>h) (fun _ hk=>hk.elim) (fun _ _=>trivial) (bg _ _) hb (by omega)
  fun v1 w1 ho _ hg hat=>h v1 w1 ho hg hat
theorem qg(W:World)(s:ByteArray)(hs:s.size<=9223372036854775807):RdB (Lib.bytesWorld W 5 s) (some ⟨W.heap.size,0,none⟩) s.size (bytesOf s):=Kd.wX (enc:=fun x=>Value.int .u8 x) (d:=0) (IG W 5 s hs)
theorem mW(s:ByteArray)(W:World):(convert 9 27 (.string s)).run Tryz.prog W= .ok (.slice (some ⟨W.heap.size,0,none⟩) s.size (grownCap W s.size 0 5)) (Lib.bytesWorld W 5 s):=IE (P:=Tryz.prog) 9 27 5 Tryz.underlying9 Tryz.underlying27 Tryz.underlying5 s W
theorem gV(s:ByteArray):∀x∈bytesOf s,0<=x/\x<=255:=by
 intro x hx;unfold bytesOf at hx;obtain⟨b,_,rfl⟩:=List.mem_map.1 hx;have:=b.toNat_lt;omega
def iY(P:List Int)(a:Nat)(l:List Int):List Int×Nat:=
 if h:l=[]then([],a)else if h2:aZ l=0 then([],a)else
  ((jU P a (l.take (aZ l))).1++(iY P (jU P a (l.take (aZ l))).2 (l.drop (aZ l))).1,(iY P (jU P a (l.take (aZ l))).2 (l.drop (aZ l))).2)
termination_by l.length
decreasing_by all_goals have:0<l.length:=List.length_pos_iff.2 h;simp;omega
theorem lF(P:List Int)(a:Nat):iY P a []=([],a):=by rw[iY,dif_pos rfl]
theorem qJ(P:List Int)(a:Nat){l:List Int}(h:l≠[])(h2:¬aZ l=0):iY P a l=
 ((jU P a (l.take (aZ l))).1++(iY P (jU P a (l.take (aZ l))).2 (l.drop (aZ l))).1,(iY P (jU P a (l.take (aZ l))).2 (l.drop (aZ l))).2):=by
 conv=>lhs;rw[iY,dif_neg h,dif_neg h2]
def dO(P:List Int)(a:Nat)(l:List Int):List Int×Nat:=(34::(iY P a l).1++[34],(iY P a l).2)
theorem Yt(c:Int)(h:0<=c)(l:List Int):0<=jy c l:=by
 induction l generalizing c with
 |nil=>exact h
 |cons x l ih=>exact ih (c*64+x%64) (by omega)
theorem uX{b:Int}(h:¬b<128)(h0:¬dw b=0):dw b=2/\(192<=b/\b<224)/\lQ b=b%32∨dw b=3/\(224<=b/\b<240)/\lQ b=b%16∨dw b=4/\(240<=b/\b<248)/\lQ b=b%8:=by
 unfold dw at h0 ⊢;unfold lQ;rw[if_neg h]at h0 ⊢
 by_cases h1:192<=b/\b<224
 ·rw[if_pos h1,if_pos h1];exact .inl ⟨rfl,h1,rfl⟩
 ·rw[if_neg h1]at h0 ⊢
  rw[if_neg h1]
  by_cases h2:224<=b/\b<240
  ·rw[if_pos h2,if_pos h2];exact .inr (.inl ⟨rfl,h2,rfl⟩)
  ·rw[if_neg h2]at h0 ⊢
   rw[if_neg h2]
   by_cases h3:240<=b/\b<248
   ·rw[if_pos h3];exact .inr (.inr ⟨rfl,h3,rfl⟩)
   ·rw[if_neg h3]at h0;exact absurd rfl h0
theorem Ut{P:List Int}{a:Nat}{l:List Int}{c ch:Int}:a<=(mG P a l c ch).2/\(mG P a l c ch).2<=a+8:=by
 have h1:=vX P a 4;have h2:=vX P (iy P a) 4;have e1:jH P a 4=iy P a:=rfl;have e2:jH P (iy P a) 4=iy P (iy P a):=rfl
 have g:∀b,b<=iy P b:=fun b=>by
  have:=dX P b;have:=dX P (dB P b);have:=dX P (dB P (dB P b));have:=dX P (dB P (dB P (dB P b)));unfold iy;omega
 have g1:=g a;have g2:=g (iy P a);unfold mG
 split
 ·exact⟨Nat.le_refl _,by simp⟩
 ·split
  ·exact⟨Nat.le_refl _,by simp⟩
  ·split<;>constructor<;>simp only<;>omega
theorem QO{P:List Int}{a:Nat}{l:List Int}{c ch:Int}(h:l.length<=4):(mG P a l c ch).1.length<=12:=by
 unfold mG
 split
 ·simp
 ·split
  ·simp only;omega
  ·split<;>simp[kM]
theorem Jj{P:List Int}{a:Nat}{l:List Int}:a<=(jU P a l).2/\(jU P a l).2<=a+9:=by
 have:=dX P a;have h:=Ut (P:=P) (a:=dB P a) (l:=l) (c:=cO l) (ch:=dK P a 4);unfold jU;omega
theorem MP{l:List Int}(hb:∀x∈l,0<=x/\x<=255)(hp:l≠[])(h:¬aZ l=0):0<=cO (l.take (aZ l))/\cO (l.take (aZ l))<1114112:=by
 obtain⟨b,t,rfl⟩:=List.exists_cons_of_ne_nil hp;have hb0:=hb b (by simp);have hL:=CO (b::t) hp;unfold aZ at h hL ⊢;rw[show(b::t).getD 0 0=b from rfl]at h hL ⊢
 by_cases h1:b<128
 ·rw[if_pos h1]
  simp[cO];omega
 ·rw[if_neg h1]at h hL ⊢
  by_cases h2:dw b=0
  ·rw[if_pos h2]at h;exact absurd rfl h
  ·rw[if_neg h2]at h hL ⊢
   by_cases h3:(b::t).length<dw b
   ·rw[if_pos h3]at h;exact absurd rfl h
   ·rw[if_neg h3]at h hL ⊢
    split at h
    ·rename_i hc
     rw[if_pos hc];simp only[Bool.and_eq_true,fE,decide_eq_true_eq]at hc;have hm:=hc.2.1.1;have hge:=Yt (lQ b) (by unfold lQ;split<;>(try split)<;>omega) (dW (b::t) (dw b))
     have he:cO ((b::t).take (dw b))=jy (lQ b) (dW (b::t) (dw b)):=by
      rcases uX h1 h2 with⟨hN,_,hC⟩|⟨hN,_,hC⟩|⟨hN,_,hC⟩
      ·rw[hN]at h3 ⊢
       rw[hC]
       match t,h3 with
       |[],h3=>simp at h3
       |y::t,_=>rfl
      ·rw[hN]at h3 ⊢
       rw[hC]
       match t,h3 with
       |[],h3=>simp at h3
       |[y],h3=>simp at h3
       |y::z::t,_=>
        show b%16*4096+y%64*64+z%64=(b%16*64+y%64)*64+z%64;omega
      ·rw[hN]at h3 ⊢
       rw[hC]
       match t,h3 with
       |[],h3=>simp at h3
       |[y],h3=>simp at h3
       |[y,z],h3=>simp at h3
       |y::z::u::t,_=>
        show b%8*262144+y%64*4096+z%64*64+u%64=((b%8*64+y%64)*64+z%64)*64+u%64;omega
     omega
    ·exact absurd rfl h
theorem Uu(w0 W:World)(p:Nat)(P:List Int)(a:Nat)(vb vl:Value)(s:ByteArray)(hs:s.size<=10000000000000)(hv:dh (bytesOf s)=true)(hP:Us P)(ha:a+9*s.size<=281474976710000)(hw:JW w0 W p P a vb vl)(hB:Below w0.heap.size w0 W):
 Calls Tryz.prog 136 #[.pointer (some ⟨p,0,none⟩),.string s] W fun e w'=>e= .returned (.string (str (dO P a (bytesOf s)).1))/\JW w0 w' p P (dO P a (bytesOf s)).2 vb vl/\Below w0.heap.size w0 w'/\aH W w' p none:=by
 have HP:=ah hP;have HW:=ah hw;have HB:=ah hB;have HA:=ah ha;have HS:=ah hs;have HV:=ah hv;have hconv:=fun W=>mW s W
 clear hP hw hB ha hs hv;go_enter Tryz.func136,Tryz.ntmps136;go_wp2;have hCp:=ah (grownCap_ge (W.alloc (.cells #[.int .u8 34] 5)) s.size 0 5);obtain⟨cp,hcp⟩:∃cp,cp=grownCap (W.alloc (.cells #[.int .u8 34] 5)) s.size 0 5:=⟨_,rfl⟩
 rw[<-hcp]at hCp ⊢;clear hcp hconv;have hb1:Below W.heap.size W (Lib.bytesWorld (W.alloc (.cells #[.int .u8 34] 5)) 5 s):=(ak (bg _ _) _).trans (je (bg _ _) (by simp) _ _);have HB1:=ah hb1;have hsz:=HS.out
 go_loopg [5,6] s.size (fun g v5 v6 w'=>∃(L out:List Int)(a1 m cb:Nat)(Ab:Option Addr),v6= .slice Ab m cb/\m<=g/\m<=cb/\m<=s.size/\aC (LQ w' (W.heap.size+1) Ab m L/\v5.ownBlock≠some (W.heap.size+1)/\W.heap.size+1<w'.heap.size)/\aC (OwnB w' W.heap.size v5 (34::out))/\aC (iY P a (bytesOf s)=(out++(iY P a1 L).1,(iY P a1 L).2))/\aC (dh L=true/\(∀x∈L,0<=x/\x<=255)/\a1+9*m<=281474976710000/\out.length+12*m<=12*s.size)/\aC (JW w0 w' p P a1 vb vl)/\aC (Below w0.heap.size w0 w')/\aC (aH W w' p none))
 case atStart=>
  refine⟨bytesOf s,[],a,s.size,cp,_,rfl,Nat.le_refl _,hCp.out,Nat.le_refl _,⟨?_⟩,⟨?_⟩,⟨by simp⟩,⟨HV.out,gV s,HA.out,by simp⟩,⟨HW.out.below HB1.out⟩,⟨au HB.out HB1.out⟩,⟨aH.of_below HB1.out _ _⟩⟩
  ·have h:=qg (W.alloc (.cells #[.int .u8 34] 5)) s (by omega)
   have hz:(W.alloc (.cells #[.int .u8 34] 5)).heap.size=W.heap.size+1:=by simp
   rw[hz]at h;exact⟨LQ.of h,by simp[Value.ownBlock],by rw[Lib.bytesWorld_size];simp⟩
  ·exact Kd.dY (mF W W.heap.size [34] (Nat.le_refl _) (by simp)) (je (bg _ _) (Nat.le_refl _) _ _)
 case round=>
  obtain⟨L,out,a1,m,cb,Ab,rfl,hmg,hmc,hms,HR,HO,HQ,HI,HWk,QM,MO⟩:=hrel;have hL:=Kd.dG HR.out.1.now
  by_cases hm:m=0
  ·subst hm
   have HE:=ah (show(iY P a (bytesOf s))=(out,a1)by rw[HQ.out,List.eq_nil_of_length_eq_zero hL,lF];simp);have HLn:=ah (show(34::out).length+1<=140737488355328 by have:=HI.out.2.2.2;simp;omega);clear hL
   go_wp2_with (at_builtin;refine gG W.heap.size rfl (.tmp 26) (.tmp 27) rfl 34 rfl rfl ?aO ?aB HLn.out ?_;(case aO=>exact HO.out);(case aB=>exact MO.out.1);intro v1 w2 ho hg2;have hst:=kY ho;have HO2:=ah ho;have HG2:=ah hg2;clear ho hg2)
   go_ret
   rw[show dO P a (bytesOf s)=(34::out++[34],a1)by rw[dO,HE.out]];exact⟨rfl,HWk.out.grown HG2.out (HWk.out.MI HO.out),lS QM.out HG2.out HB.out.size (jG HO.out),nN MO.out HG2.out (jG HO.out)⟩
  ·have hne:L≠[]:=by rintro rfl;simp at hL;omega
   have hI:=HI.out;have hz:¬aZ L=0:=fun h=>by rw[yV hne h]at hI;exact absurd hI.1 (by simp)
   have hv2:dh (L.drop (aZ L))=true:=by rw[<-uU hne hz];exact hI.1
   have hsl:=CO L hne;have hrn:=MP hI.2.1 hne hz;have hat:=Jj (P:=P) (a:=a1) (l:=L.take (aZ L));have hcl:=QO (P:=P) (a:=dB P a1) (l:=L.take (aZ L)) (c:=cO (L.take (aZ L))) (ch:=dK P a1 4) (by rw[List.length_take];omega);have HX:=ah (CJ Ab cb m L wr HR.out.1.now hI.2.1 (by omega) (by omega));have HQ2:=HQ.out;rw[qJ P a1 hne hz]at HQ2;obtain⟨z,hzz⟩:∃z,z=aZ L:=⟨_,rfl⟩
   rw[<-hzz]at HX hz hv2 hsl hrn hat HQ2 hcl;obtain⟨htk,hRt⟩:=jZ Ab m cb z (by omega) hmc;obtain⟨A',hdr,hRd⟩:=jF Ab m cb z (by omega) hmc;have HRt:=ah (fun W'=>hRt W' L);have DX:=ah (fun W'=>hRd W' L);have HN:=ah (show 1<=z/\z<=4/\z<=m by omega);have Yu:=ah (And.intro hrn hI);have HAt:=ah (And.intro hat hcl);have HVd:=ah hv2;have HQ3:=ah HQ2;clear hI hrn hat hcl hv2 HQ2 hRt hRd hsl hzz hz hne hL;have z0:(0:Int)<(m:Int):=by omega
   go_wp2_with (first|(go_at_call 171;(with_reducible refine HX.out.mono ?_);rintro e w1⟨rfl,hb⟩;have wH:=ah hb;have HW1:=ah (HWk.out.below hb);have HB1:=ah (au QM.out hb);have HR1:=ah (show LQ w1 (W.heap.size+1) Ab m L/\W.heap.size+1<w1.heap.size from⟨HR.out.1.move (hb.block _ HR.out.2.2),Nat.lt_of_lt_of_le HR.out.2.2 hb.size⟩);have HO1:=ah (Kd.dY HO.out hb);have HK1:=ah (MO.out.trans (aH.of_below hb p none) (.inl rfl));clear hb)|(go_at_call 172;(with_reducible refine(Ji w0 _ p P a1 vb vl Ab z cb (L.take z) ((HR1.out.1.map HRt.out).toS HR1.out.2 (Nat.ne_of_gt (Nat.lt_succ_of_lt HW.out.lt))) (fun x hx=>Yu.out.2.2.1 x (List.mem_of_mem_take hx)) HN.out.1 HN.out.2.1 (Nat.le_trans HN.out.2.2 hmc) Yu.out.1 HP.out (by have:=Yu.out.2.2.2.1;omega) HW1.out HB1.out).mono ?_);rintro e w2⟨⟨A3,n3,c3,rfl,hr3,hc3⟩,hw2,hb2,hk2⟩;have HR3:=ah hr3;have HW2:=ah hw2;have HB2:=ah hb2;have HK2:=ah (HK1.out.trans hk2 (.inl rfl));have HO2:=ah (jL HO1.out HW1.out hk2);have HR2:=ah (show LQ w2 (W.heap.size+1) Ab m L/\W.heap.size+1<w2.heap.size from⟨HR1.out.1.move (hk2.2 _ HR1.out.2 (Nat.ne_of_gt (Nat.lt_succ_of_lt HW.out.lt)) (by simp)),Nat.lt_of_lt_of_le HR1.out.2 hk2.1⟩);clear hr3 hw2 hb2 hk2 hc3)|(at_builtin;refine wu W.heap.size rfl (.tmp 16) (.tmp 21) rfl A3 n3 c3 (jU P a1 (L.take z)).1 rfl rfl HO2.out HR3.out HK2.out.1 (by have e:=Kd.dG HR3.out;have:=HAt.out.2;have h2:=Yu.out.2.2.2.2;have h3:(jU P a1 (L.take z)).1.length<=12:=this;simp only[List.length_cons];omega) ?_;intro v5 w5 ho hg hat;have HT5:=ah hat;clear hat;obtain⟨A5,n5,c5,rfl⟩:=fQ ho;have HO5:=ah ho;have HG5:=ah hg;clear ho hg))
   obtain⟨g',rfl⟩:∃g',gk=g'+1:=⟨gk-1,by have:=HN.out;omega⟩
   go_roundg g'
   case measure=>omega
   case rel=>
    have hk5:=nN HK2.out HG5.out (jG HO2.out);have hN:=HN.out;have hAr:=Yu.out;have hAt:((jU P a1 (L.take z)).2<=a1+9)/\(jU P a1 (L.take z)).1.length<=12:=⟨HAt.out.1.2,HAt.out.2⟩;refine⟨L.drop z,out++(jU P a1 (L.take z)).1,(jU P a1 (L.take z)).2,m-z,cb-z,A',rfl,by omega,by omega,by omega,⟨(HR2.out.1.move (HG5.out.block _ HR2.out.2 (fun e=>HR.out.2.1 e.symm))).map DX.out,?_,Nat.lt_of_lt_of_le HR2.out.2 HG5.out.size⟩,⟨by rw[<-List.cons_append];exact HO5.out⟩,⟨by rw[HQ3.out];simp[List.append_assoc]⟩,⟨HVd.out,fun x hx=>hAr.2.2.1 x (List.mem_of_mem_drop hx),by omega,by rw[List.length_append];omega⟩,⟨HW2.out.grown HG5.out (HW2.out.MI HO2.out)⟩,⟨lS HB2.out HG5.out HB.out.size (jG HO2.out)⟩,⟨hk5⟩⟩;rcases HT5.out with h|⟨b,h,hb⟩
    ·rw[h];exact HR.out.2.1
    ·rw[h]
     have:=HR2.out.2;simp only[ne_eq,Option.some.injEq];omega
end Go.Proofs.YtapkmjfjikpnlaaGreatDoor
