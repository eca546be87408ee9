/- A part of FnMsgJsonMeans. No conditions. -/
import Derived.Test.YtapkmjfjikpnlaaGreatDoorM11
set_option maxHeartbeats 1000000
namespace Go.Proofs.YtapkmjfjikpnlaaGreatDoor
open Go.RowKit YtapkmjfjikpnlaaGreatDoorW.aG YtapkmjfjikpnlaaGreatDoorW.aJ FP
set_option linter.unusedVariables false
set_option linter.unusedSimpArgs false
structure EX(f n:Nat)(cur:List Int)(P:Int)(L:Nat):Prop where
 ne:cur≠[]
 dg:jT cur
 hd:cur.head? ≠some 48
 len:cur.length<=L
 pos:0<bC cur
 lo: -1100<=P
 hi:P<=1100
 near:mJ f n (bC cur) (P-cur.length)
theorem EX.of{f n:Nat}{ds:List Int}{P:Int}(h:CU f n ds P)(hn:n<=20):EX f n ds P 21:=by
 obtain⟨h1,h2,h3,h4,h5,h6⟩:=h;have h0:0<10^n:=Nat.pow_pos (by omega);refine⟨fun e=>by rw[e]at h1;simp at h1,h2,?_,by omega,by omega,h4,h5,by rw[h1];exact h6⟩;cases ds with
 |nil=>simp
 |cons d l=>
  have hl:l.length=n:=by simpa using h1
  have:=Ep h2 (by rw[hl];exact h3)
  simpa using this
theorem EX.trim{f n:Nat}{c:List Int}{P:Int}{L:Nat}(h:EX f n (c++[48]) P L)(hc:c≠[])(hL:L<=100):EX f n c P L:=by
 obtain⟨h1,h2,h3,h4,h5,h6,h7,h8⟩:=h;rw[List.length_append,List.length_singleton]at h4 h8;have e:bC (c++[48])=bC c*10^1:=by rw[iK];show bC c*10+0=_;omega
 refine⟨hc,fun d hd=>h2 d (List.mem_append_left _ hd),?_,by omega,by omega,h6,h7,h8.same (E:=bC c) (i:=1) (j:=0) e (by omega) (by omega) (by omega) (by omega)⟩;cases c with
 |nil=>exact absurd rfl hc
 |cons d l=>simpa using h3
theorem EX.pad{f n:Nat}{c:List Int}{P:Int}{L:Nat}(h:EX f n c P L)(hL:c.length<L)(hL2:L<=100):EX f n (c++[48]) P L:=by
 obtain⟨h1,h2,h3,h4,h5,h6,h7,h8⟩:=h;have e:bC (c++[48])=bC c*10^1:=by rw[iK];show bC c*10+0=_;omega
 refine⟨by simp,h2.snoc (by omega) (by omega),?_,by rw[List.length_append,List.length_singleton];omega,by omega,h6,h7,h8.same (E:=bC c) (i:=0) (j:=1) (by omega) e (by rw[List.length_append,List.length_singleton];omega) (by omega) (by rw[List.length_append,List.length_singleton];omega)⟩;cases c with
 |nil=>exact absurd rfl h1
 |cons d l=>simpa using h3
theorem EX.mono{f n:Nat}{c:List Int}{P:Int}{L L':Nat}(h:EX f n c P L)(hL:L<=L'):EX f n c P L':=⟨h.ne,h.dg,h.hd,Nat.le_trans h.len hL,h.pos,h.lo,h.hi,h.near⟩
def CX(f:Nat):List Int:=if 9223372036854775808<=f then[45]else[]
theorem zU{x:NT}{f:Nat}(h:x.neg=decide (9223372036854775808<=f)):x.wJ=CX f:=by
 unfold NT.wJ CX;rw[h]
 by_cases hf:9223372036854775808<=f<;>simp[hf]
theorem JA{f n:Nat}{c:List Int}{P:Int}(hf:0<f%9223372036854775808)(h:EX (f%9223372036854775808) n c P 25)(hP:(c.length:Int)=P)(z:Bool):∃x,vw f n x/\CX f++c++(if z then[46,48]else[])=x.bytes:=by
 have hne:=h.ne;have h8:=h.near;have hlen:=h.len;cases z with
 |false=>
  refine⟨⟨decide (9223372036854775808<=f),c,[],none⟩,⟨⟨hne,h.dg,fun e=>absurd e h.hd,fun d hd=>absurd hd List.not_mem_nil,fun E sg ds e=>by cases e⟩,rfl,by simp[NT.dg];omega,by simp[NT.pw,NT.exV],by simp[NT.pw,NT.exV],.inr ⟨hf,?_,?_⟩⟩,?_⟩
  ·simpa [NT.dg]using h.pos
  ·have e:NT.pw ⟨decide (9223372036854775808<=f),c,[],none⟩=P-c.length:=by simp[NT.pw,NT.exV];omega
   rw[e];simpa [NT.dg]using h8
  ·rw[NT.bytes,zU rfl];simp[NT.kJ,NT.iV]
 |true=>
  have e10:bC (c++[48])=bC c*10^1:=by rw[iK];show bC c*10+0=_;omega
  refine⟨⟨decide (9223372036854775808<=f),c,[48],none⟩,⟨⟨hne,h.dg,fun e=>absurd e h.hd,fun d hd=>by rw[List.mem_singleton.1 hd];omega,fun E sg ds e=>by cases e⟩,rfl,by simp[NT.dg];omega,by simp[NT.pw,NT.exV],by simp[NT.pw,NT.exV],.inr ⟨hf,?_,?_⟩⟩,?_⟩
  ·show 0<bC (c++[48]);have:=h.pos;omega
  ·have e:NT.pw ⟨decide (9223372036854775808<=f),c,[48],none⟩= -1:=by simp[NT.pw,NT.exV]
   rw[e];exact h8.same (E:=bC c) (i:=0) (j:=1) (by omega) e10 (by omega) (by omega) (by omega)
  ·rw[NT.bytes,zU rfl];simp[NT.kJ,NT.iV]
theorem UR{f n:Nat}{c:List Int}{P:Int}(hf:0<f%9223372036854775808)(h:EX (f%9223372036854775808) n c P 25)(h0:0<P)(hP:P<(c.length:Int)):∃x,vw f n x/\CX f++c.take P.toNat++[46]++c.drop P.toNat=x.bytes:=by
 have h8:=h.near;have hlen:=h.len;obtain⟨k,rfl⟩:=Int.eq_ofNat_of_zero_le (Int.le_of_lt h0);rw[Int.toNat_natCast];have hk:k<c.length:=by omega
 have hk0:0<k:=by omega
 have hdl:(c.drop k).length=c.length-k:=List.length_drop;have agN:c.drop k≠[]:=fun e=>by rw[e]at hdl;simp at hdl;omega
 refine⟨⟨decide (9223372036854775808<=f),c.take k,c.drop k,none⟩,⟨⟨?_,h.dg.take k,?_,h.dg.drop k,fun E sg ds e=>by cases e⟩,rfl,by simp[NT.dg];omega,by simp only[NT.pw,NT.exV,hdl];omega,by simp only[NT.pw,NT.exV,hdl];omega,.inr ⟨hf,?_,?_⟩⟩,?_⟩
 ·intro e
  have:(c.take k).length=k:=by rw[List.length_take];omega
  rw[show c.take k=[]from e]at this;simp at this;omega
 ·intro e
  exfalso
  apply h.hd
  have:=List.head?_take (l:=c) (i:=k);rw[if_neg (by omega)]at this;rw[<-this];exact e
 ·simpa [NT.dg]using h.pos
 ·have e:NT.pw ⟨decide (9223372036854775808<=f),c.take k,c.drop k,none⟩=(Int.ofNat k)-c.length:=by simp only[NT.pw,NT.exV,hdl];simp;omega
  rw[e];simpa [NT.dg]using h8
 ·rw[NT.bytes,zU rfl];simp[NT.kJ,NT.iV,agN]
theorem UU{f n:Nat}{c:List Int}{P:Int}(hf:0<f%9223372036854775808)(h:EX (f%9223372036854775808) n c P 25)(h0:P<=0)(hP: -8<P):∃x,vw f n x/\CX f++[48,46]++List.replicate (-P).toNat 48++c=x.bytes:=by
 have h8:=h.near;have hlen:=h.len;obtain⟨k,hk⟩:∃k,k=(-P).toNat:=⟨_,rfl⟩
 rw[<-hk];have hne:List.replicate k 48++c≠[]:=by simp[h.ne]
 have hnum:bC (48::(List.replicate k 48++c))=bC c:=by
  rw[iZ,nP,xw];show 0*_+(0*_+_)=_;rw[Nat.zero_mul,Nat.zero_mul,Nat.zero_add,Nat.zero_add]
 refine⟨⟨decide (9223372036854775808<=f),[48],List.replicate k 48++c,none⟩,⟨⟨by simp,fun d hd=>by rw[List.mem_singleton.1 hd];omega,fun _=>rfl,(jT.zeros k).append h.dg,fun E sg ds e=>by cases e⟩,rfl,by simp[NT.dg];omega,by simp[NT.pw,NT.exV];omega,by simp[NT.pw,NT.exV];omega,.inr ⟨hf,?_,?_⟩⟩,?_⟩
 ·show 0<bC (48::(List.replicate k 48++c));rw[hnum];exact h.pos
 ·have e:NT.pw ⟨decide (9223372036854775808<=f),[48],List.replicate k 48++c,none⟩=P-c.length:=by simp[NT.pw,NT.exV];omega
  rw[e];show mJ _ n (bC (48::(List.replicate k 48++c))) _;rw[hnum];exact h8
 ·rw[NT.bytes,zU rfl];simp[NT.kJ,NT.iV,h.ne]
theorem UW{f n:Nat}{d:Int}{c:List Int}{P:Int}(hf:0<f%9223372036854775808)(h:EX (f%9223372036854775808) n (d::c) P 25)(E:Int)(hE:E=101∨E=69)(sg:List Int)(hsg:(0<=P-1/\(sg=[]∨sg=[43]))∨(P-1<0/\sg=[])):
 ∃x,vw f n x/\CX f++[d]++(if c=[]then[]else 46::c)++[E]++sg++bG (P-1)=x.bytes:=by
 have h8:=h.near;have hlen:=h.len;have hlo:=h.lo;have hhi:=h.hi;rw[List.length_cons]at h8 hlen
 obtain⟨YM,ds,hds,agO,hv,hd4⟩:∃YM ds,sg++bG (P-1)=YM++ds/\(YM=[]∨YM=[43]∨YM=[45])/\((if YM=[45]then -(bC ds:Int)else(bC ds:Int))=P-1/\ds≠[]/\jT ds)/\ds.length<=4:=by
  rcases hsg with⟨h0,hs⟩|⟨h0,rfl⟩
  ·refine⟨sg,fB (P-1).toNat,by rw[bG,if_pos h0],by rcases hs with rfl|rfl<;>simp,⟨?_,nD _,iT _⟩,rP 3 _ (by omega)⟩
   rw[kP,if_neg (by rcases hs with rfl|rfl<;>decide)];omega
  ·refine⟨[45],fB (-(P-1)).toNat,by rw[bG,if_neg (by omega)];rfl,by simp,⟨?_,nD _,iT _⟩,rP 3 _ (by omega)⟩
   rw[kP,if_pos rfl];omega
 have hd48:d≠48:=by have:=h.hd;simpa using this
 have hpw:NT.pw ⟨decide (9223372036854775808<=f),[d],c,some (E,YM,ds)⟩=P-(c.length+1:Nat):=by
  show(if YM=[45]then -(bC ds:Int)else(bC ds:Int))-(c.length:Int)=_;rw[hv.1];omega
 refine⟨⟨decide (9223372036854775808<=f),[d],c,some (E,YM,ds)⟩,⟨⟨by simp,fun x hx=>by rw[List.mem_singleton.1 hx];exact h.dg d List.mem_cons_self,fun e=>by simp at e;exact absurd e hd48,fun x hx=>h.dg x (List.mem_cons_of_mem _ hx),?_⟩,rfl,by simp[NT.dg];omega,by rw[hpw];omega,by rw[hpw];omega,.inr ⟨hf,h.pos,?_⟩⟩,?_⟩
 ·intro E' sg2 ds2 e
  cases e;exact⟨hE,agO,hv.2.1,hv.2.2,hd4,fun e=>by simp at e;exact absurd e hd48⟩
 ·rw[hpw];exact h8
 ·rw[NT.bytes,zU rfl]
  simp only[NT.kJ,NT.iV,List.append_assoc];rw[<-hds];simp
theorem YN{f n:Nat}(hf:f%9223372036854775808=0)(z:List Int)(hz:z=[48]∨z=[48,46,48]∨z=[48,101,49]):∃x,vw f n x/\CX f++z=x.bytes:=by
 rcases hz with rfl|rfl|rfl
 ·refine⟨⟨decide (9223372036854775808<=f),[48],[],none⟩,⟨⟨by simp,fun x hx=>by rw[List.mem_singleton.1 hx];omega,fun _=>rfl,fun d hd=>absurd hd List.not_mem_nil,fun E sg ds e=>by cases e⟩,rfl,by simp[NT.dg],by simp[NT.pw,NT.exV],by simp[NT.pw,NT.exV],.inl ⟨hf,by simp[NT.dg];rfl⟩⟩,?_⟩
  rw[NT.bytes,zU rfl];simp[NT.kJ,NT.iV]
 ·refine⟨⟨decide (9223372036854775808<=f),[48],[48],none⟩,⟨⟨by simp,fun x hx=>by rw[List.mem_singleton.1 hx];omega,fun _=>rfl,fun x hx=>by rw[List.mem_singleton.1 hx];omega,fun E sg ds e=>by cases e⟩,rfl,by simp[NT.dg],by simp[NT.pw,NT.exV],by simp[NT.pw,NT.exV],.inl ⟨hf,by simp[NT.dg];rfl⟩⟩,?_⟩
  rw[NT.bytes,zU rfl];simp[NT.kJ,NT.iV]
 ·refine⟨⟨decide (9223372036854775808<=f),[48],[],some (101,[],[49])⟩,⟨⟨by simp,fun x hx=>by rw[List.mem_singleton.1 hx];omega,fun _=>rfl,fun d hd=>absurd hd List.not_mem_nil,?_⟩,rfl,by simp[NT.dg],by simp[NT.pw,NT.exV],by show((bC [49]:Nat):Int)-((0:Nat):Int)<=3000;decide,.inl ⟨hf,by simp[NT.dg];rfl⟩⟩,?_⟩
  ·intro E sg ds e
   cases e;exact⟨.inl rfl,.inl rfl,by simp,fun x hx=>by rw[List.mem_singleton.1 hx];omega,by simp,fun _ _=>by simp⟩
  rw[NT.bytes,zU rfl];simp[NT.kJ,NT.iV]
end Go.Proofs.YtapkmjfjikpnlaaGreatDoor
namespace Go.Proofs.YtapkmjfjikpnlaaGreatDoor
open Go.RowKit YtapkmjfjikpnlaaGreatDoorW.aG YtapkmjfjikpnlaaGreatDoorW.aJ
set_option linter.unusedVariables false
set_option linter.unusedSimpArgs false
def wP(nums:List Int)(n:Int):Nat->Nat->Option Nat
 |0,_=>none
 |g+1,i=>if nums.getD i 0=n then some i else wP nums n g (i+1)
def oP(e:ET)(n:Int):Option Nat:=wP e.nums n e.nums.length 0
def dM(e:ET)(n:Int):ByteArray×Bool:=match oP e n with|some i=>(e.names.getD i ⟨#[]⟩,true)|none=>(⟨#[]⟩,false)
theorem Nk(e:ET)(n:Int)(A0:Option Addr)(c0:Nat)(A1:Option Addr)(c1:Nat)(w:World)(hr0:Kd.C Kd.string w A0 e.names.length e.names)(hr1:Kd.C (Kd.int .i32) w A1 e.nums.length e.nums)(hl:e.names.length=e.nums.length)(hn:∀x∈e.nums,-2147483648<=x/\x<=2147483647):
 Calls Tryz.prog 97 #[.agg #[.slice A0 e.names.length c0,.slice A1 e.nums.length c1],.int .i64 n] w fun r w'=>r= .returned (.tuple #[.string (dM e n).1,.bool (dM e n).2])/\Below w.heap.size w w':=by
 have HR0:=ah hr0;have HR1:=ah hr1;have HN:=ah hn;have hmax:=Kd.ou hr1;have HL:=ah hl;clear hr0 hr1 hn hl;go_enter Tryz.func97,Tryz.ntmps97;go_wp2
 go_loopg [11] e.nums.length (fun g v11 w'=>∃i:Nat,v11= .int .i64 i/\i+g=e.nums.length/\aC (wP e.nums n g i=oP e n)/\w'=w.alloc (.cells #[.slice A0 e.names.length c0,.slice A1 e.nums.length c1] 97))
 case atStart=>exact⟨0,rfl,by omega,⟨rfl⟩,rfl⟩
 case round=>
  obtain⟨i,rfl,hg,HE,rfl⟩:=hrel
  by_cases hlt:i<e.nums.length
  ·obtain⟨x,hx⟩:=bF hlt
   obtain⟨nm,hnm⟩:=bF (show i<e.names.length by rw[HL.out];exact hlt);obtain⟨ad1,rfl,q1⟩:=iD (Kd.dP HR1.out (.cells #[.slice A0 e.names.length c0,.slice A1 e.nums.length c1] 97)) hx.out;obtain⟨ad0,rfl,q0⟩:=IV (Kd.dP HR0.out (.cells #[.slice A0 e.names.length c0,.slice (some ad1) e.nums.length c1] 97)) hnm.out;have hxr:=HN.out x (List.mem_of_getElem? hx.out);have w1:IntKind.i64.wrap x=x:=by rw[IntKind.wrap_i64];omega
   have w2:IntKind.i64.wrap ((i:Int)+1)=(i:Int)+1:=kL (by omega) (by omega);have i0:(0:Int)<=(i:Int):=by omega
   have i1:(i:Int)<(e.nums.length:Int):=by omega
   have i2:(i:Int)<(e.names.length:Int):=by rw[HL.out];exact i1
   obtain⟨g',rfl⟩:∃g',gk=g'+1:=⟨gk-1,by omega⟩
   have HE2:=ah (show(if x=n then some i else wP e.nums n g' (i+1))=oP e n by rw[<-HE.out];show _=(if e.nums.getD i 0=n then _ else _);rw[bT hx.out])
   by_cases hxn:x=n
   ·have HF:=ah (show dM e n=(nm,true)by rw[dM,show oP e n=some i by rw[<-HE2.out,if_pos hxn]];show(e.names.getD i ⟨#[]⟩,true)=_;rw[bT hnm.out])
    have d:(x==n)=true:=kZ hxn;clear hxn hxr;go_wp2
    go_ret2
    exact⟨by rw[HF.out];rfl,ak (bg _ _) _⟩
   ·have HE3:=ah (show wP e.nums n g' (i+1)=oP e n by rw[<-HE2.out,if_neg hxn])
    have d:(x==n)=false:=eqF hxn;clear hxn hxr;go_wp2
    go_roundg g'
    case measure=>omega
    case rel=>exact⟨i+1,by go_num,by omega,HE3,rfl⟩
  ·obtain rfl:i=e.nums.length:=by omega
   obtain rfl:gk=0:=by omega
   have HF:=ah (show dM e n=(⟨#[]⟩,false)by rw[dM,<-HE.out];rfl);go_wp2
   go_ret2
   exact⟨by rw[HF.out];rfl,ak (bg _ _) _⟩
def jC(f:Int):ByteArray:=if f=9218868437227405312 then⟨#[105,110,102]⟩else if f=18442240474082181120 then⟨#[45,105,110,102]⟩else if 9218868437227405312<f%9223372036854775808 then⟨#[110,97,110]⟩else⟨#[]⟩
theorem JB{f:Int}(h0:0<=f)(h1:f<18446744073709551616):bits .andNot .u64 f 9223372036854775808=f%9223372036854775808:=by
 obtain⟨n,rfl⟩:=Int.eq_ofNat_of_zero_le h0;have hn:n<18446744073709551616:=by omega
 have e:((BitVec.ofInt 64 (n:Int))&&& ~~~ (BitVec.ofInt 64 9223372036854775808)).toNat=n%9223372036854775808:=by
  rw[BitVec.toNat_and,BitVec.toNat_not,BitVec.ofInt_natCast,BitVec.toNat_ofNat,show(BitVec.ofInt 64 9223372036854775808).toNat=9223372036854775808 by decide,Nat.mod_eq_of_lt hn];exact Nat.and_two_pow_sub_one_eq_mod n 63
 show IntKind.u64.wrap ((((BitVec.ofInt 64 (n:Int))&&& ~~~ (BitVec.ofInt 64 9223372036854775808)).toNat:Nat):Int)=_;rw[e,qY (by omega) (by omega)];omega
theorem Nl(f:Int)(w:World)(h0:0<=f)(h1:f<18446744073709551616):Calls Tryz.prog 138 #[.int .u64 f] w fun r w'=>(∃q,r= .returned (.tuple #[.string (jC f),.int .i64 q]))/\w=w':=by
 have e:=JB h0 h1
 by_cases a1:f=9218868437227405312
 ·subst a1
  go_enter Tryz.func138,Tryz.ntmps138;go_wp2
  go_ret2
  exact⟨⟨_,rfl⟩,rfl⟩
 by_cases a2:f=18442240474082181120
 ·subst a2
  go_enter Tryz.func138,Tryz.ntmps138;go_wp2
  go_ret2
  exact⟨⟨_,rfl⟩,rfl⟩
 have b1:=eqF a1;have b2:=eqF a2
 by_cases a3:9218868437227405312<f%9223372036854775808
 ·have HF:=ah (show jC f=⟨#[110,97,110]⟩by rw[jC,if_neg a1,if_neg a2,if_pos a3])
  have d:=bZ a3;clear a1 a2 a3 h0 h1;go_enter Tryz.func138,Tryz.ntmps138;go_wp2
  go_ret2
  exact⟨⟨1,by rw[HF.out];rfl⟩,rfl⟩
 ·have HF:=ah (show jC f=⟨#[]⟩by rw[jC,if_neg a1,if_neg a2,if_neg a3])
  have d:=bY a3;clear a1 a2 a3 h0 h1;go_enter Tryz.func138,Tryz.ntmps138;go_wp2
  go_ret2
  exact⟨⟨2,by rw[HF.out];rfl⟩,rfl⟩
end Go.Proofs.YtapkmjfjikpnlaaGreatDoor
