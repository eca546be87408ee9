/- A part of FnMsgJsonMeans. No conditions. -/
import Derived.Test.YtapkmjfjikpnlaaGreatDoorM38
set_option maxHeartbeats 16000000
set_option maxRecDepth 100000
namespace Go.Proofs.YtapkmjfjikpnlaaGreatDoor
open Go.RowKit YtapkmjfjikpnlaaGreatDoorW.aG YtapkmjfjikpnlaaGreatDoorW.aJ
set_option linter.unusedVariables false
set_option linter.unusedSimpArgs false
theorem Xq(xs:List Int)(k:Nat):(str xs).extract k (str xs).size=str (xs.drop k):=by
 apply rM
 rw[Lib.extract_data,strOfNums_data,strOfNums_data,List.map_drop,List.take_of_length_le];rw[List.length_drop,List.length_map,bV];exact Nat.le_refl _
theorem OE{n:Nat}(h:1<(fB n).length):∃c r,fB n=c::r/\c≠48:=by
 have h0:n≠0:=by
  rintro rfl;rw[jE (by omega)]at h;simp at h
 cases hd:fB n with
 |nil=>rw[hd]at h;simp at h
 |cons c r=>exact⟨c,r,rfl,fun e=>EY h0 (by rw[hd,e];rfl)⟩
theorem wU(n:Nat)(s:ByteArray)(hs:bytesOf s=fB n)(hz:s.size<=100)(w:World):Calls Tryz.prog 212 #[.string s] w fun e w'=>e= .returned (.int .i64 1)/\w=w':=by
 have hlen:(fB n).length=s.size:=by rw[<-hs,bytesOf_length]
 have hpos:0<s.size:=by rw[<-hlen];exact List.length_pos_iff.2 (nD n)
 have n4:s.toList.isEmpty=false:=by rw[kK];exact bY (by omega)
 have HD:=ah (show∀i:Nat,i<s.size->48<=bt s (i:Int)/\bt s (i:Int)<=57 from fun i hi=>by
  have h1:=pY s i hi;refine iT n _ ?_;rw[<-hs];exact List.mem_of_mem_drop (i:=i) (by rw[h1];exact List.mem_cons_self))
 have H0:=ah (show 1<s.size->bt s ((0:Nat):Int)≠48 from fun h=>by
  obtain⟨c,r,e,hc⟩:=OE (n:=n) (by omega);have h1:=pY s 0 hpos;rw[List.drop_zero,hs,e]at h1;injection h1 with h1 _
  rw[<-h1];exact hc)
 have HZ:=ah (And.intro hpos hz);clear hs hlen hpos hz;go_enter Tryz.func212,Tryz.ntmps212;go_wp2
 go_loopg [3] s.size (fun g v3 w'=>∃i:Nat,v3= .int .i64 i/\i+g=s.size/\w=w')
 case atStart=>exact⟨0,rfl,by omega,rfl⟩
 case round=>
  obtain⟨i,rfl,hg,rfl⟩:=hrel;cases gk with
  |succ g=>
   have hd:=HD.out i (by omega);have hb:=jX s (i:Int);rw[Int.toNat_natCast]at hb;obtain⟨c,hc⟩:∃c,c=bt s (i:Int):=⟨_,rfl⟩
   rw[<-hc]at hb hd;have Yf:=ah (show dV c=true by unfold dV;simp;omega);have d0:decide ((i:Int)<(s.size:Int))=true:=bZ (by omega);have d1:decide (i<s.size)=true:=bZ (by omega);have i0:(0:Int)<=(i:Int):=by omega
   have i1:(i:Int)<(s.size:Int):=by omega
   have i2:i<s.size:=by omega
   have e1:IntKind.i64.wrap ((i:Int)+1)=(i:Int)+1:=by rw[IntKind.wrap_i64];have:=HZ.out;omega
   have e2:wrap64 ((i:Int)+1)=(i:Int)+1:=by have:=HZ.out;unfold wrap64;omega
   have HG:=ah hg;clear hc hd hg
   go_wp2_with (go_at_call 137;(with_reducible refine(dZ _ _).mono ?_);rw[Yf.out];rintro e w1⟨rfl,rfl⟩)
   go_roundg g
   case measure=>omega
   case rel=>exact⟨i+1,by go_num,by have:=HG.out;omega,rfl⟩
  |zero=>
   obtain rfl:i=s.size:=by omega
   have d0:decide ((s.size:Int)<(s.size:Int))=false:=bY (by omega);have d1:decide (s.size<s.size)=false:=bY (by omega)
   by_cases h1:1<s.size
   ·have g1:decide ((1:Int)<(s.size:Int))=true:=bZ (by omega)
    have g2:decide (1<s.size)=true:=bZ h1;have i0:(0:Int)<(s.size:Int):=by omega
    have i1:0<s.size:=by omega
    have hb:=jX s 0;have h0:=H0.out h1;obtain⟨c,hc⟩:∃c,c=bt s 0:=⟨_,rfl⟩
    have h0':¬c=48:=by rw[hc];exact h0
    rw[<-hc]at hb;have hc2:∀h:0<s.size,((s[0]'h).toNat:Int)=c:=hb
    have q:(c==48)=false:=eqF h0';clear hc h0 h0' hg hb;go_wp2
    go_ret
    exact⟨rfl,rfl⟩
   ·have g1:decide ((1:Int)<(s.size:Int))=false:=bY (by omega)
    have g2:decide (1<s.size)=false:=bY h1;clear hg;go_wp2
    go_ret
    exact⟨rfl,rfl⟩
theorem Lc(s:ByteArray)(W:World)(hs:s.size<=9223372036854775807):(convert 9 27 (.string s)).run Tryz.prog W= .ok (.slice (some ⟨W.heap.size,0,none⟩) s.size (grownCap W s.size 0 5)) (Lib.bytesWorld W 5 s)/\Below W.heap.size W (Lib.bytesWorld W 5 s)/\RdB (Lib.bytesWorld W 5 s) (some ⟨W.heap.size,0,none⟩) s.size (bytesOf s):=
 ⟨mW s W,je (bg W.heap.size W) (Nat.le_refl _) 5 s,qg W s hs⟩
theorem Ld(n:Nat)(s:ByteArray)(hs:bytesOf s=fB n)(hz:s.size<=100)(bits:Int)(hb:(bits=32/\n<4294967296)∨(bits=64/\n<18446744073709551616))(w:World):
 Calls Tryz.prog 182 #[.string s,.int .i64 bits] w fun e w'=>e= .returned (.tuple #[.int .u64 n,.int .i64 1])/\Below w.heap.size w w':=by
 have HP:=ah (wU n s hs hz w);obtain⟨hcv,hb2,hrd⟩:=Lc s w (by omega);rw[hs]at hrd;obtain⟨W2,hW2⟩:∃W2,W2=Lib.bytesWorld w 5 s:=⟨_,rfl⟩
 rw[<-hW2]at hcv hb2 hrd;have HT:=ah (fun(most:Int)(h1:(n:Int)<=most)(h2:most<18446744073709551616)=>uf (some ⟨w.heap.size,0,none⟩) s.size (grownCap w s.size 0 5) (fB n) n most W2 hrd (iT n) (kP n) h1 h2 (by omega));have HB2:=ah hb2;have HK:=ah hb;clear hs hz hb2 hrd hW2 hb;go_enter Tryz.func182,Tryz.ntmps182;rcases HK.out with⟨rfl,h1⟩|⟨rfl,h1⟩
 ·have H1:=ah h1
  clear h1
  go_wp2_with (first|(go_at_call 212;(with_reducible refine HP.out.mono ?_);rintro e w1⟨rfl,rfl⟩)|(go_at_call 213;(with_reducible refine(HT.out _ (by have:=H1.out;omega) (by omega)).mono ?_);rintro e w1⟨rfl,rfl⟩))
  go_ret2
  exact⟨rfl,HB2.out⟩
 ·have H1:=ah h1
  clear h1
  go_wp2_with (first|(go_at_call 212;(with_reducible refine HP.out.mono ?_);rintro e w1⟨rfl,rfl⟩)|(go_at_call 213;(with_reducible refine(HT.out _ (by have:=H1.out;omega) (by omega)).mono ?_);rintro e w1⟨rfl,rfl⟩))
  go_ret2
  exact⟨rfl,HB2.out⟩
theorem Le(n:Int)(s:ByteArray)(hs:s=str (bG n))(bits:Int)(hb:(bits=32/\ -2147483648<=n/\n<2147483648)∨(bits=64/\ -9223372036854775808<=n/\n<9223372036854775808))(w:World):
 Calls Tryz.prog 181 #[.string s,.int .i64 bits] w fun e w'=>e= .returned (.tuple #[.int .i64 n,.int .i64 1])/\Below w.heap.size w w':=by
 have hl20:(fB n.natAbs).length<=20:=dU (by omega);have hdp:0<(fB n.natAbs).length:=List.length_pos_iff.2 (nD _);obtain⟨ds,hds⟩:∃ds,ds=str (fB n.natAbs):=⟨_,rfl⟩
 have hdb:bytesOf ds=fB n.natAbs:=by rw[hds];exact fO _ (sH (iT _))
 have hdz:ds.size=(fB n.natAbs).length:=by rw[<-bytesOf_length,hdb]
 have HP:=ah (wU n.natAbs ds hdb (by omega) w);obtain⟨hcv,hb2,hrd⟩:=Lc ds w (by omega);rw[hdb]at hrd;obtain⟨W2,hW2⟩:∃W2,W2=Lib.bytesWorld w 5 ds:=⟨_,rfl⟩
 rw[<-hW2]at hcv hb2 hrd;have HT:=ah (fun(most:Int)(h1:(n.natAbs:Int)<=most)(h2:most<18446744073709551616)=>uf (some ⟨w.heap.size,0,none⟩) ds.size (grownCap w ds.size 0 5) (fB n.natAbs) n.natAbs most W2 hrd (iT _) (kP _) h1 h2 (by omega));have HB2:=ah hb2;have HK:=ah hb
 by_cases h0:n<0
 ·have hsw:bG n=45::fB n.natAbs:=by rw[jR,if_pos h0];rfl
  have hsz:s.size=ds.size+1:=by rw[hs,bV,hsw,List.length_cons,hdz]
  have hx:=jX s 0;rw[show bt s 0=45 by rw[hs,hsw];exact Dh (i:=0) (fun c hc=>by rcases List.mem_cons.1 hc with rfl|hc;omega;exact sH (iT _) c hc) rfl]at hx;have hx2:∀h:0<s.size,((s[0]'h).toNat:Int)=45:=hx
  have hsub:s.extract 1 s.size=ds:=by rw[hs,Xq,hsw,hds];rfl
  have n4:s.toList.isEmpty=false:=by rw[kK];exact bY (by omega)
  have p0:0<s.size:=by omega
  have p1:(0:Int)<(s.size:Int):=by omega
  have p2:(1:Int)<=(s.size:Int):=by omega
  have p3:1<=s.size:=by omega
  have g1:decide ((ds.size:Int)<(s.size:Int))=true:=bZ (by omega);have g2:decide (ds.size<s.size)=true:=bZ (by omega);obtain⟨m,hm⟩:∃m,m=n.natAbs:=⟨_,rfl⟩
  rw[<-hm]at HT;have q:((m:Int)==0)=false:=eqF (by omega);have q2:(m==0)=false:=by rw[beq_eq_false_iff_ne];omega
  obtain⟨M,hM⟩:∃M,M=IntKind.u64.wrap (-(m:Int)):=⟨_,rfl⟩
  have e1:wrap64 M=n:=by rw[hM,IntKind.wrap_u64];unfold wrap64;omega
  have e2:IntKind.i64.wrap M=n:=by rw[hM,IntKind.wrap_u64,IntKind.wrap_i64];omega
  have e3:IntKind.u64.wrap (-(m:Int))=M:=hM.symm;have HM:=ah (show(m:Int)= -n by omega);clear hs hdb hdz hds hb2 hrd hW2 hb hl20 hdp hsw hsz hM hm hx h0;go_enter Tryz.func181,Tryz.ntmps181;rcases HK.out with⟨rfl,h1⟩|⟨rfl,h1⟩
  ·have H1:=ah h1
   clear h1
   go_wp2_with (first|(go_at_call 212;(with_reducible refine HP.out.mono ?_);rintro e w1⟨rfl,rfl⟩)|(go_at_call 213;(with_reducible refine(HT.out _ (by have:=H1.out;have:=HM.out;omega) (by omega)).mono ?_);rintro e w1⟨rfl,rfl⟩))
   go_ret2
   exact⟨rfl,HB2.out⟩
  ·have H1:=ah h1
   clear h1
   go_wp2_with (first|(go_at_call 212;(with_reducible refine HP.out.mono ?_);rintro e w1⟨rfl,rfl⟩)|(go_at_call 213;(with_reducible refine(HT.out _ (by have:=H1.out;have:=HM.out;omega) (by omega)).mono ?_);rintro e w1⟨rfl,rfl⟩))
   go_ret2
   exact⟨rfl,HB2.out⟩
 ·have hsw:s=ds:=by rw[hs,jR,if_neg h0,hds];rfl
  subst hsw;have hx:=jX s 0;obtain⟨c,hc⟩:∃c,c=bt s 0:=⟨_,rfl⟩
  rw[<-hc]at hx;have hx2:∀h:0<s.size,((s[0]'h).toNat:Int)=c:=hx
  have hc45:¬c=45:=by
   have h1:=pY s 0 (by omega);rw[List.drop_zero,hdb]at h1;have h2:=iT n.natAbs (bt s ((0:Nat):Int)) (by rw[h1];exact List.mem_cons_self);have h3:bt s ((0:Nat):Int)=c:=hc.symm;omega
  have q:(c==45)=false:=eqF hc45;have n4:s.toList.isEmpty=false:=by rw[kK];exact bY (by omega)
  have p0:0<s.size:=by omega
  have p1:(0:Int)<(s.size:Int):=by omega
  have g1:decide ((s.size:Int)<(s.size:Int))=false:=bY (by omega);have g2:decide (s.size<s.size)=false:=bY (by omega);obtain⟨m,hm⟩:∃m,m=n.natAbs:=⟨_,rfl⟩
  rw[<-hm]at HT;have e1:wrap64 (m:Int)=n:=by unfold wrap64;omega
  have e2:IntKind.i64.wrap (m:Int)=n:=by rw[IntKind.wrap_i64];omega
  have HM:=ah (show(m:Int)=n by omega);clear hs hdb hdz hds hb2 hrd hW2 hb hl20 hdp hm hx h0 hc hc45;go_enter Tryz.func181,Tryz.ntmps181;rcases HK.out with⟨rfl,h1⟩|⟨rfl,h1⟩
  ·have H1:=ah h1
   clear h1
   go_wp2_with (first|(go_at_call 212;(with_reducible refine HP.out.mono ?_);rintro e w1⟨rfl,rfl⟩)|(go_at_call 213;(with_reducible refine(HT.out _ (by have:=H1.out;have:=HM.out;omega) (by omega)).mono ?_);rintro e w1⟨rfl,rfl⟩))
   go_ret2
   exact⟨rfl,HB2.out⟩
  ·have H1:=ah h1
   clear h1
   go_wp2_with (first|(go_at_call 212;(with_reducible refine HP.out.mono ?_);rintro e w1⟨rfl,rfl⟩)|(go_at_call 213;(with_reducible refine(HT.out _ (by have:=H1.out;have:=HM.out;omega) (by omega)).mono ?_);rintro e w1⟨rfl,rfl⟩))
   go_ret2
   exact⟨rfl,HB2.out⟩
section
variable(w0:World)(q:Nat)(S:fM)(A0:Option Addr)(c0:Nat)(A1:Option Addr)(c1:Nat)(At:Option Addr)(cT:Nat)(L:List Tok)
def ZE(W:World)(n:Nat)(x:Val)(b:Nat)(e:Ending)(w':World):Prop:=∃cs:List Value,e= .returned (.agg cs.toArray)/\(iU n).M w' W.heap.size (fun _=>True) x cs/\RS w0 w' q S A0 c0 A1 c1 At cT L b/\aH W w' q none
def ahC(W:World)(n:Nat)(m:List dD)(b:Nat)(e:Ending)(w':World):Prop:=∃vm,e= .returned vm/\(jh n).R 68 w' W.heap.size (fun _=>True) vm m/\RS w0 w' q S A0 c0 A1 c1 At cT L b/\aH W w' q none
def ZF(k:Nat):Prop:=∀(typ:Int)(m:List dD)(ts:List TK)(n a:Nat)(deep:Int)(W:World),oZ S k typ m->rC S k typ m->Vu S n typ m ts->lI L a ts->(k:Int)<=deep->deep<=25->RS w0 W q S A0 c0 A1 c1 At cT L a->
 Calls Tryz.prog 25 #[.pointer (some ⟨q,0,none⟩),.int .i64 typ,.int .i64 deep] W (ahC w0 q S A0 c0 A1 c1 At cT L W k (eG k m) (a+ts.length))
def Xr(k:Nat):Prop:=∀(t:FT)(v:Val)(ts:List TK)(n a:Nat)(deep:Int)(W:World),sG S t->AO S (oZ S k) t v->(aT t.kind=8->rC S k t.typ v.dA)->wL S n t v ts->lI L a ts->(k:Int)<deep->deep<=25->RS w0 W q S A0 c0 A1 c1 At cT L a->
 Calls Tryz.prog 116 #[.pointer (some ⟨q,0,none⟩),mQ t,.int .i64 deep] W (ZE w0 q S A0 c0 A1 c1 At cT L W k (gQ (eG k) v) (a+ts.length))
end
theorem Xt{w w1:World}{g:Nat}{u0 u1 u2 u3 u4 u5:Value}(h1:w1=(((((w.setCell ⟨g,0,none⟩ u0).setCell ⟨g,1,none⟩ u1).setCell ⟨g,2,none⟩ u2).setCell ⟨g,3,none⟩ u3).setCell ⟨g,4,none⟩ u4).setCell ⟨g,5,none⟩ u5):∀k,k≠g->w1.heap[k]? =w.heap[k]? :=by
 subst h1;intro k hk;rw[Below.heap_setCell _ ⟨g,5,none⟩ _ k hk,Below.heap_setCell _ ⟨g,4,none⟩ _ k hk,Below.heap_setCell _ ⟨g,3,none⟩ _ k hk,Below.heap_setCell _ ⟨g,2,none⟩ _ k hk,Below.heap_setCell _ ⟨g,1,none⟩ _ k hk,Below.heap_setCell _ ⟨g,0,none⟩ _ k hk]
theorem Ip{w0 W w w1:World}{q g:Nat}{S:fM}{A0:Option Addr}{c0:Nat}{A1:Option Addr}{c1:Nat}{At:Option Addr}{cT:Nat}{L:List Tok}{n b:Nat}{x:Val}{u0 u1 u2 u3 u4 u5:Value}(h:RS w0 w q S A0 c0 A1 c1 At cT L b)(hk:aH W w q none)(hq:q<W.heap.size)(hg:W.heap.size<=g)(hM:∀w2:World,(∀k,k≠g->w2.heap[k]? =w.heap[k]?)->(iU n).M w2 W.heap.size (fun _=>True) x [u0,u1,u2,u3,u4,u5])(h1:w1=(((((w.setCell ⟨g,0,none⟩ u0).setCell ⟨g,1,none⟩ u1).setCell ⟨g,2,none⟩ u2).setCell ⟨g,3,none⟩ u3).setCell ⟨g,4,none⟩ u4).setCell ⟨g,5,none⟩ u5):
 ZE w0 q S A0 c0 A1 c1 At cT L W n x b (.returned (.agg #[u0,u1,u2,u3,u4,u5])) w1:=
 ⟨_,rfl,hM w1 (Xt h1),Dz h hk hq hg h1⟩
section
variable{S:fM}{F:Int->List dD->Prop}{t:FT}{v:Val}(h:qF S F t v)
include h
theorem OG(hs:aT t.kind=1):v= .mk v.B 0 0 0 ⟨#[]⟩ []:=by
 rcases h with h|h|h|h|h|h|h|h<;>first|exact absurd h.1 (by rw[hs];decide)|exact h.2
theorem OH(hs:aT t.kind=2):v= .mk false v.I 0 0 ⟨#[]⟩ []/\ -9223372036854775808<=v.I/\v.I<9223372036854775808/\(dQ t.kind=true-> -2147483648<=v.I/\v.I<2147483648):=by
 rcases h with h|h|h|h|h|h|h|h<;>first|exact absurd h.1 (by rw[hs];decide)|exact h.2
theorem OI(hs:aT t.kind=3):v= .mk false 0 v.U 0 ⟨#[]⟩ []/\0<=v.U/\v.U<18446744073709551616/\(dQ t.kind=true->v.U<4294967296):=by
 rcases h with h|h|h|h|h|h|h|h<;>first|exact absurd h.1 (by rw[hs];decide)|exact h.2
theorem acT(hs:aT t.kind=4):v= .mk false 0 0 v.F ⟨#[]⟩ []/\0<=v.F/\v.F<18446744073709551616:=by
 rcases h with h|h|h|h|h|h|h|h<;>first|exact absurd h.1 (by rw[hs];decide)|exact h.2
theorem OJ(hs:aT t.kind=5):v= .mk false 0 0 0 v.S []:=by
 rcases h with h|h|h|h|h|h|h|h<;>first|exact absurd h.1 (by rw[hs];decide)|exact h.2.1
theorem acU(hs:aT t.kind=6):v= .mk false 0 0 0 v.S []/\v.S.size<=1000:=by
 rcases h with h|h|h|h|h|h|h|h<;>first|exact absurd h.1 (by rw[hs];decide)|exact h.2
theorem acV(hs:aT t.kind=7):v= .mk false v.I 0 0 ⟨#[]⟩ []/\ -2147483648<=v.I/\v.I<2147483648:=by
 rcases h with h|h|h|h|h|h|h|h<;>first|exact absurd h.1 (by rw[hs];decide)|exact h.2
theorem OL(hs:aT t.kind=8):v= .mk false 0 0 0 ⟨#[]⟩ v.dA/\F t.typ v.dA:=by
 rcases h with h|h|h|h|h|h|h|h<;>first|exact absurd h.1 (by rw[hs];decide)|exact⟨h.2.1,h.2.2.1⟩
end
theorem pq{rec:List dD->List dD}{v:Val}{B:Bool}{I U F:Int}{s:ByteArray}{M:List dD}(h:v= .mk B I U F s M):gQ rec v= .mk B I U (yH F) s (rec M):=by rw[h];rfl
theorem rE:yH 0=0:=by decide
theorem value_of(w0:World)(q:Nat)(S:fM)(hS:jW S)(hEU:∀e∈S.es,Dy e)(A0:Option Addr)(c0:Nat)(A1:Option Addr)(c1:Nat)(At:Option Addr)(cT:Nat)(L:List Tok)(hSR:qZ w0 S A0 c0 A1 c1)(k:Nat)(hM:ZF w0 q S A0 c0 A1 c1 At cT L k):Xr w0 q S A0 c0 A1 c1 At cT L k:=by
 intro t v ts n a deep W hF hV hKN hT hA hd1 hd2 hR;have yM:=bJ hR.blk;obtain⟨W1,hW1⟩:∃W1,W1=W.alloc (.cells #[.string t.name,.int .i64 t.num,.int .i64 t.kind,.bool t.rep,.bool t.map,.int .i64 t.typ] 70):=⟨_,rfl⟩
 obtain⟨hR1,hk1,hz1⟩:=hR.boxed (aH.refl W q none) hW1;obtain⟨W2,hW2⟩:∃W2,W2=W1.alloc xI:=⟨_,rfl⟩
 obtain⟨hR2,hk2,hz2⟩:=hR1.boxed hk1 hW2;have hs1:W1.heap.size=W.heap.size+1:=by rw[hW1];simp
 have hs2:W2.heap.size=W.heap.size+2:=by rw[hW2];simp[hs1]
 rw[hs1]at hz2;have HQ:=ah yM;have HS2:=ah hs2;have HW12:=ah (show W2=(W.alloc (.cells #[.string t.name,.int .i64 t.num,.int .i64 t.kind,.bool t.rep,.bool t.map,.int .i64 t.typ] 70)).alloc xI by rw[hW2,hW1]);have HK2:=ah hk2;have hz12:W2.heap[W.heap.size]? =some (.cells #[.string t.name,.int .i64 t.num,.int .i64 t.kind,.bool t.rep,.bool t.map,.int .i64 t.typ] 70 (0,0)):=by rw[hW2];exact bn hz1 _
 have uN:=ah (fun(w2:World)(hk:aH W2 w2 q none)=>And.intro (hk.blk hz2 (by omega) (by simp)) (hk.blk hz12 (by omega) (by simp)));obtain⟨so,hso⟩:∃so,so=aT t.kind:=⟨_,rfl⟩
 have Xu:=ah (fun w=>bH t.kind w);rw[<-hso]at Xu;have HR2:=ah hR2;have HV:=ah hV;have HF:=ah hF;have HA:=ah hA;have HSR:=ah hSR;have Td:=ah hso;have HMs:=ah hM;have HKn:=ah hKN;have HEu:=ah hEU;have HSc:=ah hS;have HD:=ah (And.intro hd1 hd2);have HT:=ah hT;have HTT:=ah hT;obtain⟨_,_,_,_,rt⟩:=hR2.cells;obtain⟨⟨_,_,b2,_,_,b5⟩,_⟩:=eu hz12;have e1:IntKind.i64.wrap (deep-1)=deep-1:=by rw[IntKind.wrap_i64];omega
 have e2:wrap64 (deep-1)=deep-1:=by unfold wrap64;omega
 clear hR yM hW1 hR1 hk1 hz1 hW2 hR2 hk2 hz2 hs1 hs2 hz12 hso hV hF hA hSR hM hKN hEU hS hd1 hd2 hT;go_enter Tryz.func116,Tryz.ntmps116
 go_upto_region 1 with fail
 rw[<-HW12.out]
 go_upto_region 4 with(go_at_call 42;(with_reducible refine(Xu.out _).mono ?_);rintro e' w5⟨rfl,rfl⟩)
 rcases HT.out with⟨hs,hm⟩|⟨hs,raw,sx,rfl⟩|⟨hs,raw,b,rfl⟩|⟨hs,raw,x,b,rfl,hx⟩|⟨hs,e,he,hx⟩|⟨hs,x,hN,hx⟩|⟨hs,x,hN,hx⟩|⟨hs,hf⟩
 ·
  obtain rfl:so=8:=by rw[Td.out,hs]
  have hfm:=OL HV.out.1 hs;have HMc:=ah (HMs.out t.typ v.dA ts n a (deep-1) W2 hfm.2 (HKn.out hs) hm HA.out (by have:=HD.out;omega) (by have:=HD.out;omega) HR2.out);have Hq:=ah hfm.1;clear hs hm hfm
  go_wp2_with (go_at_call 25;(with_reducible refine HMc.out.mono ?_);rintro e' w3⟨vm,rfl,hr,hR3,hk3⟩;obtain⟨Am,cm,rfl⟩:=Kd.fC hr;have HRm:=ah hr;have HR3:=ah (And.intro hR3 hk3);obtain⟨⟨q0,q1,q2,q3,q4,q5⟩,f0,f1,f2,f3,f4,f5⟩:=eu (uN.out w3 hk3).1;clear hr hR3 hk3)
  refine bodyPost_ret (results_cell_row rfl _ _ (W.heap.size+1) _ _ _ _ rfl (iJ (uN.out w3 HR3.out.2).1 rfl) Tryz.underlying76 rfl (by kernel_rfl)) rfl ?_;refine Ip HR3.out.1 (HK2.out.trans HR3.out.2 (.inl rfl)) HQ.out (show W.heap.size<=W.heap.size+1 from Nat.le_succ _) (fun w2 hw2=>?_) rfl;rw[pq Hq.out,rE];have hw:=HS2.out;exact Ih (v:=.mk false 0 0 0 ⟨#[]⟩ (eG k v.dA)) (Kd.oI (Kd.gB (Kd.uP (Kd.iR HRm.out) (fun kk hok _=>hw2 kk (by have:=hok.2.1;omega))) (fun _ _=>trivial)) (by omega))
 ·obtain rfl:so=1:=by rw[Td.out,hs]
  obtain⟨u,hu,hut,_⟩:=HA.out.head;have oC:=ah (lJ w0 W2 q S A0 c0 A1 c1 At cT L a HR2.out u hu.out 4 (congrArg TK.kind hut));have Kt:=ah (show u.boo=v.B from congrArg TK.boo hut);have Hq:=ah (OG HV.out.1 hs);clear hs hut
  go_upto_region 8 with(go_at_call 54;(with_reducible refine oC.out.mono ?_);rintro e' w3⟨rfl,hr,hk⟩;have HR3:=ah (And.intro hr hk);clear hr hk)
  obtain⟨w4,h4⟩:∃w4,w4=w3.alloc (.cells #[.int .i64 u.kind,.int .i64 u.pos,.string u.raw,.string u.str,.bool u.boo] 39):=⟨_,rfl⟩
  rw[<-h4];obtain⟨hR4,hk4,hx4⟩:=HR3.out.1.boxed HR3.out.2 h4;have cv:w4.cell? ⟨w3.heap.size,4,none⟩=some (.bool v.B):=by rw[<-Kt.out];exact(aA hx4 4).trans rfl
  have HR4:=ah (And.intro hR4 hk4);obtain⟨⟨q0,q1,q2,q3,q4,q5⟩,f0,f1,f2,f3,f4,f5⟩:=eu (uN.out w4 hk4).1;clear h4 hR4 hk4 hx4;go_wp2;refine bodyPost_ret (results_cell_row rfl _ _ (W.heap.size+1) _ _ _ _ rfl (iJ (uN.out _ HR4.out.2).1 rfl) Tryz.underlying76 rfl (by kernel_rfl)) rfl ?_;refine Ip HR4.out.1 (HK2.out.trans HR4.out.2 (.inl rfl)) HQ.out (show W.heap.size<=W.heap.size+1 from Nat.le_succ _) (fun w2 hw2=>?_) rfl;rw[pq Hq.out,rE,kH];exact ug v.B 0 0 0 ⟨#[]⟩
 ·obtain rfl:so=5:=by rw[Td.out,hs]
  obtain⟨u,hu,hut,_⟩:=HA.out.head;have oC:=ah (lJ w0 W2 q S A0 c0 A1 c1 At cT L a HR2.out u hu.out 16 (congrArg TK.kind hut));have Kt:=ah (show u.str=v.S from congrArg TK.str hut);have Hq:=ah (OJ HV.out.1 hs);clear hs hut
  go_upto_region 11 with(go_at_call 54;(with_reducible refine oC.out.mono ?_);rintro e' w3⟨rfl,hr,hk⟩;have HR3:=ah (And.intro hr hk);clear hr hk)
  obtain⟨w4,h4⟩:∃w4,w4=w3.alloc (.cells #[.int .i64 u.kind,.int .i64 u.pos,.string u.raw,.string u.str,.bool u.boo] 39):=⟨_,rfl⟩
  rw[<-h4];obtain⟨hR4,hk4,hx4⟩:=HR3.out.1.boxed HR3.out.2 h4;have cv:w4.cell? ⟨w3.heap.size,3,none⟩=some (.string v.S):=by rw[<-Kt.out];exact(aA hx4 3).trans rfl
  have HR4:=ah (And.intro hR4 hk4);obtain⟨⟨q0,q1,q2,q3,q4,q5⟩,f0,f1,f2,f3,f4,f5⟩:=eu (uN.out w4 hk4).1;clear h4 hR4 hk4 hx4;go_wp2;refine bodyPost_ret (results_cell_row rfl _ _ (W.heap.size+1) _ _ _ _ rfl (iJ (uN.out _ HR4.out.2).1 rfl) Tryz.underlying76 rfl (by kernel_rfl)) rfl ?_;refine Ip HR4.out.1 (HK2.out.trans HR4.out.2 (.inl rfl)) HQ.out (show W.heap.size<=W.heap.size+1 from Nat.le_succ _) (fun w2 hw2=>?_) rfl;rw[pq Hq.out,rE,kH];exact ug false 0 0 0 v.S
 ·obtain rfl:so=6:=by rw[Td.out,hs]
  obtain⟨u,hu,hut,_⟩:=HA.out.head;have oC:=ah (lJ w0 W2 q S A0 c0 A1 c1 At cT L a HR2.out u hu.out 16 (congrArg TK.kind hut));have Kt:=ah (show u.str=x from congrArg TK.str hut);have Hq:=ah (acU HV.out.1 hs);clear hs hut
  go_upto_region 14 with(go_at_call 54;(with_reducible refine oC.out.mono ?_);rintro e' w3⟨rfl,hr,hk⟩;have HR3:=ah (And.intro hr hk);clear hr hk)
  obtain⟨w4,h4⟩:∃w4,w4=w3.alloc (.cells #[.int .i64 u.kind,.int .i64 u.pos,.string u.raw,.string u.str,.bool u.boo] 39):=⟨_,rfl⟩
  rw[<-h4];obtain⟨hR4,hk4,hx4⟩:=HR3.out.1.boxed HR3.out.2 h4;have cv:w4.cell? ⟨w3.heap.size,3,none⟩=some (.string x):=by rw[<-Kt.out];exact(aA hx4 3).trans rfl
  have HR4:=ah (And.intro hR4 hk4);obtain⟨⟨q0,q1,q2,q3,q4,q5⟩,f0,f1,f2,f3,f4,f5⟩:=eu (uN.out w4 hk4).1;clear h4 hR4 hk4 hx4;have wH:=ah (Xp x v.S hx (by have:=Hq.out.2;omega) w4);have hw:=HS2.out
  go_upto_region 16 with(first|(go_at_call 147;(with_reducible refine wH.out.mono ?_);rintro e' w5⟨v1,rfl,ho,hb⟩;obtain⟨Ab,nb,cb,rfl⟩:=fQ ho;have HO5:=ah ho;have HR5:=ah (And.intro (HR4.out.1.below hb) (iq HR4.out.2 hb));clear ho hb)|(go_at_call 26;(with_reducible refine(Bq w0 _ q S A0 c0 A1 c1 At cT L (a+1) HR5.out.1).mono ?_);rintro e' w6⟨rfl,hr,hk⟩;have hcv:=kY (Kd.gB (Kd.sV (Kd.iR HO5.out) hk (fun kk hok=>by have:=hok.2.1;have:=HQ.out;have:=HR4.out.2.1;omega)) (fun _ _=>trivial));have HR6:=ah (And.intro hr (HR5.out.2.trans hk (.inl rfl)));clear hr hk))
  rw[show strOfNums (bytesOf v.S)=v.S from zy v.S]at hcv;obtain⟨⟨z0,z1,z2,z3,z4,z5⟩,g0,g1,g2,g3,g4,g5⟩:=eu (uN.out _ HR6.out.2).1;clear q0 q1 q2 q3 q4 q5 f0 f1 f2 f3 f4 f5 cv hw;go_wp2;refine bodyPost_ret (results_cell_row rfl _ _ (W.heap.size+1) _ _ _ _ rfl (iJ (uN.out _ HR6.out.2).1 rfl) Tryz.underlying76 rfl (by kernel_rfl)) rfl ?_;refine Ip HR6.out.1 (HK2.out.trans HR6.out.2 (.inl rfl)) HQ.out (show W.heap.size<=W.heap.size+1 from Nat.le_succ _) (fun w2 hw2=>?_) rfl;rw[pq Hq.out.1,rE,kH];exact ug false 0 0 0 v.S
 ·obtain rfl:so=7:=by rw[Td.out,hs]
  have hfv:=acV HV.out.1 hs;have Hq:=ah hfv;obtain⟨ty,hty⟩:∃ty:Nat,t.typ=(ty:Int):=⟨t.typ.toNat,by have:=(HF.out.enum hs).1;omega⟩
  rw[hty,Int.toNat_natCast]at he;rw[hty]at b5;have hmem:=List.mem_of_getElem? he;obtain⟨ad,An,cn,Am,cm,hA1,x0,x1,_,hCn,_,LW⟩:=Ym HSR.out.es he;subst hA1;have hb:=HR2.out.be;have y0:=ay hb x0;have y1:=ay hb x1;have r1:=HR2.out.cells.2.1;have i0:(0:Int)<=(ty:Int):=by omega
  have i1:(ty:Int)<(S.es.length:Int):=by have:=(List.getElem?_eq_some_iff.1 he).1;omega
  have hlen:ts.length=1:=by rcases hx with⟨_,_,_,rfl⟩|⟨_,_,_,rfl,_⟩<;>rfl
  have HL:=ah hlen;have HEc:=ah (fun(W3:World)(h3:RS w0 W3 q S A0 c0 (some ad) c1 At cT L a)=>acJ w0 W3 q S A0 c0 (some ad) c1 At cT L a h3 e (HSc.out.en e hmem) (HEu.out e hmem) An cn Am cm hCn LW v.I ts HA.out hfv.2 hx);clear hs hfv he hmem hCn LW hb x0 x1 hx hty hlen
  go_upto_region 18 with fail
  go_still_tail 10,(by kernel_rfl)
  change wpList _ _ _ _ _ W2.drew
  obtain⟨W3,h3⟩:∃W3,W3=W2.drew:=⟨_,rfl⟩
  rw[<-h3];have hR3:RS w0 W3 q S A0 c0 (some ad) c1 At cT L a:=by rw[h3];exact HR2.out.below (aQ (bg _ _))
  have hk3:aH W2 W3 q none:=by rw[h3];exact EO (aH.refl _ _ _)
  have HEc3:=ah (HEc.out W3 hR3);have HK3:=ah hk3;clear h3 hR3 hk3 y0 y1 r1 i0 i1 HEc
  go_wp2_with (go_at_call 148;(with_reducible refine HEc3.out.mono ?_);rintro e' w3⟨rfl,hr,hk⟩;obtain⟨⟨q0,q1,q2,q3,q4,q5⟩,f0,f1,f2,f3,f4,f5⟩:=eu (uN.out w3 (HK3.out.trans hk (.inl rfl))).1;have HR3:=ah (And.intro hr (HK3.out.trans hk (.inl rfl)));clear hr hk)
  refine bodyPost_ret (results_cell_row rfl _ _ (W.heap.size+1) _ _ _ _ rfl (iJ (uN.out _ HR3.out.2).1 rfl) Tryz.underlying76 rfl (by kernel_rfl)) rfl ?_;rw[HL.out];refine Ip HR3.out.1 (HK2.out.trans HR3.out.2 (.inl rfl)) HQ.out (show W.heap.size<=W.heap.size+1 from Nat.le_succ _) (fun w2 hw2=>?_) rfl;rw[pq Hq.out.1,rE,kH];exact ug false v.I 0 0 ⟨#[]⟩
 ·obtain rfl:so=2:=by rw[Td.out,hs]
  have hfv:=OH HV.out.1 hs;have Hq:=ah hfv;obtain⟨tk,rfl,_⟩:=hN.one;have sS:=ah (DI w0 W2 q S A0 c0 A1 c1 At cT L a HR2.out t.kind x v.I 0 0 _ HA.out hN (.inl ⟨hs,hx,rfl,rfl,by cases hn:dQ t.kind;exact .inr ⟨rfl,hfv.2.1,hfv.2.2.1⟩;exact .inl ⟨rfl,hfv.2.2.2 hn⟩⟩));clear hs hfv hN hx
  go_wp2_with (go_at_call 149;(with_reducible refine sS.out.mono ?_);rintro e' w3⟨rfl,hr,hk⟩;obtain⟨⟨q0,q1,q2,q3,q4,q5⟩,f0,f1,f2,f3,f4,f5⟩:=eu (uN.out w3 hk).1;have HR3:=ah (And.intro hr hk);clear hr hk)
  refine bodyPost_ret (results_cell_row rfl _ _ (W.heap.size+1) _ _ _ _ rfl (iJ (uN.out _ HR3.out.2).1 rfl) Tryz.underlying76 rfl (by kernel_rfl)) rfl ?_;refine Ip HR3.out.1 (HK2.out.trans HR3.out.2 (.inl rfl)) HQ.out (show W.heap.size<=W.heap.size+1 from Nat.le_succ _) (fun w2 hw2=>?_) rfl;rw[pq Hq.out.1,rE,kH];exact ug false v.I 0 0 ⟨#[]⟩
 ·obtain rfl:so=3:=by rw[Td.out,hs]
  have hfv:=OI HV.out.1 hs;have Hq:=ah hfv;obtain⟨tk,rfl,_⟩:=hN.one;have sS:=ah (DI w0 W2 q S A0 c0 A1 c1 At cT L a HR2.out t.kind x 0 v.U 0 _ HA.out hN (.inr (.inl ⟨hs,hx,rfl,rfl,by cases hn:dQ t.kind;exact .inr ⟨rfl,hfv.2.1,hfv.2.2.1⟩;exact .inl ⟨rfl,hfv.2.1,hfv.2.2.2 hn⟩⟩)));clear hs hfv hN hx
  go_wp2_with (go_at_call 149;(with_reducible refine sS.out.mono ?_);rintro e' w3⟨rfl,hr,hk⟩;obtain⟨⟨q0,q1,q2,q3,q4,q5⟩,f0,f1,f2,f3,f4,f5⟩:=eu (uN.out w3 hk).1;have HR3:=ah (And.intro hr hk);clear hr hk)
  refine bodyPost_ret (results_cell_row rfl _ _ (W.heap.size+1) _ _ _ _ rfl (iJ (uN.out _ HR3.out.2).1 rfl) Tryz.underlying76 rfl (by kernel_rfl)) rfl ?_;refine Ip HR3.out.1 (HK2.out.trans HR3.out.2 (.inl rfl)) HQ.out (show W.heap.size<=W.heap.size+1 from Nat.le_succ _) (fun w2 hw2=>?_) rfl;rw[pq Hq.out.1,rE,kH];exact ug false 0 v.U 0 ⟨#[]⟩
 ·obtain rfl:so=4:=by rw[Td.out,hs]
  have hfv:=acT HV.out.1 hs;have Hq:=ah hfv;have sS:=ah (Xo w0 W2 q S A0 c0 A1 c1 At cT L a HR2.out t hs v.F hfv.2.1 hfv.2.2 (HV.out.2 hs) ts HA.out hf);clear hs hfv hf
  go_wp2_with (go_at_call 149;(with_reducible refine sS.out.mono ?_);rintro e' w3⟨rfl,hr,hk⟩;obtain⟨⟨q0,q1,q2,q3,q4,q5⟩,f0,f1,f2,f3,f4,f5⟩:=eu (uN.out w3 hk).1;have HR3:=ah (And.intro hr hk);clear hr hk)
  refine bodyPost_ret (results_cell_row rfl _ _ (W.heap.size+1) _ _ _ _ rfl (iJ (uN.out _ HR3.out.2).1 rfl) Tryz.underlying76 rfl (by kernel_rfl)) rfl ?_;refine Ip HR3.out.1 (HK2.out.trans HR3.out.2 (.inl rfl)) HQ.out (show W.heap.size<=W.heap.size+1 from Nat.le_succ _) (fun w2 hw2=>?_) rfl;rw[pq Hq.out.1,kH];exact ug false 0 0 (yH v.F) ⟨#[]⟩
def ZG(s:ByteArray):Prop:=∀i:Nat,i<s.size->(48<=bt s (i:Int)/\bt s (i:Int)<=57)∨(i=0/\bt s (i:Int)=45)
theorem OM(n:Int):ZG (str (bG n)):=by
 intro i hi;rw[bV]at hi;have hb:bt (str (bG n)) (i:Int)=(bG n)[i]:=Dh (yx n) (List.getElem?_eq_getElem hi);rw[hb]
 by_cases h:n<0
 ·have e:bG n=45::fB n.natAbs:=by rw[jR,if_pos h];rfl
  cases i with
  |zero=>right;refine⟨rfl,?_⟩;simp only[e,List.getElem_cons_zero]
  |succ i=>
   left
   have hm:(bG n)[i+1]∈fB n.natAbs:=by simp only[e,List.getElem_cons_succ];exact List.getElem_mem _
   exact iT _ _ hm
 ·have e:bG n=fB n.natAbs:=by rw[jR,if_neg h];rfl
  left
  have hm:(bG n)[i]∈fB n.natAbs:=by rw[<-e];exact List.getElem_mem hi
  exact iT _ _ hm
theorem Xv(n:Nat):ZG (str (fB n)):=by
 intro i hi;rw[bV]at hi;rw[Dh (sH (iT n)) (List.getElem?_eq_getElem hi)];exact .inl (iT _ _ (List.getElem_mem hi))
theorem DK{u:Val}{B:Bool}{I U F:Int}{s:ByteArray}{M:List dD}(h:u= .mk B I U F s M):(Value.agg #[.bool u.B,.int .i64 u.I,.int .u64 u.U,.int .u64 u.F,.string u.S,.slice none 0 0])= .agg #[.bool B,.int .i64 I,.int .u64 U,.int .u64 F,.string s,.slice none 0 0]:=by subst h;rfl
theorem pO{w w2 w1:World}{g:Nat}{u0 u1 u2 u3 u4 u5:Value}(hb:Below w.heap.size w w2)(hg:w.heap.size<=g)(h1:w1=(((((w2.setCell ⟨g,0,none⟩ u0).setCell ⟨g,1,none⟩ u1).setCell ⟨g,2,none⟩ u2).setCell ⟨g,3,none⟩ u3).setCell ⟨g,4,none⟩ u4).setCell ⟨g,5,none⟩ u5):Below w.heap.size w w1:=by
 subst h1;exact aV (aV (aV (aV (aV (aV hb hg) hg) hg) hg) hg) hg
theorem Tf{S:fM}{F:Int->List dD->Prop}(kt:FT)(u:Val)(hu:qF S F kt u)(hks:aT kt.kind=1∨aT kt.kind=2∨aT kt.kind=3∨aT kt.kind=5)(w:World):
 Calls Tryz.prog 146 #[.int .i64 kt.kind,.string (dL kt.kind u)] w fun e w'=>e= .returned (.tuple #[.agg #[.bool u.B,.int .i64 u.I,.int .u64 u.U,.int .u64 u.F,.string u.S,.slice none 0 0],.int .i64 1])/\Below w.heap.size w w':=by
 obtain⟨W1,hW1⟩:∃W1,W1=w.alloc xI:=⟨_,rfl⟩
 have hb1:Below w.heap.size w W1:=by rw[hW1];exact ak (bg _ _) _
 have hz1:W1.heap[w.heap.size]? =some (.cells #[.bool false,.int .i64 0,.int .u64 0,.int .u64 0,.string ⟨#[]⟩,.slice none 0 0] 76 (0,0)):=by rw[hW1];exact aP w _
 have HW1:=ah hW1;have HB1:=ah hb1;have HZ1:=ah hz1;obtain⟨so,hso⟩:∃so,so=aT kt.kind:=⟨_,rfl⟩
 have Xu:=ah (fun w=>bH kt.kind w);rw[<-hso]at Xu;have Td:=ah hso;have HU:=ah hu;have Kq:=ah hks;obtain⟨tx,htx⟩:∃tx,tx=dL kt.kind u:=⟨_,rfl⟩
 rw[<-htx];have HTx:=ah htx;obtain⟨bits,KZ⟩:∃bits,bits=bitsOf kt.kind:=⟨_,rfl⟩
 have TM:=ah KZ;obtain⟨⟨q0,q1,q2,q3,q4,q5⟩,f0,f1,f2,f3,f4,f5⟩:=eu hz1;clear hW1 hb1 hz1 hso hu hks htx KZ;go_enter Tryz.func146,Tryz.ntmps146
 go_upto_region 1 with fail
 rw[<-HW1.out]
 go_upto_if 13 with(go_at_call 93;(with_reducible refine(nM _ _).mono ?_);rintro e w5⟨rfl,rfl⟩)
 go_cut [6] (fun s6 wx=>s6= .int .i64 bits/\W1=wx)
 case first=>
  cases hn:dQ kt.kind
  ·have hb:=TM.out
   unfold bitsOf at hb;rw[hn]at hb;subst hb;go_wp2
   go_meet
   exact⟨rfl,rfl⟩
  ·have hb:=TM.out
   unfold bitsOf at hb;rw[hn]at hb;subst hb;go_wp2
   go_meet
   exact⟨rfl,rfl⟩
 case rest=>
  obtain⟨rfl,rfl⟩:=hcut
  go_step
  rcases Kq.out with hs|hs|hs|hs
  ·obtain rfl:so=1:=by rw[Td.out,hs]
   have hv:=OG HU.out hs;have ht:=HTx.out;unfold dL at ht;rw[if_pos hs]at ht;clear hs;cases hb:u.B
   ·rw[hb]at ht hv
    subst ht;have HV:=ah hv;clear hb hv
    go_wp2_with (go_at_call 42;(with_reducible refine(Xu.out _).mono ?_);rintro e w5⟨rfl,rfl⟩)
    refine bodyPost_ret (dI rfl _ _ w.heap.size _ _ _ _ rfl (iJ HZ1.out rfl) Tryz.underlying76 rfl (by kernel_rfl)) rfl ?_;exact⟨by rw[DK HV.out];rfl,pO HB1.out (Nat.le_refl _) rfl⟩
   ·rw[hb]at ht hv
    subst ht;have HV:=ah hv;clear hb hv
    go_wp2_with (go_at_call 42;(with_reducible refine(Xu.out _).mono ?_);rintro e w5⟨rfl,rfl⟩)
    refine bodyPost_ret (dI rfl _ _ w.heap.size _ _ _ _ rfl (iJ HZ1.out rfl) Tryz.underlying76 rfl (by kernel_rfl)) rfl ?_;exact⟨by rw[DK HV.out];rfl,pO HB1.out (Nat.le_refl _) rfl⟩
  ·obtain rfl:so=2:=by rw[Td.out,hs]
   have hv:=OH HU.out hs;have ht:=HTx.out;have hbt:=TM.out;unfold dL at ht;rw[if_neg (by rw[hs];decide),if_pos hs]at ht
   have hbb:(bits=32/\ -2147483648<=u.I/\u.I<2147483648)∨(bits=64/\ -9223372036854775808<=u.I/\u.I<9223372036854775808):=by
    unfold bitsOf at hbt;cases hn:dQ kt.kind
    ·rw[hn]at hbt
     exact .inr ⟨hbt,by omega,by omega⟩
    ·rw[hn]at hbt
     have:=hv.2.2.2 hn;exact .inl ⟨hbt,by omega,by omega⟩
   have ZH:=ah (show ZG tx by rw[ht];exact OM _);have kQ:=ah (show tx.size<=100 by rw[ht,bV];have:=Dk u.I hv.2.1 hv.2.2.1;omega);have DX:=ah (fun w=>Le u.I tx ht bits hbb w);have HV:=ah hv.1;clear hs hv ht hbt hbb
   go_wp2_with (go_at_call 42;(with_reducible refine(Xu.out _).mono ?_);rintro e w5⟨rfl,rfl⟩)
   go_loopg [7] tx.size (fun g v7 w'=>∃i:Nat,v7= .int .i64 i/\i+g=tx.size/\W1=w')
   case atStart=>exact⟨0,rfl,by omega,rfl⟩
   case round=>
    obtain⟨i,rfl,hg,rfl⟩:=hrel;cases gk with
    |succ g=>
     have hd:=ZH.out i (by omega);have hb:=jX tx (i:Int);rw[Int.toNat_natCast]at hb;obtain⟨c,hc⟩:∃c,c=bt tx (i:Int):=⟨_,rfl⟩
     rw[<-hc]at hb hd;have d0:decide ((i:Int)<(tx.size:Int))=true:=bZ (by omega);have d1:decide (i<tx.size)=true:=bZ (by omega);have i0:(0:Int)<=(i:Int):=by omega
     have i1:(i:Int)<(tx.size:Int):=by omega
     have i2:i<tx.size:=by omega
     have e1:IntKind.i64.wrap ((i:Int)+1)=(i:Int)+1:=by rw[IntKind.wrap_i64];have:=kQ.out;omega
     have e2:wrap64 ((i:Int)+1)=(i:Int)+1:=by have:=kQ.out;unfold wrap64;omega
     have HG:=ah hg;rcases hd with hd|⟨h0,h45⟩
     ·have Yf:=ah (show dV c=true by unfold dV;simp;omega)
      clear hc hd hg
      go_wp2_with (go_at_call 137;(with_reducible refine(dZ _ _).mono ?_);rw[Yf.out];rintro e w1⟨rfl,rfl⟩)
      go_roundg g
      case measure=>omega
      case rel=>exact⟨i+1,by go_num,by have:=HG.out;omega,rfl⟩
     ·subst h0
      have Yf:=ah (show dV c=false by unfold dV;simp;omega);have hb2:∀h:0<tx.size,((tx[0]'h).toNat:Int)=45:=by rw[<-h45];exact hb
      have p0:(0:Int)<(tx.size:Int):=by omega
      clear hc h45 hg hb i0 i1 e1 e2 d0
      subst_vars
      go_wp2_with (go_at_call 137;(with_reducible refine(dZ _ _).mono ?_);rw[show dV 45=false from rfl];rintro e w1⟨rfl,rfl⟩)
      go_roundg g
      case measure=>omega
      case rel=>exact⟨1,by go_num,by have:=HG.out;omega,rfl⟩
    |zero=>
     obtain rfl:i=tx.size:=by omega
     have d0:decide ((tx.size:Int)<(tx.size:Int))=false:=bY (by omega);have d1:decide (tx.size<tx.size)=false:=bY (by omega);clear hg
     go_wp2_with (first|(go_at_call 42;(with_reducible refine(Xu.out _).mono ?_);rintro e w5⟨rfl,rfl⟩)|(go_at_call 181;(with_reducible refine(DX.out _).mono ?_);rintro e w5⟨rfl,hb⟩;have HB5:=ah (au HB1.out hb);have HZ5:=ah (aI HZ1.out hb);obtain⟨⟨a0,a1,a2,a3,a4,a5⟩,b0,b1,b2,b3,b4,b5⟩:=eu HZ5.out;clear hb))
     refine bodyPost_ret (dI rfl _ _ w.heap.size _ _ _ _ rfl (iJ HZ5.out rfl) Tryz.underlying76 rfl (by kernel_rfl)) rfl ?_;exact⟨by rw[DK HV.out];rfl,pO HB5.out (Nat.le_refl _) rfl⟩
  ·obtain rfl:so=3:=by rw[Td.out,hs]
   have hv:=OI HU.out hs;have ht:=HTx.out;have hbt:=TM.out;obtain⟨n,hn0⟩:∃n:Nat,n=u.U.toNat:=⟨_,rfl⟩
   unfold dL at ht;rw[if_neg (by rw[hs];decide),if_neg (by rw[hs];decide),if_pos hs,<-hn0]at ht
   have hbb:(bits=32/\n<4294967296)∨(bits=64/\n<18446744073709551616):=by
    unfold bitsOf at hbt;cases hn:dQ kt.kind
    ·rw[hn]at hbt
     exact .inr ⟨hbt,by omega⟩
    ·rw[hn]at hbt
     have:=hv.2.2.2 hn;exact .inl ⟨hbt,by omega⟩
   have ZH:=ah (show ZG tx by rw[ht];exact Xv _);have kQ:=ah (show tx.size<=100 by rw[ht,bV];have:=dU (n:=n) (by omega);omega);have DX:=ah (fun w=>Ld n tx (by rw[ht];exact fO _ (sH (iT _))) (by rw[ht,bV];have:=dU (n:=n) (by omega);omega) bits hbb w);have HV:=ah hv.1;have HUn:=ah (show((n:Nat):Int)=u.U by omega);clear hs hv ht hbt hbb hn0
   go_wp2_with (go_at_call 42;(with_reducible refine(Xu.out _).mono ?_);rintro e w5⟨rfl,rfl⟩)
   go_loopg [7] tx.size (fun g v7 w'=>∃i:Nat,v7= .int .i64 i/\i+g=tx.size/\W1=w')
   case atStart=>exact⟨0,rfl,by omega,rfl⟩
   case round=>
    obtain⟨i,rfl,hg,rfl⟩:=hrel;cases gk with
    |succ g=>
     have hd:=ZH.out i (by omega);have hb:=jX tx (i:Int);rw[Int.toNat_natCast]at hb;obtain⟨c,hc⟩:∃c,c=bt tx (i:Int):=⟨_,rfl⟩
     rw[<-hc]at hb hd;have d0:decide ((i:Int)<(tx.size:Int))=true:=bZ (by omega);have d1:decide (i<tx.size)=true:=bZ (by omega);have i0:(0:Int)<=(i:Int):=by omega
     have i1:(i:Int)<(tx.size:Int):=by omega
     have i2:i<tx.size:=by omega
     have e1:IntKind.i64.wrap ((i:Int)+1)=(i:Int)+1:=by rw[IntKind.wrap_i64];have:=kQ.out;omega
     have e2:wrap64 ((i:Int)+1)=(i:Int)+1:=by have:=kQ.out;unfold wrap64;omega
     have HG:=ah hg;rcases hd with hd|⟨h0,h45⟩
     ·have Yf:=ah (show dV c=true by unfold dV;simp;omega)
      clear hc hd hg
      go_wp2_with (go_at_call 137;(with_reducible refine(dZ _ _).mono ?_);rw[Yf.out];rintro e w1⟨rfl,rfl⟩)
      go_roundg g
      case measure=>omega
      case rel=>exact⟨i+1,by go_num,by have:=HG.out;omega,rfl⟩
     ·subst h0
      have Yf:=ah (show dV c=false by unfold dV;simp;omega);have hb2:∀h:0<tx.size,((tx[0]'h).toNat:Int)=45:=by rw[<-h45];exact hb
      have p0:(0:Int)<(tx.size:Int):=by omega
      clear hc h45 hg hb i0 i1 e1 e2 d0
      subst_vars
      go_wp2_with (go_at_call 137;(with_reducible refine(dZ _ _).mono ?_);rw[show dV 45=false from rfl];rintro e w1⟨rfl,rfl⟩)
      go_roundg g
      case measure=>omega
      case rel=>exact⟨1,by go_num,by have:=HG.out;omega,rfl⟩
    |zero=>
     obtain rfl:i=tx.size:=by omega
     have d0:decide ((tx.size:Int)<(tx.size:Int))=false:=bY (by omega);have d1:decide (tx.size<tx.size)=false:=bY (by omega);clear hg
     go_wp2_with (first|(go_at_call 42;(with_reducible refine(Xu.out _).mono ?_);rintro e w5⟨rfl,rfl⟩)|(go_at_call 182;(with_reducible refine(DX.out _).mono ?_);rintro e w5⟨rfl,hb⟩;have HB5:=ah (au HB1.out hb);have HZ5:=ah (aI HZ1.out hb);obtain⟨⟨a0,a1,a2,a3,a4,a5⟩,b0,b1,b2,b3,b4,b5⟩:=eu HZ5.out;clear hb))
     rw[HUn.out];refine bodyPost_ret (dI rfl _ _ w.heap.size _ _ _ _ rfl (iJ HZ5.out rfl) Tryz.underlying76 rfl (by kernel_rfl)) rfl ?_;exact⟨by rw[DK HV.out];rfl,pO HB5.out (Nat.le_refl _) rfl⟩
  ·obtain rfl:so=5:=by rw[Td.out,hs]
   have HV:=ah (OJ HU.out hs);have ht:=HTx.out;unfold dL at ht;rw[if_neg (by rw[hs];decide),if_neg (by rw[hs];decide),if_neg (by rw[hs];decide)]at ht;subst ht;clear hs
   go_wp2_with (go_at_call 42;(with_reducible refine(Xu.out _).mono ?_);rintro e w5⟨rfl,rfl⟩)
   refine bodyPost_ret (dI rfl _ _ w.heap.size _ _ _ _ rfl (iJ HZ1.out rfl) Tryz.underlying76 rfl (by kernel_rfl)) rfl ?_;exact⟨by rw[DK HV.out];rfl,pO HB1.out (Nat.le_refl _) rfl⟩
end Go.Proofs.YtapkmjfjikpnlaaGreatDoor
