/- A part of FnMsgJsonMeans. No conditions. -/
import Derived.Test.YtapkmjfjikpnlaaGreatDoorM21
set_option maxRecDepth 100000
set_option maxHeartbeats 2000000
namespace Go.Proofs.YtapkmjfjikpnlaaGreatDoor
open Go.RowKit YtapkmjfjikpnlaaGreatDoorW.aG YtapkmjfjikpnlaaGreatDoorW.aJ
set_option linter.unusedVariables false
set_option linter.unusedSimpArgs false
def iw(W W':World):Prop:=W.heap.size<=W'.heap.size/\∀(k:Nat)(cs:Array Value)(t:TypeId)(fr:Nat×Nat),W.heap[k]? =some (.cells cs t fr)->t≠109->t≠119->W'.heap[k]? =W.heap[k]?
theorem iw.refl(W:World):iw W W:=⟨Nat.le_refl _,fun _ _ _ _ _ _ _=>rfl⟩
theorem iw.trans{W W1 W2:World}(h:iw W W1)(k:iw W1 W2):iw W W2:=
 ⟨Nat.le_trans h.1 k.1,fun i cs t fr hc h1 h2=>(k.2 i cs t fr ((h.2 i cs t fr hc h1 h2).trans hc) h1 h2).trans (h.2 i cs t fr hc h1 h2)⟩
theorem iw.below{W W1:World}(h:Below W.heap.size W W1):iw W W1:=⟨h.size,fun i cs t fr hc _ _=>h.block i (bJ hc)⟩
theorem iw.but{W W1:World}{p:Nat}{cs:Array Value}(h:aH W W1 p none)(hp:W.heap[p]? =some (.cells cs 119 (0,0))):iw W W1:=by
 refine⟨h.1,fun i cs t fr hc h1 h2=>h.2 i (bJ hc) ?_ (by simp)⟩;rintro rfl;rw[hc]at hp;injection hp with hp
 injection hp with _ e _
 exact h2 e
theorem iw.grown{W W1:World}{base:Nat}{v:Value}{xs:List Int}(hg:W.grownBy W1 v.ownBlock)(ho:(Kd.int .u16).R 109 W base (fun _=>True) v xs):iw W W1:=by
 refine⟨hg.size,fun i cs t fr hc h1 h2=>hg.block i (bJ hc) ?_⟩;intro e;obtain⟨inner,hi⟩:=Kd.uQ ho;obtain⟨cells,hq⟩:=jP hi i e.symm;rw[hc]at hq;injection hq with hq
 injection hq with _ e2 _
 exact h1 e2
theorem iw.set{W:World}{p:Nat}{cs:Array Value}(hp:W.heap[p]? =some (.cells cs 119 (0,0)))(j:Nat)(u:Value):iw W (W.setCell ⟨p,j,none⟩ u):=iw.but ((aH.refl W p none).xM j u) hp
theorem iw.new{W w:World}(h:iw W w){g:Nat}(hg:W.heap.size<=g)(j:Nat)(u:Value):iw W (w.setCell ⟨g,j,none⟩ u):=
 ⟨by rw[World.size_setCell];exact h.1,fun k cs t fr hc h1 h2=>(Below.heap_setCell w ⟨g,j,none⟩ u k (by show k≠g;have:=bJ hc;omega)).trans (h.2 k cs t fr hc h1 h2)⟩
theorem iw.blk{W W1:World}(h:iw W W1){g:Nat}{cs:Array Value}{t:TypeId}(hb:W.heap[g]? =some (.cells cs t (0,0)))(h1:t≠109)(h2:t≠119):W1.heap[g]? =some (.cells cs t (0,0)):=(h.2 g cs t _ hb h1 h2).trans hb
abbrev JV(W:World)(base:Nat)(v:Value)(xs:List Int):Prop:=(Kd.int .u16).R 109 W base (fun _=>True) v xs
theorem sO{W:World}{base:Nat}{v:Value}{t:Int}{st:List Int}(h:JV W base v (t::st).reverse):∃g cap,v= .slice (some ⟨g,0,none⟩) (st.length+1) cap/\W.cell? ⟨g,st.length,none⟩=some (.int .u16 t)/\st.length+1<=9223372036854775807:=by
 obtain⟨g,cap,rfl,_⟩:=Kd.TV h (by simp);obtain⟨A,c,e,_,hC⟩:=Kd.jo h;have hl:(t::st).reverse.length=st.length+1:=by simp
 rw[hl]at e hC;injection e with e1 _ _
 subst e1
 have hx:(t::st).reverse[st.length]? =some t:=by
  rw[List.reverse_cons,List.getElem?_append_right (by simp)];simp
 obtain⟨ad,e2,hc⟩:=iD hC hx;injection e2 with e2
 subst e2;refine⟨g,cap,by rw[hl],?_,Kd.ou hC⟩
 by_cases h0:st.length=0
 ·rw[h0]at hc ⊢;exact hc
 ·rw[Md _ _ (by omega)]at hc
  simpa using hc
theorem Rz(p B1:Nat)(u:FrameMode)(w:World)(x:Int)(h1:w.cell? ⟨B1,0,none⟩=some (.pointer (some ⟨p,0,none⟩)))(h2:w.cell? ⟨p,0,none⟩=some (.int .u8 x))(h3:w.frozen? ⟨p,0,none⟩=false):
 CallsD Tryz.prog 104 #[.pointer (some ⟨B1,0,none⟩)] u w fun e u' w'=>u'=u/\(e= .returned (.tuple #[])/\w'=w.setCell ⟨p,0,none⟩ (.int .u8 0)):=by
 go_enter_d Tryz.func104,Tryz.ntmps104
 go_wp2
 go_end0
 exact⟨rfl,rfl⟩
theorem gK{W:World}{p:Nat}{last bK:Int}{bM:Value}{bP:Bool}{bQ:ByteArray}{eF:Value}{A:Option Addr}{N c:Nat}{inv:Value}(h:uI W p last bK bM bP bQ eF A N c inv):
 W.cell? ⟨p,0,none⟩=some (.int .u8 0)/\W.cell? ⟨p,1,none⟩=some (.int .u16 last)/\W.cell? ⟨p,7,none⟩=some eF/\W.cell? ⟨p,9,none⟩=some inv:=⟨(aA h 0).trans rfl,(aA h 1).trans rfl,(aA h 7).trans rfl,(aA h 9).trans rfl⟩
theorem pK(W:World)(p:Nat)(last bK:Int)(bM:Value)(bP:Bool)(bQ:ByteArray)(eF:Value)(A:Option Addr)(N c:Nat)(inv:Value)(hD:uI W p last bK bM bP bQ eF A N c inv)(base:Nat)(st:List Int)(hO:JV W base eF st.reverse)(hv:Es st last):
 Calls Tryz.prog 106 #[.pointer (some ⟨p,0,none⟩)] W fun e w'=>e= .returned (.bool true)/\Below W.heap.size W w':=by
 obtain⟨_,c1,c7,_⟩:=gK hD;cases st with
 |nil=>
  have hl:last=0:=hv;subst hl;obtain⟨A0,c0,rfl⟩:=Kd.fC hO;have c7':W.cell? ⟨p,7,none⟩=some (.slice A0 0 c0):=c7;clear hD hO hv c7;go_enter Tryz.func106,Tryz.ntmps106;go_wp2
  go_ret
  exact⟨rfl,bg _ _⟩
 |cons t st=>
  obtain⟨g,cap,rfl,ct,hm⟩:=sO hO;have e1:(((st.length+1:Nat):Int)==0)=false:=eqF (by omega);have e2:IntKind.i64.wrap (((st.length+1:Nat):Int)-1)=(st.length:Int):=by rw[IntKind.wrap_i64];omega
  have e3:wrap64 (((st.length+1:Nat):Int)-1)=(st.length:Int):=by unfold wrap64;omega
  have i0:(0:Int)<=(st.length:Int):=by omega
  have i1:(st.length:Int)<((st.length+1:Nat):Int):=by omega
  have hv':(t=64/\last=32)∨(t=256/\(last=256∨last=1024)):=hv;generalize st.length=n at*;clear hD hO hv;rcases hv' with⟨rfl,rfl⟩|⟨rfl,rfl|rfl⟩
  all_goals
   go_enter Tryz.func106,Tryz.ntmps106;go_wp2
   go_quiet (fail)
   go_wp2
   go_ret
   exact⟨rfl,aS (bg _ _) _⟩
theorem VF(W:World)(p:Nat)(last bK:Int)(bM:Value)(bP:Bool)(bQ:ByteArray)(eF:Value)(A:Option Addr)(N c:Nat)(inv:Value)(hD:uI W p last bK bM bP bQ eF A N c inv)(base:Nat)(st:List Int)(hO:JV W base eF (64::st).reverse)(hv:last=64∨last=1024):
 Calls Tryz.prog 106 #[.pointer (some ⟨p,0,none⟩)] W fun e w'=>e= .returned (.bool false)/\Below W.heap.size W w':=by
 obtain⟨_,c1,c7,_⟩:=gK hD;obtain⟨g,cap,rfl,ct,hm⟩:=sO hO;have e1:(((st.length+1:Nat):Int)==0)=false:=eqF (by omega);have e2:IntKind.i64.wrap (((st.length+1:Nat):Int)-1)=(st.length:Int):=by rw[IntKind.wrap_i64];omega
 have e3:wrap64 (((st.length+1:Nat):Int)-1)=(st.length:Int):=by unfold wrap64;omega
 have i0:(0:Int)<=(st.length:Int):=by omega
 have i1:(st.length:Int)<((st.length+1:Nat):Int):=by omega
 generalize st.length=n at*;clear hD hO;rcases hv with rfl|rfl
 all_goals
  go_enter Tryz.func106,Tryz.ntmps106;go_wp2
  go_quiet (fail)
  go_wp2
  go_ret
  exact⟨rfl,aS (bg _ _) _⟩
theorem JX{x:NT}(h:x.ok):∀c∈x.bytes,0<=c/\c<128:=by
 intro c hc;rcases List.mem_append.1 hc with hc|hc
 ·unfold NT.wJ at hc
  split at hc
  ·rw[List.mem_singleton.1 hc];omega
  ·exact absurd hc List.not_mem_nil
 rcases List.mem_append.1 hc with hc|hc
 ·have:=h.QY c hc;omega
 rcases List.mem_append.1 hc with hc|hc
 ·unfold NT.kJ at hc
  split at hc
  ·exact absurd hc List.not_mem_nil
  ·rcases List.mem_cons.1 hc with rfl|hc
   ·omega
   ·have:=h.fpD c hc;omega
 ·unfold NT.iV at hc
  split at hc
  ·exact absurd hc List.not_mem_nil
  ·rename_i E sg ds he
   obtain⟨h1,h2,_,h3,_⟩:=h.TF E sg ds he;rcases List.mem_cons.1 hc with rfl|hc
   ·omega
   ·rcases List.mem_append.1 hc with hc|hc
    ·rcases h2 with rfl|rfl|rfl
     ·exact absurd hc List.not_mem_nil
     ·rw[List.mem_singleton.1 hc];omega
     ·rw[List.mem_singleton.1 hc];omega
    ·have:=h3 c hc;omega
theorem yA{x:NT}(h:x.ok):dh (bytesOf (str x.bytes))=true:=by
 rw[fO x.bytes (fun c hc=>by have:=JX h c hc;omega)];exact gX _ (JX h)
theorem abQ{x:NT}(h:x.ok)(hl:x.dg.length<=60):x.bytes.length<=100:=by
 have h1:x.wJ.length<=1:=by unfold NT.wJ;split<;>simp
 have h2:x.kJ.length<=x.fp.length+1:=by unfold NT.kJ;split<;>simp
 have h3:x.iV.length<=6:=by
  unfold NT.iV
  split
  ·simp
  ·rename_i E sg ds he
   obtain⟨_,h2,_,_,h4,_⟩:=h.TF E sg ds he;rw[List.length_cons,List.length_append];rcases h2 with rfl|rfl|rfl<;>simp<;>omega
 unfold NT.dg at hl;rw[List.length_append]at hl;unfold NT.bytes;rw[List.length_append,List.length_append,List.length_append];omega
abbrev NK(v:Val)(A:Option Addr)(c:Nat):Value:=.agg #[.bool v.B,.int .i64 v.I,.int .u64 v.U,.int .u64 v.F,.string v.S,.slice A v.dA.length c]
abbrev mQ(t:FT):Value:=.agg #[.string t.name,.int .i64 t.num,.int .i64 t.kind,.bool t.rep,.bool t.map,.int .i64 t.typ]
theorem RD(kind:Int)(v:Val)(A:Option Addr)(c:Nat)(w:World)(hI: -9223372036854775808<=v.I/\v.I<9223372036854775808)(hU:0<=v.U/\v.U<18446744073709551616):
 Calls Tryz.prog 92 #[.int .i64 kind,NK v A c] w fun e w'=>e= .returned (.string (dL kind v))/\Below w.heap.size w w':=by
 have hC:=fun W=>xW v.U.toNat W (by omega)
 rw[Int.toNat_of_nonneg hU.1]at hC;have HC:=ah hC;have HI:=ah hI;clear hU hC hI
 by_cases h1:aT kind=1
 ·have b1:(aT kind==1)=true:=kZ h1
  cases hB:v.B
  ·have HF:=ah (show dL kind v=⟨#[102,97,108,115,101]⟩by rw[dL,if_pos h1,hB];rfl)
   clear h1;go_enter Tryz.func92,Tryz.ntmps92
   go_wp2_with (first|(go_at_call 42;(with_reducible refine(bH _ _).mono ?_);rintro e w1⟨rfl,rfl⟩)|(go_at_call 94;(with_reducible refine(AX _ _).mono ?_);rintro e w1⟨rfl,rfl⟩))
   go_ret
   exact⟨by rw[HF.out];rfl,ak (ak (bg _ _) _) _⟩
  ·have HF:=ah (show dL kind v=⟨#[116,114,117,101]⟩by rw[dL,if_pos h1,hB];rfl)
   clear h1;go_enter Tryz.func92,Tryz.ntmps92
   go_wp2_with (first|(go_at_call 42;(with_reducible refine(bH _ _).mono ?_);rintro e w1⟨rfl,rfl⟩)|(go_at_call 94;(with_reducible refine(AX _ _).mono ?_);rintro e w1⟨rfl,rfl⟩))
   go_ret
   exact⟨by rw[HF.out];rfl,ak (ak (bg _ _) _) _⟩
 by_cases h2:aT kind=2
 ·have HF:=ah (show dL kind v=str (bG v.I)by rw[dL,if_neg h1,if_pos h2])
  have b1:(aT kind==1)=false:=eqF h1;have b2:(aT kind==2)=true:=kZ h2;clear h1 h2;go_enter Tryz.func92,Tryz.ntmps92
  go_wp2_with (first|(go_at_call 42;(with_reducible refine(bH _ _).mono ?_);rintro e w1⟨rfl,rfl⟩)|(go_at_call 100;(with_reducible refine(AZ _ _ HI.out.1 HI.out.2).mono ?_);rintro e w1⟨rfl,m,rfl⟩))
  go_ret
  exact⟨by rw[HF.out];rfl,aS (ak (bg _ _) _) _⟩
 by_cases h3:aT kind=3
 ·have HF:=ah (show dL kind v=str (fB v.U.toNat)by rw[dL,if_neg h1,if_neg h2,if_pos h3])
  have b1:(aT kind==1)=false:=eqF h1;have b2:(aT kind==2)=false:=eqF h2;have b3:(aT kind==3)=true:=kZ h3;clear h1 h2 h3;go_enter Tryz.func92,Tryz.ntmps92
  go_wp2_with (first|(go_at_call 42;(with_reducible refine(bH _ _).mono ?_);rintro e w1⟨rfl,rfl⟩)|(go_at_call 101;(with_reducible refine(HC.out _).mono ?_);rintro e w1⟨rfl,m,rfl⟩))
  go_ret
  exact⟨by rw[HF.out];rfl,aS (ak (bg _ _) _) _⟩
 have HF:=ah (show dL kind v=v.S by rw[dL,if_neg h1,if_neg h2,if_neg h3]);have b1:(aT kind==1)=false:=eqF h1;have b2:(aT kind==2)=false:=eqF h2;have b3:(aT kind==3)=false:=eqF h3;clear h1 h2 h3;go_enter Tryz.func92,Tryz.ntmps92
 go_wp2_with (first|(go_at_call 42;(with_reducible refine(bH _ _).mono ?_);rintro e w1⟨rfl,rfl⟩))
 go_ret
 exact⟨by rw[HF.out];rfl,ak (bg _ _) _⟩
theorem Zf(w0 W:World)(p:Nat)(P:List Int)(s:WS)(vb vl:Value)(kind F:Int)(hP:qE P)(hF0:0<=F)(hF1:F<18446744073709551616)(hs:s.sz+40000<=1000000000000)(h:nX w0 W p P s vb vl):
 Calls Tryz.prog 102 #[.pointer (some ⟨p,0,none⟩),.int .i64 kind,.int .u64 F] W (vJ w0 W p P s 40000 fun X=>PU kind F (tks X)/\lG (X.map Prod.snd)):=by
 have hsa:=s.Jm;have HJ:=ah h;have hD:=Nl F
 by_cases f1:F=9218868437227405312
 ·subst f1
  have HD:=ah (fun W=>hD W hF0 hF1);have HT:=ah (zu w0 W p P s vb vl ⟨#[73,110,102,105,110,105,116,121]⟩ hP (by decide) (gX _ (by decide)) (Nat.le_trans (Nat.add_le_add_left (by decide) _) hs) h);clear h hs hP hF0 hF1 hD hsa;go_enter Tryz.func102,Tryz.ntmps102
  go_wp2_with (first|(go_at_call 138;(with_reducible refine(HD.out _).mono ?_);rintro e w1⟨⟨q,rfl⟩,rfl⟩;rw[show jC 9218868437227405312=⟨#[105,110,102]⟩from rfl])|(go_at_call 95;(with_reducible refine HT.out.mono ?_);rintro e w1⟨rfl,ho⟩;have HO:=ah ho;clear ho))
  go_end0
  exact⟨rfl,HO.out.imp (by decide) (fun Y hY=>by obtain⟨w,raw,rfl⟩:=hY;exact⟨.inl ⟨raw,false,rfl,rfl⟩,jB (.inr (.inr (.inr rfl)))⟩)⟩
 by_cases f2:F=18442240474082181120
 ·subst f2
  have HD:=ah (fun W=>hD W hF0 hF1);have HT:=ah (zu w0 W p P s vb vl ⟨#[45,73,110,102,105,110,105,116,121]⟩ hP (by decide) (gX _ (by decide)) (Nat.le_trans (Nat.add_le_add_left (by decide) _) hs) h);clear h hs hP hF0 hF1 hD hsa f1;go_enter Tryz.func102,Tryz.ntmps102
  go_wp2_with (first|(go_at_call 138;(with_reducible refine(HD.out _).mono ?_);rintro e w1⟨⟨q,rfl⟩,rfl⟩;rw[show jC 18442240474082181120=⟨#[45,105,110,102]⟩from rfl])|(go_at_call 95;(with_reducible refine HT.out.mono ?_);rintro e w1⟨rfl,ho⟩;have HO:=ah ho;clear ho))
  go_end0
  exact⟨rfl,HO.out.imp (by decide) (fun Y hY=>by obtain⟨w,raw,rfl⟩:=hY;exact⟨.inr (.inl ⟨raw,false,rfl,rfl⟩),jB (.inr (.inr (.inr rfl)))⟩)⟩
 by_cases f3:9218868437227405312<F%9223372036854775808
 ·have hE:jC F=⟨#[110,97,110]⟩:=by rw[jC,if_neg f1,if_neg f2,if_pos f3]
  have HD:=ah (fun W=>by have:=hD W hF0 hF1;rw[hE]at this;exact this);have HT:=ah (zu w0 W p P s vb vl ⟨#[78,97,78]⟩ hP (by decide) (gX _ (by decide)) (Nat.le_trans (Nat.add_le_add_left (by decide) _) hs) h);have HN:=ah f3;clear h hs hP hF0 hF1 hD hsa f1 f2 f3 hE;go_enter Tryz.func102,Tryz.ntmps102
  go_wp2_with (first|(go_at_call 138;(with_reducible refine(HD.out _).mono ?_);rintro e w1⟨⟨q,rfl⟩,rfl⟩)|(go_at_call 95;(with_reducible refine HT.out.mono ?_);rintro e w1⟨rfl,ho⟩;have HO:=ah ho;clear ho))
  go_end0
  exact⟨rfl,HO.out.imp (by decide) (fun Y hY=>by obtain⟨w,raw,rfl⟩:=hY;exact⟨.inr (.inr (.inl ⟨raw,false,HN.out,rfl⟩)),jB (.inr (.inr (.inr rfl)))⟩)⟩
 ·have hE:jC F=⟨#[]⟩:=by rw[jC,if_neg f1,if_neg f2,if_neg f3]
  have HD:=ah (fun W=>by have:=hD W hF0 hF1;rw[hE]at this;exact this);obtain⟨f,rfl⟩:=Int.eq_ofNat_of_zero_le hF0;have hlt:f%9223372036854775808<9218868437227405312:=by omega
  have HFT:=ah (fun W'(h':nX w0 W' p P s vb vl)=>JC w0 W' p P s.a vb vl f (dQ kind) (Rw kind) rfl hP (by omega) (by omega) hlt h'.jw h'.be);have HLt:=ah (show((f:Int))%9223372036854775808<9218868437227405312 by omega);have uV:=ah (fun(W':World)(s':WS)(h1:s'.sz<=1000000000000)(h':nX w0 W' p P s' vb vl)=>yX w0 W' p P s' vb vl 5 (by decide) hP h1 h');have sS:=ah (fun(W':World)(s':WS)(x:NT)(q:Bool)(hx:x.ok)(hl:x.dg.length<=60)(h1:s'.sz+3000<=1000000000000)(h':nX w0 W' p P s' vb vl)=>zx w0 W' p P s' vb vl x q hP hx (abQ hx hl) (yA hx) h1 h');have kQ:=ah hs;clear h hs hP hF0 hF1 hD hsa f1 f2 f3 hE hlt;go_enter Tryz.func102,Tryz.ntmps102
  go_wp2_with (first|(go_at_call 138;(with_reducible refine(HD.out _).mono ?_);rintro e w1⟨⟨q,rfl⟩,rfl⟩)|(go_at_call 93;(with_reducible refine(nM _ _).mono ?_);rintro e w1⟨rfl,rfl⟩)|(go_at_call 139;(with_reducible refine(HFT.out _ HJ.out).mono ?_);rintro e w1⟨x,rfl,hx,hk⟩;obtain⟨a',k1,k2,k3,k4⟩:=WK.abO HJ.out hk;have hx':=hx;obtain⟨o1,_,o3,_⟩:=hx';have HXo:=ah (And.intro o1 o3);have HX:=ah hx;have HJ1:=ah k3;have HK1:=ah k4;have HA1:=ah (And.intro k1 k2);clear hx hk k1 k2 k3 k4 o1 o3)|(go_at_call 43;(with_reducible refine(uV.out _ (qK a' s) (by have:=kQ.out;have:=HA1.out;simp only[WS.sz,qK]at*;omega) HJ1.out).mono ?_);rintro e w2⟨rfl,hj2,hk2⟩;have HJ2:=ah hj2;have HK2:=ah (HK1.out.trans hk2);clear hj2 hk2)|(go_at_call 98;(with_reducible refine(sS.out _ _ x _ HXo.out.1 HXo.out.2 (by have:=kQ.out;have:=HA1.out;have:=dX P a';simp only[WS.sz,qK]at*;omega) HJ2.out).mono ?_);rintro e w3⟨rfl,ho⟩;have HO:=ah ho;clear ho))
  go_end0
  have hst:kC s (qK (dB P a') s) [] 7:=oN P s (by have:=HA1.out;have:=dX P a';omega) (by have:=HA1.out;have:=dX P a';omega);refine⟨rfl,(HO.out.pre HK2.out hst (Q':=fun X=>PU kind (f:Int) (tks X)/\lG (X.map Prod.snd)) (fun Y hY=>?_)).imp (by omega) (fun _ h=>h)⟩;exact⟨.inr (.inr (.inr ⟨HLt.out,x,hY.1,by rw[Int.toNat_natCast];exact HX.out⟩)),hY.2⟩
def IB(o:Int)(i:Nat)(L:List Lex):Prop:=∃k,(i=0->k=o)/\(0<i->xR k)/\∀st rest,Acc (o::st) k rest->Acc (o::st) o (L++rest)
theorem IB.zero(o:Int):IB o 0 []:=⟨o,fun _=>rfl,fun h=>absurd h (by decide),fun _ _ h=>h⟩
theorem GZ{k:Int}(h:xR k):k≠32/\k≠1024/\k≠64/\k≠256:=by
 rcases h with(h|h|h|h)|h|h<;>subst h<;>decide
abbrev wM(i:Nat):List Lex:=if 0<i then[.comma]else[]
theorem IB.arr{i:Nat}{L Y:List Lex}(h:IB 256 i L)(hY:lG Y):IB 256 (i+1) (L++(wM i++Y)):=by
 obtain⟨k,h1,h2,h3⟩:=h;obtain⟨k',d',hv⟩:=hY;refine⟨k',fun h=>absurd h (by omega),fun _=>d',fun st rest hr=>?_⟩;rw[List.append_assoc];refine h3 st _ ?_
 by_cases h0:0<i
 ·rw[wM,if_pos h0]
  show Acc (256::st) k (.comma::(Y++rest));unfold Acc;exact⟨by simp,h2 h0,hv _ _ _ (.inr ⟨rfl,.inr rfl⟩) hr⟩
 ·rw[wM,if_neg h0,h1 (by omega)]
  exact hv _ _ _ (.inr ⟨rfl,.inl rfl⟩) hr
theorem IB.obj{i:Nat}{L Y:List Lex}{t:TK}(h:IB 64 i L)(ht:t.kind=32)(hY:lG Y):IB 64 (i+1) (L++(wM i++(.tok t:: .colon::Y))):=by
 obtain⟨k,h1,h2,h3⟩:=h;obtain⟨k',d',hv⟩:=hY
 have hin:∀st rest last,(last=64∨last=1024)->Acc (64::st) k' rest->Acc (64::st) last (.tok t:: .colon::(Y++rest)):=by
  intro st rest last hl hr;unfold Acc;rw[if_pos ht];exact⟨⟨_,rfl⟩,hl,hv _ _ _ (.inl ⟨rfl,rfl⟩) hr⟩
 refine⟨k',fun h=>absurd h (by omega),fun _=>d',fun st rest hr=>?_⟩;rw[List.append_assoc];refine h3 st _ ?_
 by_cases h0:0<i
 ·rw[wM,if_pos h0]
  show Acc (64::st) k (.comma::(.tok t:: .colon::(Y++rest)));unfold Acc;exact⟨by simp,h2 h0,hin _ _ _ (.inr rfl) hr⟩
 ·rw[wM,if_neg h0,h1 (by omega)]
  exact hin _ _ _ (.inl rfl) hr
theorem IB.Zg{i:Nat}{L:List Lex}{o c:TK}(h:IB 256 i L)(ho:o.kind=256)(hc:c.kind=512):lG (.tok o::(L++[.tok c])):=by
 obtain⟨k,h1,h2,h3⟩:=h;refine⟨512,.inr (.inr rfl),fun st last rest hl hr=>?_⟩;show Acc st last (.tok o::((L++[.tok c])++rest));unfold Acc;rw[if_neg (by omega),if_pos (.inr ho),ho,List.append_assoc];refine⟨hl,h3 _ _ ?_⟩;show Acc (256::st) k (.tok c::rest);unfold Acc;rw[if_neg (by omega),if_neg (by omega),if_neg (by omega),if_pos hc];refine⟨?_,hr⟩
 by_cases h0:0<i
 ·exact(GZ (h2 h0)).2.1
 ·rw[h1 (by omega)];decide
theorem IB.PW{i:Nat}{L:List Lex}{o c:TK}(h:IB 64 i L)(ho:o.kind=64)(hc:c.kind=128):lG (.tok o::(L++[.tok c])):=by
 obtain⟨k,h1,h2,h3⟩:=h;refine⟨128,.inr (.inl rfl),fun st last rest hl hr=>?_⟩;show Acc st last (.tok o::((L++[.tok c])++rest));unfold Acc;rw[if_neg (by omega),if_pos (.inl ho),ho,List.append_assoc];refine⟨hl,h3 _ _ ?_⟩;show Acc (64::st) k (.tok c::rest);unfold Acc;rw[if_neg (by omega),if_neg (by omega),if_pos hc]
 by_cases h0:0<i
 ·exact⟨(GZ (h2 h0)).1,(GZ (h2 h0)).2.1,hr⟩
 ·rw[h1 (by omega)];exact⟨by decide,by decide,hr⟩
def jl(n:Nat)(l:List Val):Nat:=(l.map (fun v=>1+iP n v.dA)).sum
theorem zX(n:Nat)(l m:List Val):jl n (l++m)=jl n l+jl n m:=by unfold jl;rw[List.map_append,List.sum_append]
theorem zA{n:Nat}{l:List Val}{i:Nat}{v:Val}(h:l[i]? =some v):jl n (l.take (i+1))=jl n (l.take i)+(1+iP n v.dA):=by
 obtain⟨hi,hv⟩:=List.getElem?_eq_some_iff.1 h;rw[List.take_succ_eq_append_getElem hi,zX,hv];simp[jl]
theorem tX(n:Nat)(l:List Val)(i:Nat):jl n (l.take i)<=jl n l:=by
 have h:jl n l=jl n (l.take i)+jl n (l.drop i):=by rw[<-zX,List.take_append_drop]
 omega
def KM:Nat:=100000000
structure qZ(w0:World)(S:fM)(A0:Option Addr)(c0:Nat)(A1:Option Addr)(c1:Nat):Prop where
 ms:Kd.C Yl w0 A0 S.ms.length S.ms
 es:Kd.C kET w0 A1 S.es.length S.es
 cm:S.ms.length<=c0
 ce:S.es.length<=c1
abbrev kG(S:fM)(A0:Option Addr)(c0:Nat)(A1:Option Addr)(c1:Nat):Value:=.agg #[.slice A0 S.ms.length c0,.slice A1 S.es.length c1]
theorem bD.cell{W W':World}{k:Nat}{cs:Array Value}{t:TypeId}(h:bD W W')(hc:W.heap[k]? =some (.cells cs t (0,0)))(h1:t≠5)(h2:t≠39)(h3:t≠55):W'.heap[k]? =some (.cells cs t (0,0)):=(h.2 k cs t (0,0) hc h1 h2 h3).trans hc
structure Bx3(W:World)(k1 k2 k3:Nat)(S:fM)(A0:Option Addr)(c0:Nat)(A1:Option Addr)(c1:Nat)(t:FT)(v:Val)(A2:Option Addr)(c2:Nat):Prop where
 b1:W.heap[k1]? =some (.cells #[.slice A0 S.ms.length c0,.slice A1 S.es.length c1] 25 (0,0))
 b2:W.heap[k2]? =some (.cells #[.string t.name,.int .i64 t.num,.int .i64 t.kind,.bool t.rep,.bool t.map,.int .i64 t.typ] 70 (0,0))
 b3:W.heap[k3]? =some (.cells #[.bool v.B,.int .i64 v.I,.int .u64 v.U,.int .u64 v.F,.string v.S,.slice A2 v.dA.length c2] 76 (0,0))
section
variable{W W':World}{k1 k2 k3:Nat}{S:fM}{A0:Option Addr}{c0:Nat}{A1:Option Addr}{c1:Nat}{t:FT}{v:Val}{A2:Option Addr}{c2:Nat}
theorem Bx3.keep(h:Bx3 W k1 k2 k3 S A0 c0 A1 c1 t v A2 c2)(hk:bD W W'):Bx3 W' k1 k2 k3 S A0 c0 A1 c1 t v A2 c2:=
 ⟨hk.cell h.b1 (by decide) (by decide) (by decide),hk.cell h.b2 (by decide) (by decide) (by decide),hk.cell h.b3 (by decide) (by decide) (by decide)⟩
theorem Bx3.cells(h:Bx3 W k1 k2 k3 S A0 c0 A1 c1 t v A2 c2):
 W.cell? ⟨k1,0,none⟩=some (.slice A0 S.ms.length c0)/\W.cell? ⟨k1,1,none⟩=some (.slice A1 S.es.length c1)/\W.cell? ⟨k2,2,none⟩=some (.int .i64 t.kind)/\W.cell? ⟨k2,5,none⟩=some (.int .i64 t.typ)/\
 W.cell? ⟨k3,0,none⟩=some (.bool v.B)/\W.cell? ⟨k3,1,none⟩=some (.int .i64 v.I)/\W.cell? ⟨k3,2,none⟩=some (.int .u64 v.U)/\W.cell? ⟨k3,3,none⟩=some (.int .u64 v.F)/\W.cell? ⟨k3,4,none⟩=some (.string v.S)/\W.cell? ⟨k3,5,none⟩=some (.slice A2 v.dA.length c2):=
 ⟨(aA h.b1 0).trans rfl,(aA h.b1 1).trans rfl,(aA h.b2 2).trans rfl,(aA h.b2 5).trans rfl,(aA h.b3 0).trans rfl,(aA h.b3 1).trans rfl,(aA h.b3 2).trans rfl,(aA h.b3 3).trans rfl,(aA h.b3 4).trans rfl,(aA h.b3 5).trans rfl⟩
end
def He(S:fM)(n:Nat)(w0:World)(p:Nat)(P:List Int)(A0:Option Addr)(c0:Nat)(A1:Option Addr)(c1:Nat):Prop:=
 ∀(typ:Int)(m:List dD)(A:Option Addr)(c:Nat)(W:World)(s:WS)(vb vl:Value),Kd.C (jh n) w0 A m.length m->qG S n typ m->s.sz+KM*(1+2*iP n m)<=1000000000000->nX w0 W p P s vb vl->
  Calls Tryz.prog 20 #[.pointer (some ⟨p,0,none⟩),kG S A0 c0 A1 c1,.int .i64 typ,.slice A m.length c] W (vJ w0 W p P s (KM*(1+2*iP n m)) fun X=>lG (X.map Prod.snd)/\Vu S n typ m (tks X))
def RF(S:fM)(n:Nat)(w0:World)(p:Nat)(P:List Int)(A0:Option Addr)(c0:Nat)(A1:Option Addr)(c1:Nat):Prop:=
 ∀(t:FT)(v:Val)(A:Option Addr)(c:Nat)(W:World)(s:WS)(vb vl:Value),Kd.C (jh n) w0 A v.dA.length v.dA->sG S t->qF S (qG S n) t v->s.sz+(99000000+KM*(1+2*iP n v.dA))<=1000000000000->nX w0 W p P s vb vl->
  Calls Tryz.prog 49 #[.pointer (some ⟨p,0,none⟩),kG S A0 c0 A1 c1,mQ t,NK v A c] W (vJ w0 W p P s ((99000000+KM*(1+2*iP n v.dA))) fun X=>lG (X.map Prod.snd)/\wL S n t v (tks X))
theorem NM(w0 W:World)(p:Nat)(P:List Int)(s:WS)(vb vl:Value)(x:NT)(hP:qE P)(hx:x.ok)(hl:x.bytes.length<=100)(hv:dh (bytesOf (str x.bytes))=true)(hs:s.sz+3000<=1000000000000)(h:nX w0 W p P s vb vl):
 Calls Tryz.prog 98 #[.pointer (some ⟨p,0,none⟩),.string (str x.bytes),.bool false] W (vJ w0 W p P s 3000 fun X=>tks X=[⟨8,str x.bytes,⟨#[]⟩,false⟩]/\lG (X.map Prod.snd)):=by
 have hsz:(str x.bytes).size<=100:=by rw[bV];exact hl
 have h1:=rZ hP s ⟨8,str x.bytes,⟨#[]⟩,false⟩ (.number x hx hl);refine(yY w0 W p P s vb vl (str x.bytes) false hP (by omega) hv (Nat.le_trans h1.sz (by show _+(6+(str x.bytes).size)<=_;omega)) h).mono ?_;rintro e w1⟨rfl,⟨vT,Gw,h3⟩,h4⟩;exact⟨rfl,_,_,vT,Gw,h3,h4,h1.mono (by show 6+(str x.bytes).size<=_;omega),rfl,jB (.inr (.inr (.inl rfl)))⟩
theorem RH{x s:ByteArray}(h:zV x s):dh (bytesOf x)=true:=by
 have hb:∀alt(v:Int),0<=v->v<64->0<=fU alt v/\fU alt v<128:=by
  intro alt v h0 h1;unfold fU;cases alt<;>simp<;>(repeat' split)<;>omega
 have key:∀(alt:Bool)(l:List Int),(∀x∈l,0<=x/\x<=255)->∀c∈b64 alt l,0<=c/\c<128:=by
  intro alt l
  induction l using b64.induct with
  |case1=>intro _ c hc;exact absurd hc List.not_mem_nil
  |case2 x=>
   intro h c hc;have hx:=h x (by simp);simp only[b64,List.mem_cons,List.not_mem_nil,or_false]at hc;rcases hc with rfl|rfl<;>apply hb<;>omega
  |case3 x y=>
   intro h c hc;have hx:=h x (by simp);have hy:=h y (by simp);simp only[b64,List.mem_cons,List.not_mem_nil,or_false]at hc;rcases hc with rfl|rfl|rfl<;>apply hb<;>omega
  |case4 x y z l ih=>
   intro h c hc;have hx:=h x (by simp);have hy:=h y (by simp);have hz:=h z (by simp);simp only[b64,List.mem_cons]at hc;rcases hc with rfl|rfl|rfl|rfl|hc
   ·apply hb<;>omega
   ·apply hb<;>omega
   ·apply hb<;>omega
   ·apply hb<;>omega
   ·exact ih (fun x hx=>h x (by simp[hx])) c hc
 obtain⟨alt,rfl|rfl⟩:=h
 ·rw[fO _ (fun c hc=>by have:=key alt _ (gV s) c hc;omega)]
  exact gX _ (key alt _ (gV s))
 ·have h2:∀c∈b64 alt (bytesOf s)++List.replicate ((4-(b64 alt (bytesOf s)).length%4)%4) 61,0<=c/\c<128:=by
   intro c hc;rcases List.mem_append.1 hc with hc|hc
   ·exact key alt _ (gV s) c hc
   ·rw[(List.mem_replicate.1 hc).2];omega
  rw[fO _ (fun c hc=>by have:=h2 c hc;omega)];exact gX _ h2
theorem VG(nums:List Int)(n:Int):∀g i r,wP nums n g i=some r->r<i+g:=by
 intro g
 induction g with
 |zero=>intro i r h;cases h
 |succ g ih=>
  intro i r h;unfold wP at h
  split at h
  ·cases h;omega
  ·have:=ih _ _ h;omega
theorem JY{e:ET}(h:GY e)(n:Int):(dM e n).2=true->dh (bytesOf (dM e n).1)=true/\(dM e n).1.size<=1100000:=by
 unfold dM;cases hk:oP e n with
 |none=>intro h;cases h
 |some i=>
  intro _
  have hi:i<e.names.length:=by
   have:=VG _ _ _ _ _ hk;rw[h.len];omega
  show dh (bytesOf (e.names.getD i ⟨#[]⟩))=true/\(e.names.getD i ⟨#[]⟩).size<=1100000;rw[List.getD_eq_getElem?_getD,List.getElem?_eq_getElem hi];exact h.names _ (List.getElem_mem hi)
end Go.Proofs.YtapkmjfjikpnlaaGreatDoor
