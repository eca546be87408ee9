/- A part of FnMsgJsonMeans. No conditions. -/
import Derived.Test.YtapkmjfjikpnlaaGreatDoorM04
set_option maxHeartbeats 4000000
set_option maxRecDepth 100000
namespace Go.Proofs.YtapkmjfjikpnlaaGreatDoor
open Go.RowKit YtapkmjfjikpnlaaGreatDoorW.aG YtapkmjfjikpnlaaGreatDoorW.aJ
set_option linter.unusedVariables false
set_option linter.unusedSimpArgs false
abbrev qE(P:List Int):Prop:=∀x∈P,0<=x/\x<=255
def bD(W W':World):Prop:=W.heap.size<=W'.heap.size/\∀(k:Nat)(cs:Array Value)(t:TypeId)(fr:Nat×Nat),W.heap[k]? =some (.cells cs t fr)->t≠5->t≠39->t≠55->W'.heap[k]? =W.heap[k]?
theorem bD.refl(W:World):bD W W:=⟨Nat.le_refl _,fun _ _ _ _ _ _ _ _=>rfl⟩
theorem bD.trans{W W1 W2:World}(h:bD W W1)(k:bD W1 W2):bD W W2:=
 ⟨Nat.le_trans h.1 k.1,fun i cs t fr hc h1 h2 h3=>(k.2 i cs t fr ((h.2 i cs t fr hc h1 h2 h3).trans hc) h1 h2 h3).trans (h.2 i cs t fr hc h1 h2 h3)⟩
theorem bD.below{W W1:World}(h:Below W.heap.size W W1):bD W W1:=⟨h.size,fun i cs t fr hc _ _ _=>h.block i (bJ hc)⟩
theorem JW.typ{w0 W:World}{p:Nat}{P:List Int}{a:Int}{vb vl:Value}(h:JW w0 W p P a vb vl):∃cs,W.heap[p]? =some (.cells cs 55 (0,0)):=by
 obtain⟨A,c,h,_⟩:=h;exact⟨_,h⟩
theorem bD.Un{w0 W W1:World}{p:Nat}{P:List Int}{a:Int}{vb vl:Value}{base:Nat}{xs:List Int}(h:aH W W1 p vb.ownBlock)(hj:JW w0 W p P a vb vl)(ho:OwnB W base vb xs):bD W W1:=by
 refine⟨h.1,fun i cs t fr hc h1 h2 h3=>h.2 i (bJ hc) ?_ ?_⟩
 ·rintro rfl
  obtain⟨cs',h'⟩:=hj.typ;rw[hc]at h';injection h' with h'
  injection h' with _ e _
  exact h3 e
 ·intro e
  obtain⟨inner,hi⟩:=Kd.uQ ho;obtain⟨cells,hq⟩:=jP hi i e.symm;rw[hc]at hq;injection hq with hq
  injection hq with _ e2 _
  exact h1 e2
theorem bD.but{w0 W W1:World}{p:Nat}{P:List Int}{a:Int}{vb vl:Value}(h:aH W W1 p none)(hj:JW w0 W p P a vb vl):bD W W1:=by
 refine⟨h.1,fun i cs t fr hc h1 h2 h3=>h.2 i (bJ hc) ?_ (by simp)⟩;rintro rfl;obtain⟨cs',h'⟩:=hj.typ;rw[hc]at h';injection h' with h'
 injection h' with _ e _
 exact h3 e
theorem bD.xq{W W1:World}{base:Nat}{v:Value}{xs:List Int}(hg:W.grownBy W1 v.ownBlock)(ho:OwnB W base v xs):bD W W1:=by
 refine⟨hg.size,fun i cs t fr hc h1 h2 h3=>hg.block i (bJ hc) ?_⟩;intro e;obtain⟨inner,hi⟩:=Kd.uQ ho;obtain⟨cells,hq⟩:=jP hi i e.symm;rw[hc]at hq;injection hq with hq
 injection hq with _ e2 _
 exact h1 e2
theorem bD.abh{W W1:World}{base:Nat}{v:Value}{xs:List Tok}(hg:W.grownBy W1 v.ownBlock)(ho:wI W base v xs):bD W W1:=by
 refine⟨hg.size,fun i cs t fr hc h1 h2 h3=>hg.block i (bJ hc) ?_⟩;intro e;obtain⟨inner,hi⟩:=Kd.uQ ho;obtain⟨cells,hq⟩:=jP hi i e.symm;rw[hc]at hq;injection hq with hq
 injection hq with _ e2 _
 exact h2 e2
theorem bD.set{w0 W:World}{p:Nat}{P:List Int}{a:Int}{vb vl:Value}(hj:JW w0 W p P a vb vl)(j:Nat)(u:Value):bD W (W.setCell ⟨p,j,none⟩ u):=
 bD.but ((aH.refl W p none).xM j u) hj
structure JS(w0 W:World)(p:Nat)(P:List Int)(a:Nat)(b:List Int)(l:List Tok)(vb vl:Value):Prop where
 jw:JW w0 W p P a vb vl
 ob:OwnB W w0.heap.size vb b
 ol:wI W w0.heap.size vl l
 be:Below w0.heap.size w0 W
theorem MJ{W W1:World}{base base':Nat}{v vl:Value}{xs:List Int}{l:List Tok}(hl:wI W base' vl l)(ho:OwnB W base v xs)(hg:W.grownBy W1 v.ownBlock):wI W1 base' vl l:=Kd.LZ hl ho (by decide) hg
theorem MK{W W1:World}{base base':Nat}{v vl:Value}{xs:List Int}{l:List Tok}(hl:wI W base' vl l)(ho:OwnB W base v xs)(hg:W.grownBy W1 vl.ownBlock):OwnB W1 base v xs:=Kd.LZ ho hl (by decide) hg
theorem Cj{w0 W W1:World}{p:Nat}{P:List Int}{a:Int}{vb vl:Value}{base:Nat}{b:List Int}{l:List Tok}{ok:Nat->Prop}(ho:uG.R 39 W base ok vl l)(hj:JW w0 W p P a vb vl)(hb:OwnB W base vb b)(hk:aH W W1 p vb.ownBlock):uG.R 39 W1 base ok vl l:=by
 have h1:=ho;obtain⟨cs',hc⟩:=hj.typ;have h2:=Kd.iR (Kd.vP h1 hc (by decide));refine Kd.gB (Kd.uP h2 (fun k hok hlt=>hk.2 k hlt hok.1.2 ?_)) (fun _ hk=>hk.1.1);intro e;obtain⟨_,_,_,q,hq,cells,hcell⟩:=hok;obtain⟨inner,hi⟩:=Kd.uQ hb;obtain⟨cells2,h3⟩:=jP hi k e.symm;rw[hcell]at h3;injection h3 with h3
 injection h3 with _ e2 _
 subst e2;exact absurd hq (by decide)
theorem Pv(w0 W:World)(p:Nat)(P:List Int)(a:Nat)(vb vl:Value)(b:List Int)(l:List Tok)(hP:qE P)(ha:a<=281474976710656)(hl:b.length<=140737488355000)(h:JS w0 W p P a b l vb vl):
 Calls Tryz.prog 21 #[.pointer (some ⟨p,0,none⟩)] W fun e w'=>e= .returned (.tuple #[])/\(∃vT,JS w0 w' p P (dB P a) (b++eP (dK P a 8)) l vT vl)/\bD W w':=by
 refine(Pq w0 W p P a vb vl b hP ha hl h.jw h.ob h.be).mono ?_;rintro e w1⟨rfl,⟨vT,h1,h2⟩,h3,h4⟩;exact⟨rfl,⟨vT,h1,h2,Cj h.ol h.jw h.ob h4,h3⟩,bD.Un h4 h.jw h.ob⟩
theorem aek:(Tryz.prog.info? 39).map (fun i=>(i.zero,i.size,i.bytes))=some (some (.agg #[.int .i64 0,.int .i64 0,.string ⟨#[]⟩,.string ⟨#[]⟩,.bool false]),5,56):=by kernel_rfl
section
variable{ops:Array Oper}{o:Oper}{a:Act}{Q:Exit->Act->World->Prop}{Kc:Act->World->Prop}{rest:List Oper}
theorem Gv{W:World}{base:Nat}(hw:Region.wanted o (yielded ops a.tmps)=true)(s x:Operand)
 (ho:o.op= .call {callee:=.builtin .append,args:=#[s,x],argTypes:=#[30,30]}) (v:Value) (xs:List Tok) (kind pos:Int) (raw sx:ByteArray) (boo:Bool) (ok:Nat->Prop) (hs:a.eval s=v) (hx:a.eval x= .slice (some ⟨W.heap.size,0,none⟩) 1 1)
 (HO:uG.R 39 W base ok v xs) (hfresh:∀k,W.heap.size<=k->ok k) (hbase:base<=W.heap.size) (hl:xs.length<=1000000000000)
 (h:∀v1 w1,uG.R 39 w1 base ok v1 (xs++[⟨kind,pos,raw,sx,boo⟩])->W.grownBy w1 v.ownBlock->Kc (a.put o.dst v1) w1):
 if Region.wanted o (yielded ops a.tmps)=true then Oper.wp Tryz.prog o a (W.alloc (.cells #[.int .i64 kind,.int .i64 pos,.string raw,.string sx,.bool boo] 39)).drew Kc Q
 else Kc (a.put o.dst undef) (W.alloc (.cells #[.int .i64 kind,.int .i64 pos,.string raw,.string sx,.bool boo] 39)).drew:=
 Kd.qQ uG (w0:=W.drew) (W:=W.drew) base hw s x 30 39 (.agg #[.int .i64 0,.int .i64 0,.string ⟨#[]⟩,.string ⟨#[]⟩,.bool false]) 56 ho Tryz.underlying30 aek rfl (by decide) (by omega) v xs ⟨kind,pos,raw,sx,boo⟩
  [.int .i64 kind,.int .i64 pos,.string raw,.string sx,.bool boo] ok (fun _=>False) hs hx (Uj _ _ _ _) (fun _ h=>h.elim) hfresh (Kd.nY HO) (bg _ _) hbase (by omega) (fun v1 w1 ho _ hg _=>h v1 w1 ho ⟨hg.os,hg.tape,hg.output,hg.size,hg.block⟩)
end
theorem bD.box{W:World}{k:Nat}{cs:Array Value}(h:W.heap[k]? =some (.cells cs 39 (0,0)))(j:Nat)(u:Value):bD W (W.setCell ⟨k,j,none⟩ u):=by
 refine⟨by simp[World.setCell],fun i cs' t fr hc h1 h2 h3=>Below.heap_setCell W _ u i ?_⟩;rintro rfl;rw[h]at hc;injection hc with hc
 injection hc with _ e _
 exact h2 e.symm
theorem QH{w0 W W1:World}{p:Nat}{P:List Int}{a:Int}{vb vl:Value}{base:Nat}{b:List Int}{k:Nat}{cs:Array Value}(hc:W.heap[k]? =some (.cells cs 39 (0,0)))(hj:JW w0 W p P a vb vl)(hb:OwnB W base vb b)(hk:aH W W1 p vb.ownBlock):W1.heap[k]? =some (.cells cs 39 (0,0)):=by
 refine(hk.2 k (bJ hc) ?_ ?_).trans hc
 ·rintro rfl
  obtain⟨cs',h'⟩:=hj.typ;exact absurd (aaW hc h' (by decide)) (by simp)
 ·intro e
  exact Kd.xP hb hc (by decide) e
theorem Yp(w0 W:World)(p:Nat)(P:List Int)(a:Nat)(vb vl:Value)(b:List Int)(l:List Tok)(kind pos:Int)(raw sx text:ByteArray)(boo:Bool)(hP:qE P)(ha:a<=281474976710656)(hl:b.length+text.size<=140737488355000)(hll:l.length<=1000000000000)(h:JS w0 W p P a b l vb vl):
 Calls Tryz.prog 44 #[.pointer (some ⟨p,0,none⟩),.agg #[.int .i64 kind,.int .i64 pos,.string raw,.string sx,.bool boo],.string text] W fun e w'=>e= .returned (.tuple #[])/\
  (∃vT Gw,JS w0 w' p P (dB P a) (b++eP (dK P a 8)++bytesOf text) (l++[⟨kind,(b++eP (dK P a 8)).length,text,sx,boo⟩]) vT Gw)/\bD W w':=by
 obtain⟨W0,hW0⟩:∃W0,W0=W.alloc (.cells #[.int .i64 kind,.int .i64 pos,.string raw,.string sx,.bool boo] 39):=⟨_,rfl⟩
 have h0:JS w0 W0 p P a b l vb vl:=by rw[hW0];exact⟨h.jw.alloc _,Kd.kX h.ob _,Kd.kX h.ol _,ak h.be _⟩
 have hbx:W0.heap[W.heap.size]? =some (.cells #[.int .i64 kind,.int .i64 pos,.string raw,.string sx,.bool boo] 39 (0,0)):=by rw[hW0];exact heap_alloc_new W _
 have hk0:bD W W0:=by rw[hW0];exact bD.below (ak (bg _ _) _)
 have hol:uG.R 39 W0 w0.heap.size (fun k=>k≠W.heap.size) vl l:=by
  rw[hW0];exact Kd.kX (Kd.gB (Kd.iR h.ol) (fun k hk=>Nat.ne_of_lt hk.2.2.1)) _
 have HOL:=ah hol;have hpH:p≠W.heap.size:=Nat.ne_of_lt h.jw.lt;have HPH:=ah hpH;have Eh:=ah (show w0.heap.size<=W.heap.size from h.be.size);have HC:=ah (Pq w0 W0 p P a vb vl b hP ha (by omega) h0.jw h0.ob h0.be);have H0:=ah h0;have TD:=ah hbx;have HK0:=ah hk0;rw[hW0]at HC;have HW0:=ah hW0;have HL:=ah hl;have HLL:=ah hll;obtain⟨b1,hb1⟩:∃b1,b1=b++eP (dK P a 8):=⟨_,rfl⟩
 have Yq:b1.length<=b.length+4:=by
  rw[hb1,List.length_append];have:=jg (P:=P) (a:=a) (n:=8) (by decide) hP;have:=space_bytes this.1 this.2;have e:=bV (eP (dK P a 8));omega
 rw[<-hb1]at HC ⊢;have HB1:=ah Yq;clear h h0 hbx hk0 hol hpH hP hl hll hW0 hb1 Yq ha;go_enter Tryz.func44,Tryz.ntmps44
 go_wp2_with (first|(go_at_call 21;(with_reducible refine HC.out.mono ?_);rintro e w1⟨rfl,⟨vT,hj1,ho1⟩,hbe1,hk1⟩;obtain⟨A1,c1,rfl⟩:=Kd.fC ho1;rw[<-HW0.out]at hk1;have hx1:=QH TD.out H0.out.jw H0.out.ob hk1;have HX1:=ah hx1;have c0:=hj1.c0;have x1:=aA hx1 1;have x2:=aA hx1 2;have z1:=aN hx1 1;have z2:=aN hx1 2;have HT1:=ah (Cj HOL.out H0.out.jw H0.out.ob hk1);have HK1:=ah (HK0.out.trans (bD.Un hk1 H0.out.jw H0.out.ob));have HJ1:=ah hj1;have HO1:=ah ho1;have HBe1:=ah hbe1;clear hj1 ho1 hbe1 hk1 hx1)|(at_builtin;refine Yn (w0:=w0) rfl (.tmp 20) (.tmp 21) rfl (.slice A1 b1.length c1) b1 text rfl rfl (Kd.jY (Kd.jY HO1.out HX1.out (by decide) 1 _) (aW HX1.out 1 _) (by decide) 2 _) (aV (aV HBe1.out Eh.out) Eh.out) (by have:=HL.out;have:=HB1.out;omega) ?_;intro v2 w2 ho2 hb2 hg2;have HO2:=ah ho2;have HBe2:=ah hb2;have HG2:=ah hg2;have HJ2:=ah (JW.grown ((HJ1.out.move (Below.heap_setCell _ ⟨W.heap.size,1,none⟩ _ p HPH.out)).move (Below.heap_setCell _ ⟨W.heap.size,2,none⟩ _ p HPH.out)) hg2 (HJ1.out.MI HO1.out));have q0:=HJ2.out.c0;have q1:=HJ2.out.f0;obtain⟨A3,n3,c3,rfl⟩:=fQ ho2;clear ho2 hb2 hg2))
 obtain⟨w3,hw3⟩:∃w3,w3=w2.setCell ⟨p,0,none⟩ (.slice A3 n3 c3):=⟨_,rfl⟩
 rw[<-hw3];have hOs:OwnB ((w1.setCell ⟨W.heap.size,1,none⟩ (.int .i64 b1.length)).setCell ⟨W.heap.size,2,none⟩ (.string text)) w0.heap.size (.slice A1 b1.length c1) b1:=Kd.jY (Kd.jY HO1.out HX1.out (by decide) 1 _) (aW HX1.out 1 _) (by decide) 2 _;have hne:some W.heap.size≠(Value.slice A1 b1.length c1).ownBlock:=Kd.xP hOs (aW (aW HX1.out 1 (.int .i64 b1.length)) 2 (.string text)) (by decide);have hX2:=(HG2.out.block W.heap.size (bJ (aW (aW HX1.out 1 (.int .i64 b1.length)) 2 (.string text))) hne).trans (aW (aW HX1.out 1 (.int .i64 b1.length)) 2 (.string text))
 have hX3:w3.heap[W.heap.size]? =some (.cells #[.int .i64 kind,.int .i64 b1.length,.string text,.string sx,.bool boo] 39 (0,0)):=by
  rw[hw3];exact(Below.heap_setCell _ ⟨p,0,none⟩ _ _ (Ne.symm HPH.out)).trans hX2
 have HJ3:aC (JW w0 w3 p P (dB P a) (.slice A3 n3 c3) vl):=⟨by rw[hw3];exact HJ2.out.set0 _⟩;have HO3:aC (OwnB w3 w0.heap.size (.slice A3 n3 c3) (b1++bytesOf text)):=⟨by rw[hw3];exact AV HO2.out HJ2.out 0 _⟩;have HBe3:aC (Below w0.heap.size w0 w3):=⟨by rw[hw3];exact aV HBe2.out HJ2.out.ge⟩
 have HT3:aC (uG.R 39 w3 w0.heap.size (fun k=>k≠W.heap.size) vl l):=by
  obtain⟨cs',hp⟩:=HJ2.out.typ;have t1:=Kd.zI (p:=⟨W.heap.size,2,none⟩) (Kd.zI (p:=⟨W.heap.size,1,none⟩) HT1.out (fun _ hk=>hk) (.int .i64 b1.length)) (fun _ hk=>hk) (.string text);have t2:=Kd.LZ t1 hOs (by decide) HG2.out;exact⟨by rw[hw3];exact Kd.jY t2 hp (by decide) 0 _⟩
 have HK3:aC (bD W w3):=⟨by
  rw[hw3];exact(((HK1.out.trans (bD.box HX1.out 1 _)).trans (bD.box (aW HX1.out 1 _) 2 _)).trans (bD.xq HG2.out hOs)).trans (bD.set HJ2.out 0 _)⟩
 have HX3:=ah hX3;have y0:w3.cell? ⟨W.heap.size,0,none⟩=some (.int .i64 kind):=aA hX3 0;have y1:w3.cell? ⟨W.heap.size,1,none⟩=some (.int .i64 b1.length):=aA hX3 1;have y2:w3.cell? ⟨W.heap.size,2,none⟩=some (.string text):=aA hX3 2;have y3:w3.cell? ⟨W.heap.size,3,none⟩=some (.string sx):=aA hX3 3;have y4:w3.cell? ⟨W.heap.size,4,none⟩=some (.bool boo):=aA hX3 4;have v3:=HJ3.out.c3;have v4:=HJ3.out.f3;clear hOs hX3 hX2 hne hw3 q0 q1 c0 x1 x2 z1 z2;have kQ:=ah (bJ HX3.out);have ha3:=fun o=>(HJ3.out.alloc o).c3
 go_region_law (first|(refine Gv (W:=w3) (base:=w0.heap.size) (by kernel_rfl) (.tmp 29) (.tmp 31) rfl vl l kind b1.length text sx boo (fun k=>k≠W.heap.size) (by rfl) (by rfl) HT3.out (fun k hk=>Nat.ne_of_gt (Nat.lt_of_lt_of_le kQ.out hk)) HBe3.out.size HLL.out ?_;intro v5 w5 ho5 hg5;have HJ5:=ah (JW.grown HJ3.out hg5 (HJ3.out.Ci (Kd.gB HT3.out (fun _ _=>trivial))));have HB5:=ah (MK (Kd.gB HT3.out (fun _ _=>trivial)) HO3.out hg5);have HK5:=ah (HK3.out.trans (bD.abh hg5 (Kd.gB HT3.out (fun _ _=>trivial))));have HBe5:=ah (HBe3.out.grown hg5 HBe3.out.size (Kd.lC HT3.out));have HO5:=ah ho5;obtain⟨A5,n5,c5,rfl⟩:=fQ ho5;have u0:=HJ5.out.c3;have u1:=HJ5.out.f3;clear ho5 hg5))
 all_goals
  go_end0
  refine⟨rfl,⟨_,_,⟨HJ5.out.set3 _,AV HB5.out HJ5.out 3 _,IZ (Kd.gB HO5.out (fun _ _=>trivial)) HJ5.out 3 _,aV HBe5.out HJ5.out.ge⟩⟩,HK5.out.trans (bD.set HJ5.out 3 _)⟩
end Go.Proofs.YtapkmjfjikpnlaaGreatDoor
