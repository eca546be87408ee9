/- A part of FnMsgJsonMeans. No conditions. -/
import Derived.Test.YtapkmjfjikpnlaaGreatDoorM40
set_option maxHeartbeats 16000000
set_option maxRecDepth 100000
namespace Go.Proofs.YtapkmjfjikpnlaaGreatDoor
open Go.RowKit YtapkmjfjikpnlaaGreatDoorW.aG YtapkmjfjikpnlaaGreatDoorW.aJ
set_option linter.unusedVariables false
set_option linter.unusedSimpArgs false
theorem afw:(Tryz.prog.info? 76).map (fun i=>(i.zero,i.size,i.bytes))=some (some (.agg #[.bool false,.int .i64 0,.int .u64 0,.int .u64 0,.string ⟨#[]⟩,.slice none 0 0]),6,72):=by kernel_rfl
abbrev DN(w0 W:World)(k:Nat)(B:Nat)(v:Value)(xs:List Val):Prop:=(iU k).R 76 W B (fun _=>True) v xs
theorem Qk{w0 W:World}{k B:Nat}{ops:Array Oper}{rest:List Oper}{o:Oper}{a:Act}{Q:Exit->Act->World->Prop}(hgd:o.guard=none)(s x:Operand)
 (ho:o.op= .call {callee:=.builtin .append,args:=#[s,x],argTypes:=#[66,66]}) {v:Value} {xs:List Val} (y:Val) (cs:List Value) (b9:Nat) (hs:a.eval s=v) (hx:a.eval x= .slice (some ⟨W.heap.size,0,none⟩) 1 1)
 (hM:(iU k).M W b9 (fun _=>True) y cs) (h0:w0.heap.size<=B) (h9:B<=b9) (hlt:∀b,v.ownBlock=some b->b<b9) (hBW:B<=W.heap.size)
 (HO:DN w0 W k B v xs) (HB:Below w0.heap.size w0 W) (hl:xs.length<=1000000000000)
 (h:∀v1 w1,DN w0 w1 k B v1 (xs++[y])->Below w0.heap.size w0 w1->W.grownBy w1 v.ownBlock->wpList Tryz.prog ops Q rest (a.put o.dst v1) w1):
 wpList Tryz.prog ops Q (o::rest) a (W.alloc (.cells cs.toArray 76)):=
 Kd.nJ (iU k) (w0:=W) B hgd s x 66 76 _ 72 ho Tryz.underlying66 afw rfl (by rw[PS];decide) (by omega) v xs y cs (fun _=>True) (fun b=>b9<=b) hs hx ((iU k).iG h9 ((iU k).fP (fun b hb=>hb.2.1) ((iU k).fK hM))) (fun b hb=>⟨trivial,fun e=>by have:=hlt b e.symm;omega⟩) (fun _ _=>trivial) HO (bg _ _) hBW (by omega)
  fun v1 w1 ho hb hg _=>h v1 w1 ho (uO HB _ (Nat.le_trans h0 hBW) hg (fun b hb=>Nat.le_trans h0 (Kd.lC HO b hb))) hg
section
variable(w0:World)(q:Nat)(S:fM)(A0:Option Addr)(c0:Nat)(A1:Option Addr)(c1:Nat)(At:Option Addr)(cT:Nat)(L:List Tok)
def Lh(W:World)(n:Nat)(xs:List Val)(b:Nat)(e:Ending)(w':World):Prop:=∃v,e= .returned v/\DN w0 w' n W.heap.size v xs/\RS w0 w' q S A0 c0 A1 c1 At cT L b/\aH W w' q none
structure Lj(k n a:Nat)(t:FT)(vs:List Val)(ts:List TK):Prop where
 ok:sG S t
 fit:∀v∈vs,AO S (oZ S k) t v
 key:aT t.kind=8->∀v∈vs,rC S k t.typ v.dA
 uni:t.map=true->∀(a b:Nat)(x y:Val),a<b->vs[a]? =some x->vs[b]? =some y->qp x≠qp y
 tok:AA S (wL S n) t vs ts
 at_:lI L a ts
def aaP(k:Nat):Prop:=∀(t:FT)(vs:List Val)(ts:List TK)(n a:Nat)(deep:Int)(W:World),Lj S L k n a t vs ts->(k:Int)<deep->deep<=25->RS w0 W q S A0 c0 A1 c1 At cT L a->
 Calls Tryz.prog 57 #[.pointer (some ⟨q,0,none⟩),mQ t,.int .i64 deep] W (Lh w0 q S A0 c0 A1 c1 At cT L W k (vs.map (gQ (eG k))) (a+ts.length))
end
theorem Ll(w0:World)(q:Nat)(S:fM)(A0:Option Addr)(c0:Nat)(A1:Option Addr)(c1:Nat)(At:Option Addr)(cT:Nat)(L:List Tok)(k:Nat)(t:FT)(x:TK)(hx:x.kind=2)(a:Nat)(deep:Int)(W:World)(hA:lI L a [x])(hR:RS w0 W q S A0 c0 A1 c1 At cT L a):
 Calls Tryz.prog 57 #[.pointer (some ⟨q,0,none⟩),mQ t,.int .i64 deep] W (Lh w0 q S A0 c0 A1 c1 At cT L W k [] (a+1)):=by
 obtain⟨u,hu,hut,_⟩:=hA.head;have hk:u.kind=2:=by have:=congrArg TK.kind hut;rw[hx]at this;exact this
 obtain⟨W1,hW1⟩:∃W1,W1=W.alloc (.cells #[.string t.name,.int .i64 t.num,.int .i64 t.kind,.bool t.rep,.bool t.map,.int .i64 t.typ] 70):=⟨_,rfl⟩
 obtain⟨hR1,hk1,hz1⟩:=hR.boxed (aH.refl W q none) hW1;have Eb:=ah (qA w0 W1 q S A0 c0 A1 c1 At cT L a hR1 u hu.out 2 hk);have oC:=ah (fun Wx(hb:Below W1.heap.size W1 Wx)=>lJ w0 Wx q S A0 c0 A1 c1 At cT L a (hR1.below hb) u hu.out 2 hk);have HW1:=ah hW1;have HK1:=ah hk1;clear hA hR hut hk hW1 hR1 hk1 hz1 hx;go_enter Tryz.func57,Tryz.ntmps57
 go_upto_region 1 with fail
 rw[<-HW1.out]
 go_wp2_with (first|(go_at_call 55;(with_reducible refine Eb.out.mono ?_);rintro e' w1⟨rfl,hb⟩;have HB1:=ah hb;clear hb)|(go_at_call 54;(with_reducible refine(oC.out _ HB1.out).mono ?_);rintro e' w2⟨rfl,hr,hk⟩;have HR2:=ah hr;have HK2:=ah (HK1.out.trans ((aH.of_below HB1.out q none).trans hk (.inl rfl)) (.inl rfl));clear hr hk))
 go_ret
 exact⟨_,rfl,Kd.mP _ _ _ _ _,HR2.out,HK2.out⟩
theorem OO(w0:World)(q:Nat)(S:fM)(A0:Option Addr)(c0:Nat)(A1:Option Addr)(c1:Nat)(At:Option Addr)(cT:Nat)(L:List Tok)(k:Nat)(DL:Xr w0 q S A0 c0 A1 c1 At cT L k)(t:FT)(v:Val)(ts:List TK)(n a:Nat)(deep:Int)(W:World)(hI:Lj S L k n a t [v] ts)(hv:wL S n t v ts)(hr:t.rep=false)(hm:t.map=false)(hd:(k:Int)<deep)(hd2:deep<=25)(hR:RS w0 W q S A0 c0 A1 c1 At cT L a):
 Calls Tryz.prog 57 #[.pointer (some ⟨q,0,none⟩),mQ t,.int .i64 deep] W (Lh w0 q S A0 c0 A1 c1 At cT L W k [gQ (eG k) v] (a+ts.length)):=by
 obtain⟨x,r,hxr,hx2,_⟩:=Iq hv;have hA:=hI.at_;rw[hxr]at hA;obtain⟨u,hu,hut,_⟩:=hA.head;have hk:u.kind=x.kind:=congrArg TK.kind hut;have dn:(u.kind==2)=false:=eqF (by rw[hk];exact hx2);obtain⟨W1,hW1⟩:∃W1,W1=W.alloc (.cells #[.string t.name,.int .i64 t.num,.int .i64 t.kind,.bool t.rep,.bool t.map,.int .i64 t.typ] 70):=⟨_,rfl⟩
 obtain⟨hR1,hk1,hz1⟩:=hR.boxed (aH.refl W q none) hW1;have Eb:=ah (zC w0 W1 q S A0 c0 A1 c1 At cT L a hR1 u hu.out);obtain⟨X,hX⟩:∃X,X=gQ (eG k) v:=⟨_,rfl⟩
 have HV:=ah (fun Wx(h:RS w0 Wx q S A0 c0 A1 c1 At cT L a)=>DL t v ts n a deep Wx hI.ok (hI.fit v (by simp)) (fun h8=>hI.key h8 v (by simp)) hv hI.at_ hd hd2 h);rw[<-hX]at HV ⊢;have HW1:=ah hW1;have HK1:=ah hk1;have HR1:=ah hR1;have HZ1:=ah hz1;have kQ:=ah (show W.heap.size<W1.heap.size/\w0.heap.size<=W.heap.size from⟨bJ hz1,hR.be.size⟩);rw[hr,hm]at HZ1;rw[show mQ t= .agg #[.string t.name,.int .i64 t.num,.int .i64 t.kind,.bool false,.bool false,.int .i64 t.typ]by rw[mQ,hr,hm]]at HV;clear hA hR hut hk hW1 hR1 hk1 hz1 hxr hx2 hI hv DL hX hd hd2 hr hm;go_enter Tryz.func57,Tryz.ntmps57
 go_upto_region 1 with fail
 rw[<-HW1.out];clear HW1
 go_upto_region 5 with(go_at_call 55;(with_reducible refine Eb.out.mono ?_);rintro e' w1⟨rfl,hb⟩;have HB1:=ah hb;have HV1:=ah (HV.out w1 (HR1.out.below hb));obtain⟨⟨b0,b1,b2,b3,b4,b5⟩,_⟩:=eu (aI HZ1.out hb);clear hb)
 go_wp2_with (go_at_call 116;(with_reducible refine HV1.out.mono ?_);rintro e' w2⟨cs,rfl,hM,hr,hk⟩;obtain⟨Av,cv,rfl,_,_⟩:=sF ((iU k).fJ hM);have HM2:=ah hM;have HR2:=ah (And.intro hr (HK1.out.trans ((aH.of_below HB1.out q none).trans hk (.inl rfl)) (.inl rfl)));have HS2:=ah (And.intro HB1.out.size hk.1);clear hM hr hk)
 go_ret
 have hz:=kQ.out;have hs:=HS2.out;have hM:(iU k).M w2 W.heap.size (fun _=>True) X _:=(iU k).iG (show W.heap.size<=w1.heap.size by omega) HM2.out;exact⟨_,rfl,Bz (iU k) w2 W.heap.size 76 (Qj hM rfl) trivial (by omega) (by simp),HR2.out.1.below (ak (bg _ _) _),pX HR2.out.2 _⟩
theorem All2.get{α β:Type}{R:α->β->Prop}{l:List α}{m:List β}(h:All2 R l m):∀{j:Nat}{x:α},l[j]? =some x->∃y,m[j]? =some y/\R x y:=by
 induction h with
 |nil=>intro j x hx;cases hx
 |cons h1 _ ih=>
  intro j x hx;cases j with
  |zero=>rw[List.getElem?_cons_zero]at hx ⊢;cases hx;exact⟨_,rfl,h1⟩
  |succ j=>rw[List.getElem?_cons_succ]at hx ⊢;exact ih hx
theorem DR{α:Type}{l:List α}{j:Nat}{x:α}(h:l[j]? =some x):l.drop j=x::l.drop (j+1):=by
 obtain⟨h1,h2⟩:=List.getElem?_eq_some_iff.1 h;rw[List.drop_eq_getElem_cons h1,h2]
theorem uj{α β:Type}{l:List α}{j:Nat}{x:α}(h:l[j]? =some x)(f:α->β):(l.take (j+1)).map f=(l.take j).map f++[f x]:=by
 obtain⟨h1,h2⟩:=List.getElem?_eq_some_iff.1 h;rw[List.take_succ_eq_append_getElem h1,List.map_append,h2];rfl
theorem kW{w0 W wr w2:World}{k q:Nat}{v:Value}{xs:List Val}(h:DN w0 wr k W.heap.size v xs)(hk:aH wr w2 q none)(hq:q<W.heap.size):DN w0 w2 k W.heap.size v xs:=Kd.gB (Kd.sV (Kd.iR h) hk (fun b hb=>by have:=hb.2.1;omega)) (fun _ _=>trivial)
theorem Lm{w0 W w2 w3:World}{k q:Nat}{v:Value}{xs:List Val}(hk:aH W w2 q none)(ho:DN w0 w2 k W.heap.size v xs)(hg:w2.grownBy w3 v.ownBlock):aH W w3 q none:=by
 refine hk.trans (aH.BH hg q) ?_;cases hv:v.ownBlock with
 |none=>exact .inl rfl
 |some b=>exact .inr ⟨b,rfl,Kd.lC ho b hv⟩
theorem Xz{w0 W w2 w3:World}{q k:Nat}{S:fM}{A0:Option Addr}{c0:Nat}{A1:Option Addr}{c1:Nat}{At:Option Addr}{cT:Nat}{L:List Tok}{a:Nat}{v:Value}{xs:List Val}(h:RS w0 w2 q S A0 c0 A1 c1 At cT L a)(ho:DN w0 w2 k W.heap.size v xs)(hq:q<W.heap.size)(hb:Below w0.heap.size w0 w3)(hg:w2.grownBy w3 v.ownBlock):RS w0 w3 q S A0 c0 A1 c1 At cT L a:=
 ⟨Qw h.blk hg (fun e=>by have:=Kd.lC ho q e.symm;omega),hb,h.ge,h.toks,h.len⟩
theorem OQ(w0:World)(q:Nat)(S:fM)(A0:Option Addr)(c0:Nat)(A1:Option Addr)(c1:Nat)(At:Option Addr)(cT:Nat)(L:List Tok)(k:Nat)(DL:Xr w0 q S A0 c0 A1 c1 At cT L k)(t:FT)(vs:List Val)(o c:TK)(Ls:List (List TK))(ho:o.kind=256)(hc:c.kind=512)(n:Nat)(h2:∀(j:Nat)(x:Val),vs[j]? =some x->∃y,Ls[j]? =some y/\wL S n t x y)(hlen:vs.length=Ls.length)(a:Nat)(deep:Int)(W:World)(hI:Lj S L k n a t vs (o::(Ls.flatten++[c])))(hr:t.rep=true)(hm:t.map=false)(hd:(k:Int)<deep)(hd2:deep<=25)(hR:RS w0 W q S A0 c0 A1 c1 At cT L a):
 Calls Tryz.prog 57 #[.pointer (some ⟨q,0,none⟩),mQ t,.int .i64 deep] W (Lh w0 q S A0 c0 A1 c1 At cT L W k (vs.map (gQ (eG k))) (a+(o::(Ls.flatten++[c])).length)):=by
 obtain⟨u,hu,hut,hat⟩:=hI.at_.head;have hk:u.kind=256:=by have:=congrArg TK.kind hut;rw[ho]at this;exact this
 obtain⟨W1,hW1⟩:∃W1,W1=W.alloc (.cells #[.string t.name,.int .i64 t.num,.int .i64 t.kind,.bool t.rep,.bool t.map,.int .i64 t.typ] 70):=⟨_,rfl⟩
 obtain⟨hR1,hk1,hz1⟩:=hR.boxed (aH.refl W q none) hW1;have yM:=bJ hR.blk;have Eb:=ah (qA w0 W1 q S A0 c0 A1 c1 At cT L a hR1 u hu.out 256 hk);have oC:=ah (fun Wx(h:RS w0 Wx q S A0 c0 A1 c1 At cT L a)=>lJ w0 Wx q S A0 c0 A1 c1 At cT L a h u hu.out 256 hk);have HV:=ah (fun(j p:Nat)(x:Val)(y:List TK)(hj:vs[j]? =some x)(hy:wL S n t x y)Wx(ha:lI L p y)(h:RS w0 Wx q S A0 c0 A1 c1 At cT L p)=>DL t x y n p deep Wx hI.ok (hI.fit x (List.mem_of_getElem? hj)) (fun h8=>hI.key h8 x (List.mem_of_getElem? hj)) hy ha hd hd2 h);have HW1:=ah hW1;have HK1:=ah hk1;have HR1:=ah hR1;have kQ:=ah (show W.heap.size<W1.heap.size/\w0.heap.size<=W.heap.size from⟨bJ hz1,hR.be.size⟩);rw[hr,hm]at hz1;have uN:=ah (fun(w2:World)(hk:aH W1 w2 q none)=>hk.blk hz1 (Nat.ne_of_gt yM) (by simp));rw[show mQ t= .agg #[.string t.name,.int .i64 t.num,.int .i64 t.kind,.bool true,.bool false,.int .i64 t.typ]by rw[mQ,hr,hm]]at HV;have HQ:=ah (show q<W1.heap.size from Nat.lt_trans yM (bJ hz1));have HAt:=ah hat;have XY:=ah hc;have H2:=ah h2;have HLn:=ah hlen;clear hR hut hk hW1 hR1 hk1 hz1 hI DL hd hd2 hr hm hat yM h2 hc hlen ho;go_enter Tryz.func57,Tryz.ntmps57
 go_upto_region 1 with fail
 rw[<-HW1.out];clear HW1
 go_upto_region 5 with(go_at_call 55;(with_reducible refine Eb.out.mono ?_);rintro e' w1⟨rfl,hb⟩;have HR2:=ah (And.intro (HR1.out.below hb) (aH.of_below hb q none));obtain⟨⟨b0,b1,b2,b3,b4,b5⟩,_⟩:=eu (uN.out w1 (aH.of_below hb q none));clear hb)
 go_wp2_with (go_at_call 54;(with_reducible refine(oC.out _ HR2.out.1).mono ?_);rintro e' w2⟨rfl,hr,hk⟩;have HR3:=ah (And.intro hr (HR2.out.2.trans hk (.inl rfl)));clear hr hk)
 clear b0 b1 b2 b3 b4 b5
 go_loopg [7] vs.length (fun g v7 w'=>∃(j p:Nat),j+g=vs.length/\aC (j<=p/\lI L p ((Ls.drop j).flatten++[c])/\p+((Ls.drop j).flatten++[c]).length=a+(o::(Ls.flatten++[c])).length)/\aC (DN w0 w' k W1.heap.size v7 ((vs.take j).map (gQ (eG k))))/\aC (RS w0 w' q S A0 c0 A1 c1 At cT L p/\aH W1 w' q none))
 case atStart=>exact⟨0,a+1,by omega,⟨by omega,HAt.out,by simp;omega⟩,⟨Kd.mP _ _ _ _ _⟩,HR3⟩
 case round=>
  obtain⟨j,p,hg,HP,HO,wK⟩:=hrel;have tr:=wK.out.1.cells.2.2.2.2;obtain⟨⟨b0,b1,b2,b3,b4,b5⟩,_⟩:=eu (uN.out wr wK.out.2);cases gk with
  |succ g=>
   obtain⟨x,hx⟩:=bF (show j<vs.length by omega);obtain⟨y,hy,hvy⟩:=H2.out j x hx.out;have EJ:=ah (show(Ls.drop j).flatten++[c]=y++((Ls.drop (j+1)).flatten++[c])by rw[DR hy,List.flatten_cons,List.append_assoc]);obtain⟨z,rz,hz,_,hz5⟩:=Iq hvy;have hA:=HP.out.2.1;rw[EJ.out]at hA;have hA1:=hA.left;have HA2:=ah hA.right;have hA3:=hA1;rw[hz]at hA3;obtain⟨u',hu',rF,_⟩:=hA3.head;have hk':u'.kind=z.kind:=congrArg TK.kind rF;have dn:(u'.kind !=512)=true:=Ci (by rw[hk'];exact hz5);have HNx2:=ah (zC w0 wr q S A0 c0 A1 c1 At cT L p wK.out.1 u' hu'.out);have Um:=ah (show p<=1000000000000 by have:=(List.getElem?_eq_some_iff.1 hu'.out).1;have:=wK.out.1.len;omega);have HVj:=ah (fun Wx(h:RS w0 Wx q S A0 c0 A1 c1 At cT L p)=>HV.out j p x y hx.out hvy Wx hA1 h);obtain⟨X,hX⟩:∃X,X=gQ (eG k) x:=⟨_,rfl⟩
   rw[<-hX]at HVj;have FD:=ah (show(vs.take (j+1)).map (gQ (eG k))=(vs.take j).map (gQ (eG k))++[X]by rw[hX];exact uj hx.out _);have HYl:=ah (show 1<=y.length by rw[hz,List.length_cons];omega);have HG:=ah hg;obtain⟨Av7,n7,c7,rfl⟩:∃A n c,u7= .slice A n c:=by obtain⟨A,c,e⟩:=Kd.fC HO.out;exact⟨A,_,c,e⟩
   clear hg hA hA1 hA3 rF hk' hz hz5 hX hvy hy hu'
   go_upto_region 13 with(go_at_call 55;(with_reducible refine HNx2.out.mono ?_);rintro e' w3⟨rfl,hb⟩;have HB3:=ah hb;clear hb)
   obtain⟨⟨d0,d1,d2,d3,d4,d5⟩,_⟩:=eu (uN.out w3 (iq wK.out.2 HB3.out));have HV3:=ah (HVj.out w3 (wK.out.1.below HB3.out));clear b0 b1 b2 b3 b4 b5 tr dn
   go_wp2_with (first|(go_at_call 116;(with_reducible refine HV3.out.mono ?_);rintro e' w4⟨cs,rfl,hM,hr,hk⟩;obtain⟨Av,cv,rfl,_,_⟩:=sF ((iU k).fJ hM);have HM4:=ah hM;have HR4:=ah (And.intro hr (wK.out.2.trans ((aH.of_below HB3.out q none).trans hk (.inl rfl)) (.inl rfl)));have HS4:=ah hk.1;have HO4:=ah (kW (kW HO.out (aH.of_below HB3.out q none) HQ.out) hk HQ.out);clear hM hr hk d0 d1 d2 d3 d4 d5)|(at_builtin;refine Qk (w0:=w0) (B:=W1.heap.size) (v:=.slice Av7 n7 c7) (xs:=(vs.take j).map (gQ (eG k))) rfl (.tmp 59) (.tmp 64) rfl X _ w3.heap.size rfl rfl HM4.out ?b0 ?b9 ?blt ?bW HO4.out HR4.out.1.be ?bl ?_;(case b0=>have:=kQ.out;have:=HB3.out.size;have:=wK.out.2.1;omega);(case b9=>have:=kQ.out;have:=HB3.out.size;have:=wK.out.2.1;omega);(case blt=>intro b hb;have:=Kd.aee HO.out b hb;have:=HB3.out.size;omega);(case bW=>have:=kQ.out;have:=HR4.out.2.1;omega);(case bl=>rw[List.length_map,List.length_take];have:=HP.out.1;have:=Um.out;omega);intro v1 w5 ho hb hg;have HO5:=ah ho;have HR5:=ah (And.intro (Xz HR4.out.1 HO4.out HQ.out hb hg) (Lm HR4.out.2 HO4.out hg));clear ho hb hg))
   go_roundg g
   case measure=>omega
   case rel=>
    refine⟨j+1,p+y.length,by have:=HG.out;omega,⟨by have:=HP.out.1;have:=HYl.out;omega,HA2.out,?_⟩,⟨by rw[FD.out];exact HO5.out⟩,HR5⟩;have h1:=HP.out.2.2;rw[EJ.out,List.length_append]at h1;omega
  |zero=>
   obtain rfl:j=vs.length:=by omega
   have hA:=HP.out.2.1;rw[List.drop_eq_nil_of_le (by rw[HLn.out];exact Nat.le_refl _)]at hA;obtain⟨u',hu',rF,_⟩:=lI.head (t:=c) (ts:=[]) hA;have hk':u'.kind=512:=by have:=congrArg TK.kind rF;rw[XY.out]at this;exact this
   have HNx2:=ah (qA w0 wr q S A0 c0 A1 c1 At cT L p wK.out.1 u' hu'.out 512 hk');have HTk2:=ah (fun Wx(h:RS w0 Wx q S A0 c0 A1 c1 At cT L p)=>lJ w0 Wx q S A0 c0 A1 c1 At cT L p h u' hu'.out 512 hk')
   have HPe:=ah (show p+1=a+(o::(Ls.flatten++[c])).length by
    have h1:=HP.out.2.2;rw[List.drop_eq_nil_of_le (by rw[HLn.out];exact Nat.le_refl _)]at h1;exact h1)
   have HOx:=ah (show DN w0 wr k W1.heap.size u7 (vs.map (gQ (eG k)))by have:=HO.out;rwa [List.take_of_length_le (Nat.le_refl _)]at this);clear hA rF hk' hu' hg
   go_wp2_with (first|(go_at_call 55;(with_reducible refine HNx2.out.mono ?_);rintro e' w3⟨rfl,hb⟩;have HR3':=ah (And.intro (wK.out.1.below hb) (iq wK.out.2 hb));have HO3:=ah (kW HOx.out (aH.of_below hb q none) HQ.out);clear hb)|(go_at_call 54;(with_reducible refine(HTk2.out _ HR3'.out.1).mono ?_);rintro e' w4⟨rfl,hr,hk⟩;have HR4:=ah (And.intro hr (HR3'.out.2.trans hk (.inl rfl)));have HO4:=ah (kW HO3.out hk HQ.out);clear hr hk))
   go_ret
   refine⟨_,rfl,Kd.oI HO4.out (by have:=kQ.out;omega),?_,HK1.out.trans HR4.out.2 (.inl rfl)⟩;have h1:=HR4.out.1;rw[HPe.out]at h1;exact h1
theorem XA(nn:Nat)(u1 u2:Val):eG (nn+1) [.mk 0 [u1],.mk 1 [u2]]=[.mk 0 [gQ (eG nn) u1],.mk 1 [gQ (eG nn) u2]]:=rfl
theorem XB{nn:Nat}{u:Val}(hF:u.F=0)(hM:u.dA=[]):gQ (eG nn) u=u:=by
 conv=>rhs;rw[Val.eta u]
 unfold gQ;rw[hF,hM,rE,kH]
theorem XC{S:fM}(hS:jW S){L:List Tok}{k n a:Nat}{t:FT}{v:Val}(hI:sG S t)(hm:t.map=true)(hv:AO S (oZ S k) t v)(hk:aT t.kind=8->rC S k t.typ v.dA):
 ∃nn kt vt u1 u2,k=nn+1/\v.dA=[.mk 0 [u1],.mk 1 [u2]]/\qp v=u1/\u1.F=0/\u1.dA=[]/\∀mt kt' vt' e,S.ms[t.typ.toNat]? =some mt->mt.fields=[kt',vt']->Vs (wL S n) kt' vt' v e->lI L a (e.1::e.2)->aaO S L nn n a t kt vt v u1 u2 e:=by
 have hk8:=(hI.map hm).2.1;obtain⟨nn,u1,u2,kt,vt,mt,hnn,hms,hf1,hf2,hmt,hfs,hk1,_,hm1,hks⟩:=Oj hS hI hm (Qg (fun h=>oZ.fit k h) hv);have hFm:=OL hv.1 hk8;have hKm:=hk hk8;subst hnn;have hu:=Xx hk1 hks
 have hvt:AO S (oZ S nn) vt u2/\(aT vt.kind=8->rC S nn vt.typ u2.dA):=by
  obtain⟨_,mt2,e2,_,hall⟩:=hFm.2;rw[hmt]at e2;obtain rfl:=Option.some.inj e2;have hin:dD.mk 1 [u2]∈v.dA:=by rw[hms];simp
  obtain⟨_,_,t2,ht2,_,hfit⟩:=hall _ hin;rw[hfs]at ht2;obtain rfl:vt=t2:=Option.some.inj ht2;refine⟨hfit u2 (by simp[dD.Values]),fun h8=>?_⟩;have:=hKm mt hmt _ hin vt (by rw[hfs];rfl) h8;exact this.1 u2 (by simp[dD.Values])
 refine⟨nn,kt,vt,u1,u2,rfl,hms,hf1,hu.1,hu.2,fun mt' kt' vt' e h1 h2 h3 h4=>?_⟩;rw[hmt]at h1;obtain rfl:=Option.some.inj h1;rw[hfs]at h2;injection h2 with e1 e2
 injection e2 with e2 _
 subst e1;subst e2;exact⟨(hI.msg hk8).1,⟨mt,hmt,hfs⟩,hS.Vw mt (List.mem_of_getElem? hmt) vt (by rw[hfs];simp),by rw[hFm.1,hms],hk1,hu.2,hks,hvt.1,hvt.2,h3.1,by rw[h3.2.1,hf1],by rw[<-hf2];exact h3.2.2,h4⟩
theorem OT(w0:World)(q:Nat)(S:fM)(A0:Option Addr)(c0:Nat)(A1:Option Addr)(c1:Nat)(At:Option Addr)(cT:Nat)(L:List Tok)(k:Nat)(hS:jW S)(ZJ:∀nn,k=nn+1->acW w0 q S A0 c0 A1 c1 At cT L nn)(t:FT)(vs:List Val)(o c:TK)(Ls:List (TK×List TK))(mt:MT)(kt vt:FT)(hmt:S.ms[t.typ.toNat]? =some mt)(hfs:mt.fields=[kt,vt])(ho:o.kind=64)(hc:c.kind=128)(n:Nat)(h2:∀(j:Nat)(x:Val),vs[j]? =some x->∃y,Ls[j]? =some y/\Vs (wL S n) kt vt x y)(hlen:vs.length=Ls.length)(a:Nat)(deep:Int)(W:World)(hI:Lj S L k n a t vs (o::(Ls.flatMap (fun e=>e.1::e.2)++[c])))(hm:t.map=true)(hd:(k:Int)<deep)(hd2:deep<=25)(hR:RS w0 W q S A0 c0 A1 c1 At cT L a):
 Calls Tryz.prog 57 #[.pointer (some ⟨q,0,none⟩),mQ t,.int .i64 deep] W (Lh w0 q S A0 c0 A1 c1 At cT L W k (vs.map (gQ (eG k))) (a+(o::(Ls.flatMap (fun e=>e.1::e.2)++[c])).length)):=by
 obtain⟨u,hu,hut,hat⟩:=hI.at_.head;have hk:u.kind=64:=by have:=congrArg TK.kind hut;rw[ho]at this;exact this
 obtain⟨W1,hW1⟩:∃W1,W1=W.alloc (.cells #[.string t.name,.int .i64 t.num,.int .i64 t.kind,.bool t.rep,.bool t.map,.int .i64 t.typ] 70):=⟨_,rfl⟩
 obtain⟨hR1,hk1,hz1⟩:=hR.boxed (aH.refl W q none) hW1;have yM:=bJ hR.blk;have Eb:=ah (qA w0 W1 q S A0 c0 A1 c1 At cT L a hR1 u hu.out 64 hk);have oC:=ah (fun Wx(h:RS w0 Wx q S A0 c0 A1 c1 At cT L a)=>lJ w0 Wx q S A0 c0 A1 c1 At cT L a h u hu.out 64 hk)
 have HV:=ah (fun(j p:Nat)(x:Val)(y:TK×List TK)(hj:vs[j]? =some x)(hy:Vs (wL S n) kt vt x y)(ha:lI L p (y.1::y.2))=>(show∃nn u1,k=nn+1/\qp x=u1/\∀(Wx:World)(Ab:Option Addr)(cb:Nat)(bl:List Val),(∀W',aH Wx W' q none->Kd.C (iU k) W' Ab bl.length bl)->(∀z∈bl,∃y1 y2,z.dA=[.mk 0 [y1],.mk 1 [y2]]/\y1.dA=[]/\y1.F=0/\y1≠u1)->RS w0 Wx q S A0 c0 A1 c1 At cT L p->Calls Tryz.prog 115 #[.pointer (some ⟨q,0,none⟩),mQ t,.slice Ab bl.length cb,.int .i64 deep] Wx (ZE w0 q S A0 c0 A1 c1 At cT L Wx k (gQ (eG k) x) (p+(y.1::y.2).length))from by
  obtain⟨nn,kt',vt',u1,u2,hnn,_,hf1,_,_,hes⟩:=XC (n:=n) (a:=p) (L:=L) hS hI.ok hm (hI.fit x (List.mem_of_getElem? hj)) (fun h8=>hI.key h8 x (List.mem_of_getElem? hj));refine⟨nn,u1,hnn,hf1,fun Wx Ab cb bl h1 h2 h3=>?_⟩;have he:=hes mt kt vt y hmt hfs hy ha;have hE:=ZJ nn hnn;subst hnn;exact hE t kt' vt' x u1 u2 y n p deep Wx Ab cb bl he (by omega) hd2 h1 h2 h3))
 have ahH:=ah (fun(j:Nat)(u1:Val)(x:Val)(hx:vs[j]? =some x)(hf:qp x=u1)=>(show∀z∈(vs.take j).map (gQ (eG k)),∃y1 y2,z.dA=[.mk 0 [y1],.mk 1 [y2]]/\y1.dA=[]/\y1.F=0/\y1≠u1 from fun z hz=>by
  obtain⟨x',hx',rfl⟩:=List.mem_map.1 hz;obtain⟨i,hi,e⟩:=List.mem_iff_getElem.1 hx';rw[List.length_take]at hi;rw[List.getElem_take]at e;have hx'':vs[i]? =some x':=by rw[<-e];exact List.getElem?_eq_getElem (by omega)
  obtain⟨nn,_,_,y1,y2,hnn,hms,hf1,hF,hM,_⟩:=XC (n:=n) (a:=0) (L:=L) hS hI.ok hm (hI.fit x' (List.mem_of_getElem? hx'')) (fun h8=>hI.key h8 x' (List.mem_of_getElem? hx''));subst hnn;refine⟨y1,gQ (eG nn) y2,?_,hM,hF,?_⟩
  ·show eG (nn+1) x'.dA=_
   rw[hms,XA,XB hF hM]
  ·rw[<-hf1,<-hf];exact hI.uni hm i j x' x (by omega) hx'' hx))
 have HW1:=ah hW1;have HK1:=ah hk1;have HR1:=ah hR1;have kQ:=ah (show W.heap.size<W1.heap.size/\w0.heap.size<=W.heap.size from⟨bJ hz1,hR.be.size⟩);rw[hm]at hz1;have uN:=ah (fun(w2:World)(hk:aH W1 w2 q none)=>hk.blk hz1 (Nat.ne_of_gt yM) (by simp));rw[show mQ t= .agg #[.string t.name,.int .i64 t.num,.int .i64 t.kind,.bool t.rep,.bool true,.int .i64 t.typ]by rw[mQ,hm]]at HV;have HQ:=ah (show q<W1.heap.size from Nat.lt_trans yM (bJ hz1));have HAt:=ah hat;have XY:=ah hc;have H2:=ah h2;have HLn:=ah hlen;clear hR hut hk hW1 hR1 hk1 hz1 hI ZJ hS hd hd2 hm hat yM h2 hc hlen ho hmt hfs;go_enter Tryz.func57,Tryz.ntmps57
 go_upto_region 1 with fail
 rw[<-HW1.out];clear HW1
 go_upto_region 5 with(go_at_call 55;(with_reducible refine Eb.out.mono ?_);rintro e' w1⟨rfl,hb⟩;have HR2:=ah (And.intro (HR1.out.below hb) (aH.of_below hb q none));obtain⟨⟨b0,b1,b2,b3,b4,b5⟩,_⟩:=eu (uN.out w1 (aH.of_below hb q none));clear hb)
 go_wp2_with (go_at_call 54;(with_reducible refine(oC.out _ HR2.out.1).mono ?_);rintro e' w2⟨rfl,hr,hk⟩;have HR3:=ah (And.intro hr (HR2.out.2.trans hk (.inl rfl)));clear hr hk)
 clear b0 b1 b2 b3 b4 b5
 go_loopg [7] vs.length (fun g v7 w'=>∃(j p:Nat),j+g=vs.length/\aC (j<=p/\lI L p ((Ls.drop j).flatMap (fun e=>e.1::e.2)++[c])/\p+((Ls.drop j).flatMap (fun e=>e.1::e.2)++[c]).length=a+(o::(Ls.flatMap (fun e=>e.1::e.2)++[c])).length)/\aC (DN w0 w' k W1.heap.size v7 ((vs.take j).map (gQ (eG k))))/\aC (RS w0 w' q S A0 c0 A1 c1 At cT L p/\aH W1 w' q none))
 case atStart=>exact⟨0,a+1,by omega,⟨by omega,HAt.out,by simp;omega⟩,⟨Kd.mP _ _ _ _ _⟩,HR3⟩
 case round=>
  obtain⟨j,p,hg,HP,HO,wK⟩:=hrel;have tr:=wK.out.1.cells.2.2.2.2;obtain⟨⟨b0,b1,b2,b3,b4,b5⟩,_⟩:=eu (uN.out wr wK.out.2);cases gk with
  |succ g=>
   obtain⟨x,hx⟩:=bF (show j<vs.length by omega);obtain⟨y,hy,hvy⟩:=H2.out j x hx.out;have EJ:=ah (show(Ls.drop j).flatMap (fun e=>e.1::e.2)++[c]=(y.1::y.2)++((Ls.drop (j+1)).flatMap (fun e=>e.1::e.2)++[c])by rw[DR hy,List.flatMap_cons,List.append_assoc]);have hA:=HP.out.2.1;rw[EJ.out]at hA;have hA1:=hA.left;have HA2:=ah hA.right;obtain⟨u',hu',rF,_⟩:=hA1.head;have hk':u'.kind=32:=by have:=congrArg TK.kind rF;rw[hvy.1]at this;exact this
   have HNx2:=ah (qA w0 wr q S A0 c0 A1 c1 At cT L p wK.out.1 u' hu'.out 32 hk');have Um:=ah (show p<=1000000000000 by have:=(List.getElem?_eq_some_iff.1 hu'.out).1;have:=wK.out.1.len;omega);obtain⟨nn,u1,hnn,hf1,hVj⟩:=HV.out j p x y hx.out hvy hA1;have wH:=ah (ahH.out j u1 x hx.out hf1);have HVj:=ah hVj;obtain⟨X,hX⟩:∃X,X=gQ (eG k) x:=⟨_,rfl⟩
   rw[<-hX]at HVj;have FD:=ah (show(vs.take (j+1)).map (gQ (eG k))=(vs.take j).map (gQ (eG k))++[X]by rw[hX];exact uj hx.out _);have HG:=ah hg;obtain⟨bl,hbl⟩:∃bl,bl=(vs.take j).map (gQ (eG k)):=⟨_,rfl⟩
   rw[<-hbl]at HO wH FD;obtain⟨Av7,c7,rfl⟩:=Kd.fC HO.out;have HLb:=ah (show bl.length<=j by rw[hbl,List.length_map,List.length_take];omega);clear hg hA hA1 rF hk' hX hvy hy hu' hbl hVj hf1 hnn
   go_upto_region 8 with(go_at_call 55;(with_reducible refine HNx2.out.mono ?_);rintro e' w3⟨rfl,hb⟩;have HB3:=ah hb;clear hb)
   obtain⟨⟨d0,d1,d2,d3,d4,d5⟩,_⟩:=eu (uN.out w3 (iq wK.out.2 HB3.out));have HV3:=ah (HVj.out w3 Av7 c7 bl (fun W' hk=>(Kd.iM (kW (kW HO.out (aH.of_below HB3.out q none) HQ.out) hk HQ.out)).2.2) wH.out (wK.out.1.below HB3.out));clear b0 b1 b2 b3 b4 b5 tr
   go_wp2_with (first|(go_at_call 115;(with_reducible refine HV3.out.mono ?_);rintro e' w4⟨cs,rfl,hM,hr,hk⟩;obtain⟨Av,cv,rfl,_,_⟩:=sF ((iU k).fJ hM);have HM4:=ah hM;have HR4:=ah (And.intro hr (wK.out.2.trans ((aH.of_below HB3.out q none).trans hk (.inl rfl)) (.inl rfl)));have HS4:=ah hk.1;have HO4:=ah (kW (kW HO.out (aH.of_below HB3.out q none) HQ.out) hk HQ.out);clear hM hr hk d0 d1 d2 d3 d4 d5)|(at_builtin;refine Qk (w0:=w0) (B:=W1.heap.size) (v:=.slice Av7 bl.length c7) (xs:=bl) rfl (.tmp 34) (.tmp 40) rfl X _ w3.heap.size rfl rfl HM4.out ?b0 ?b9 ?blt ?bW HO4.out HR4.out.1.be ?bl ?_;(case b0=>have:=kQ.out;have:=HB3.out.size;have:=wK.out.2.1;omega);(case b9=>have:=kQ.out;have:=HB3.out.size;have:=wK.out.2.1;omega);(case blt=>intro b hb;have:=Kd.aee HO.out b hb;have:=HB3.out.size;omega);(case bW=>have:=kQ.out;have:=HR4.out.2.1;omega);(case bl=>have:=HLb.out;have:=HP.out.1;have:=Um.out;omega);intro v1 w5 ho hb hg;have HO5:=ah ho;have HR5:=ah (And.intro (Xz HR4.out.1 HO4.out HQ.out hb hg) (Lm HR4.out.2 HO4.out hg));clear ho hb hg))
   go_roundg g
   case measure=>omega
   case rel=>
    refine⟨j+1,p+(y.1::y.2).length,by have:=HG.out;omega,⟨by have:=HP.out.1;rw[List.length_cons];omega,HA2.out,?_⟩,⟨by rw[FD.out];exact HO5.out⟩,HR5⟩;have h1:=HP.out.2.2;rw[EJ.out,List.length_append]at h1;omega
  |zero=>
   obtain rfl:j=vs.length:=by omega
   have hA:=HP.out.2.1;rw[List.drop_eq_nil_of_le (by rw[HLn.out];exact Nat.le_refl _)]at hA;obtain⟨u',hu',rF,_⟩:=lI.head (t:=c) (ts:=[]) hA;have hk':u'.kind=128:=by have:=congrArg TK.kind rF;rw[XY.out]at this;exact this
   have HNx2:=ah (qA w0 wr q S A0 c0 A1 c1 At cT L p wK.out.1 u' hu'.out 128 hk');have HTk2:=ah (fun Wx(h:RS w0 Wx q S A0 c0 A1 c1 At cT L p)=>lJ w0 Wx q S A0 c0 A1 c1 At cT L p h u' hu'.out 128 hk')
   have HPe:=ah (show p+1=a+(o::(Ls.flatMap (fun e=>e.1::e.2)++[c])).length by
    have h1:=HP.out.2.2;rw[List.drop_eq_nil_of_le (by rw[HLn.out];exact Nat.le_refl _)]at h1;exact h1)
   have HOx:=ah (show DN w0 wr k W1.heap.size u7 (vs.map (gQ (eG k)))by have:=HO.out;rwa [List.take_of_length_le (Nat.le_refl _)]at this);clear hA rF hk' hu' hg
   go_wp2_with (first|(go_at_call 55;(with_reducible refine HNx2.out.mono ?_);rintro e' w3⟨rfl,hb⟩;have HR3':=ah (And.intro (wK.out.1.below hb) (iq wK.out.2 hb));have HO3:=ah (kW HOx.out (aH.of_below hb q none) HQ.out);clear hb)|(go_at_call 54;(with_reducible refine(HTk2.out _ HR3'.out.1).mono ?_);rintro e' w4⟨rfl,hr,hk⟩;have HR4:=ah (And.intro hr (HR3'.out.2.trans hk (.inl rfl)));have HO4:=ah (kW HO3.out hk HQ.out);clear hr hk))
   go_ret
   refine⟨_,rfl,Kd.oI HO4.out (by have:=kQ.out;omega),?_,HK1.out.trans HR4.out.2 (.inl rfl)⟩;have h1:=HR4.out.1;rw[HPe.out]at h1;exact h1
theorem Ti(w0:World)(q:Nat)(S:fM)(hS:jW S)(A0:Option Addr)(c0:Nat)(A1:Option Addr)(c1:Nat)(At:Option Addr)(cT:Nat)(L:List Tok)(k:Nat)(DL:Xr w0 q S A0 c0 A1 c1 At cT L k)(ZJ:∀nn,k=nn+1->acW w0 q S A0 c0 A1 c1 At cT L nn):aaP w0 q S A0 c0 A1 c1 At cT L k:=by
 intro t vs ts n a deep W hI hd hd2 hR;rcases hI.tok with⟨rfl,x,hx,rfl⟩|⟨hm,mt,kt,vt,o,c,Ls,hmt,hfs,ho,hc,rfl,hA⟩|⟨hm,hr,o,c,Ls,ho,hc,rfl,hA⟩|⟨hr,hm,v,rfl,hv⟩
 ·exact Ll w0 q S A0 c0 A1 c1 At cT L k t x hx a deep W hI.at_ hR
 ·exact OT w0 q S A0 c0 A1 c1 At cT L k hS ZJ t vs o c Ls mt kt vt hmt hfs ho hc n (fun j x hx=>hA.get hx) hA.length a deep W hI hm hd hd2 hR
 ·exact OQ w0 q S A0 c0 A1 c1 At cT L k DL t vs o c Ls ho hc n (fun j x hx=>hA.get hx) hA.length a deep W hI hr hm hd hd2 hR
 ·exact OO w0 q S A0 c0 A1 c1 At cT L k DL t v ts n a deep W hI hv hr hm hd hd2 hR
abbrev Yg:Type:=Option Addr×Nat×Nat
abbrev uw(s:Yg):Value:=.slice s.1 s.2.1 s.2.2
abbrev kSl:Kd Yg:=Kd.scalar uw (fun _=>rfl)
theorem acZ:(Tryz.prog.info? 66).map (fun i=>(i.zero,i.size,i.bytes))=some (some (.slice none 0 0),1,24):=by kernel_rfl
theorem ada:(Tryz.prog.info? 4).map (fun i=>(i.zero,i.size,i.bytes))=some (some (.bool false),1,1):=by kernel_rfl
theorem afA(n:Nat)(hn:n<=100000):∀W:World,(Instr.makeSlice 122 (.int .i64 (n:Int)) (.int .i64 (n:Int))).run Tryz.prog W= .ok (.slice (some ⟨W.heap.size,0,none⟩) n n) (W.alloc (.cells (madeCells #[.slice none 0 0] n) 66)):=by
 exact nC (P:=Tryz.prog) 122 66 (.slice none 0 0) 24 Tryz.underlying122 acZ rfl (by omega) n (by omega)
theorem afB(n:Nat)(hn:n<=100000):∀W:World,(Instr.makeSlice 107 (.int .i64 (n:Int)) (.int .i64 (n:Int))).run Tryz.prog W= .ok (.slice (some ⟨W.heap.size,0,none⟩) n n) (W.alloc (.cells (madeCells #[.bool false] n) 4)):=by
 exact nC (P:=Tryz.prog) 107 4 (.bool false) 1 Tryz.underlying107 ada rfl (by omega) n (by omega)
theorem ahI(W:World)(n:Nat)(hn:n<=100000):kSl.R 66 (W.alloc (.cells (madeCells #[.slice none 0 0] n) 66)) W.heap.size (fun b=>b=W.heap.size) (.slice (some ⟨W.heap.size,0,none⟩) n n) (List.replicate n (none,0,0)):=by
 have h:=Kd.fZ (ok:=fun b=>b=W.heap.size) (h1:=fun _=>rfl) (lY (enc:=uw) (d:=((none,0,0):Yg)) W W.heap.size 66 n (Nat.le_refl _) (by omega)) (fun k hk=>by simp[Value.ownBlock]at hk;exact hk.symm)
 simpa using h
theorem ahJ(W:World)(n:Nat)(hn:n<=100000):Kd.bool.R 4 (W.alloc (.cells (madeCells #[.bool false] n) 4)) W.heap.size (fun b=>b=W.heap.size) (.slice (some ⟨W.heap.size,0,none⟩) n n) (List.replicate n false):=by
 have h:=Kd.fZ (ok:=fun b=>b=W.heap.size) (h1:=fun _=>rfl) (lY (enc:=Value.bool) (d:=false) W W.heap.size 4 n (Nat.le_refl _) (by omega)) (fun k hk=>by simp[Value.ownBlock]at hk;exact hk.symm);exact h
theorem jk.gt{l:List dD}:∀{a:Int},jk a l->∀f∈l,a<f.At:=by
 induction l with
 |nil=>intro a _ f hf;exact absurd hf List.not_mem_nil
 |cons f0 l ih=>
  intro a h f hf;rcases List.mem_cons.1 hf with rfl|hf
  ·exact h.1
  ·have:=ih h.2 f hf
   have:=h.1;omega
theorem pz{m:List dD}{i:Nat}{v:Val}(h:v∈valuesOf m i):∃f∈m,f.At=(i:Int)/\valuesOf m i=f.Values:=by
 unfold valuesOf at*
 split at h
 ·rename_i f hf
  exact⟨f,List.mem_of_find?_eq_some hf,by have:=List.find?_some hf;simpa using this,rfl⟩
 ·exact absurd h List.not_mem_nil
theorem adb{S:fM}(hS:jW S){L:List Tok}{k n a:Nat}{typ:Int}{m:List dD}{mt:MT}(hmt:S.ms[typ.toNat]? =some mt)(hF:oZ S (k+1) typ m)(hK:rC S (k+1) typ m){g:Seg}{t:FT}(ht:mt.fields[g.k]? =some t)(htok:AA S (wL S n) t (valuesOf m g.k) g.tk)(hat:lI L a g.tk):Lj S L k n a t (valuesOf m g.k) g.tk:=by
 obtain⟨_,mt2,e2,hri,hall⟩:=hF;rw[hmt]at e2;obtain rfl:=Option.some.inj e2
 have key:∀f∈m,f.At=(g.k:Int)->(∀v∈f.Values,AO S (oZ S k) t v)/\Wv S (rC S k) mt f:=by
  intro f hf hat;obtain⟨_,_,t2,ht2,_,hfit⟩:=hall f hf;rw[hat,Int.toNat_natCast,ht]at ht2;obtain rfl:=Option.some.inj ht2;exact⟨hfit,hK mt hmt f hf⟩
 refine⟨hS.Vw mt (List.mem_of_getElem? hmt) t (List.mem_of_getElem? ht),fun v hv=>?_,fun h8 v hv=>?_,fun hm a b x y hab hx hy=>?_,htok,hat⟩
 ·obtain⟨f,hf,hfa,he⟩:=pz hv
  rw[he]at hv;exact(key f hf hfa).1 v hv
 ·obtain⟨f,hf,hfa,he⟩:=pz hv
  rw[he]at hv;exact((key f hf hfa).2 t (by rw[hfa,Int.toNat_natCast];exact ht) h8).1 v hv
 ·obtain⟨f,hf,hfa,he⟩:=pz (List.mem_of_getElem? hx)
  rw[he]at hx hy;have h8:=((hS.Vw mt (List.mem_of_getElem? hmt) t (List.mem_of_getElem? ht)).map hm).2.1;exact((key f hf hfa).2 t (by rw[hfa,Int.toNat_natCast];exact ht) h8).2 hm a b x y hab hx hy
def upTo(m:List dD)(i:Nat):List dD:=m.filter (fun f=>decide (f.At<(i:Int)))
theorem wF{m:List dD}{i:Nat}(h:∀f∈m,(i:Int)<=f.At):upTo m i=[]:=by
 unfold upTo;rw[List.filter_eq_nil_iff];intro f hf;have:=h f hf;simp;omega
theorem FH:∀{m:List dD}{a:Int},jk a m->∀i:Nat,upTo m (i+1)=upTo m i++(match m.find? (fun f=>f.At==(i:Int))with|some f=>[f]|none=>[]):=by
 intro m
 induction m with
 |nil=>intro a _ i;rfl
 |cons f0 l ih=>
  intro a h i;have hgt:=h.2.gt;have hst:=ih h.2 i
  by_cases h1:f0.At<(i:Int)
  ·have e1:upTo (f0::l) (i+1)=f0::upTo l (i+1):=by unfold upTo;rw[List.filter_cons,if_pos (by simp;omega)]
   have e2:upTo (f0::l) i=f0::upTo l i:=by unfold upTo;rw[List.filter_cons,if_pos (by simp;omega)]
   rw[e1,e2,hst,List.find?_cons,show(f0.At==(i:Int))=false from beq_eq_false_iff_ne.2 (by omega)]
   rfl
  ·have e2:upTo (f0::l) i=[]:=wF (fun f hf=>by
    rcases List.mem_cons.1 hf with rfl|hf
    ·omega
    ·have:=hgt f hf;omega)
   by_cases h2:f0.At=(i:Int)
   ·have e1:upTo (f0::l) (i+1)=f0::upTo l (i+1):=by unfold upTo;rw[List.filter_cons,if_pos (by simp;omega)]
    have e3:upTo l (i+1)=[]:=wF (fun f hf=>by have:=hgt f hf;omega);rw[e1,e2,e3,List.find?_cons,show(f0.At==(i:Int))=true from beq_iff_eq.2 h2]
    rfl
   ·have e1:upTo (f0::l) (i+1)=[]:=wF (fun f hf=>by
     rcases List.mem_cons.1 hf with rfl|hf
     ·omega
     ·have:=hgt f hf;omega)
    have e4:l.find? (fun f=>f.At==(i:Int))=none:=by
     rw[List.find?_eq_none];intro f hf;have:=hgt f hf;simp;omega
    rw[e1,e2,List.find?_cons,show(f0.At==(i:Int))=false from beq_eq_false_iff_ne.2 h2];show[]=[]++(match l.find? _ with|some f=>[f]|none=>[]);rw[e4];rfl
theorem XD{m:List dD}{a:Int}(hr:jk a m){i:Nat}(h:valuesOf m i≠[]):upTo m (i+1)=upTo m i++[.mk (i:Int) (valuesOf m i)]:=by
 rw[FH hr];unfold valuesOf at h ⊢
 split at h
 ·rename_i f hf
  rw[hf];have:f.At=(i:Int):=by have:=List.find?_some hf;simpa using this
  rw[<-this,<-dD.eta]
 ·exact absurd rfl h
theorem Tj{m:List dD}{a:Int}(hr:jk a m)(hne:∀f∈m,f.Values≠[]){i:Nat}(h:valuesOf m i=[]):upTo m (i+1)=upTo m i:=by
 rw[FH hr];unfold valuesOf at h
 split at h
 ·rename_i f hf
  exact absurd h (hne f (List.mem_of_find?_eq_some hf))
 ·rename_i hf
  rw[hf];exact List.append_nil _
theorem XE{m:List dD}{n:Nat}(h:∀f∈m,f.At<(n:Int)):upTo m n=m:=by
 unfold upTo;rw[List.filter_eq_self];intro f hf
 simpa using h f hf
def aaR(k:Nat)(f:dD):dD:=.mk f.At (f.Values.map (gQ (eG k)))
theorem afC:(Tryz.prog.info? 68).map (fun i=>(i.zero,i.size,i.bytes))=some (some (.agg #[.int .i64 0,.slice none 0 0]),2,32):=by kernel_rfl
theorem ZK{W:World}{k B N:Nat}{ops:Array Oper}{rest:List Oper}{o:Oper}{a:Act}{Q:Exit->Act->World->Prop}(hgd:o.guard=none)(s x:Operand)
 (ho:o.op= .call {callee:=.builtin .append,args:=#[s,x],argTypes:=#[26,26]}) {v:Value} {xs:List dD} (y:dD) (cs:List Value) (hs:a.eval s=v) (hx:a.eval x= .slice (some ⟨W.heap.size,0,none⟩) 1 1)
 (hM:(jh k).M W B (fun b=>b<N) y cs) (hlt:∀b,v.ownBlock=some b->N<=b) (hNW:N<=W.heap.size) (hBW:B<=W.heap.size)
 (HO:(jh k).R 68 W B (fun _=>True) v xs) (hl:xs.length<=1000000)
 (h:∀v1 w1,(jh k).R 68 w1 B (fun _=>True) v1 (xs++[y])->Below N W w1->(∀b,v1.ownBlock=some b->N<=b)->wpList Tryz.prog ops Q rest (a.put o.dst v1) w1):
 wpList Tryz.prog ops Q (o::rest) a (W.alloc (.cells cs.toArray 68)):=
 Kd.nJ (jh k) (w0:=W) B hgd s x 26 68 _ 32 ho Tryz.underlying26 (by rw[lg];exact afC) (by rw[lg];rfl) (by rw[lg];decide) (by omega) v xs y cs (fun _=>True) (fun b=>b<N) hs hx hM (fun b hb=>⟨trivial,fun e=>by have:=hlt b e.symm;omega⟩) (fun _ _=>trivial) HO (bg _ _) hBW (by omega)
  fun v1 w1 ho _ hg hat=>h v1 w1 ho (uO (bg N W) _ hNW hg hlt) (fun b hb=>by
   rcases hat with e|⟨b',e,hb'⟩
   ·exact hlt b (e▸hb)
   ·rw[e]at hb;cases hb;omega)
end Go.Proofs.YtapkmjfjikpnlaaGreatDoor
