/- A part of FnMsgJsonMeans. No conditions. -/
import Derived.Test.YtapkmjfjikpnlaaGreatDoorM01
import Derived.Test.YtapkmjfjikpnlaaGreatDoorProg
import Derived.ProofKit
import Derived.Deep.Slices
set_option maxRecDepth 100000
namespace Go.Proofs.YtapkmjfjikpnlaaGreatDoorW.QB
section
variable{P:Program}{ops:Array Oper}{Q:Exit->Act->World->Prop}{md:Region.Mode}{S:World->Prop}{ds:List Nat}
def Region.qR(md:Region.Mode)(ops:Array Oper)(i:Nat):Nat->Nat->Bool
 |0,_=>false
 |fuel+1,d=>match ops[d]? with
  |some o=>o.after.any fun e=>Region.binds md e&&(e.on==i||Region.qR md ops i fuel e.on)
  |none=>false
def Region.Gl(md:Region.Mode)(ops:Array Oper)(listed:Array Bool):Bool:=
 (List.range ops.size).all fun j=> !listed.getD j false||match ops[j]? with
   |some o=>o.after.all fun e=> !Region.binds md e||listed.getD e.on false
   |none=>true
def Region.lastB(md:Region.Mode)(ops:Array Oper)(listed:Array Bool)(ds:List Nat)(i:Nat):Bool:=
 ds.all fun d=>listed.getD d true||Region.qR md ops i ops.size d
def jD(md:Region.Mode)(ops:Array Oper)(listed:Array Bool):Prop:=
 ∀j oj,ops[j]? =some oj->listed.getD j false=true->∀e∈oj.after,Region.binds md e=true->listed.getD e.on false=true
theorem Region.Gm{listed:Array Bool}(h:Region.Gl md ops listed=true):jD md ops listed:=by
 intro j oj hj hl e he hb;have hlt:j<ops.size:=(Array.getElem?_eq_some_iff.1 hj).1;have h1:=List.all_eq_true.1 h j (List.mem_range.2 hlt);simp only[hl,hj,Bool.not_true,Bool.false_or]at h1;have h2:=Array.all_eq_true_iff_forall_mem.1 h1 e he
 simpa [hb]using h2
theorem jD.set{listed:Array Bool}{i:Nat}(h:jD md ops listed)(hi:i∈Region.ready md ops listed):jD md ops (listed.setIfInBounds i true):=by
 obtain⟨_,oi,hoi,hall⟩:=mem_ready.1 hi;intro j oj hj hl e he hb
 by_cases hij:i=j
 ·subst hij
  have:oj=oi:=Option.some.inj (hj.symm.trans hoi);subst this;exact getD_set_true (hall e he hb)
 ·rw[getD_set_ne false hij]at hl
  exact getD_set_true (h j oj hj hl e he hb)
theorem Region.xQ{listed:Array Bool}{i:Nat}(hc:jD md ops listed):∀(fuel d:Nat),Region.qR md ops i fuel d=true->listed.getD d false=true->listed.getD i false=true
 |0,_,h,_=>by simp[Region.qR]at h
 |fuel+1,d,h,hl=>by
  unfold Region.qR at h;cases ho:ops[d]? with
  |none=>rw[ho]at h;simp at h
  |some o=>
   rw[ho]at h;obtain⟨e,he,h1⟩:=Array.any_eq_true'.1 h;simp only[Bool.and_eq_true,Bool.or_eq_true,beq_iff_eq]at h1;have hle:=hc d o ho hl e he h1.1;rcases h1.2 with h2|h2
   ·rw[<-h2];exact hle
   ·exact Region.xQ hc fuel e.on h2 hle
theorem Region.Ae{listed:Array Bool}{i d fuel:Nat}(hc:jD md ops listed)(hr:Region.qR md ops i fuel d=true)(hun:listed.getD i true=false):d∉Region.ready md ops listed:=by
 intro hd;obtain⟨_,o,ho,hall⟩:=mem_ready.1 hd
 have hi:listed.getD i false=true:=by
  cases fuel with
  |zero=>simp[Region.qR]at hr
  |succ n=>
   unfold Region.qR at hr;rw[ho]at hr;obtain⟨e,he,h1⟩:=Array.any_eq_true'.1 hr;simp only[Bool.and_eq_true,Bool.or_eq_true,beq_iff_eq]at h1;have hle:=hall e he h1.1;rcases h1.2 with h2|h2
   ·rw[<-h2];exact hle
   ·exact Region.xQ hc n e.on h2 hle
 rcases Nat.lt_or_ge i listed.size with h'|h'
 ·simp[h']at hun hi
  rw[hun]at hi;cases hi
 ·simp[Array.getElem?_eq_none h']at hun
def jr(P:Program)(md:Region.Mode)(ops:Array Oper)(Q:Exit->Act->World->Prop)(S:World->Prop)(ds:List Nat):Nat->Array Bool->Act->World->Prop
 |0,listed,a,w=>Region.ready md ops listed=[]/\Q .normal a w
 |fuel+1,listed,a,w=>
  (Region.ready md ops listed=[]->Q .normal a w)/\
  ∀i∈Region.ready md ops listed,wpOp P ops Q i (fun a' w'=>(i∉ds->S w->S w')/\jr P md ops Q S ds fuel (listed.setIfInBounds i true) a' w') a w
theorem Af{i:Nat}{oi:Oper}{v:Value}(hi:ops[i]? =some oi)(hsel:∀(j:Nat)(o:Oper)cs b,ops[j]? =some o->o.op≠ .select cs b)
 (hQ:∀c a w,Q (.panic c) (a.put oi.dst v) w->Q (.panic c) a w) (n:Nat):
 ∀(fuel:Nat)(listed:Array Bool)(a:Act)(w:World),
  (∀j oj,ops[j]? =some oj->j≠i->listed.getD j true=false->(∀e∈oj.after,Region.binds md e=true->e.on≠i)->oi.apart ops oj=true)->
  jD md ops listed->(∀d∈ds,listed.getD d true=false->Region.qR md ops i n d=true)->
  i∈Region.ready md ops listed->YieldsIf P ops S oi v a->S w->
  jr P md ops Q S ds fuel (listed.setIfInBounds i true) (a.put oi.dst v) w->jr P md ops Q S ds (fuel+1) listed a w:=by
 intro fuel
 induction fuel with
 |zero=>
  intro listed a w _ _ _ hr hy hS H;refine⟨fun h=>(by rw[h]at hr;cases hr),fun j hj=>?_⟩
  by_cases hji:j=i
  ·subst hji;exact hy.wpOp hi hS ⟨fun _ h=>h,H⟩
  ·have:=ready_mono hj hji
   rw[H.1]at this;cases this
 |succ fuel ih=>
  intro listed a w hfree hc hd hr hy hS H;refine⟨fun h=>(by rw[h]at hr;cases hr),fun j hj=>?_⟩
  by_cases hji:j=i
  ·subst hji;exact hy.wpOp hi hS ⟨fun _ h=>h,H⟩
  ·have h1:=H.2 j (ready_mono hj hji)
   obtain⟨hjun,oj,hoj,hall⟩:=mem_ready.1 hj;have aaZ:=(mem_ready.1 hr).1
   have hnot:∀e∈oj.after,Region.binds md e=true->e.on≠i:=fun e he hb heq=>by
    have h1:=hall e he hb;rw[heq]at h1;rcases Nat.lt_or_ge i listed.size with h'|h'
    ·simp[h']at aaZ h1;rw[aaZ]at h1;cases h1
    ·simp[Array.getElem?_eq_none h']at h1
   have hjd:j∉ds:=fun hm=>Region.Ae hc (hd j hm hjun) aaZ hj
   have h2:=wpOp_putIf hoj (hfree j oj hoj hji hjun hnot) (fun cs b=>hsel i oi cs b hi) (fun cs b=>hsel j oj cs b hoj) hQ hy h1
   have hfree':∀k ok,ops[k]? =some ok->k≠i->(listed.setIfInBounds j true).getD k true=false->
    (∀e∈ok.after,Region.binds md e=true->e.on≠i)->oi.apart ops ok=true:=fun k ok hk hki hun hno=>by
    refine hfree k ok hk hki ?_ hno
    by_cases hjk:j=k
    ·subst hjk;exact hjun
    ·rw[getD_set_ne true hjk]at hun;exact hun
   have hd':∀d∈ds,(listed.setIfInBounds j true).getD d true=false->Region.qR md ops i n d=true:=fun d hm hun=>by
    refine hd d hm ?_
    by_cases hjk:j=d
    ·subst hjk;exact hjun
    ·rw[getD_set_ne true hjk]at hun;exact hun
   refine wpOp_mono (fun a' w' h3=>⟨h3.2.1,ih (listed.setIfInBounds j true) a' w' hfree' (hc.set hj) hd' (ready_mono hr (Ne.symm hji)) h3.1 (h3.2.1 hjd hS) ?_⟩) h2;rw[Array.setIfInBounds_comm _ _ hji];exact h3.2.2
theorem BQ{i:Nat}{oi:Oper}{v:Value}{fuel:Nat}{listed:Array Bool}{a:Act}{w:World}(hi:ops[i]? =some oi)
 (hs:Region.noSelect ops=true) (hf:Region.free md ops listed i=true) (hr:(Region.ready md ops listed).contains i=true)
 (hc:Region.Gl md ops listed=true) (hl:Region.lastB md ops listed ds i=true)
 (hQ:∀c a w,Q (.panic c) (a.put oi.dst v) w->Q (.panic c) a w) (hy:YieldsIf P ops S oi v a) (hS:S w)
 (h:jr P md ops Q S ds fuel (listed.setIfInBounds i true) (a.put oi.dst v) w):jr P md ops Q S ds (fuel+1) listed a w:=
 Af hi (Region.noSelect_spec hs) hQ ops.size fuel listed a w (Region.free_spec hi hf) (Region.Gm hc)
  (fun d hm hun=>by have:=List.all_eq_true.1 hl d hm;rw[hun]at this;simpa using this) (by simpa using hr) hy hS h
theorem BR{listed:Array Bool}{a:Act}{w:World}(hr:Region.ready md ops listed=[])(h:Q .normal a w):
 ∀fuel,jr P md ops Q S ds fuel listed a w
 |0=>⟨hr,h⟩
 |_+1=>⟨fun _=>h,by rw[hr];simp⟩
end
section
variable{P:Program}{ops:Array Oper}{Q:Exit->Act->World->Prop}{md:Region.Mode}{S:World->Prop}{ds:List Nat}
def rG(P:Program)(md:Region.Mode)(ops:Array Oper)(Q:Exit->Act->World->Prop)(S:World->Prop)(ds:List Nat)(fuel:Nat)(listed:Array Bool)(a:Act)(w:World)(rs:List Nat):Prop:=
 ∀i∈rs,wpOp P ops Q i (fun a' w'=>(i∉ds->S w->S w')/\jr P md ops Q S ds fuel (listed.setIfInBounds i true) a' w') a w
theorem rG.nil{fuel:Nat}{listed:Array Bool}{a:Act}{w:World}:rG P md ops Q S ds fuel listed a w []:=fun _ h=>by cases h
theorem rG.cons{fuel:Nat}{listed:Array Bool}{a:Act}{w:World}{i:Nat}{o:Oper}{rs:List Nat}(ho:ops[i]? =some o)(hd:i∉ds)
 (h:∀K':Act->World->Prop,Shut (∀a w,S w->(S w->jr P md ops Q S ds fuel (listed.setIfInBounds i true) a w)->K' a w)->if Region.wanted o (yielded ops a.tmps)=true then Oper.wp P o a w K' Q else K' (a.put o.dst undef) w)
 (hs:rG P md ops Q S ds fuel listed a w rs):rG P md ops Q S ds fuel listed a w (i::rs):=fun j hj=>by
 rcases List.mem_cons.1 hj with rfl|hj
 ·exact wpOp_step ho (fun K' hK=>h K' (fun a w hS hW=>hK a w ⟨fun _ _=>hS,hW hS⟩))
 ·exact hs j hj
def takeB(md:Region.Mode)(ops:Array Oper)(ds:List Nat)(l l':Array Bool)(i:Nat):Bool:=
 Region.noSelect ops&&Region.free md ops l i&&(Region.ready md ops l).contains i&&Region.Gl md ops l&&Region.lastB md ops l ds i&&(l.setIfInBounds i true==l')
theorem TP{i:Nat}{N:Option Tmp}{oi:Oper}{v:Value}{fuel:Nat}{l:Array Bool}{a:Act}{w:World}(l':Array Bool)(hi:ops[i]? =some oi)(hN:oi.dst=N)(hc:takeB md ops ds l l' i=true)
 (hQ:∀c a w,Q (.panic c) (a.put oi.dst v) w->Q (.panic c) a w) (hy:YieldsIf P ops S oi v a) (hS:S w) {a':Act} (ha:a.put N v=a')
 (h:jr P md ops Q S ds fuel l' a' w):jr P md ops Q S ds (fuel+1) l a w:=by
 subst ha;subst hN;simp only[takeB,Bool.and_eq_true,beq_iff_eq]at hc;obtain⟨⟨⟨⟨⟨h1,h2⟩,h3⟩,h4⟩,h5⟩,h6⟩:=hc;subst h6;exact BQ hi h1 h2 h3 h4 h5 hQ hy hS h
theorem xR{l:Array Bool}{a:Act}{w:World}{n:Nat}(hr:(Region.ready md ops l==[])=true)(h:Q .normal a w):jr P md ops Q S ds n l a w:=BR (by simpa using hr) h n
end
end Go.Proofs.YtapkmjfjikpnlaaGreatDoorW.QB
namespace Go.Proofs.YtapkmjfjikpnlaaGreatDoorW.aG
open Go.RowKit
namespace Kd
section
variable{α:Type}{d:Kd α}{e base g o n cap:Nat}{ok BJ:Nat->Prop}{w W:World}{v:Value}{xs:List α}
end
section
variable{α:Type}{enc:α->Value}{h1:∀x,(enc x).oneCell'=true}{e base g o n cap:Nat}{ok:Nat->Prop}{W:World}{xs:List α}
end
end Kd
end Go.Proofs.YtapkmjfjikpnlaaGreatDoorW.aG
namespace Go.Proofs.YtapkmjfjikpnlaaGreatDoorW.aG
open Go.RowKit
namespace Kd
def tag{α:Type}(f:Nat->Nat)(d:Kd α):Kd (α×Nat)where
 sz:=d.sz
 E:=d.E
 K:=fun w x cs=>d.K w x.1 cs
 M:=fun w base ok x cs=>d.M w base (fun k=>ok k/\f k=x.2) x.1 cs
 lN:=fun h=>d.lN h
 lX:=fun h=>d.lX h
 jm:=fun hb h=>d.jm hb h
 fJ:=fun h=>d.fJ h
 fP:=fun hok h=>d.fP (fun k hk=>⟨hok k hk.1,hk.2⟩) h
 fK:=fun h=>d.fP (fun _ hk=>⟨⟨hk.1.1,hk.2⟩,hk.1.2⟩) (d.fK h)
 jq:=fun hm h=>d.jq (fun k hk=>hm k hk.1) h
 iG:=fun hb h=>d.iG hb h
def raw(sz:Nat):Kd (List Value)where
 sz:=sz
 E:=[]
 K:=fun _ x cs=>cs=x/\cs.length=sz/\∀u∈cs,u.oneCell'=true
 M:=fun _ _ _ x cs=>cs=x/\cs.length=sz/\∀u∈cs,u.oneCell'=true
 lN:=fun h=>h.2.1
 lX:=fun h=>h.2.2
 jm:=fun _ h=>h
 fJ:=fun h=>h
 fP:=fun _ h=>h
 fK:=fun h=>h
 jq:=fun _ h=>h
 iG:=fun _ h=>h
def S{α:Type}(d:Kd α)(e:Nat)(w:World)(base:Nat)(ok:Nat->Prop)(v:Value)(xs:List α):Prop:=∃f,(tag f d).R e w base ok v xs.zipIdx
section
variable{α β:Type}{d:Kd α}{d':Kd β}{e e':Nat}{w w1 W:World}{base b:Nat}{ok ok' okv oku:Nat->Prop}{u v:Value}{xs:List α}{ys:List β}
end
section
variable{α β:Type}{d:Kd α}{d':Kd β}{e e' g:Nat}{w w1 W:World}{base b:Nat}{ok ok' okv oku:Nat->Prop}{u v:Value}{xs:List α}{ys:List β}
end
section
variable{P:Program}{ops:Array Oper}{rest:List Oper}{o:Oper}{a:Act}{Q:Exit->Act->World->Prop}{Kc:Act->World->Prop}{α:Type}
end
def gap{α:Type}(f:Nat->Nat)(d:Kd α)(i:Nat)(c:List Value):Kd (α×Nat)where
 sz:=d.sz
 E:=d.E
 K:=fun w x cs=>(x.2=i->cs=c/\cs.length=d.sz/\∀u∈cs,u.oneCell'=true)/\(x.2≠i->d.K w x.1 cs)
 M:=fun w base ok x cs=>(x.2=i->cs=c/\cs.length=d.sz/\∀u∈cs,u.oneCell'=true)/\(x.2≠i->d.M w base (fun k=>ok k/\f k=x.2) x.1 cs)
 lN:=fun{w x cs}h=>by
  by_cases hx:x.2=i
  ·exact(h.1 hx).2.1
  ·exact d.lN (h.2 hx)
 lX:=fun{w x cs}h=>by
  by_cases hx:x.2=i
  ·exact(h.1 hx).2.2
  ·exact d.lX (h.2 hx)
 jm:=fun hb h=>⟨h.1,fun hx=>d.jm hb (h.2 hx)⟩
 fJ:=fun h=>⟨h.1,fun hx=>d.fJ (h.2 hx)⟩
 fP:=fun hok h=>⟨h.1,fun hx=>d.fP (fun k hk=>⟨hok k hk.1,hk.2⟩) (h.2 hx)⟩
 fK:=fun h=>⟨h.1,fun hx=>d.fP (fun _ hk=>⟨⟨hk.1.1,hk.2⟩,hk.1.2⟩) (d.fK (h.2 hx))⟩
 jq:=fun hm h=>⟨h.1,fun hx=>d.jq (fun k hk=>hm k hk.1) (h.2 hx)⟩
 iG:=fun hb h=>⟨h.1,fun hx=>d.iG hb (h.2 hx)⟩
def H{α:Type}(d:Kd α)(e:Nat)(w:World)(base:Nat)(ok:Nat->Prop)(v:Value)(xs:List α)(i:Int)(oki:Nat->Prop)(c:List Value):Prop:=
 (∀k,oki k->ok k)/\∃f,(gap f d i.toNat c).R e w base (fun k=>ok k/\¬oki k) v xs.zipIdx
section
variable{α β:Type}{d:Kd α}{e e' g n cap:Nat}{w w1 W:World}{base:Nat}{ok ok' oki BJ:Nat->Prop}{u v:Value}{xs:List α}{i:Int}{c:List Value}
end
section
variable{P:Program}{ops:Array Oper}{rest:List Oper}{o:Oper}{a:Act}{Q:Exit->Act->World->Prop}{α:Type}
end
end Kd
end Go.Proofs.YtapkmjfjikpnlaaGreatDoorW.aG
namespace Go.Proofs.YtapkmjfjikpnlaaGreatDoorW.aG
open Go.RowKit
namespace Kd
theorem Ub{α:Type}{R:α->List Value->Prop}{size:Nat}{ps:List α}{cs:List Value}(h:kS R size ps cs)(hs0:0<size)(hR:∀p c,R p c->∀u∈c,u.oneCell'=true):∀u∈cs,u.oneCell'=true:=by
 intro u hu;obtain⟨q,hq,rfl⟩:=List.mem_iff_getElem.1 hu
 have hql:q/size<ps.length:=by
  rw[Nat.div_lt_iff_lt_mul hs0,<-h.1];exact hq
 refine hR _ _ (h.2 (q/size) _ (List.getElem?_eq_getElem hql)) _ ?_;rw[List.mem_iff_getElem?];refine⟨q%size,?_⟩;rw[List.getElem?_take,if_pos (Nat.mod_lt _ hs0),List.getElem?_drop,Nat.mul_comm,Nat.div_add_mod,List.getElem?_eq_getElem hq]
def arr{α:Type}(n:Nat)(d:Kd α)(hs:0<d.sz):Kd (List α)where
 sz:=n*d.sz
 E:=d.E
 K:=fun w xs cs=>xs.length=n/\kS (d.K w) d.sz xs cs
 M:=fun w base ok xs cs=>xs.length=n/\kS (d.M w base ok) d.sz xs cs
 lN:=fun h=>by rw[<-h.1];exact h.2.1
 lX:=fun h=>Ub h.2 hs (fun _ _ hk=>d.lX hk)
 jm:=fun hb h=>⟨h.1,h.2.oH (fun _ _ hk=>d.jm hb hk)⟩
 fJ:=fun h=>⟨h.1,h.2.oH (fun _ _ hk=>d.fJ hk)⟩
 fP:=fun hok h=>⟨h.1,h.2.oH (fun _ _ hk=>d.fP hok hk)⟩
 fK:=fun h=>⟨h.1,h.2.oH (fun _ _ hk=>d.fK hk)⟩
 jq:=fun hm h=>⟨h.1,h.2.oH (fun _ _ hk=>d.jq hm hk)⟩
 iG:=fun hb h=>⟨h.1,h.2.oH (fun _ _ hk=>d.iG hb hk)⟩
section
variable{α:Type}{n:Nat}{d:Kd α}{hs:0<d.sz}{w:World}{base:Nat}{ok:Nat->Prop}{xs:List α}{cs:List Value}
end
section
variable{α:Type}{n:Nat}{enc:α->Value}{h1:∀x,(enc x).oneCell'=true}{hs:0<(scalar enc h1).sz}{w:World}{base:Nat}{ok:Nat->Prop}{xs:List α}{cs:List Value}
end
end Kd
end Go.Proofs.YtapkmjfjikpnlaaGreatDoorW.aG
namespace Go.Proofs.YtapkmjfjikpnlaaGreatDoorW.aG
open Go.RowKit
section
variable{P:Program}
end
namespace Kd
section
variable{P:Program}{ops:Array Oper}{rest:List Oper}{o:Oper}{a:Act}{Q:Exit->Act->World->Prop}{Kc:Act->World->Prop}{α:Type}
end
section
variable{α:Type}{d:Kd α}{e:Nat}{w:World}{base:Nat}{ok:Nat->Prop}{v:Value}{xs:List α}
end
section
variable{P:Program}{ops:Array Oper}{rest:List Oper}{o:Oper}{a:Act}{Q:Exit->Act->World->Prop}{Kc:Act->World->Prop}{α:Type}
end
end Kd
end Go.Proofs.YtapkmjfjikpnlaaGreatDoorW.aG
namespace Go.Proofs.YtapkmjfjikpnlaaGreatDoorW.aG
open Go.RowKit
namespace Kd
structure Heap{α:Type}(d:Kd α):Prop where
 K:∀{w w1:World}{x:α}{cs:List Value},(∀k,k<w.heap.size->w1.heap[k]? =w.heap[k]?)->d.K w x cs->d.K w1 x cs
theorem QC{w w1:World}(hb:∀k,k<w.heap.size->w1.heap[k]? =w.heap[k]?){a:Addr}{v:Value}(h:w.cell? a=some v):w1.cell? a=some v:=by
 have:=hb a.block (World.block_lt_of_cell? w a h)
 simpa [World.cell?,this]using h
theorem Heap.C{α:Type}{d:Kd α}(hd:Heap d){w w1:World}{A:Option Addr}{n:Nat}{xs:List α}(hb:∀k,k<w.heap.size->w1.heap[k]? =w.heap[k]?)(h:d.C w A n xs):d.C w1 A n xs:=
 ⟨h.1,h.2.1,fun hn=>by
  obtain⟨ad,e,hc⟩:=h.2.2 hn;refine⟨ad,e,fun j p hj=>?_⟩;obtain⟨c,hs,hr,hcell⟩:=hc j p hj;exact⟨c,hs,hd.K hb hr,fun i u hu=>QC hb (hcell i u hu)⟩⟩
section
variable{α:Type}{d:Kd α}{e base g n c:Nat}{ok:Nat->Prop}{w w0 W:World}{A:Option Addr}{xs:List α}
end
end Kd
end Go.Proofs.YtapkmjfjikpnlaaGreatDoorW.aG
namespace Go.Proofs.YtapkmjfjikpnlaaGreatDoorW.aG
open Go.RowKit
def Kept(w W:World)(S:Nat->Prop):Prop:=w.heap.size<=W.heap.size/\∀i,i<w.heap.size->¬S i->W.heap[i]? =w.heap[i]?
section
variable{w W W2:World}{S S2 S':Nat->Prop}
theorem Kept.refl(w:World)(S:Nat->Prop):Kept w w S:=⟨Nat.le_refl _,fun _ _ _=>rfl⟩
theorem Kept.of_below(h:Below w.heap.size w W)(S:Nat->Prop):Kept w W S:=⟨h.size,fun i hi _=>h.block i hi⟩
theorem Kept.mono(h:Kept w W S)(hs:∀k,S k->S' k):Kept w W S':=⟨h.1,fun i hi hn=>h.2 i hi (fun hk=>hn (hs i hk))⟩
theorem Kept.then_(h:Kept w W S)(k:Kept W W2 S2)(hs:∀k,S2 k->S k∨w.heap.size<=k):Kept w W2 S:=
 ⟨Nat.le_trans h.1 k.1,fun i hi hn=>(k.2 i (Nat.lt_of_lt_of_le hi h.1) (fun h2=>(hs i h2).elim hn (fun h3=>by omega))).trans (h.2 i hi hn)⟩
theorem Kept.BH{row:Option Nat}(hg:W.grownBy W2 row)(h:Kept w W S)(hr:∀k,row=some k->S k∨w.heap.size<=k):Kept w W2 S:=
 h.then_ (S2:=fun k=>row=some k) ⟨hg.size,fun i hi hn=>hg.block i hi (fun he=>hn he.symm)⟩ hr
theorem Kept.below(h:Kept w W S)(hb:Below W.heap.size W W2):Kept w W2 S:=h.then_ (Kept.of_below hb (fun _=>False)) (fun _ hk=>hk.elim)
theorem Kept.alloc(h:Kept w W S)(o:Obj):Kept w (W.alloc o) S:=h.below (ak (Below.refl _ _) o)
theorem Kept.drew(h:Kept w W S):Kept w W.drew S:=h
theorem Kept.drewN(h:Kept w W S)(m:Nat):Kept w (W.drewN m) S:=h
theorem Kept.setCell(h:Kept w W S){p:Addr}(hp:S p.block∨w.heap.size<=p.block)(u:Value):Kept w (W.setCell p u) S:=
 h.then_ (S2:=fun k=>k=p.block) ⟨by simp[World.setCell],fun i _ hn=>Below.heap_setCell W p u i hn⟩ (fun k hk=>by rw[hk];exact hp)
theorem Kept.keep{g:Nat}(h:aH w W g none)(k:Kept W W2 S2)(hs:∀k,S2 k->w.heap.size<=k):aH w W2 g none:=
 ⟨Nat.le_trans h.1 k.1,fun i hi hg hr=>(k.2 i (Nat.lt_of_lt_of_le hi h.1) (fun h2=>by have:=hs i h2;omega)).trans (h.2 i hi hg hr)⟩
end
namespace Kd
section
variable{α:Type}{d:Kd α}{e base n c:Nat}{ok oki S S2:Nat->Prop}{w w0 W W1 W2:World}{v:Value}{A:Option Addr}{xs:List α}{i:Int}{cs:List Value}
end
end Kd
def BU(P:World->Prop)(W:World)(ok:Nat->Prop):Prop:=∀W':World,(∀k,ok k->k<W.heap.size->W'.heap[k]? =W.heap[k]?)->P W'
theorem Yk{W W1:World}{k:Nat}(h:W1.heap[k]? =W.heap[k]?)(hlt:k<W.heap.size):k<W1.heap.size:=by
 rw[Array.getElem?_eq_getElem hlt]at h;exact(Array.getElem?_eq_some_iff.1 h).1
namespace BU
variable{P Q:World->Prop}{W W1:World}{ok ok':Nat->Prop}
theorem now(h:BU P W ok):P W:=h W (fun _ _ _=>rfl)
theorem mono(h:BU P W ok)(hok:∀k,ok k->ok' k):BU P W ok':=fun W' hW=>h W' (fun k hk hlt=>hW k (hok k hk) hlt)
theorem step(h:BU P W ok)(hm:∀k,ok k->k<W.heap.size->W1.heap[k]? =W.heap[k]?):BU P W1 ok:=fun W' hW=>h W' (fun k hk hlt=>(hW k hk (Yk (hm k hk hlt) hlt)).trans (hm k hk hlt))
theorem imp(h:BU P W ok)(hi:∀W',P W'->Q W'):BU Q W ok:=fun W' hW=>hi W' (h W' hW)
end BU
namespace Kd
def F{α:Type}(d:Kd α)(W:World)(ok:Nat->Prop)(A:Option Addr)(n:Nat)(xs:List α):Prop:=BU (fun W=>d.C W A n xs) W ok
def FK{α:Type}(d:Kd α)(W:World)(ok:Nat->Prop)(x:α)(c:List Value):Prop:=BU (fun W=>d.K W x c) W ok
section
variable{α β:Type}{d:Kd α}{e base n n' cc g N:Nat}{ok ok' BJ S:Nat->Prop}{w w0 w1 W W1:World}{A A':Option Addr}{u v v1:Value}{xs:List α}{xs':List β}{d':Kd β}{x:α}{c:List Value}
end
end Kd
end Go.Proofs.YtapkmjfjikpnlaaGreatDoorW.aG
namespace Go.Proofs.YtapkmjfjikpnlaaGreatDoorW.aG
open Go.RowKit
namespace Kd
section
variable{α:Type}{d:Kd α}{e base n cc g:Nat}{ok ok' BJ S:Nat->Prop}{w w1 W W1:World}{A:Option Addr}{u v v1:Value}{xs:List α}{x:α}{c:List Value}
def N{α:Type}(d:Kd α)(e:Nat)(w:World)(base:Nat)(ok:Nat->Prop)(v:Value)(xs:List α):Prop:=
 (∀k,v.ownBlock=some k->ok k)/\∃rows:List (List Value),rows.length=xs.length/\(raw d.sz).R e w base (fun k=>some k=v.ownBlock) v rows/\∀(j:Nat)(x:α)(c:List Value),xs[j]? =some x->rows[j]? =some c->FK d w (fun k=>ok k/\some k≠v.ownBlock) x c
end
end Kd
end Go.Proofs.YtapkmjfjikpnlaaGreatDoorW.aG
namespace Go.Proofs.YtapkmjfjikpnlaaGreatDoorW.aG
open Go.RowKit
namespace Kd
section
variable{α:Type}{d:Kd α}{e base n cap g:Nat}{ok ok' BJ:Nat->Prop}{w w1 W:World}{v v1:Value}{xs ys:List α}
end
section
variable{P:Program}{ops:Array Oper}{rest:List Oper}{o:Oper}{a:Act}{Q:Exit->Act->World->Prop}{Kc:Act->World->Prop}{α:Type}
end
end Kd
end Go.Proofs.YtapkmjfjikpnlaaGreatDoorW.aG
namespace Go.Proofs.YtapkmjfjikpnlaaGreatDoorW.aJ
open Go.RowKit Go.Proofs.YtapkmjfjikpnlaaGreatDoorW.aG
namespace Kd
open Go.Proofs.YtapkmjfjikpnlaaGreatDoorW.aG.Kd
end Kd
namespace Kd
open Go.Proofs.YtapkmjfjikpnlaaGreatDoorW.aG.Kd
section
variable{α:Type}{d:Kd α}{e base g N:Nat}{ok:Nat->Prop}{W w1:World}{u v:Value}{xs:List α}
end
end Kd
theorem BX(k k':IntKind)(x y:Int):Builtin.max2 (.int k x) (.int k' y)=pure (.int k (if x<y then y else x)):=by simp only[Builtin.max2,gt_iff_lt]
theorem IU(k k':IntKind)(x y:Int):Builtin.min2 (.int k x) (.int k' y)=pure (.int k (if y<x then y else x)):=by simp only[Builtin.min2]
theorem Gn(ats:Array TypeId)(ty:TypeId)(a b:Value):Builtin.max_ ats ty #[a,b]=(Builtin.max2 a b>>=fun s=>pure s):=by simp only[Builtin.max_,List.foldlM_cons,List.foldlM_nil]
theorem Pn(ats:Array TypeId)(ty:TypeId)(a b:Value):Builtin.min_ ats ty #[a,b]=(Builtin.min2 a b>>=fun s=>pure s):=by simp only[Builtin.min_,List.foldlM_cons,List.foldlM_nil]
end Go.Proofs.YtapkmjfjikpnlaaGreatDoorW.aJ
namespace Go.Proofs.YtapkmjfjikpnlaaGreatDoorW.aG
open Go.RowKit
section
variable{P:Program}{ops:Array Oper}{rest:List Oper}{o:Oper}{a:Act}{Q:Exit->Act->World->Prop}{W:World}
end
def mx(a b:Int):Int:=if a<b then b else a
def shl(k:IntKind)(x y:Int):Int:=k.wrap (x*2^min y.toNat k.bits)
def shr(k:IntKind)(x y:Int):Int:=x/2^min y.toNat k.bits
namespace Kd
section
variable{α:Type}{d:Kd α}{e base:Nat}{ok:Nat->Prop}{W w1:World}{v:Value}{xs:List α}
end
section
variable{α:Type}{d:Kd α}{e base g n cap:Nat}{ok oki BJ:Nat->Prop}{W:World}{xs:List α}{i:Int}{c:List Value}
end
section
variable{α:Type}{d:Kd α}{e base b b' g N:Nat}{ok ok1:Nat->Prop}{W W2 w1:World}{u v:Value}{xs ys:List α}{S:Nat->Prop}
end
end Kd
end Go.Proofs.YtapkmjfjikpnlaaGreatDoorW.aG
namespace Go.Proofs.YtapkmjfjikpnlaaGreatDoorW.aG
open Go.RowKit
namespace Kd
def V{α:Type}(d:Kd α)(_e:Nat)(W:World)(_base:Nat)(ok:Nat->Prop)(v:Value)(xs:List α):Prop:=∃A c,v= .slice A xs.length c/\xs.length<=c/\F d W ok A xs.length xs
section
variable{α β:Type}{d:Kd α}{e base base' n m c g N' lo hi:Nat}{ok ok' S:Nat->Prop}{w W w1:World}{A:Option Addr}{ad:Addr}{u v v1:Value}{xs:List α}
end
end Kd
end Go.Proofs.YtapkmjfjikpnlaaGreatDoorW.aG
namespace Go.Proofs.YtapkmjfjikpnlaaGreatDoor
open Go.RowKit YtapkmjfjikpnlaaGreatDoorW.aG YtapkmjfjikpnlaaGreatDoorW.aJ
set_option linter.unusedVariables false
set_option linter.unusedSimpArgs false
theorem yO{α:Type}{d:Kd α}{w:World}{A:Option Addr}{n:Nat}{xs:List α}(h:d.C w A n xs){i:Nat}{x:α}(hx:xs[i]? =some x):
 ∃ad c,A=some ad/\d.K w x c/\∀j u,c[j]? =some u->w.cell? (ad.add (i*d.sz+j))=some u:=by
 obtain⟨hi,hxi⟩:=List.getElem?_eq_some_iff.1 hx;have hl:xs.length=n:=Kd.dG h;obtain⟨ad,c,e,_,hK,hc⟩:=Kd.aed h x (i:Int) (by omega) (by omega);refine⟨ad,c,e,?_,by simpa using hc⟩;have:xs.getD (i:Int).toNat x=x:=by simp[List.getD_eq_getElem?_getD,hx]
 rwa [this]at hK
theorem IV{w:World}{A:Option Addr}{n:Nat}{xs:List ByteArray}(h:Kd.string.C w A n xs){i:Nat}{x:ByteArray}(hx:xs[i]? =some x):∃ad,A=some ad/\w.cell? (ad.add i)=some (.string x):=by
 obtain⟨ad,c,e,hK,hc⟩:=yO h hx;obtain rfl:c=[.string x]:=hK;exact⟨ad,e,by simpa [Kd.string,Kd.scalar]using hc 0 _ rfl⟩
theorem iD{w:World}{k:IntKind}{A:Option Addr}{n:Nat}{xs:List Int}(h:(Kd.int k).C w A n xs){i:Nat}{x:Int}(hx:xs[i]? =some x):∃ad,A=some ad/\w.cell? (ad.add i)=some (.int k x):=by
 obtain⟨ad,c,e,hK,hc⟩:=yO h hx;obtain rfl:c=[.int k x]:=hK;exact⟨ad,e,by simpa [Kd.int,Kd.scalar]using hc 0 _ rfl⟩
theorem bF{α:Type}{l:List α}{i:Nat}(h:i<l.length):∃x,aC (l[i]? =some x):=⟨l[i],⟨by simp[h]⟩⟩
theorem all_succ{α:Type}{p:α->Bool}{l:List α}{i:Nat}{x:α}(hx:l[i]? =some x)(h:(l.take i).all p=true)(hp:p x=true):(l.take (i+1)).all p=true:=by
 obtain⟨hi,rfl⟩:=List.getElem?_eq_some_iff.1 hx;rw[List.take_succ_eq_append_getElem hi,List.all_append,h];simp[hp]
theorem nZ{α:Type}{p:α->Bool}{l:List α}{i:Nat}{x:α}(hx:l[i]? =some x)(hp:p x=false):l.all p=false:=by
 obtain⟨hi,rfl⟩:=List.getElem?_eq_some_iff.1 hx;exact Bool.eq_false_iff.2 fun h=>by rw[List.all_eq_true]at h;rw[h _ (List.getElem_mem hi)]at hp;cases hp
theorem rH{α:Type}{p:α->Bool}{l:List α}{i:Nat}(h:(l.take i).all p=true)(hi:l.length<=i):l.all p=true:=by
 rwa [List.take_of_length_le hi]at h
theorem bel{B:Nat}{w W w1:World}(h:Below B w W)(hB:B<=W.heap.size)(k:Below W.heap.size W w1):Below B w w1:=BF h hB k
theorem toList_eq(s:ByteArray):s.toList=s.data.toList:=by
 obtain⟨⟨l⟩⟩:=s;simp
theorem kK(s:ByteArray):s.toList.isEmpty=decide (s.size=0):=by
 have h:s.toList.length=s.size:=by rw[toList_eq,lM]
 cases hl:s.toList with
 |nil=>
  have:s.size=0:=by rw[<-h,hl];rfl
  rw[this];rfl
 |cons a l=>
  have:s.size≠0:=by rw[<-h,hl];simp
  rw[bY this];rfl
theorem add0(a:Addr)(n:Nat):a.add (0*n)=a:=by simp[Addr.add]
theorem add1(a:Addr)(n:Nat):a.add (1*n)=a.add n:=by rw[Nat.one_mul]
theorem Md(a:Addr)(n:Nat)(h:0<n):a.add n=⟨a.block,a.off+n,none⟩:=by unfold Addr.add;rw[if_neg (by omega)]
theorem uS:(Tryz.prog.info? 5).map (fun i=>(i.zero,i.size,i.bytes))=some (some (.int .u8 0),1,1):=by kernel_rfl
abbrev OwnB(W:World)(base:Nat)(v:Value)(xs:List Int):Prop:=(Kd.int .u8).R 5 W base (fun _=>True) v xs
theorem rJ{w0 W:World}{ops:Array Oper}{rest:List Oper}{o:Oper}{a:Act}{Q:Exit->Act->World->Prop}(hgd:o.guard=none)(s x:Operand)
 (ho:o.op= .call {callee:=.builtin .append,args:=#[s,x],argTypes:=#[27,27]}) {v:Value} {xs:List Int} (y:Int) (hs:a.eval s=v) (hx:a.eval x= .slice (some ⟨W.heap.size,0,none⟩) 1 1)
 (HO:OwnB W w0.heap.size v xs) (HB:Below w0.heap.size w0 W) (hl:xs.length+1<=140737488355328)
 (h:∀v1 w1,OwnB w1 w0.heap.size v1 (xs++[y])->Below w0.heap.size w0 w1->W.grownBy w1 v.ownBlock->wpList Tryz.prog ops Q rest (a.put o.dst v1) w1):
 wpList Tryz.prog ops Q (o::rest) a (W.alloc (.cells #[.int .u8 y] 5)):=
 Kd.nJ (Kd.int .u8) (w0:=w0) w0.heap.size hgd s x 27 5 (.int .u8 0) 1 ho Tryz.underlying27 uS rfl (by decide) (by omega) v xs y [.int .u8 y] (fun _=>True) (fun _=>False) hs hx rfl (fun _ hk=>hk.elim) (fun _ _=>trivial) HO HB HB.size (by omega)
  fun v1 w1 ho hb hg hat=>h v1 w1 ho hb hg
theorem kY{W:World}{base:Nat}{v:Value}{xs:List Int}(h:OwnB W base v xs):(convert 27 9 v).run Tryz.prog W= .ok (.string (strOfNums xs)) W:=
 LX (P:=Tryz.prog) Tryz.underlying27 Tryz.underlying5 Tryz.underlying9 (Kd.pV h)
theorem pY(s:ByteArray)(i:Nat)(h:i<s.size):(bytesOf s).drop i=bt s i::(bytesOf s).drop (i+1):=by
 have hl:i<(bytesOf s).length:=by rw[bytesOf_length];exact h
 rw[List.drop_eq_getElem_cons hl]
 congr 1
 have:=lu s i;rw[<-this];simp[rd,List.getD_eq_getElem?_getD,List.getElem?_eq_getElem hl]
theorem BZ(s:ByteArray)(i:Nat)(h:s.size<=i):(bytesOf s).drop i=[]:=List.drop_eq_nil_of_le (by rw[bytesOf_length];exact h)
structure FT where
 name:ByteArray
 num:Int
 kind:Int
 rep:Bool
 map:Bool
 typ:Int
def kFT:Kd FT:=Kd.iso (Kd.pair Kd.string (Kd.pair (Kd.int .i64) (Kd.pair (Kd.int .i64) (Kd.pair Kd.bool (Kd.pair Kd.bool (Kd.int .i64)))))) (fun x:FT=>(x.name,x.num,x.kind,x.rep,x.map,x.typ))
theorem Uc{w:World}{x:FT}{cs:List Value}(h:kFT.K w x cs):cs=[.string x.name,.int .i64 x.num,.int .i64 x.kind,.bool x.rep,.bool x.map,.int .i64 x.typ]:=by
 obtain⟨_,_,rfl,rfl,⟨_,_,rfl,rfl,⟨_,_,rfl,rfl,⟨_,_,rfl,rfl,⟨_,_,rfl,rfl,rfl⟩⟩⟩⟩⟩:=h;exact rfl
theorem uT{w:World}{A:Option Addr}{n:Nat}{xs:List FT}(h:Kd.C kFT w A n xs){i:Nat}{x:FT}(hx:xs[i]? =some x):
 ∃ad,A=some ad/\w.cell? (ad.add (i*6))=some (.string x.name)/\w.cell? ⟨(ad.add (i*6)).block,(ad.add (i*6)).off+1,none⟩=some (.int .i64 x.num)/\w.cell? ⟨(ad.add (i*6)).block,(ad.add (i*6)).off+2,none⟩=some (.int .i64 x.kind)/\w.cell? ⟨(ad.add (i*6)).block,(ad.add (i*6)).off+3,none⟩=some (.bool x.rep)/\w.cell? ⟨(ad.add (i*6)).block,(ad.add (i*6)).off+4,none⟩=some (.bool x.map)/\w.cell? ⟨(ad.add (i*6)).block,(ad.add (i*6)).off+5,none⟩=some (.int .i64 x.typ):=by
 obtain⟨ad,c,e,hK,hc0⟩:=yO h hx;have hc:∀j u,c[j]? =some u->w.cell? (ad.add (i*6+j))=some u:=hc0
 obtain rfl:=Uc hK;exact⟨ad,e,hc 0 _ rfl,by rw[<-dH _ _ 1 (by omega)];exact hc 1 _ rfl,by rw[<-dH _ _ 2 (by omega)];exact hc 2 _ rfl,by rw[<-dH _ _ 3 (by omega)];exact hc 3 _ rfl,by rw[<-dH _ _ 4 (by omega)];exact hc 4 _ rfl,by rw[<-dH _ _ 5 (by omega)];exact hc 5 _ rfl⟩
structure MT where
 name:ByteArray
 fields:(List FT)
def Yl:Kd MT:=Kd.iso (Kd.pair Kd.string (Kd.slice 70 kFT)) (fun x:MT=>(x.name,x.fields))
theorem Ud{w:World}{x:MT}{cs:List Value}(h:Yl.K w x cs):∃lZ mg,cs=[.string x.name,.slice lZ x.fields.length mg]/\x.fields.length<=mg/\Kd.C kFT w lZ x.fields.length x.fields:=by
 obtain⟨_,_,rfl,rfl,⟨lZ,mg,rfl,Cb,Cc⟩⟩:=h;exact⟨lZ,mg,rfl,Cb,Cc⟩
theorem Ag{w:World}{A:Option Addr}{n:Nat}{xs:List MT}(h:Kd.C Yl w A n xs){i:Nat}{x:MT}(hx:xs[i]? =some x):
 ∃ad lZ mg,A=some ad/\w.cell? (ad.add (i*2))=some (.string x.name)/\w.cell? ⟨(ad.add (i*2)).block,(ad.add (i*2)).off+1,none⟩=some (.slice lZ x.fields.length mg)/\x.fields.length<=mg/\Kd.C kFT w lZ x.fields.length x.fields:=by
 obtain⟨ad,c,e,hK,hc0⟩:=yO h hx;have hc:∀j u,c[j]? =some u->w.cell? (ad.add (i*2+j))=some u:=hc0
 obtain⟨lZ,mg,rfl,Cb,Cc⟩:=Ud hK;exact⟨ad,lZ,mg,e,hc 0 _ rfl,by rw[<-dH _ _ 1 (by omega)];exact hc 1 _ rfl,Cb,Cc⟩
structure ET where
 names:(List ByteArray)
 nums:(List Int)
def kET:Kd ET:=Kd.iso (Kd.pair (Kd.slice 9 Kd.string) (Kd.slice 21 (Kd.int .i32))) (fun x:ET=>(x.names,x.nums))
theorem Ue{w:World}{x:ET}{cs:List Value}(h:kET.K w x cs):∃oJ oK sZ tq,cs=[.slice oJ x.names.length oK,.slice sZ x.nums.length tq]/\x.names.length<=oK/\Kd.C Kd.string w oJ x.names.length x.names/\x.nums.length<=tq/\Kd.C (Kd.int .i32) w sZ x.nums.length x.nums:=by
 obtain⟨_,_,rfl,⟨oJ,oK,rfl,Gp,Gq⟩,⟨sZ,tq,rfl,Me,MB⟩⟩:=h;exact⟨oJ,oK,sZ,tq,rfl,Gp,Gq,Me,MB⟩
theorem Ym{w:World}{A:Option Addr}{n:Nat}{xs:List ET}(h:Kd.C kET w A n xs){i:Nat}{x:ET}(hx:xs[i]? =some x):
 ∃ad oJ oK sZ tq,A=some ad/\w.cell? (ad.add (i*2))=some (.slice oJ x.names.length oK)/\w.cell? ⟨(ad.add (i*2)).block,(ad.add (i*2)).off+1,none⟩=some (.slice sZ x.nums.length tq)/\x.names.length<=oK/\Kd.C Kd.string w oJ x.names.length x.names/\x.nums.length<=tq/\Kd.C (Kd.int .i32) w sZ x.nums.length x.nums:=by
 obtain⟨ad,c,e,hK,hc0⟩:=yO h hx;have hc:∀j u,c[j]? =some u->w.cell? (ad.add (i*2+j))=some u:=hc0
 obtain⟨oJ,oK,sZ,tq,rfl,Gp,Gq,Me,MB⟩:=Ue hK;exact⟨ad,oJ,oK,sZ,tq,e,hc 0 _ rfl,by rw[<-dH _ _ 1 (by omega)];exact hc 1 _ rfl,Gp,Gq,Me,MB⟩
end Go.Proofs.YtapkmjfjikpnlaaGreatDoor
namespace Go.Proofs.YtapkmjfjikpnlaaGreatDoor
open Go.RowKit YtapkmjfjikpnlaaGreatDoorW.aG YtapkmjfjikpnlaaGreatDoorW.aJ Go.ChangeShapes Go.WideShapes Go.Deep
set_option linter.unusedVariables false
section
variable{H:Type}{enc:TypeId×Value->H}{W:World}{base:Nat}{spare:Nat->Bool}{held:Bool}
theorem IW{α:Type}{n:Nat}{P:Nat->α->Prop}(h:∀i,i<n->∃y,P i y):∃l:List α,l.length=n/\∀i y,l[i]? =some y->P i y:=by
 induction n with
 |zero=>exact⟨[],rfl,fun i y hy=>by simp at hy⟩
 |succ n ih=>
  obtain⟨l,hl,hp⟩:=ih (fun i hi=>h i (by omega));obtain⟨y,hy⟩:=h n (by omega);refine⟨l++[y],by simp[hl],fun i z hz=>?_⟩;rcases Nat.lt_or_ge i n with hi|hi
  ·rw[List.getElem?_append_left (by omega)]at hz
   exact hp i z hz
  ·have hb:=(List.getElem?_eq_some_iff.1 hz).1
   rw[List.length_append,List.length_singleton]at hb;obtain rfl:i=n:=by omega
   rw[List.getElem?_append_right (by omega),hl,Nat.sub_self]at hz;obtain rfl:y=z:=by simpa using hz
   exact hy
theorem zK{α:Type}{l:List α}(h:l.length=2):∃c0 c1,l=[c0,c1]:=by
 match l,h with
 |[c0,c1],_=>exact⟨c0,c1,rfl⟩
theorem Po{α:Type}{l:List α}(h:l.length=6):∃c0 c1 c2 c3 c4 c5,l=[c0,c1,c2,c3,c4,c5]:=by
 match l,h with
 |[c0,c1,c2,c3,c4,c5],_=>exact⟨c0,c1,c2,c3,c4,c5,rfl⟩
theorem oL:Tryz.prog.cellsOf 9=1:=by kernel_rfl
theorem vS:Tryz.prog.cellsOf 3=1:=by kernel_rfl
theorem wZ:Tryz.prog.cellsOf 4=1:=by kernel_rfl
theorem tu:Tryz.prog.cellsOf 71=1:=by kernel_rfl
theorem Ce:Tryz.prog.cellsOf 94=1:=by kernel_rfl
theorem Ee:Tryz.prog.cellsOf 95=1:=by kernel_rfl
theorem IX:Tryz.prog.cellsOf 21=1:=by kernel_rfl
theorem nK:Tryz.prog.cellsOf 70=6:=by kernel_rfl
theorem mD:Tryz.prog.cellsOf 73=2:=by kernel_rfl
theorem oz:Tryz.prog.cellsOf 97=2:=by kernel_rfl
theorem xU:Tryz.prog.cellsOf 25=2:=by kernel_rfl
theorem qU:Tryz.prog.cellsOf 22=1:=by kernel_rfl
theorem uD:Tryz.prog.cellsOf 23=1:=by kernel_rfl
end
end Go.Proofs.YtapkmjfjikpnlaaGreatDoor
