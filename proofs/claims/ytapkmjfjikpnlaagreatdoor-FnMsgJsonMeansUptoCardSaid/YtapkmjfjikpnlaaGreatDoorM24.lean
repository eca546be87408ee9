/- A part of FnMsgJsonMeans. No conditions. -/
import Derived.Test.YtapkmjfjikpnlaaGreatDoorM23
namespace Go.Proofs.YtapkmjfjikpnlaaGreatDoor
open Go.RowKit YtapkmjfjikpnlaaGreatDoorW.aG YtapkmjfjikpnlaaGreatDoorW.aJ
set_option linter.unusedVariables false
set_option linter.unusedSimpArgs false
theorem jk.lt{a:Int}{m:List dD}(h:jk a m):∀f∈m,a<f.At:=by
 induction m generalizing a with
 |nil=>intro f hf;exact absurd hf List.not_mem_nil
 |cons g m ih=>
  intro f hf;obtain⟨h1,h2⟩:=h;rcases List.mem_cons.1 hf with rfl|hf
  ·exact h1
  ·have:=ih h2 f hf;omega
theorem Kr{a:Int}{m:List dD}(h:jk a m){f:dD}(hf:f∈m){k:Nat}(hk:f.At=(k:Int)):valuesOf m k=f.Values:=by
 induction m generalizing a with
 |nil=>exact absurd hf List.not_mem_nil
 |cons g m ih=>
  obtain⟨h1,h2⟩:=h;unfold valuesOf;rw[List.find?_cons];rcases List.mem_cons.1 hf with rfl|hf
  ·rw[kZ hk]
  ·have hlt:=h2.lt f hf
   rw[eqF (show¬g.At=(k:Int)by omega)];exact ih h2 hf
theorem Ez{m:List dD}{k:Nat}(h:∀f∈m,f.At≠(k:Int)):valuesOf m k=[]:=by
 unfold valuesOf;rw[List.find?_eq_none.2 (fun f hf=>by rw[eqF (h f hf)];simp)]
theorem EC(f:dD)(m:List dD)(k:Nat):valuesOf (f::m) k=if f.At=(k:Int)then f.Values else valuesOf m k:=by
 unfold valuesOf;rw[List.find?_cons]
 by_cases h:f.At=(k:Int)
 ·rw[if_pos h,kZ h]
 ·rw[if_neg h,eqF h]
def vO(m:List dD)(L:List Int):Prop:=∀(k:Nat)(x:Int),L[k]? =some x->(x=0/\∀f∈m,f.At≠(k:Int))∨(∃(i:Nat)(f:dD),x=(i:Int)+1/\m[i]? =some f/\f.At=(k:Int))
theorem vO.zero(n:Nat):vO [] (List.replicate n 0):=by
 intro k x h;rw[List.getElem?_replicate]at h
 split at h
 ·cases h;exact .inl ⟨rfl,fun f hf=>absurd hf List.not_mem_nil⟩
 ·cases h
theorem vO.step{m:List dD}{L:List Int}{i:Nat}{f:dD}(h:vO (m.take i) L)(hf:m[i]? =some f)(h0:0<=f.At):vO (m.take (i+1)) (L.set f.At.toNat ((i:Int)+1)):=by
 obtain⟨hi,hv⟩:=List.getElem?_eq_some_iff.1 hf;intro k x hx;rw[List.take_succ_eq_append_getElem hi,hv];have hget:(m.take i++[f])[i]? =some f:=by rw[List.getElem?_append_right (by rw[List.length_take];omega)];rw[List.length_take,Nat.min_eq_left (by omega),Nat.sub_self];rfl
 by_cases hk:f.At=(k:Int)
 ·rw[hk,Int.toNat_natCast,List.getElem?_set]at hx
  rw[if_pos rfl]at hx
  split at hx
  ·cases hx;exact .inr ⟨i,f,rfl,hget,hk⟩
  ·cases hx
 ·rw[List.getElem?_set_ne (by omega)]at hx
  rcases h k x hx with⟨h1,h2⟩|⟨j,g,h1,h2,h3⟩
  ·refine .inl ⟨h1,fun g hg=>?_⟩
   rcases List.mem_append.1 hg with hg|hg
   ·exact h2 g hg
   ·rw[List.mem_singleton.1 hg];exact hk
  ·refine .inr ⟨j,g,h1,?_,h3⟩
   rw[List.getElem?_append_left (List.getElem?_eq_some_iff.1 h2).1];exact h2
theorem acd(N:Nat)(a:Int)(x:Nat)(g:Nat->Nat):((List.range N).map (fun k:Nat=>if a=(k:Int)then x else g k)).sum<=x+((List.range N).map g).sum:=by
 have key:∀N:Nat,(a<N->((List.range N).map (fun k:Nat=>if a=(k:Int)then x else g k)).sum<=x+((List.range N).map g).sum)/\(¬a<N->((List.range N).map (fun k:Nat=>if a=(k:Int)then x else g k)).sum<=((List.range N).map g).sum):=by
  intro N
  induction N with
  |zero=>exact⟨fun _=>Nat.zero_le _,fun _=>Nat.le_refl _⟩
  |succ N ih=>
   rw[List.range_succ,List.map_append,List.map_append,List.sum_append,List.sum_append];simp only[List.map_cons,List.map_nil,List.sum_cons,List.sum_nil,Nat.add_zero]
   by_cases h:a=(N:Int)
   ·rw[if_pos h]
    have:=ih.2 (by omega);exact⟨fun _=>by omega,fun h2=>absurd h2 (by omega)⟩
   ·rw[if_neg h]
    by_cases h2:a<N
    ·have:=ih.1 h2
     exact⟨fun _=>by omega,fun h3=>absurd h3 (by omega)⟩
    ·have:=ih.2 h2
     exact⟨fun _=>by omega,fun h3=>by omega⟩
 by_cases h:a<N
 ·exact(key N).1 h
 ·have:=(key N).2 h;omega
theorem NW(n N:Nat)(m:List dD):((List.range N).map (fun k=>jl n (valuesOf m k))).sum<=iP (n+1) m:=by
 induction m with
 |nil=>
  have:((List.range N).map (fun k=>jl n (valuesOf [] k))).sum=0:=by
   have h0:∀l:List Nat,(l.map (fun k=>jl n (valuesOf [] k))).sum=0:=by
    intro l
    induction l with
    |nil=>rfl
    |cons a l ih=>rw[List.map_cons,List.sum_cons,ih];rfl
   exact h0 _
  omega
 |cons f m ih=>
  have h1:(fun k:Nat=>jl n (valuesOf (f::m) k))=(fun k:Nat=>if f.At=(k:Int)then jl n f.Values else jl n (valuesOf m k)):=by
   funext k
   rw[EC]
   split<;>rfl
  rw[h1];have h2:=acd N f.At (jl n f.Values) (fun k=>jl n (valuesOf m k));have h3:iP (n+1) (f::m)=jl n f.Values+iP (n+1) m:=by simp[iP,jl]
  omega
def yC(n:Nat)(ts:List FT)(m:List dD)(k:Nat):Nat:=3100+(21*(match ts[k]? with|some t=>t.name.size|none=>0)+KM*(2*jl n (valuesOf m k)))
theorem RU(ts:List FT):((List.range ts.length).map (fun k=>(match ts[k]? with|some t=>t.name.size|none=>0))).sum=Df ts:=by
 have key:∀N,N<=ts.length->((List.range N).map (fun k=>(match ts[k]? with|some t=>t.name.size|none=>0))).sum=Df (ts.take N):=by
  intro N
  induction N with
  |zero=>intro _;rfl
  |succ N ih=>
   intro h;rw[List.range_succ,List.map_append,List.sum_append,ih (by omega),List.take_succ_eq_append_getElem (by omega)];unfold Df;rw[List.map_append,List.sum_append];simp only[List.map_cons,List.map_nil,List.sum_cons,List.sum_nil,Nat.add_zero];rw[List.getElem?_eq_getElem (by omega)]
 have:=key ts.length (Nat.le_refl _);rw[List.take_length]at this;exact this
theorem VY(f g:Nat->Nat)(a b c:Nat)(l:List Nat):(l.map (fun k=>a+(b*f k+c*(2*g k)))).sum=a*l.length+b*(l.map f).sum+c*(2*(l.map g).sum):=by
 induction l with
 |nil=>rfl
 |cons x l ih=>
  simp only[List.map_cons,List.sum_cons,List.length_cons,ih];simp only[Nat.mul_add,Nat.mul_one];omega
theorem RV(n:Nat)(ts:List FT)(m:List dD)(h1:ts.length<=50)(h2:Df ts<=1100000):((List.range ts.length).map (yC n ts m)).sum<=24000000+KM*(2*iP (n+1) m):=by
 have h3:=VY (fun k=>(match ts[k]? with|some t=>t.name.size|none=>0)) (fun k=>jl n (valuesOf m k)) 3100 21 KM (List.range ts.length);have h4:=RU ts;have h5:=NW n ts.length m;have h6:((List.range ts.length).map (yC n ts m)).sum=((List.range ts.length).map (fun k=>3100+(21*(match ts[k]? with|some t=>t.name.size|none=>0)+KM*(2*jl n (valuesOf m k))))).sum:=rfl;rw[h6,h3,List.length_range,h4];have h7:KM*(2*((List.range ts.length).map (fun k=>jl n (valuesOf m k))).sum)<=KM*(2*iP (n+1) m):=Nat.mul_le_mul_left _ (Nat.mul_le_mul_left _ h5);omega
structure uq(n:Nat)(ts:List FT)(m:List dD)(L:List Int)(i:Nat)(xs:List Nat):Prop where
 nd:xs.Nodup
 lt:∀x∈xs,x<i
 all:∀k x,k<i->L[k]? =some x->0<x->k∈xs
 sum:(xs.map (yC n ts m)).sum<=((List.range i).map (yC n ts m)).sum
theorem uq.zero(n:Nat)(ts:List FT)(m:List dD)(L:List Int):uq n ts m L 0 []:=⟨List.nodup_nil,fun x hx=>absurd hx List.not_mem_nil,fun k x h=>absurd h (by omega),Nat.le_refl _⟩
theorem uq.skip{n:Nat}{ts:List FT}{m:List dD}{L:List Int}{i:Nat}{xs:List Nat}(h:uq n ts m L i xs){x:Int}(hx:L[i]? =some x)(h0:¬0<x):uq n ts m L (i+1) xs:=by
 refine⟨h.nd,fun y hy=>by have:=h.lt y hy;omega,fun k y hk hy hp=>?_,?_⟩
 ·by_cases hki:k=i
  ·subst hki;rw[hx]at hy;cases hy;exact absurd hp h0
  ·exact h.all k y (by omega) hy hp
 ·have:=h.sum
  rw[List.range_succ,List.map_append,List.sum_append];omega
theorem uq.take{n:Nat}{ts:List FT}{m:List dD}{L:List Int}{i:Nat}{xs:List Nat}(h:uq n ts m L i xs):uq n ts m L (i+1) (xs++[i]):=by
 refine⟨?_,fun y hy=>?_,fun k y hk hy hp=>?_,?_⟩
 ·rw[List.nodup_append]
  refine⟨h.nd,by simp,fun a ha b hb=>?_⟩;have:=h.lt a ha;rw[List.mem_singleton]at hb;omega
 ·rcases List.mem_append.1 hy with hy|hy
  ·have:=h.lt y hy;omega
  ·rw[List.mem_singleton.1 hy];omega
 ·by_cases hki:k=i
  ·exact List.mem_append_right _ (by simp[hki])
  ·exact List.mem_append_left _ (h.all k y (by omega) hy hp)
 ·have:=h.sum
  rw[List.range_succ,List.map_append,List.sum_append,List.map_append,List.sum_append];omega
theorem Qb:(Tryz.prog.info? 3).map (fun i=>(i.zero,i.size,i.bytes))=some (some (.int .i64 0),1,8):=by kernel_rfl
abbrev AB(W:World)(base:Nat)(v:Value)(xs:List Nat):Prop:=(Kd.int .i64).R 3 W base (fun _=>True) v (xs.map (fun(k:Nat)=>(k:Int)))
abbrev aaE(W:World)(hb nf:Nat)(L:List Int):Prop:=(Kd.int .i64).R 3 W hb (fun k=>k=hb) (.slice (some ⟨hb,0,none⟩) nf nf) L
theorem ace(n:Nat)(hn:n<=100000):∀W:World,(Instr.makeSlice 101 (.int .i64 (n:Int)) (.int .i64 (n:Int))).run Tryz.prog W= .ok (.slice (some ⟨W.heap.size,0,none⟩) n n) (W.alloc (.cells (madeCells #[.int .i64 0] n) 3)):=by
 obtain⟨i,hi,hzz⟩:=Option.map_eq_some_iff.1 Qb;exact nC (P:=Tryz.prog) 101 3 (.int .i64 0) 8 Tryz.underlying101 Qb rfl (by omega) n (by omega)
theorem VZ(W:World)(n:Nat)(hn:n<=100000):aaE (W.alloc (.cells (madeCells #[.int .i64 0] n) 3)) W.heap.size n (List.replicate n 0):=
 Kd.fZ (lY (enc:=Value.int .i64) (d:=(0:Int)) W W.heap.size 3 n (Nat.le_refl _) (by omega)) (fun k hk=>by cases hk;rfl)
theorem Qc{W:World}(base:Nat){ops:Array Oper}{rest:List Oper}{o:Oper}{a:Act}{Q:Exit->Act->World->Prop}(hgd:o.guard=none)(s x:Operand)
 (ho:o.op= .call {callee:=.builtin .append,args:=#[s,x],argTypes:=#[101,101]}) {v:Value} {xs:List Nat} (y:Nat) (hs:a.eval s=v) (hx:a.eval x= .slice (some ⟨W.heap.size,0,none⟩) 1 1)
 (HO:AB W base v xs) (hb:base<=W.heap.size) (hl:xs.length+1<=1000000000000)
 (h:∀v1 w1,AB w1 base v1 (xs++[y])->W.grownBy w1 v.ownBlock->wpList Tryz.prog ops Q rest (a.put o.dst v1) w1):
 wpList Tryz.prog ops Q (o::rest) a (W.alloc (.cells #[.int .i64 (y:Int)] 3)):=
 Kd.nJ (Kd.int .i64) (w0:=W) base hgd s x 101 3 (.int .i64 0) 8 ho Tryz.underlying101 Qb rfl (by decide) (by omega) v (xs.map (fun(k:Nat)=>(k:Int))) (y:Int) [.int .i64 (y:Int)] (fun _=>True) (fun _=>False) hs hx rfl (fun _ hk=>hk.elim) (fun _ _=>trivial) HO (bg _ _) hb (by rw[List.length_map];omega)
  fun v1 w1 ho hb hg hat=>h v1 w1 (by unfold AB;rw[List.map_append];exact ho) hg
theorem wS{W:World}{base:Nat}{ops:Array Oper}{o:Oper}{a:Act}{Q:Exit->Act->World->Prop}{Kc:Act->World->Prop}(hw:Region.wanted o (yielded ops a.tmps)=true)(s x:Operand)
 (ho:o.op= .call {callee:=.builtin .append,args:=#[s,x],argTypes:=#[101,101]}) {v:Value} {xs ys:List Nat} (A:Option Addr) (m c:Nat) (hs:a.eval s=v) (hx:a.eval x= .slice A m c)
 (HO:AB W base v xs) (HR:(Kd.int .i64).C W A m (ys.map (fun(k:Nat)=>(k:Int)))) (hb:base<=W.heap.size) (hl:xs.length+m<=1000000000)
 (h:∀v1 w1,AB w1 base v1 (xs++ys)->W.grownBy w1 v.ownBlock->(v1.ownBlock=v.ownBlock∨∃b,v1.ownBlock=some b/\W.heap.size<=b)->Kc (a.put o.dst v1) w1):
 if Region.wanted o (yielded ops a.tmps)=true then Oper.wp Tryz.prog o a W Kc Q else Kc (a.put o.dst undef) W:=
 Kd.wY (Kd.int .i64) (Rr:=(Kd.int .i64).K W) (w0:=W) base hw s x 101 3 (.int .i64 0) 8 ho Tryz.underlying101 Qb rfl (by decide) (by omega) v (xs.map (fun(k:Nat)=>(k:Int))) (ys.map (fun(k:Nat)=>(k:Int))) A m c (fun _=>True) (fun _=>False) hs hx HO HR (fun _ _ h=>h) (fun _ hk=>hk.elim) (fun _ _=>trivial) (bg _ _) hb (by rw[List.length_map];omega)
  fun v1 w1 ho _ hg hat=>h v1 w1 (by unfold AB;rw[List.map_append];exact ho) hg hat
theorem Zk(W:World)(base:Nat)(hb:base<=W.heap.size):AB (W.alloc (.cells #[] 3)) base (.slice (some ⟨W.heap.size,0,none⟩) 0 0) []:=by
 have h:=Kd.fZ (ok:=fun _=>True) (h1:=fun _=>rfl) (lY (enc:=Value.int .i64) (d:=(0:Int)) W base 3 0 hb (by omega)) (fun k hk=>trivial);rw[show madeCells #[Value.int .i64 0] 0=#[]by first|rfl|simp[madeCells]|decide]at h;exact h
theorem jd{W W1:World}{base:Nat}{ok:Nat->Prop}{v:Value}{xs:List Int}(h:(Kd.int .i64).R 3 W base ok v xs)(hk:bD W W1):(Kd.int .i64).R 3 W1 base ok v xs:=by
 refine Kd.gB (Kd.uP (Kd.iR h) (fun k hb hlt=>?_)) (fun _ hk=>hk.1);obtain⟨_,_,_,q,hq,cells,hc⟩:=hb
 have hq2:q=3:=by
  rcases List.mem_cons.1 hq with h|h
  ·exact h
  ·exact absurd h (by simp[Kd.int,Kd.scalar])
 subst hq2;exact hk.2 k cells _ _ hc (by decide) (by decide) (by decide)
theorem bD.new{W W1 W2:World}{row:Option Nat}(h:bD W W1)(hg:W1.grownBy W2 row)(hr:∀k,row=some k->W.heap.size<=k):bD W W2:=
 ⟨Nat.le_trans h.1 hg.size,fun k cs t fr hc h1 h2 h3=>(hg.block k (Nat.lt_of_lt_of_le (bJ hc) h.1) (fun e=>by have:=hr k e.symm;have:=bJ hc;omega)).trans (h.2 k cs t fr hc h1 h2 h3)⟩
theorem JS.ints{w0 W W1:World}{p:Nat}{P:List Int}{a:Nat}{b:List Int}{l:List Tok}{vb vl v:Value}{base:Nat}{xs:List Nat}(h:JS w0 W p P a b l vb vl)(ho:AB W base v xs)(hb:w0.heap.size<=base)(hg:W.grownBy W1 v.ownBlock):JS w0 W1 p P a b l vb vl:=by
 have hty:=Kd.Yj ho;refine⟨h.jw.grown hg (fun e=>?_),Kd.Pm h.ob hty (by decide) hg,Kd.Pm h.ol hty (by decide) hg,h.be.grown hg h.be.size (fun k hk=>Nat.le_trans hb (Kd.lC ho k hk))⟩;obtain⟨cells,hc⟩:=hty p e.symm;obtain⟨cs,hc2⟩:=h.jw.typ;rw[hc]at hc2;injection hc2 with hc2
 injection hc2 with _ h2 _
 exact absurd h2 (by decide)
end Go.Proofs.YtapkmjfjikpnlaaGreatDoor
