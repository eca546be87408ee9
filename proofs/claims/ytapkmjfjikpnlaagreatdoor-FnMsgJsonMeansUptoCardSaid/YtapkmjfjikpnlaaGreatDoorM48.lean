/- A part of FnMsgJsonMeans. No conditions. -/
import Derived.Test.YtapkmjfjikpnlaaGreatDoorM47
import Derived.OpenShut
import Derived.Test.YtapkmjfjikpnlaaGreatDoorCards
import Derived.Test.YtapkmjfjikpnlaaGreatDoorTie
import Derived.Deep.DeepWitnessRowRef
import Derived.Lib.LaidIn
import Derived.Lib.LaidU8T
set_option maxRecDepth 100000
namespace Go.Proofs.YtapkmjfjikpnlaaGreatDoor
open Go.RowKit YtapkmjfjikpnlaaGreatDoorW.aG YtapkmjfjikpnlaaGreatDoorW.aJ Go.ChangeShapes Go.WideShapes Go.Deep
set_option linter.unusedVariables false
set_option linter.unusedSimpArgs false
theorem XO{H:Type}(d:DataW H):1<=Rows.uptoBulk d:=by
 cases d with
 |lit l=>cases l<;>simp[Rows.uptoBulk]
 |nil=>simp[Rows.uptoBulk]
 |ptr d=>simp[Rows.uptoBulk]
 |slice elems spare=>simp[Rows.uptoBulk]
 |agg parts=>simp[Rows.uptoBulk]
 |iface t d=>simp[Rows.uptoBulk]
 |map entries=>simp[Rows.uptoBulk]
 |held h=>simp[Rows.uptoBulk]
theorem Tv{H:Type}{d:DataW H}{l:List (DataW H)}(h:d∈l):Rows.uptoBulk d<=Rows.uptoBulkAll l:=by
 induction l with
 |nil=>cases h
 |cons x r ih=>
  simp only[Rows.uptoBulkAll];cases List.mem_cons.1 h with
  |inl e=>subst e;omega
  |inr e=>have:=ih e;omega
theorem LJ{H α:Type}(sz:α->Nat):∀(l:List α)(L:List (DataW H)),l.length=L.length->(∀(i:Nat)(y:α)(z:DataW H),l[i]? =some y->L[i]? =some z->sz y<=Rows.uptoBulk z)->(l.map sz).sum<=Rows.uptoBulkAll L
 |[],[],_,_=>Nat.le_refl _
 |y::l,z::L,h,hp=>by
  have h0:=hp 0 y z rfl rfl;have h1:=LJ sz l L (by simpa using h) (fun i a b ha hb=>hp (i+1) a b (by simpa using ha) (by simpa using hb));simp only[List.map_cons,List.sum_cons,Rows.uptoBulkAll];omega
 |[],_::_,h,_=>absurd h (by simp)
 |_::_,[],h,_=>absurd h (by simp)
def uz{H α:Type}(enc:TypeId×Value->H)(W:World)(base:Nat)(spare:Nat->Bool)(held:Bool)(B:Nat)(t:TypeId)(d:Kd α)(ok:α->Prop)(sz:α->Nat):Prop:=
 ∀fuel cs x,DataW.trod enc Tryz.prog W base spare held fuel t cs=some x->Rows.uptoBulk x.1<=B->∃y,d.K W y cs/\ok y/\sz y<=Rows.uptoBulk x.1
section
variable{H:Type}{enc:TypeId×Value->H}{W:World}{base:Nat}{spare:Nat->Bool}{held:Bool}{B:Nat}
theorem mO{t:TypeId}{k:IntKind}(ht:Tryz.prog.underlying t=some (.int k)):uz enc W base spare held B t (Kd.int k) (fun n=>(Lit.int k n).wf=true) (fun _=>0):=by
 intro fuel cs x h _;obtain⟨n,rfl,_,hw⟩:=DataW.trod_int ht h;exact⟨n,rfl,hw,Nat.zero_le _⟩
theorem zF{t:TypeId}(ht:Tryz.prog.underlying t=some .bool):uz enc W base spare held B t Kd.bool (fun _=>True) (fun _=>0):=by
 intro fuel cs x h _;obtain⟨b,rfl,_⟩:=DataW.trod_bool ht h;exact⟨b,rfl,trivial,Nat.zero_le _⟩
theorem qP{t:TypeId}(ht:Tryz.prog.underlying t=some .string):uz enc W base spare held B t Kd.string (fun s=>s.size<=B) (fun s=>s.size):=by
 intro fuel cs x h hb;obtain⟨s,rfl,rfl,hw⟩:=DataW.trod_string ht h
 have e:s.size<=Rows.uptoBulk (DataW.lit (H:=H) (.string s.data.toList)):=by
  have:s.data.toList.length=s.size:=lM s;simp only[Rows.uptoBulk];omega
 exact⟨s,rfl,Nat.le_trans e hb,e⟩
theorem jK{α:Type}{t e:TypeId}{d:Kd α}{ok:α->Prop}{sz:α->Nat}(ht:Tryz.prog.underlying t=some (.slice e))(hsz:Tryz.prog.cellsOf e=d.sz)(h:uz enc W base spare held B e d ok sz):
 uz enc W base spare held B t (Kd.slice e d) (fun l=>∀y∈l,ok y) (fun l=>(l.map sz).sum):=by
 intro fuel cs x hx hB;rcases open_slice ht hx with⟨rfl,_⟩|⟨a,len,cap,m,n,D,Pl,rfl,_,hl,hm,hmm,he,hel⟩
 ·exact⟨[],⟨none,0,rfl,Nat.le_refl _,Kd.IQ _ _⟩,fun y hy=>by simp at hy,Nat.zero_le _⟩
 ·have hlm:len<=m:=by rw[hmm];split<;>omega
  have hbe:Rows.uptoBulkAll ((List.range len).map D)+1<=Rows.uptoBulk x.1:=by
   rw[he];simp only[Rows.uptoBulk];omega
  obtain⟨l,hll,hlp⟩:=IW (n:=len) (P:=fun i y=>(ok y/\sz y<=Rows.uptoBulk (D i))/\∃c,d.K W y c/\c.length=d.sz/\∀j u,c[j]? =some u->W.cell? (a.add (i*d.sz+j))=some u) (fun i hi=>by
   obtain⟨cs',hcs,htr⟩:=hel i (by omega);have hpb:Rows.uptoBulk (D i)<=Rows.uptoBulkAll ((List.range len).map D):=Tv (List.mem_map.2 ⟨i,List.mem_range.2 hi,rfl⟩);obtain⟨y,hK,hok,hs⟩:=h _ _ _ htr (show Rows.uptoBulk (D i)<=B by omega);obtain⟨_,hlen,hcell⟩:=World.cells?_some hcs;refine⟨y,⟨hok,hs⟩,cs',hK,d.lN hK,fun j u hu=>?_⟩;have hj:j<Tryz.prog.cellsOf e:=by rw[<-hlen];exact(List.getElem?_eq_some_iff.1 hu).1
   have:=hcell j hj;rw[hsz]at this;rw[hu]at this;rw[<-this]
   congr 1
   unfold Addr.add
   by_cases h1:i*d.sz=0<;>by_cases h2:j=0
   ·simp[h1,h2]
   ·simp[h1,h2]
   ·simp[h1,h2]
   ·rw[if_neg h1,if_neg h2,if_neg (by omega)]
    simp[Nat.add_assoc])
  refine⟨l,⟨some a,cap,by rw[hll],by rw[hll];exact hl,rfl,by rw[hll];simp only[maxLen]at hm;omega,fun _=>⟨a,rfl,fun j p hp=>?_⟩⟩,fun y hy=>?_,?_⟩
  ·obtain⟨_,c,hK,hc,hcell⟩:=hlp j p hp
   exact⟨c,hc,hK,hcell⟩
  ·obtain⟨i,hi,rfl⟩:=List.mem_iff_getElem.1 hy
   exact(hlp i _ (List.getElem?_eq_getElem hi)).1.1
  ·refine Nat.le_trans (LJ sz l ((List.range len).map D) (by simp[hll]) (fun i y z hy hz=>?_)) (by omega)
   have hi:=(List.getElem?_eq_some_iff.1 hy).1;have hz':some (D i)=some z:=by rw[<-hz,List.getElem?_map,List.getElem?_range (by omega)];rfl
   cases hz';exact(hlp i y hy).1.2
theorem fF{α:Type}{t:TypeId}{d:Kd α}{ok:α->Prop}{sz:α->Nat}{n i:Nat}{cs:List Value}{xs:List (DataW H×List MemPlace)}(T:uz enc W base spare held B t d ok sz)
 (hf:DataW.trod enc Tryz.prog W base spare held n t cs=xs[i]?) {x:DataW H×List MemPlace} (hx:xs[i]? =some x) (hb:Rows.uptoBulk x.1<=B):∃y,d.K W y cs/\ok y/\sz y<=Rows.uptoBulk x.1:=
 T _ _ _ (hf.trans hx) hb
theorem LK:Tryz.prog.cellsOf 2=1:=by kernel_rfl
theorem yI:Tryz.prog.cellsOf 74=1:=by kernel_rfl
theorem LM:Tryz.prog.cellsOf 5=1:=by kernel_rfl
theorem xJ:Tryz.prog.cellsOf 26=1:=by kernel_rfl
theorem ny:Tryz.prog.cellsOf 68=2:=by kernel_rfl
theorem xK:Tryz.prog.cellsOf 66=1:=by kernel_rfl
theorem sQ:Tryz.prog.cellsOf 76=6:=by kernel_rfl
abbrev ahT(x:FT):Prop:=(Lit.int .i64 x.num).wf=true/\(Lit.int .i64 x.kind).wf=true/\(Lit.int .i64 x.typ).wf=true
theorem aah:uz enc W base spare held B 70 kFT ahT (fun x=>x.name.size):=by
 intro fuel cs x h hB;obtain⟨xs,m,rfl,rfl,hl,hlen,hf⟩:=DataW.trod_struct Tryz.underlying70 h;have hlen:xs.length=6:=hlen;obtain⟨x0,x1,x2,x3,x4,x5,rfl⟩:=Po hlen;obtain⟨c0,c1,c2,c3,c4,c5,rfl⟩:=Po (hl.trans nK);simp only[List.map_cons,List.map_nil,Rows.uptoBulk,Rows.uptoBulkAll]at hB ⊢;have h0:DataW.trod enc Tryz.prog W base spare held m 9 (([c0,c1,c2,c3,c4,c5].drop 0).take (Tryz.prog.cellsOf 9))=_:=hf 0 _ rfl;have h1:DataW.trod enc Tryz.prog W base spare held m 3 (([c0,c1,c2,c3,c4,c5].drop 1).take (Tryz.prog.cellsOf 3))=_:=hf 1 _ rfl;have h2:DataW.trod enc Tryz.prog W base spare held m 3 (([c0,c1,c2,c3,c4,c5].drop 2).take (Tryz.prog.cellsOf 3))=_:=hf 2 _ rfl;have h3:DataW.trod enc Tryz.prog W base spare held m 4 (([c0,c1,c2,c3,c4,c5].drop 3).take (Tryz.prog.cellsOf 4))=_:=hf 3 _ rfl;have h4:DataW.trod enc Tryz.prog W base spare held m 4 (([c0,c1,c2,c3,c4,c5].drop 4).take (Tryz.prog.cellsOf 4))=_:=hf 4 _ rfl;have h5:DataW.trod enc Tryz.prog W base spare held m 3 (([c0,c1,c2,c3,c4,c5].drop 5).take (Tryz.prog.cellsOf 3))=_:=hf 5 _ rfl;rw[oL]at h0;obtain⟨y0,k0,o0,s0⟩:=fF (B:=B) (qP Tryz.underlying9) h0 rfl (by omega);rw[vS]at h1;obtain⟨y1,k1,o1,_⟩:=fF (B:=B) (mO Tryz.underlying3) h1 rfl (by omega);rw[vS]at h2;obtain⟨y2,k2,o2,_⟩:=fF (B:=B) (mO Tryz.underlying3) h2 rfl (by omega);rw[wZ]at h3;obtain⟨y3,k3,o3,_⟩:=fF (B:=B) (zF Tryz.underlying4) h3 rfl (by omega);rw[wZ]at h4;obtain⟨y4,k4,o4,_⟩:=fF (B:=B) (zF Tryz.underlying4) h4 rfl (by omega);rw[vS]at h5;obtain⟨y5,k5,o5,_⟩:=fF (B:=B) (mO Tryz.underlying3) h5 rfl (by omega);exact⟨⟨y0,y1,y2,y3,y4,y5⟩,⟨[c0],[c1,c2,c3,c4,c5],rfl,k0,[c1],[c2,c3,c4,c5],rfl,k1,[c2],[c3,c4,c5],rfl,k2,[c3],[c4,c5],rfl,k3,[c4],[c5],rfl,k4,k5⟩,⟨o1,o2,o5⟩,Nat.le_trans s0 (by omega)⟩
theorem aai:uz enc W base spare held B 73 Yl (fun x=>Df x.fields<=B) (fun _=>0):=by
 intro fuel cs x h hB;obtain⟨xs,m,rfl,rfl,hl,hlen,hf⟩:=DataW.trod_struct Tryz.underlying73 h;have hlen:xs.length=2:=hlen;obtain⟨x0,x1,rfl⟩:=zK hlen;obtain⟨c0,c1,rfl⟩:=zK (hl.trans mD);simp only[List.map_cons,List.map_nil,Rows.uptoBulk,Rows.uptoBulkAll]at hB ⊢;have h0:DataW.trod enc Tryz.prog W base spare held m 9 (([c0,c1].drop 0).take (Tryz.prog.cellsOf 9))=_:=hf 0 _ rfl;have h1:DataW.trod enc Tryz.prog W base spare held m 71 (([c0,c1].drop 1).take (Tryz.prog.cellsOf 71))=_:=hf 1 _ rfl;rw[oL]at h0;obtain⟨y0,k0,o0,_⟩:=fF (B:=B) (qP Tryz.underlying9) h0 rfl (by omega);rw[tu]at h1;obtain⟨y1,k1,o1,s1⟩:=fF (B:=B) (jK Tryz.underlying71 nK aah) h1 rfl (by omega);exact⟨⟨y0,y1⟩,⟨[c0],[c1],rfl,k0,k1⟩,Nat.le_trans s1 (by omega),Nat.zero_le _⟩
theorem aaj:uz enc W base spare held B 97 kET (fun x=>(∀y∈x.names,y.size<=B)/\∀y∈x.nums,(Lit.int .i32 y).wf=true) (fun _=>0):=by
 intro fuel cs x h hB;obtain⟨xs,m,rfl,rfl,hl,hlen,hf⟩:=DataW.trod_struct Tryz.underlying97 h;have hlen:xs.length=2:=hlen;obtain⟨x0,x1,rfl⟩:=zK hlen;obtain⟨c0,c1,rfl⟩:=zK (hl.trans oz);simp only[List.map_cons,List.map_nil,Rows.uptoBulk,Rows.uptoBulkAll]at hB ⊢;have h0:DataW.trod enc Tryz.prog W base spare held m 94 (([c0,c1].drop 0).take (Tryz.prog.cellsOf 94))=_:=hf 0 _ rfl;have h1:DataW.trod enc Tryz.prog W base spare held m 95 (([c0,c1].drop 1).take (Tryz.prog.cellsOf 95))=_:=hf 1 _ rfl;rw[Ce]at h0;obtain⟨y0,k0,o0,_⟩:=fF (B:=B) (jK Tryz.underlying94 oL (qP Tryz.underlying9)) h0 rfl (by omega);rw[Ee]at h1;obtain⟨y1,k1,o1,_⟩:=fF (B:=B) (jK Tryz.underlying95 IX (mO Tryz.underlying21)) h1 rfl (by omega);exact⟨⟨y0,y1⟩,⟨[c0],[c1],rfl,k0,k1⟩,⟨o0,o1⟩,Nat.zero_le _⟩
theorem LP{fuel:Nat}{cs:List Value}{x:DataW H×List MemPlace}(h:DataW.trod enc Tryz.prog W base spare held fuel 25 cs=some x)(hB:Rows.uptoBulk x.1<=B):
 ∃(ms:List MT)(es:List ET)(A0:Option Addr)(c0:Nat)(A1:Option Addr)(c1:Nat),cs=[.slice A0 ms.length c0,.slice A1 es.length c1]/\qZ W ⟨ms,es⟩ A0 c0 A1 c1/\
  (∀m∈ms,Df m.fields<=B)/\∀e∈es,(∀y∈e.names,y.size<=B)/\∀y∈e.nums,(Lit.int .i32 y).wf=true:=by
 obtain⟨xs,m,rfl,rfl,hl,hlen,hf⟩:=DataW.trod_struct Tryz.underlying25 h;have hlen:xs.length=2:=hlen;obtain⟨x0,x1,rfl⟩:=zK hlen;obtain⟨c0,c1,rfl⟩:=zK (hl.trans xU);simp only[List.map_cons,List.map_nil,Rows.uptoBulk,Rows.uptoBulkAll]at hB;have h0:DataW.trod enc Tryz.prog W base spare held m 22 (([c0,c1].drop 0).take (Tryz.prog.cellsOf 22))=_:=hf 0 _ rfl;have h1:DataW.trod enc Tryz.prog W base spare held m 23 (([c0,c1].drop 1).take (Tryz.prog.cellsOf 23))=_:=hf 1 _ rfl;rw[qU]at h0;rw[uD]at h1;obtain⟨y0,k0,o0,_⟩:=fF (B:=B) (jK Tryz.underlying22 mD aai) h0 rfl (by omega);obtain⟨y1,k1,o1,_⟩:=fF (B:=B) (jK Tryz.underlying23 oz aaj) h1 rfl (by omega);obtain⟨A0,d0,e0,l0,g0⟩:=k0;obtain⟨A1,d1,e1,l1,g1⟩:=k1;refine⟨y0,y1,A0,d0,A1,d1,?_,⟨g0,g1,l0,l1⟩,o0,o1⟩;have e0:[c0]=_:=e0;have e1:[c1]=_:=e1;cases e0;cases e1
 rfl
def okV(n:Nat)(v:Val):Prop:=acB v/\v.S.size<=140737488355328/\Ky n v.dA
def okF:Nat->dD->Prop
 |0,_=>True
 |n+1,f=>∀v∈f.Values,okV n v
def szV(n:Nat)(v:Val):Nat:=v.S.size+kE n v.dA
def szF:Nat->dD->Nat
 |0,_=>0
 |n+1,f=>(f.Values.map (szV n)).sum
theorem Qr:∀{n:Nat}{m:List dD},(∀f∈m,okF n f)->Ky n m
 |0,_,_=>trivial
 |n+1,m,h=>fun f hf v hv=>h f hf v hv
theorem Qs:∀(n:Nat)(m:List dD),kE n m=(m.map (szF n)).sum
 |0,m=>by
  show 0=_
  induction m with
  |nil=>rfl
  |cons a m ih=>rw[List.map_cons,List.sum_cons,<-ih];rfl
 |n+1,m=>rfl
theorem wf_i64{n:Int}(h:(Lit.int .i64 n).wf=true): -9223372036854775808<=n/\n<9223372036854775808:=by
 simp[Lit.wf,IntKind.min,IntKind.max,IntKind.signed,IntKind.bits]at h;omega
theorem wf_u64{n:Int}(h:(Lit.int .u64 n).wf=true):0<=n/\n<18446744073709551616:=by
 simp[Lit.wf,IntKind.min,IntKind.max,IntKind.signed,IntKind.bits]at h;omega
theorem wf_i32{n:Int}(h:(Lit.int .i32 n).wf=true): -2147483648<=n/\n<=2147483647:=by
 simp[Lit.wf,IntKind.min,IntKind.max,IntKind.signed,IntKind.bits]at h;omega
theorem wf_u8{n:Int}(h:(Lit.int .u8 n).wf=true):0<=n/\n<=255:=by
 simp[Lit.wf,IntKind.min,IntKind.max,IntKind.signed,IntKind.bits]at h;omega
theorem XP{n:Nat}(hn:B<=140737488355328)(T:uz enc W base spare held B 68 (jh n) (okF n) (szF n)):uz enc W base spare held B 76 (iU n) (okV n) (szV n):=by
 intro fuel cs x h hB;obtain⟨xs,m,rfl,rfl,hl,hlen,hf⟩:=DataW.trod_struct Tryz.underlying76 h;have hlen:xs.length=6:=hlen;obtain⟨x0,x1,x2,x3,x4,x5,rfl⟩:=Po hlen;obtain⟨c0,c1,c2,c3,c4,c5,rfl⟩:=Po (hl.trans sQ);simp only[List.map_cons,List.map_nil,Rows.uptoBulk,Rows.uptoBulkAll]at hB ⊢;have h0:DataW.trod enc Tryz.prog W base spare held m 4 (([c0,c1,c2,c3,c4,c5].drop 0).take (Tryz.prog.cellsOf 4))=_:=hf 0 _ rfl;have h1:DataW.trod enc Tryz.prog W base spare held m 2 (([c0,c1,c2,c3,c4,c5].drop 1).take (Tryz.prog.cellsOf 2))=_:=hf 1 _ rfl;have h2:DataW.trod enc Tryz.prog W base spare held m 74 (([c0,c1,c2,c3,c4,c5].drop 2).take (Tryz.prog.cellsOf 74))=_:=hf 2 _ rfl;have h3:DataW.trod enc Tryz.prog W base spare held m 74 (([c0,c1,c2,c3,c4,c5].drop 3).take (Tryz.prog.cellsOf 74))=_:=hf 3 _ rfl;have h4:DataW.trod enc Tryz.prog W base spare held m 9 (([c0,c1,c2,c3,c4,c5].drop 4).take (Tryz.prog.cellsOf 9))=_:=hf 4 _ rfl;have h5:DataW.trod enc Tryz.prog W base spare held m 26 (([c0,c1,c2,c3,c4,c5].drop 5).take (Tryz.prog.cellsOf 26))=_:=hf 5 _ rfl;rw[wZ]at h0;obtain⟨y0,k0,o0,_⟩:=fF (B:=B) (zF Tryz.underlying4) h0 rfl (by omega);rw[LK]at h1;obtain⟨y1,k1,o1,_⟩:=fF (B:=B) (mO Tryz.underlying2) h1 rfl (by omega);rw[yI]at h2;obtain⟨y2,k2,o2,_⟩:=fF (B:=B) (mO Tryz.underlying74) h2 rfl (by omega);rw[yI]at h3;obtain⟨y3,k3,o3,_⟩:=fF (B:=B) (mO Tryz.underlying74) h3 rfl (by omega);rw[oL]at h4;obtain⟨y4,k4,o4,s4⟩:=fF (B:=B) (qP Tryz.underlying9) h4 rfl (by omega);rw[xJ]at h5;obtain⟨y5,k5,o5,s5⟩:=fF (B:=B) (jK Tryz.underlying26 (ny.trans (lg n).symm) T) h5 rfl (by omega);refine⟨.mk y0 y1 y2 y3 y4 y5,⟨[c0],[c1,c2,c3,c4,c5],rfl,k0,[c1],[c2,c3,c4,c5],rfl,k1,[c2],[c3,c4,c5],rfl,k2,[c3],[c4,c5],rfl,k3,[c4],[c5],rfl,k4,k5⟩,⟨⟨wf_i64 o1,wf_u64 o2,wf_u64 o3⟩,Nat.le_trans o4 hn,Qr o5⟩,?_⟩;show y4.size+kE n y5<=_;rw[Qs];have s5:(y5.map (szF n)).sum<=_:=s5;have s4:y4.size<=_:=s4;omega
theorem DW:∀(n:Nat),n<=140737488355328->uz enc W base spare held n 68 (jh n) (okF n) (szF n)
 |0,_=>fun fuel cs x h hB=>absurd (XO x.1) (by omega)
 |n+1,hn=>by
  intro fuel cs x h hB;obtain⟨xs,m,rfl,rfl,hl,hlen,hf⟩:=DataW.trod_struct Tryz.underlying68 h;have hlen:xs.length=2:=hlen;obtain⟨x0,x1,rfl⟩:=zK hlen;obtain⟨c0,c1,rfl⟩:=zK (hl.trans ny);simp only[List.map_cons,List.map_nil,Rows.uptoBulk,Rows.uptoBulkAll]at hB ⊢;have h0:DataW.trod enc Tryz.prog W base spare held m 3 (([c0,c1].drop 0).take (Tryz.prog.cellsOf 3))=_:=hf 0 _ rfl;have h1:DataW.trod enc Tryz.prog W base spare held m 66 (([c0,c1].drop 1).take (Tryz.prog.cellsOf 66))=_:=hf 1 _ rfl;rw[vS]at h0;obtain⟨y0,k0,o0,_⟩:=fF (B:=n) (mO Tryz.underlying3) h0 rfl (by omega);rw[xK]at h1;obtain⟨y1,k1,o1,s1⟩:=fF (B:=n) (jK Tryz.underlying66 (sQ.trans (PS n).symm) (XP (by omega) (DW n (by omega)))) h1 rfl (by omega);exact⟨.mk y0 y1,⟨[c0],[c1],rfl,k0,k1⟩,o1,Nat.le_trans s1 (by omega)⟩
theorem XQ{fuel:Nat}{v:Value}{x:DataW H×List MemPlace}(h:DataW.trod enc Tryz.prog W base spare held fuel 26 [v]=some x)(hB:Rows.uptoBulk x.1<=B)(hn:B<=1048576):
 ∃(m:List dD)(A:Option Addr)(c:Nat),v= .slice A m.length c/\Kd.C (jh B) W A m.length m/\Ky B m/\kE B m<=1000000000000:=by
 obtain⟨m,⟨A,c,e,l,g⟩,o,s⟩:=jK Tryz.underlying26 (ny.trans (lg B).symm) (DW B (by omega)) _ _ _ h hB;refine⟨m,A,c,by cases e;rfl,g,Qr o,?_⟩;rw[Qs];exact Nat.le_trans s (by omega)
theorem Pg{fuel:Nat}{v:Value}{x:DataW H×List MemPlace}(h:DataW.trod enc Tryz.prog W base spare held fuel 27 [v]=some x):
 ∃(P:List Int)(A:Option Addr)(c:Nat),v= .slice A P.length c/\Kd.C (Kd.int .u8) W A P.length P/\qE P:=by
 obtain⟨P,⟨A,c,e,l,g⟩,o,s⟩:=jK Tryz.underlying27 LM (mO Tryz.underlying5) _ _ _ h (Nat.le_refl _);exact⟨P,A,c,by cases e;rfl,g,fun y hy=>wf_u8 (o y hy)⟩
end
end Go.Proofs.YtapkmjfjikpnlaaGreatDoor
namespace Go.Proofs.YtapkmjfjikpnlaaGreatDoor.fnMsgJsonMeans
open Go.ChangeShapes Go.WideShapes Go.ChangeAt Go.RowKit
set_option linter.unusedVariables false
theorem laidOut:laidOutB Tryz.prog=true:=by kernel_rfl
theorem contract(H:Type)(enc:TypeId×Value->H)(W:World)(base:Nat)(args:Array Value)(ds gs:List (DataW H))(before:List MemPlace)
 (hval0:∀(j:Nat)t v,Tryz.f3.params[j]? =some t->args[j]? =some v->Value.okWide Tryz.prog W .any base t v)
 (hW:DataW.Whole enc Tryz.prog Tryz.f3.params.toList Rows.fnMsgJsonMeansSpec.vars false W args.toList ds gs before) (hk:Rows.uptoSmall H (ds++gs)=true) (hU:Lib.Utf8Tabs 3 4 W):
 Calls Tryz.prog 3 args W fun e W'=>∃v,e= .returned v/\Rows.fnMsgJsonMeansSpec.post enc Tryz.prog Tryz.f3 false true false false W args v W':=by
 have hval:∀(j:Nat)t v,Tryz.f3.params[j]? =some t->args[j]? =some v->Value.okWide Tryz.prog W .any base t v:=hval0
 have hW':=hW;obtain⟨p,q,hA0,hV,rfl,hfz,hnd⟩:=hW;have hA:DataW.TrodAll enc Tryz.prog W 0 (fun _=>true) true Tryz.f3.params.toList args.toList ds p:=hA0;rw[Tryz.params3]at hA hval;obtain⟨v0,vs0,d0,ds0,p0,q0,hargs,rfl,rfl,h0,r0⟩:=trodAll_cons hA;obtain⟨v1,vs1,d1,ds1,p1,q1,rfl,rfl,rfl,h1,r1⟩:=trodAll_cons r0;obtain⟨v2,vs2,d2,ds2,p2,q2,rfl,rfl,rfl,h2,r2⟩:=trodAll_cons r1;obtain⟨v3,vs3,d3,ds3,p3,q3,rfl,rfl,rfl,h3,r3⟩:=trodAll_cons r2;obtain⟨rfl,rfl,rfl⟩:=trodAll_nil r3;obtain rfl:args=#[v0,v1,v2,v3]:=by cases args;simp_all
 obtain⟨rfl,rfl⟩:=trodVars_none hV;have hb:Rows.uptoBulkAll ([d0,d1,d2,d3]++[])<=1048576:=of_decide_eq_true hk;simp only[List.append_nil,Rows.uptoBulkAll]at hb;obtain⟨B,hB⟩:∃B,B=1048576:=⟨_,rfl⟩
 rw[<-hB]at hb;have lt:∀{t v d p},DataW.Trod enc Tryz.prog W 0 (fun _=>true) true t v d p->∀x∈p,x.block<W.heap.size:=fun k=>by obtain⟨m,hm⟩:=k;exact DataW.trod_lt m _ _ _ hm
 obtain⟨cs,rfl,hcs⟩:=okWide_struct Tryz.underlying25 (hval 0 25 v0 rfl rfl);obtain⟨typ,rfl,rfl,rfl,wt⟩:=open_int Tryz.underlying3 (hval 1 3 v1 rfl rfl) h1;obtain⟨a2,l2,k2,rfl⟩:=okWide_slice Tryz.underlying26 (hval 2 26 v2 rfl rfl);obtain⟨a3,l3,k3,rfl⟩:=okWide_slice Tryz.underlying27 (hval 3 27 v3 rfl rfl);have g0:=h0;have g2:=h2;have g3:=h3;obtain⟨f0,e0⟩:=g0;obtain⟨f2,e2⟩:=g2;obtain⟨f3,e3⟩:=g3;obtain⟨ms,es,A0,c0,A1,c1,hcl,hsr,hns,hen⟩:=LP (B:=B) e0 (show Rows.uptoBulk d0<=B by omega);obtain⟨m,A2,c2,hm2,hC,hR,hBu⟩:=XQ (B:=B) e2 (show Rows.uptoBulk d2<=B by omega) (by omega);obtain⟨P,A3,c3,hp3,hCP,hP⟩:=Pg e3;cases hm2;cases hp3
 obtain rfl:cs=#[.slice A0 ms.length c0,.slice A1 es.length c1]:=by
  have:cs.toList=_:=hcl;rw[<-Array.toList_inj];exact this
 have hAr:Args W B ms es A0 c0 A1 c1 m _:=⟨hsr,hC,by omega,hR,hBu,fun mt hmt=>Nat.le_trans (hns mt hmt) (by omega),fun e he x hx=>Nat.le_trans ((hen e he).1 x hx) (by omega),fun e he x hx=>wf_i32 ((hen e he).2 x hx)⟩;clear hA0 hval0 hk hfz hnd;refine(afN B ms es A0 c0 A1 c1 typ m _ _ P _ _ W hAr hP hCP hU).mono fun e W'⟨he,bel⟩=>?_
 subst he
 exact⟨_,rfl,_,_,_,[],_,[],hW',trodAll_mk1 (shut_bool Tryz.underlying4 _),
  (trodAll_cons_mk (Below.trod laidOut (by kernel_rfl) (of_decide_eq_true (by kernel_rfl)) h0 bel (lt h0)) (trodAll_cons_mk (Below.trod laidOut (by kernel_rfl) (of_decide_eq_true (by kernel_rfl)) h1 bel (lt h1)) (trodAll_cons_mk (Below.trod laidOut (by kernel_rfl) (of_decide_eq_true (by kernel_rfl)) h2 bel (lt h2)) (trodAll_cons_mk (Below.trod laidOut (by kernel_rfl) (of_decide_eq_true (by kernel_rfl)) h3 bel (lt h3)) trodAll_mk0)))),rfl,bel.frame _,fun h=>by cases h⟩
end Go.Proofs.YtapkmjfjikpnlaaGreatDoor.fnMsgJsonMeans
namespace Go.Proofs.YtapkmjfjikpnlaaGreatDoor.fnMsgJsonMeans
open Go.Shelf Go.ChangeShapes Go.WideShapes Go.ChangeAt Go.RowKit Go.Lib
set_option linter.unusedVariables false
theorem own:ownKnob Tryz.prog.godebug=none:=by kernel_rfl
def afO:Ren:=⟨fun n=>n,fun|119=>260|138=>262|139=>263|n=>n,fun n=>n⟩
theorem adB:U8Types Tryz.prog afO:=⟨Tryz.underlying5,Tryz.underlying260,Tryz.underlying262,Tryz.underlying263⟩
theorem adC:U8Extra Tryz.prog afO:=⟨by kernel_rfl,by kernel_rfl,by kernel_rfl,by kernel_rfl,by kernel_rfl,by kernel_rfl,by kernel_rfl⟩
theorem XR:Rows.laid_unicode_utf8_first=firstData:=by kernel_rfl
theorem Tz:(Rows.laid_unicode_utf8_acceptRanges:DataW Unit)=acceptData:=by kernel_rfl
theorem XT:("unicode/utf8.first",firstData)∈Rows.fnMsgJsonMeansUptoRow.laid:=by
 rw[<-XR];exact .tail _ (.tail _ (.tail _ (.tail _ (.tail _ (.tail _ (.tail _ (.head _)))))))
theorem TA:("unicode/utf8.acceptRanges",acceptData)∈Rows.fnMsgJsonMeansUptoRow.laid:=by
 rw[<-Tz];exact .tail _ (.tail _ (.tail _ (.head _)))
theorem tabs{W:World}(hL:laidMetH Tryz.prog Rows.fnMsgJsonMeansUptoRow.laid W):Lib.Utf8Tabs 3 4 W:=
 utf8Tabs_of_readsT adB adC (Lib.laidMet.reads hL XT) (Lib.laidMet.reads hL TA)
def lits:DataW Unit->Array Value
 | .agg l=>(l.map fun| .lit (.int k n)=>Value.int k n|_=>Value.bool false).toArray
 |_=>#[]
def textOf:DataW Unit->Value
 | .iface _ (.ptr (.agg [.lit (.string b)]))=>.string ⟨b.toArray⟩
 |_=>.bool false
noncomputable abbrev N0:Nat:=(World.settled Tryz.prog default).heap.size
noncomputable def laidWorld(os:Os):World:=
 let N:=(World.settled Tryz.prog os).heap.size
 let w0:=World.holding Tryz.prog os ⟨#[.cells #[textOf Rows.laid_strconv_ErrRange] 302,.cells #[textOf Rows.laid_strconv_ErrSyntax] 302,.cells #[textOf Rows.laid_pub_rescript_pub_protobuf_inner_encoding_json_ErrUnexpectedEOF] 302],#[],[]⟩
 let put (h:Array Obj) (g:Nat) (cs:Array Value):Array Obj:=h.modify g fun
  | .cells _ t frozen=>.cells cs t frozen
  |o=>o
 let h1:=put w0.heap 9 (lits Rows.laid_math_bits_deBruijn32tab)
 let h2:=put h1 10 (lits Rows.laid_math_bits_deBruijn64tab)
 let h3:=put h2 5 (lits Rows.laid_internal_strconv_uint64pow10)
 let h4:=put h3 4 ((List.range 16).flatMap fun i=>[Value.int .u8 (Lib.accLo i),Value.int .u8 (Lib.accHi i)]).toArray
 let h5:=put h4 8 #[.iface 300 (.pointer (some ⟨N,0,none⟩))]
 let h6:=put h5 7 #[.iface 300 (.pointer (some ⟨N+1,0,none⟩))]
 let h7:=put h6 0 #[.iface 300 (.pointer (some ⟨N+2,0,none⟩))]
 let h8:=put h7 3 (lits Rows.laid_unicode_utf8_first)
 {w0 with heap:=h8}
abbrev oG:Array Value:=#[.agg #[.slice none 0 0,.slice none 0 0],.int .i64 0,.slice none 0 0,.slice none 0 0]
end Go.Proofs.YtapkmjfjikpnlaaGreatDoor.fnMsgJsonMeans
