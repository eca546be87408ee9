/- A part of FnMsgJsonMeans. No conditions. -/
import Derived.Deep.AppendLies
import Derived.Deep.OwnRows
import Derived.Lib.ConvBytes
import Derived.WalkKit
import Derived.BigQuiet
import Derived.Deep.DeepCutAuto
import Derived.Deep.CutBlock
import Derived.Deep.RegionHeld3
import Derived.Lib.AppendStr
set_option linter.unusedVariables false
set_option linter.unusedSimpArgs false
namespace Go.Proofs.YtapkmjfjikpnlaaGreatDoorW.aG
open Go.RowKit
structure aC(p:Prop):Prop where mk::(out:p)
theorem ah{p:Prop}(h:p):aC p:=⟨h⟩
theorem bY{p:Prop}[Decidable p](h:¬p):decide p=false:=decide_eq_false h
theorem bZ{p:Prop}[Decidable p](h:p):decide p=true:=decide_eq_true h
theorem bg(n:Nat)(w:World):Below n w w:=Below.refl n w
structure sU(w w':World):Prop where mk::(out:∃n,w'=w.drewN n)
theorem sU.refl(w:World):sU w w:=⟨⟨0,rfl⟩⟩
theorem sU.step{w w':World}(h:sU w w')(n:Nat):sU w (w'.drewN n):=by
 obtain⟨m,rfl⟩:=h;exact⟨⟨m+n,World.drewN_drewN ..⟩⟩
theorem sU.grown{w w':World}(h:sU w w'):Grown w w':=by
 obtain⟨n,rfl⟩:=h
 induction n with
 |zero=>exact Grown.refl _
 |succ n ih=>rw[<-World.drew_drewN];exact Grown.drew ih
theorem sU.below{w w':World}(h:sU w w'):Below w.heap.size w w':=by
 obtain⟨n,rfl⟩:=h
 induction n with
 |zero=>exact Below.refl _ _
 |succ n ih=>rw[<-World.drew_drewN];exact ih.drew
def rd(xs:List Int)(i:Int):Int:=xs.getD i.toNat 0
def bt(s:ByteArray)(i:Int):Int:=if h:i.toNat<s.size then((s[i.toNat]'h).toNat:Int)else 0
theorem jX(s:ByteArray)(i:Int):∀h:i.toNat<s.size,((s[i.toNat]'h).toNat:Int)=bt s i:=fun h=>by simp[bt,h]
def nums(k:IntKind)(xs:List Int):List Value:=xs.map fun x=>.int k x
theorem ak{w W:World}(h:Below w.heap.size w W)(o:Obj):Below w.heap.size w (W.alloc o):=h.alloc h.size o
theorem aQ{B:Nat}{w W:World}(h:Below B w W):Below B w W.drew:=⟨h.os,h.tape,h.output,h.size,h.block⟩
theorem aS{B:Nat}{w W:World}(h:Below B w W)(n:Nat):Below B w (W.drewN n):=⟨h.os,h.tape,h.output,h.size,h.block⟩
theorem BF{B:Nat}{w w1 w2:World}(h:Below B w w1)(hB:B<=w1.heap.size)(k:Below w1.heap.size w1 w2):Below B w w2:=
 h.trans ⟨k.os,k.tape,k.output,k.size,fun i hi=>k.block i (Nat.lt_of_lt_of_le hi hB)⟩
theorem uO{B:Nat}{w w1:World}(h:Below B w w1)(row:Option Nat)(hB:B<=w1.heap.size){w2:World}(hg:w1.grownBy w2 row)(hr:∀k,row=some k->B<=k):Below B w w2:=h.grown hg hB hr
theorem BG{w w1:World}(h:Below w.heap.size w w1)(row:Option Nat):w.grownBy w1 row:=⟨h.os,h.tape,h.output,h.size,fun i hi _=>h.block i hi⟩
theorem ay{w w1:World}(h:Below w.heap.size w w1){a:Addr}{v:Value}(hc:w.cell? a=some v):w1.cell? a=some v:=(h.cell (World.block_lt_of_cell? w a hc)).trans hc
theorem add_plain(g j:Nat):(⟨g,0,none⟩:Addr).add j=⟨g,j,none⟩:=by unfold Addr.add;split<;>simp_all
def dS(w:World)(k:IntKind)(A:Option Addr)(n:Nat)(xs:List Int):Prop:=
 xs.length=n/\n<=9223372036854775807/\(0<n->∃ad,A=some ad/\∀j,j<n->w.cell? (ad.add j)=some (.int k (xs.getD j 0)))
theorem dS.at_{w:World}{k:IntKind}{A:Option Addr}{n:Nat}{xs:List Int}(h:dS w k A n xs)(i:Int)(h0:0<=i)(h1:i<n):∃ad,A=some ad/\w.cell? (ad.add i.toNat)=some (.int k (rd xs i)):=by
 obtain⟨ad,e,hc⟩:=h.2.2 (by omega);exact⟨ad,e,hc _ (by omega)⟩
theorem dS.below{w w1:World}{k:IntKind}{A:Option Addr}{n:Nat}{xs:List Int}(h:dS w k A n xs)(hb:Below w.heap.size w w1):dS w1 k A n xs:=
 ⟨h.1,h.2.1,fun hn=>by
  obtain⟨ad,e,hc⟩:=h.2.2 hn;exact⟨ad,e,fun j hj=>ay hb (hc j hj)⟩⟩
theorem Yh(W:World)(base:Nat)(e:TypeId)(size:Nat):W.ownsRow base e size (.slice none 0 0) 0 []:=⟨by simp,.inl ⟨rfl,rfl⟩⟩
theorem own_base{w:World}{base:Nat}{e:TypeId}{size n:Nat}{v:Value}{xs:List Value}(h:w.ownsRow base e size v n xs)(k:Nat)(hk:v.ownBlock=some k):base<=k:=by
 rcases h.2 with⟨rfl,_⟩|⟨g,cap,cur,rfl,hb,_⟩
 ·simp[Value.ownBlock]at hk
 ·have:g=k:=by simpa [Value.ownBlock]using hk
  omega
theorem TN{w:World}{base:Nat}{e:TypeId}{size n:Nat}{v:Value}{xs:List Value}(h:w.ownsRow base e size v n xs)(k:Nat)(hk:v.ownBlock=some k):k<w.heap.size:=by
 rcases h.2 with⟨rfl,_⟩|⟨g,cap,cur,rfl,hb,hh,_⟩
 ·simp[Value.ownBlock]at hk
 ·have:g=k:=by simpa [Value.ownBlock]using hk
  subst this;exact(Array.getElem?_eq_some_iff.1 hh).1
theorem FV{w w1:World}{base:Nat}{e:TypeId}{size n:Nat}{v:Value}{xs:List Value}(h:w.ownsRow base e size v n xs)(hb:Below w.heap.size w w1):w1.ownsRow base e size v n xs:=
 h.kept (BG hb none) (by cases v.ownBlock<;>simp)
theorem Qu{w:World}{base n:Nat}{e:TypeId}{size:Nat}{v:Value}{xs:List Value}(h:w.ownsRow base e size v n xs):∃A c,v= .slice A n c:=by
 rcases h.2 with⟨rfl,rfl⟩|⟨g,cap,cur,rfl,_⟩
 ·exact⟨none,0,rfl⟩
 ·exact⟨_,cap,rfl⟩
theorem LX{P:Program}{w:World}{base n:Nat}{e' src dst e:TypeId}{v:Value}{xs:List Int}(hs:P.underlying src=some (.slice e))(he:P.underlying e=some (.int .u8))(hd:P.underlying dst=some .string)
 (h:w.ownsRow base e' 1 v n (nums .u8 xs)):(convert src dst v).run P w= .ok (.string (strOfNums xs)) w:=by
 have hl:xs.length=n:=by have:=h.1;simp[nums]at this;exact this
 rcases h.2 with⟨rfl,rfl⟩|⟨g,cap,cur,rfl,_⟩
 ·obtain rfl:xs=[]:=List.eq_nil_of_length_eq_zero hl
  exact run_convert_bytes_nil w src e hs he 0 0 dst hd
 ·refine run_convert_bytes_arg w src e hs he g 0 n cap xs hl (fun i hi=>?_) dst hd
  have hc:=h.cells (g:=g) rfl i (.int .u8 (xs.getD i 0)) (by simp[nums,List.getElem?_eq_getElem (show i<xs.length by omega),List.getD_eq_getElem?_getD]);have ha:(⟨g,0,none⟩:Addr).add i=⟨g,0+i,none⟩:=by unfold Addr.add;split<;>simp_all
  rwa [ha]at hc
section
variable{P:Program}{ops:Array Oper}{rest:List Oper}{o:Oper}{a:Act}{Q:Exit->Act->World->Prop}
end
section
variable{P:Program}
end
theorem FW(W:World)(base:Nat)(e:TypeId)(k:IntKind)(xs:List Int)(hb:base<=W.heap.size)(hm:xs.length<=9223372036854775807):
 (W.alloc (.cells (nums k xs).toArray e)).ownsRow base e 1 (.slice (some ⟨W.heap.size,0,none⟩) xs.length xs.length) xs.length (nums k xs):=by
 have h:=World.ownsRow_lit (base:=base) (e:=e) (size:=1) W (nums k xs).toArray xs.length hb (by simpa [maxLen]using hm) (by simp[nums])
 simpa using h
section
variable{P:Program}{ops:Array Oper}{rest:List Oper}{o:Oper}{a:Act}{Q:Exit->Act->World->Prop}
end
def bytesOf(s:ByteArray):List Int:=s.data.toList.map fun b=>(b.toNat:Int)
theorem lM(s:ByteArray):s.data.toList.length=s.size:=by rw[Array.length_toList];rfl
theorem bytesOf_length(s:ByteArray):(bytesOf s).length=s.size:=by rw[bytesOf,List.length_map,lM]
theorem lu(s:ByteArray)(i:Int):rd (bytesOf s) i=bt s i:=by
 unfold rd bt bytesOf
 split
 ·rename_i h
  have h':i.toNat<s.data.toList.length:=by rw[lM];exact h
  simp[List.getD_eq_getElem?_getD,List.getElem?_eq_getElem h']
  rfl
 ·rename_i h
  have h':s.data.toList.length<=i.toNat:=by rw[lM];omega
  simp[List.getD_eq_getElem?_getD,List.getElem?_eq_none h']
theorem IE{P:Program}(src dst e:TypeId){u:TypeDesc}(hs:P.underlying src=some u)(hd:P.underlying dst=some (.slice e))(he:P.underlying e=some (.int .u8))(s:ByteArray)(W:World):
 (convert src dst (.string s)).run P W= .ok (.slice (some ⟨W.heap.size,0,none⟩) s.size (grownCap W s.size 0 e)) (Lib.bytesWorld W e s):=Lib.run_convert_string_bytes W src dst e s hs hd he
theorem IG(W:World)(e:TypeId)(s:ByteArray)(hs:s.size<=9223372036854775807):dS (Lib.bytesWorld W e s) .u8 (some ⟨W.heap.size,0,none⟩) s.size (bytesOf s):=by
 refine⟨bytesOf_length s,hs,fun _=>⟨_,rfl,fun j hj=>?_⟩⟩;rw[add_plain,Lib.bytesWorld_cell W e s j hj];have h':j<s.data.toList.length:=by rw[lM];exact hj
 simp[bytesOf,List.getD_eq_getElem?_getD,List.getElem?_eq_getElem h']
theorem je{B:Nat}{w W:World}(h:Below B w W)(hB:B<=W.heap.size)(e:TypeId)(s:ByteArray):Below B w (Lib.bytesWorld W e s):=
 h.trans ⟨rfl,rfl,rfl,by rw[Lib.bytesWorld_size];omega,fun i hi=>Lib.bytesWorld_at_old W e s i (by omega)⟩
theorem dS.TP{w:World}{k:IntKind}{A:Option Addr}{n:Nat}{xs:List Int}(h:dS w k A n xs)(i:Nat)(hi:i<=n):dS w k A i (xs.take i):=by
 refine⟨by rw[List.length_take,h.1];omega,by have:=h.2.1;omega,fun hp=>?_⟩;obtain⟨ad,e,hc⟩:=h.2.2 (by omega);refine⟨ad,e,fun j hj=>?_⟩;rw[hc j (by omega)];simp[List.getD_eq_getElem?_getD,hj]
theorem dS.aak{w:World}{k:IntKind}{A:Option Addr}{n c:Nat}{xs:List Int}(h:dS w k A n xs)(i:Nat)(hi:i<=n)(hc:n<=c):dS w k (if c=i then A else A.map (·.add i)) (n-i) (xs.drop i):=by
 refine⟨by rw[List.length_drop,h.1],by have:=h.2.1;omega,fun hp=>?_⟩;obtain⟨ad,rfl,hcell⟩:=h.2.2 (by omega);rw[if_neg (by omega)];refine⟨ad.add i,rfl,fun j hj=>?_⟩
 have ha:(ad.add i).add j=ad.add (i+j):=by
  unfold Addr.add
  by_cases h1:i=0<;>by_cases h2:j=0<;>simp[h1,h2,Nat.add_assoc]
 rw[ha,hcell (i+j) (by omega)];simp[List.getD_eq_getElem?_getD,List.getElem?_drop]
def EM{α:Type}(a b:Option α):Prop:=∀r,a=some r->b=some r
theorem EM.refl{α:Type}(a:Option α):EM a a:=fun _ h=>h
theorem EM.none{α:Type}(b:Option α):EM Option.none b:=fun _ h=>by cases h
theorem EM.trans{α:Type}{a b c:Option α}(h:EM a b)(k:EM b c):EM a c:=fun r hr=>k r (h r hr)
theorem EM.bind{α β:Type}{a a':Option α}{f f':α->Option β}(h:EM a a')(k:∀x,EM (f x) (f' x)):EM (a.bind f) (a'.bind f'):=by
 intro r hr;obtain⟨x,hx,hf⟩:=Option.bind_eq_some_iff.1 hr;exact Option.bind_eq_some_iff.2 ⟨x,h x hx,k x r hf⟩
theorem EM.map{α β:Type}{a a':Option α}(f:α->β)(h:EM a a'):EM (a.map f) (a'.map f):=by
 intro r hr;obtain⟨x,hx,hf⟩:=Option.map_eq_some_iff.1 hr;exact Option.map_eq_some_iff.2 ⟨x,h x hx,hf⟩
theorem zG{α:Type}{g:Nat->Option α}(h:∀k,EM (g k) (g (k+1)))(k:Nat):∀j,EM (g k) (g (k+j))
 |0=>EM.refl _
 |j+1=>(zG h k j).trans (h (k+j))
theorem Qv{α:Type}{g:Nat->Option α}(h:∀k,EM (g k) (g (k+1))){k k':Nat}(hk:k<=k'){r:α}(hr:g k=some r):g k'=some r:=by
 have:=zG h k (k'-k) r hr
 rwa [Nat.add_sub_cancel' hk]at this
def kS{α:Type}(R:α->List Value->Prop)(size:Nat)(ps:List α)(cs:List Value):Prop:=
 cs.length=ps.length*size/\∀j p,ps[j]? =some p->R p ((cs.drop (j*size)).take size)
theorem kS.none{α:Type}(R:α->List Value->Prop)(size:Nat):kS R size [] []:=⟨by simp,fun j p h=>by simp at h⟩
theorem kS.snoc{α:Type}{R:α->List Value->Prop}{size:Nat}{ps:List α}{cs c:List Value}{p:α}(h:kS R size ps cs)(hp:R p c)(hc:c.length=size):kS R size (ps++[p]) (cs++c):=by
 refine⟨by rw[List.length_append,h.1,hc,List.length_append,List.length_singleton,Nat.add_mul,Nat.one_mul],fun j q hq=>?_⟩;rcases Nat.lt_or_ge j ps.length with hj|hj
 ·rw[List.getElem?_append_left hj]at hq
  have h1:j*size+size<=cs.length:=by rw[h.1,<-Nat.succ_mul];exact Nat.mul_le_mul_right _ hj
  have h2:=h.2 j q hq;rw[List.drop_append_of_le_length (by omega),List.take_append_of_le_length (by rw[List.length_drop];omega)];exact h2
 ·have hj':j=ps.length:=by
   have:=(List.getElem?_eq_some_iff.1 hq).1;rw[List.length_append,List.length_singleton]at this;omega
  subst hj';have hq':p=q:=by simpa using hq
  subst hq';rw[<-h.1,List.drop_left,<-hc,List.take_length];exact hp
theorem kS.oH{α:Type}{R R':α->List Value->Prop}{size:Nat}{ps:List α}{cs:List Value}(h:kS R size ps cs)(hR:∀p c,R p c->R' p c):kS R' size ps cs:=⟨h.1,fun j p hj=>hR _ _ (h.2 j p hj)⟩
def iC{α:Type}(R:α->List Value->Prop)(size:Nat)(w:World)(A:Option Addr)(n:Nat)(ps:List α):Prop:=
 ps.length=n/\n<=9223372036854775807/\(0<n->∃ad,A=some ad/\∀j p,ps[j]? =some p->∃c,c.length=size/\R p c/\∀i u,c[i]? =some u->w.cell? (ad.add (j*size+i))=some u)
theorem iC.agA{α:Type}{R:α->List Value->Prop}{size:Nat}{w:World}{A:Option Addr}{n:Nat}{ps:List α}(h:iC R size w A n ps)(d:α)(i:Int)(h0:0<=i)(h1:i<n):
 ∃ad c,A=some ad/\c.length=size/\R (ps.getD i.toNat d) c/\∀j u,c[j]? =some u->w.cell? (ad.add (i.toNat*size+j))=some u:=by
 obtain⟨ad,e,hc⟩:=h.2.2 (by omega);have hl:i.toNat<ps.length:=by have:=h.1;omega
 obtain⟨c,hs,hr,hcell⟩:=hc i.toNat _ (List.getElem?_eq_getElem hl);refine⟨ad,c,e,hs,?_,hcell⟩;rw[List.getD_eq_getElem?_getD,List.getElem?_eq_getElem hl];exact hr
theorem iC.oH{α:Type}{R R':α->List Value->Prop}{size:Nat}{w w1:World}{A:Option Addr}{n:Nat}{ps:List α}(h:iC R size w A n ps)(hb:Below w.heap.size w w1)(hR:∀p c,R p c->R' p c):iC R' size w1 A n ps:=
 ⟨h.1,h.2.1,fun hn=>by
  obtain⟨ad,e,hc⟩:=h.2.2 hn;refine⟨ad,e,fun j p hj=>?_⟩;obtain⟨c,hs,hr,hcell⟩:=hc j p hj;exact⟨c,hs,hR _ _ hr,fun i u hu=>ay hb (hcell i u hu)⟩⟩
theorem Ec{α:Type}{R:α->List Value->Prop}{w:World}{base n size:Nat}{e:TypeId}{v:Value}{ps:List α}{cs:List Value}(h:w.ownsRow base e size v n cs)(hR:kS R size ps cs)(hn:ps.length=n):
 ∃A c,v= .slice A n c/\iC R size w A n ps:=by
 rcases Nat.eq_zero_or_pos n with h0|h0
 ·rcases h.2 with⟨rfl,rfl⟩|⟨g,cap,cur,rfl,_⟩
  ·exact⟨none,0,rfl,hn,by omega,fun hp=>absurd hp (by omega)⟩
  ·exact⟨_,cap,rfl,hn,by omega,fun hp=>absurd hp (by omega)⟩
 ·obtain⟨g,cap,rfl,_,_⟩:=h.form h0
  have hm:n<=9223372036854775807:=by
   rcases h.2 with⟨_,h1⟩|⟨g',cap',cur,he,_,_,h1,h2,_⟩
   ·omega
   ·simp only[maxLen]at h2
    omega
  refine⟨_,cap,rfl,hn,hm,fun _=>⟨_,rfl,fun j p hj=>⟨(cs.drop (j*size)).take size,?_,hR.2 j p hj,fun i u hu=>?_⟩⟩⟩
  ·have hjl:=(List.getElem?_eq_some_iff.1 hj).1
   have h1:j*size+size<=cs.length:=by rw[hR.1,<-Nat.succ_mul];exact Nat.mul_le_mul_right _ hjl
   rw[List.length_take,List.length_drop];omega
  ·refine h.cells (g:=g) rfl _ u ?_
   rw[List.getElem?_take]at hu
   split at hu
   ·rw[List.getElem?_drop]at hu
    exact hu
   ·cases hu
theorem dH(ad:Addr)(m j:Nat)(hj:0<j):ad.add (m+j)=⟨(ad.add m).block,(ad.add m).off+j,none⟩:=by
 unfold Addr.add
 by_cases hm:m=0
 ·subst hm
  simp[Nat.ne_of_gt hj]
 ·simp[hm,Nat.add_assoc]
section
variable{P:Program}{ops:Array Oper}{rest:List Oper}{o:Oper}{a:Act}{Q:Exit->Act->World->Prop}
theorem pR{w0 W:World}(base:Nat)(hgd:o.guard=none)(s x:Operand)(t e:TypeId)(z:Value)(size bytes:Nat)
 (ho:o.op= .call {callee:=.builtin .append,args:=#[s,x],argTypes:=#[t,t]})
 (ht:P.underlying t=some (.slice e)) (hinfo:(P.info? e).map (fun i=>(i.zero,i.size,i.bytes))=some (some z,size,bytes)) (hz:z.cells.size=size) (hs0:0<size) (hb0:0<bytes)
 (v:Value) (n:Nat) (xs ys:List Value) (hs:a.eval s=v) (hx:a.eval x= .slice (some ⟨W.heap.size,0,none⟩) 1 1) (hys:ys.length=size) (h1:∀u∈ys,u.oneCell'=true)
 (HO:W.ownsRow base e size v n xs) (HB:Below base w0 W) (hbase:base<=W.heap.size) (hl:(n+1)*bytes<=140737488355328)
 (h:∀v1 w1,w1.ownsRow base e size v1 (n+1) (xs++ys)->Below base w0 w1->W.grownBy w1 v.ownBlock->(v1.ownBlock=v.ownBlock∨∃b,v1.ownBlock=some b/\W.heap.size<=b)->wpList P ops Q rest (a.put o.dst v1) w1):
 wpList P ops Q (o::rest) a (W.alloc (.cells ys.toArray e)):=by
 obtain⟨i0,hi,hzz⟩:=Option.map_eq_some_iff.1 hinfo;simp only[Prod.mk.injEq]at hzz;obtain⟨hz0,hz1,hz2⟩:=hzz;have hlen:n+1<=140737488355328:=Nat.le_trans (Nat.le_mul_of_pos_right _ hb0) hl
 refine wpList_append_own_at (W.alloc (.cells ys.toArray e)) hgd s x t ho base e i0 z size bytes ht hi hz0 hz1 hz2 hz hs0 v n xs hs (HO.alloc _) ⟨W.heap.size,0,none⟩ 1 1 ys hx (by rw[hys];simp)
  (by simpa using World.news_of_block (cs:=ys.toArray) (t:=e) (fr:=(0,0)) (heap_alloc_new W (.cells ys.toArray e))) h1 (by simp only[maxLen];omega) hl (by simp;omega) ?_
 intro v1 w1 hown hg _ hat;refine h v1 w1 hown ((HB.alloc hbase _).grown hg (by simp;omega) (own_base HO)) (World.grownBy.trans (World.grownBy_alloc W _ _) hg) ?_;rcases hat with hat|hat
 ·exact .inl hat
 ·exact .inr ⟨_,hat,by simp⟩
end
theorem own_ne{w:World}{base:Nat}{e t:TypeId}{size n g:Nat}{v:Value}{xs:List Value}{cs:Array Value}(h:w.ownsRow base e size v n xs)(hg:w.heap[g]? =some (.cells cs t (0,0)))(hne:e≠t):some g≠v.ownBlock:=by
 rcases h.2 with⟨rfl,_⟩|⟨g',cap,cur,rfl,_,hh,_⟩
 ·simp[Value.ownBlock]
 ·intro he
  have:g=g':=by simpa [Value.ownBlock]using he
  subst this;rw[hg]at hh;injection hh with hh
  injection hh with _ ht
  exact hne ht.symm
theorem II{w:World}{base:Nat}{e:TypeId}{size n:Nat}{v:Value}{xs:List Value}(h:w.ownsRow base e size v n xs){p:Addr}(hne:some p.block≠v.ownBlock)(u:Value):(w.setCell p u).ownsRow base e size v n xs:=by
 obtain⟨h1,h2⟩:=h;refine⟨h1,?_⟩;rcases h2 with h2|⟨g,cap,cur,rfl,hg,hh,r⟩
 ·exact .inl h2
 ·exact .inr ⟨g,cap,cur,rfl,hg,by rw[Below.heap_setCell _ _ _ _ (fun e=>hne (by rw[e];rfl))];exact hh,r⟩
theorem aW{w:World}{g:Nat}{t:TypeId}{cs:Array Value}(h:w.heap[g]? =some (.cells cs t (0,0)))(i:Nat)(u:Value):(w.setCell ⟨g,i,none⟩ u).heap[g]? =some (.cells (cs.setIfInBounds i u) t (0,0)):=by
 simp[World.setCell,Array.getElem?_modify,h]
theorem bI{w:World}{g:Nat}{t:TypeId}{cs:Array Value}(h:w.heap[g]? =some (.cells cs t (0,0))){p:Addr}(hp:g≠p.block)(u:Value):(w.setCell p u).heap[g]? =some (.cells cs t (0,0)):=(Below.heap_setCell w p u g hp).trans h
theorem bJ{w:World}{g:Nat}{o:Obj}(h:w.heap[g]? =some o):g<w.heap.size:=(Array.getElem?_eq_some_iff.1 h).1
theorem aA{w:World}{g:Nat}{t:TypeId}{cs:Array Value}(h:w.heap[g]? =some (.cells cs t (0,0)))(i:Nat):w.cell? ⟨g,i,none⟩=cs[i]? :=cell_of_row w g i cs t (0,0) h
theorem aN{w:World}{g:Nat}{t:TypeId}{cs:Array Value}(h:w.heap[g]? =some (.cells cs t (0,0)))(i:Nat):w.frozen? ⟨g,i,none⟩=false:=by simp[World.frozen?,h]
theorem Qw{w w1:World}{g:Nat}{o:Obj}{row:Option Nat}(h:w.heap[g]? =some o)(hg:w.grownBy w1 row)(hne:some g≠row):w1.heap[g]? =some o:=(hg.block g (bJ h) hne).trans h
theorem aaW{w:World}{g g':Nat}{t t':TypeId}{cs cs':Array Value}(h:w.heap[g]? =some (.cells cs t (0,0)))(h':w.heap[g']? =some (.cells cs' t' (0,0)))(hne:t≠t'):g≠g':=by
 rintro rfl;rw[h]at h';injection h' with h'
 injection h' with _ ht
 exact hne ht
def aH(w w':World)(g:Nat)(row:Option Nat):Prop:=w.heap.size<=w'.heap.size/\∀i,i<w.heap.size->i≠g->some i≠row->w'.heap[i]? =w.heap[i]?
theorem aH.refl(w:World)(g:Nat)(row:Option Nat):aH w w g row:=⟨Nat.le_refl _,fun _ _ _ _=>rfl⟩
theorem aH.BH{w w1:World}{row:Option Nat}(h:w.grownBy w1 row)(g:Nat):aH w w1 g row:=⟨h.size,fun i hi _ hr=>h.block i hi hr⟩
theorem aH.of_below{w w1:World}(h:Below w.heap.size w w1)(g:Nat)(row:Option Nat):aH w w1 g row:=⟨h.size,fun i hi _ _=>h.block i hi⟩
theorem aH.xM{w w1:World}{g:Nat}{row:Option Nat}(h:aH w w1 g row)(j:Nat)(u:Value):aH w (w1.setCell ⟨g,j,none⟩ u) g row:=
 ⟨by simpa [World.setCell]using h.1,fun i hi hg hr=>(Below.heap_setCell w1 ⟨g,j,none⟩ u i hg).trans (h.2 i hi hg hr)⟩
theorem aH.trans{w w1 w2:World}{g:Nat}{row row1:Option Nat}(h:aH w w1 g row)(k:aH w1 w2 g row1)(hr:row1=row∨∃b,row1=some b/\w.heap.size<=b):aH w w2 g row:=
 ⟨Nat.le_trans h.1 k.1,fun i hi hg hn=>by
  refine(k.2 i (Nat.lt_of_lt_of_le hi h.1) hg ?_).trans (h.2 i hi hg hn);rcases hr with rfl|⟨b,rfl,hb⟩
  ·exact hn
  ·intro e
   injection e with e
   omega⟩
theorem aH.blk{w w1:World}{g g':Nat}{row:Option Nat}{o:Obj}(h:aH w w1 g row)(hb:w.heap[g']? =some o)(hg:g'≠g)(hr:some g'≠row):w1.heap[g']? =some o:=(h.2 g' (bJ hb) hg hr).trans hb
theorem aH.own{w w1:World}{g:Nat}{row:Option Nat}{base:Nat}{e:TypeId}{size n:Nat}{v:Value}{xs:List Value}(h:aH w w1 g row)(ho:w.ownsRow base e size v n xs)(hg:v.ownBlock≠some g)(hr:v.ownBlock=none∨v.ownBlock≠row):w1.ownsRow base e size v n xs:=by
 obtain⟨h1,h2⟩:=ho;refine⟨h1,?_⟩;rcases h2 with h2|⟨b,cap,cur,rfl,hb,hh,r⟩
 ·exact .inl h2
 ·refine .inr ⟨b,cap,cur,rfl,hb,h.blk hh ?_ ?_,r⟩
  ·intro e
   exact hg (by rw[<-e];rfl)
  ·rcases hr with hr|hr
   ·simp[Value.ownBlock]at hr
   ·exact hr
def Ev{α:Type}(g:Nat->Option α)(r:α):Prop:=∃K,∀k,K<=k->g k=some r
theorem Ev.of{α:Type}{g:Nat->Option α}{r:α}(hg:∀k,EM (g k) (g (k+1))){k:Nat}(h:g k=some r):Ev g r:=⟨k,fun _ hk=>Qv hg hk h⟩
theorem Ev.now{α:Type}(r:α):Ev (fun _=>some r) r:=⟨0,fun _ _=>rfl⟩
theorem Ev.bind{α β:Type}{g:Nat->Option α}{f:Nat->α->Option β}{a:α}{r:β}(h:Ev g a)(k:Ev (fun n=>f n a) r):Ev (fun n=>(g n).bind (f n)) r:=by
 obtain⟨K,h⟩:=h;obtain⟨K',k⟩:=k;refine⟨max K K',fun n hn=>?_⟩;have h1:=h n (by omega);have h2:=k n (by omega);simp only[h1,Option.bind_some];exact h2
theorem Ev.step{α:Type}{g f:Nat->Option α}{r:α}(h:∀k,g (k+1)=f k)(k:Ev f r):Ev g r:=by
 obtain⟨K,k⟩:=k;refine⟨K+1,fun n hn=>?_⟩;obtain⟨m,rfl⟩:∃m,n=m+1:=⟨n-1,by omega⟩
 rw[h];exact k m (by omega)
theorem Ev.congr{α:Type}{g f:Nat->Option α}{r:α}(h:∀k,g k=f k)(k:Ev f r):Ev g r:=by
 obtain⟨K,k⟩:=k;exact⟨K,fun n hn=>(h n).trans (k n hn)⟩
section
variable{P:Program}{ops:Array Oper}{o:Oper}{a:Act}{Q:Exit->Act->World->Prop}{K:Act->World->Prop}
theorem xO{w0 W:World}(base:Nat)(hw:Region.wanted o (yielded ops a.tmps)=true)(s x:Operand)(t e:TypeId)(z:Value)(size bytes:Nat)
 (ho:o.op= .call {callee:=.builtin .append,args:=#[s,x],argTypes:=#[t,t]})
 (ht:P.underlying t=some (.slice e)) (hinfo:(P.info? e).map (fun i=>(i.zero,i.size,i.bytes))=some (some z,size,bytes)) (hz:z.cells.size=size) (hs0:0<size) (hb0:0<bytes)
 (v:Value) (n:Nat) (xs ys:List Value) (hs:a.eval s=v) (hx:a.eval x= .slice (some ⟨W.heap.size,0,none⟩) 1 1) (hys:ys.length=size) (h1:∀u∈ys,u.oneCell'=true)
 (HO:W.ownsRow base e size v n xs) (HB:Below base w0 W) (hbase:base<=W.heap.size) (hl:(n+1)*bytes<=140737488355328)
 (h:∀v1 w1,w1.ownsRow base e size v1 (n+1) (xs++ys)->Below base w0 w1->W.grownBy w1 v.ownBlock->(v1.ownBlock=v.ownBlock∨∃b,v1.ownBlock=some b/\W.heap.size<=b)->K (a.put o.dst v1) w1):
 if Region.wanted o (yielded ops a.tmps)=true then Oper.wp P o a (W.alloc (.cells ys.toArray e)) K Q else K (a.put o.dst undef) (W.alloc (.cells ys.toArray e)):=by
 obtain⟨i0,hi,hzz⟩:=Option.map_eq_some_iff.1 hinfo;simp only[Prod.mk.injEq]at hzz;obtain⟨hz0,hz1,hz2⟩:=hzz;have hlen:n+1<=140737488355328:=Nat.le_trans (Nat.le_mul_of_pos_right _ hb0) hl;rw[if_pos hw]
 obtain⟨v1,w1,hr,hown,hg,_,hat⟩:=run_append_own_at (P:=P) (W.alloc (.cells ys.toArray e)) base t o.type e i0 z size bytes ht hi hz0 hz1 hz2 hz hs0 v n xs (HO.alloc _) ⟨W.heap.size,0,none⟩ 1 1 ys (by rw[hys];simp)
  (by simpa using World.news_of_block (cs:=ys.toArray) (t:=e) (fr:=(0,0)) (heap_alloc_new W (.cells ys.toArray e))) h1 (by simp only[maxLen];omega) hl (by simp;omega)
 unfold Oper.wp execOp;simp only[ho,resolve,invoke,builtin,Sem.run_bind,Sem.run_pure,Result.andThen_ok,List.map_toArray,List.map_cons,List.map_nil,hs,hx,hr];refine h v1 w1 hown ((HB.alloc hbase _).grown hg (by simp;omega) (own_base HO)) (World.grownBy.trans (World.grownBy_alloc W _ _) hg) ?_;rcases hat with hat|hat
 ·exact .inl hat
 ·exact .inr ⟨_,hat,by simp⟩
end
theorem LY{w:World}{base base':Nat}{e:TypeId}{size n:Nat}{v:Value}{xs:List Value}(h:w.ownsRow base e size v n xs)(hb:base'<=base):w.ownsRow base' e size v n xs:=by
 obtain⟨h1,h2⟩:=h;refine⟨h1,?_⟩;rcases h2 with h2|⟨g,cap,cur,rfl,hg,r⟩
 ·exact .inl h2
 ·exact .inr ⟨g,cap,cur,rfl,Nat.le_trans hb hg,r⟩
section
variable{α:Type}{enc:α->Value}{d:α}
def encs(enc:α->Value)(xs:List α):List Value:=xs.map enc
def wG(d:α)(xs:List α)(i:Int):α:=xs.getD i.toNat d
theorem zH(xs:List α):(encs enc xs).length=xs.length:=by simp[encs]
theorem IJ(xs ys:List α):encs enc (xs++ys)=encs enc xs++encs enc ys:=by simp[encs]
theorem TQ(xs:List α)(j:Nat)(h:j<xs.length):(encs enc xs)[j]? =some (enc (xs.getD j d)):=by
 simp[encs,List.getElem?_eq_getElem h,List.getD_eq_getElem?_getD]
def fH(enc:α->Value)(d:α)(w:World)(A:Option Addr)(n:Nat)(xs:List α):Prop:=
 xs.length=n/\n<=9223372036854775807/\(0<n->∃ad,A=some ad/\∀j,j<n->w.cell? (ad.add j)=some (enc (xs.getD j d)))
theorem fH.at_{w:World}{A:Option Addr}{n:Nat}{xs:List α}(h:fH enc d w A n xs)(i:Int)(h0:0<=i)(h1:i<n):∃ad,A=some ad/\w.cell? (ad.add i.toNat)=some (enc (wG d xs i)):=by
 obtain⟨ad,e,hc⟩:=h.2.2 (by omega);exact⟨ad,e,hc _ (by omega)⟩
theorem fH.below{w w1:World}{A:Option Addr}{n:Nat}{xs:List α}(h:fH enc d w A n xs)(hb:Below w.heap.size w w1):fH enc d w1 A n xs:=
 ⟨h.1,h.2.1,fun hn=>by
  obtain⟨ad,e,hc⟩:=h.2.2 hn;exact⟨ad,e,fun j hj=>ay hb (hc j hj)⟩⟩
theorem fH.TP{w:World}{A:Option Addr}{n:Nat}{xs:List α}(h:fH enc d w A n xs)(i:Nat)(hi:i<=n):fH enc d w A i (xs.take i):=by
 refine⟨by rw[List.length_take,h.1];omega,by have:=h.2.1;omega,fun hp=>?_⟩;obtain⟨ad,e,hc⟩:=h.2.2 (by omega);refine⟨ad,e,fun j hj=>?_⟩;rw[hc j (by omega)];simp[List.getD_eq_getElem?_getD,hj]
theorem fH.aak{w:World}{A:Option Addr}{n c:Nat}{xs:List α}(h:fH enc d w A n xs)(i:Nat)(hi:i<=n)(hc:n<=c):fH enc d w (if c=i then A else A.map (·.add i)) (n-i) (xs.drop i):=by
 refine⟨by rw[List.length_drop,h.1],by have:=h.2.1;omega,fun hp=>?_⟩;obtain⟨ad,rfl,hcell⟩:=h.2.2 (by omega);rw[if_neg (by omega)];refine⟨ad.add i,rfl,fun j hj=>?_⟩
 have ha:(ad.add i).add j=ad.add (i+j):=by
  unfold Addr.add
  by_cases h1:i=0<;>by_cases h2:j=0<;>simp[h1,h2,Nat.add_assoc]
 rw[ha,hcell (i+j) (by omega)];simp[List.getD_eq_getElem?_getD,List.getElem?_drop]
theorem nC{P:Program}(t e:TypeId)(z:Value)(bytes:Nat)(ht:P.underlying t=some (.slice e))(hinfo:(P.info? e).map (fun i=>(i.zero,i.size,i.bytes))=some (some z,1,bytes))(hz:z.cells=#[z])(hb0:0<bytes)
 (m:Nat) (hn:m*bytes<=281474976710656):
 ∀W:World,(Instr.makeSlice t (.int .i64 (m:Int)) (.int .i64 (m:Int))).run P W= .ok (.slice (some ⟨W.heap.size,0,none⟩) m m) (W.alloc (.cells (madeCells #[z] m) e)):=by
 intro W;have hm:m<=281474976710656:=Nat.le_trans (Nat.le_mul_of_pos_right _ hb0) hn;exact run_make_row' t e z bytes ht hinfo hz .i64 .i64 m (by rw[Nat.mul_comm];exact hn) (by omega) W
theorem IK(W:World)(base:Nat)(e:TypeId)(m:Nat)(hb:base<=W.heap.size)(hm:m<=9223372036854775807):
 (W.alloc (.cells (madeCells #[enc d] m) e)).ownsRow base e 1 (.slice (some ⟨W.heap.size,0,none⟩) m m) m (encs enc (List.replicate m d)):=by
 have h:=World.ownsRow_lit (base:=base) (e:=e) (size:=1) W (madeCells #[enc d] m) m hb (by simpa [maxLen]using hm) (by simp[size_madeCells])
 have hl:(madeCells #[enc d] m).toList=encs enc (List.replicate m d):=by
  apply List.ext_getElem
  ·simp[encs,madeCells]
  ·intro i h1 h2
   simp[encs,madeCells,Nat.mod_one]
 rwa [hl]at h
theorem Qx{W:World}{base g n cap:Nat}{e:TypeId}{xs:List α}(h:W.ownsRow base e 1 (.slice (some ⟨g,0,none⟩) n cap) n (encs enc xs))(i:Int)(h0:0<=i)(h1:i<n):
 W.cell? ⟨g,i.toNat,none⟩=some (enc (wG d xs i))/\W.frozen? ⟨g,i.toNat,none⟩=false:=by
 have hl:xs.length=n:=by have:=h.1;simp[encs]at this;exact this
 constructor
 ·have hc:=h.cells (g:=g) rfl i.toNat _ (TQ (d:=d) xs i.toNat (by omega))
  rwa [add_plain]at hc
 ·rcases h.2 with⟨h',_⟩|⟨g',cap',cur,h',_,hh,_⟩
  ·cases h'
  ·have:g=g':=by injection h' with h';injection h' with h';injection h' with h'
   subst this;simp[World.frozen?,hh]
theorem FX{W:World}{base g n cap:Nat}{e:TypeId}{xs:List α}(h:W.ownsRow base e 1 (.slice (some ⟨g,0,none⟩) n cap) n (encs enc xs))(i:Int)(x:α):
 (W.setCell ⟨g,i.toNat,none⟩ (enc x)).ownsRow base e 1 (.slice (some ⟨g,0,none⟩) n cap) n (encs enc (xs.set i.toNat x))/\W.grownBy (W.setCell ⟨g,i.toNat,none⟩ (enc x)) (some g):=by
 have hs:=h.stored i.toNat (enc x);have he:(encs enc xs).set i.toNat (enc x)=encs enc (xs.set i.toNat x):=by simp[encs,List.map_set]
 rwa [he]at hs
end
section
variable{α:Type}{P:Program}{ops:Array Oper}{rest:List Oper}{o:Oper}{a:Act}{Q:Exit->Act->World->Prop}
end
theorem bn{w:World}{g:Nat}{o:Obj}(h:w.heap[g]? =some o)(o':Obj):(w.alloc o').heap[g]? =some o:=(Below.heap_alloc w o' g (bJ h)).trans h
theorem pU{w:World}{g:Nat}{o:Obj}(h:w.heap[g]? =some o):w.drew.heap[g]? =some o:=h
theorem aI{w w1:World}{g:Nat}{o:Obj}(h:w.heap[g]? =some o)(hb:Below w.heap.size w w1):w1.heap[g]? =some o:=(hb.block g (bJ h)).trans h
theorem aP(w:World)(o:Obj):(w.alloc o).heap[w.heap.size]? =some o:=heap_alloc_new w o
section
variable{P:Program}
theorem dI{fn:Func}{p u:Tmp}{ty:TypeId}(h:fn.results=#[.cell p ty,.tmp u])(tmps:Array Value)(w:World)(g:Nat)(t:TypeId)(cs:Array Value)(fr:Nat×Nat)(d:TypeDesc)
 (hp:tmps.getD p undef= .pointer (some ⟨g,0,none⟩)) (hg:w.heap[g]? =some (.cells cs t fr))
 (hu:P.underlying ty=some d) (hd:(match d with| .struct _| .array _ _=>true|_=>false)=true) (hi:(P.info? ty).map (·.size)=some cs.size):
 (results fn tmps).run P w= .ok (.tuple #[.agg cs,tmps.getD u undef]) w:=by
 have hp':tmps[p]?.getD undef= .pointer (some ⟨g,0,none⟩):=by simpa using hp
 simp[results,h,hp',asAddr,run_loadVar_row w g t ty cs fr d hg hu hd hi]
end
theorem aaX{w:World}{base n m c size:Nat}{e:TypeId}{A:Option Addr}{xs:List Value}(h:w.ownsRow base e size (.slice A m c) n xs):m<=c:=by
 rcases h.2 with⟨he,_⟩|⟨g,cap,cur,he,_,_,hnc,_⟩
 ·injection he with _ h2 h3
  omega
 ·injection he with _ h2 h3
  omega
def gy{α:Type}(R:α->List Value->Prop)(e:TypeId)(size:Nat)(w:World)(base:Nat)(v:Value)(ps:List α):Prop:=
 ∃inner,w.ownsRow base e size v ps.length inner/\kS R size ps inner
section
variable{α:Type}{R R':α->List Value->Prop}{e:TypeId}{size:Nat}{w w1:World}{base:Nat}{v:Value}{ps:List α}
theorem gy.none_(R:α->List Value->Prop)(e:TypeId)(size:Nat)(w:World)(base:Nat):gy R e size w base (.slice none 0 0) []:=⟨[],Yh _ _ _ _,kS.none _ _⟩
theorem gy.oH(h:gy R e size w base v ps)(hR:∀p c,R p c->R' p c):gy R' e size w base v ps:=by
 obtain⟨inner,ho,hr⟩:=h;exact⟨inner,ho,hr.oH hR⟩
theorem gy.below(h:gy R e size w base v ps)(hb:Below w.heap.size w w1):gy R e size w1 base v ps:=by
 obtain⟨inner,ho,hr⟩:=h;exact⟨inner,FV ho hb,hr⟩
theorem gy.xM(h:gy R e size w base v ps){g:Nat}{t:TypeId}{cells:Array Value}(hb:w.heap[g]? =some (.cells cells t (0,0)))(ht:e≠t)(j:Nat)(u:Value):gy R e size (w.setCell ⟨g,j,none⟩ u) base v ps:=by
 obtain⟨inner,ho,hr⟩:=h;exact⟨inner,II ho (own_ne ho hb ht) u,hr⟩
theorem gy.keep(h:gy R e size w base v ps){g:Nat}{t:TypeId}{cells:Array Value}(hb:w.heap[g]? =some (.cells cells t (0,0)))(ht:e≠t)(hk:aH w w1 g none):gy R e size w1 base v ps:=by
 obtain⟨inner,ho,hr⟩:=h;exact⟨inner,hk.own ho (Ne.symm (own_ne ho hb ht)) (by cases v.ownBlock<;>simp),hr⟩
theorem gy.reads(h:gy R e size w base v ps):∃A c,v= .slice A ps.length c/\ps.length<=c/\iC R size w A ps.length ps:=by
 obtain⟨inner,ho,hr⟩:=h;obtain⟨A,c,rfl,hrow⟩:=Ec ho hr rfl;exact⟨A,c,rfl,aaX ho,hrow⟩
theorem gy.TR(h:gy R e size w base v ps){g:Nat}{t:TypeId}{cells:Array Value}(hb:w.heap[g]? =some (.cells cells t (0,0)))(ht:e≠t):some g≠v.ownBlock:=by
 obtain⟨inner,ho,hr⟩:=h;exact own_ne ho hb ht
theorem gy.lit(W:World)(base:Nat){inner:List Value}(hr:kS R size ps inner)(hb:base<=W.heap.size)(hm:ps.length<=9223372036854775807):
 gy R e size (W.alloc (.cells inner.toArray e)) base (.slice (some ⟨W.heap.size,0,none⟩) ps.length ps.length) ps:=by
 have h:=World.ownsRow_lit (base:=base) (e:=e) (size:=size) W inner.toArray ps.length hb (by simpa [maxLen]using hm) (by simpa using hr.1);exact⟨inner,by simpa using h,hr⟩
end
section
variable{P:Program}{ops:Array Oper}{rest:List Oper}{o:Oper}{a:Act}{Q:Exit->Act->World->Prop}{α:Type}{R:α->List Value->Prop}
theorem gy.append{w0 W:World}(base:Nat)(hgd:o.guard=none)(s x:Operand)(t e:TypeId)(z:Value)(size bytes:Nat)
 (ho:o.op= .call {callee:=.builtin .append,args:=#[s,x],argTypes:=#[t,t]})
 (ht:P.underlying t=some (.slice e)) (hinfo:(P.info? e).map (fun i=>(i.zero,i.size,i.bytes))=some (some z,size,bytes)) (hz:z.cells.size=size) (hs0:0<size) (hb0:0<bytes)
 (v:Value) (ps:List α) (p:α) (cs:List Value) (hs:a.eval s=v) (hx:a.eval x= .slice (some ⟨W.heap.size,0,none⟩) 1 1) (hp:R p cs) (hcs:cs.length=size) (h1:∀u∈cs,u.oneCell'=true)
 (HO:gy R e size W base v ps) (HB:Below base w0 W) (hbase:base<=W.heap.size) (hl:(ps.length+1)*bytes<=140737488355328)
 (h:∀v1 w1,gy R e size w1 base v1 (ps++[p])->Below base w0 w1->W.grownBy w1 v.ownBlock->(v1.ownBlock=v.ownBlock∨∃b,v1.ownBlock=some b/\W.heap.size<=b)->wpList P ops Q rest (a.put o.dst v1) w1):
 wpList P ops Q (o::rest) a (W.alloc (.cells cs.toArray e)):=by
 obtain⟨inner,hown,hr⟩:=HO;refine pR base hgd s x t e z size bytes ho ht hinfo hz hs0 hb0 v ps.length inner cs hs hx hcs h1 hown HB hbase hl ?_;intro v1 w1 hown1 hb1 hg1 hat1;exact h v1 w1 ⟨inner++cs,by rw[List.length_append,List.length_singleton];exact hown1,hr.snoc hp hcs⟩ hb1 hg1 hat1
end
section
variable{P:Program}{ops:Array Oper}{o:Oper}{a:Act}{Q:Exit->Act->World->Prop}{K:Act->World->Prop}{α:Type}{R:α->List Value->Prop}
end
theorem iC.TS{α:Type}{R:α->List Value->Prop}{size:Nat}{w:World}{ad:Addr}{n:Nat}{ps:List α}(h:iC R size w (some ad) n ps):
 ∃inner,kS R size ps inner/\∀j u,inner[j]? =some u->w.cell? (ad.add j)=some u:=by
 have key:∀m,m<=ps.length->∃inner,kS R size (ps.take m) inner/\∀j u,inner[j]? =some u->w.cell? (ad.add j)=some u:=by
  intro m
  induction m with
  |zero=>exact fun _=>⟨[],kS.none _ _,fun j u hu=>by simp at hu⟩
  |succ m ih=>
   intro hm;obtain⟨inner,hr,hc⟩:=ih (by omega);obtain⟨ad',he,hcell⟩:=h.2.2 (by have:=h.1;omega);injection he with he
   subst he;obtain⟨c,hcl,hp,hcc⟩:=hcell m _ (List.getElem?_eq_getElem (show m<ps.length by omega));refine⟨inner++c,?_,fun j u hu=>?_⟩
   ·rw[List.take_succ_eq_append_getElem (show m<ps.length by omega)]
    exact hr.snoc hp hcl
   ·have hil:inner.length=m*size:=by rw[hr.1,List.length_take,Nat.min_eq_left (by omega)]
    rcases Nat.lt_or_ge j inner.length with hj|hj
    ·rw[List.getElem?_append_left hj]at hu
     exact hc j u hu
    ·rw[List.getElem?_append_right hj]at hu
     have:=hcc (j-inner.length) u hu
     rwa [hil,Nat.add_sub_cancel' (by omega)]at this
 obtain⟨inner,hr,hc⟩:=key ps.length (Nat.le_refl _);rw[List.take_length]at hr;exact⟨inner,hr,hc⟩
section
variable{α:Type}{P:Program}
theorem FY(enc:α->Value)(d:α)(t e:TypeId)(kl kh:IntKind){i:TypeInfo}(ht:P.underlying t=some (.slice e))(hi:P.info? e=some i)(hsz:i.size=1)(A:Option Addr)(c:Nat)(xs:List α)(a b:Int)(h0:0<=a)(h1:a<=b)(hm:b<=xs.length)(hc:xs.length<=c):
 ∃A':Option Addr,(∀W:World,(Instr.slice t (.slice A xs.length c) (some (.int kl a)) (some (.int kh b)) none).run P W= .ok (.slice A' ((xs.take b.toNat).drop a.toNat).length (c-a.toNat)) W)/\
  (∀w:World,fH enc d w A xs.length xs->fH enc d w A' ((xs.take b.toNat).drop a.toNat).length ((xs.take b.toNat).drop a.toNat))/\((xs.take b.toNat).drop a.toNat).length<=c-a.toNat:=by
 have hlt:(xs.take b.toNat).length=b.toNat:=by rw[List.length_take];omega
 have hl:((xs.take b.toNat).drop a.toNat).length=b.toNat-a.toNat:=by rw[List.length_drop,hlt]
 refine⟨if c=a.toNat then A else A.map (·.add a.toNat),fun W=>?_,fun w h=>?_,by rw[hl];omega⟩
 ·have hel:P.elem t=e:=by simp[Program.elem,ht]
  have hu:P.underlying t=some (.slice (P.elem t)):=by rw[hel];exact ht
  rw[run_slice_lh W t A xs.length c hu kl kh a b h0 h1 (by omega),hel,hl];simp[sizeOf,typeInfo,hi,hsz,sliced,Result.andThen]
 ·have h2:=(h.TP b.toNat (by omega)).aak (c:=c) a.toNat (by omega) (by omega)
  rw[hl];exact h2
theorem Ed{k:IntKind}(t e:TypeId){i:TypeInfo}(ht:P.underlying t=some (.slice e))(hi:P.info? e=some i)(hsz:i.size=1)(A:Option Addr)(c:Nat)(xs:List Int)(a b:Int)(h0:0<=a)(h1:a<=b)(hm:b<=xs.length)(hc:xs.length<=c):
 ∃A':Option Addr,(∀W:World,(Instr.slice t (.slice A xs.length c) (some (.int .i64 a)) (some (.int .i64 b)) none).run P W= .ok (.slice A' ((xs.take b.toNat).drop a.toNat).length (c-a.toNat)) W)/\
  (∀w:World,dS w k A xs.length xs->dS w k A' ((xs.take b.toNat).drop a.toNat).length ((xs.take b.toNat).drop a.toNat))/\((xs.take b.toNat).drop a.toNat).length<=c-a.toNat:=FY (Value.int k) 0 t e .i64 .i64 ht hi hsz A c xs a b h0 h1 hm hc
end
section
variable{P:Program}{ops:Array Oper}{rest:List Oper}{o:Oper}{a:Act}{Q:Exit->Act->World->Prop}
end
structure Kd(α:Type)where
 sz:Nat
 E:List Nat
 K:World->α->List Value->Prop
 M:World->Nat->(Nat->Prop)->α->List Value->Prop
 lN:∀{w x cs},K w x cs->cs.length=sz
 lX:∀{w x cs},K w x cs->∀u∈cs,u.oneCell'=true
 jm:∀{w w1:World}{x cs},Below w.heap.size w w1->K w x cs->K w1 x cs
 fJ:∀{w base ok x cs},M w base ok x cs->K w x cs
 fP:∀{w base ok ok' x cs},(∀k,ok k->ok' k)->M w base ok x cs->M w base ok' x cs
 fK:∀{w:World}{base ok x cs},M w base ok x cs->M w base (fun k=>ok k/\base<=k/\k<w.heap.size/\∃q,q∈E/\∃cells,w.heap[k]? =some (.cells cells q (0,0))) x cs
 jq:∀{w w1:World}{base ok x cs},(∀k,ok k->w1.heap[k]? =w.heap[k]?)->M w base ok x cs->M w1 base ok x cs
 iG:∀{w base base' ok x cs},base'<=base->M w base ok x cs->M w base' ok x cs
theorem TT{w w1:World}{base:Nat}{e:TypeId}{size n:Nat}{v:Value}{xs:List Value}(h:w.ownsRow base e size v n xs)(hm:∀k,v.ownBlock=some k->w1.heap[k]? =w.heap[k]?):w1.ownsRow base e size v n xs:=by
 obtain⟨h1,h2⟩:=h;refine⟨h1,?_⟩;rcases h2 with h2|⟨g,cap,cur,rfl,hg,hh,r⟩
 ·exact .inl h2
 ·exact .inr ⟨g,cap,cur,rfl,hg,(hm g (by simp[Value.ownBlock])).trans hh,r⟩
theorem jP{w:World}{base:Nat}{e:TypeId}{size n:Nat}{v:Value}{xs:List Value}(h:w.ownsRow base e size v n xs)(k:Nat)(hk:v.ownBlock=some k):∃cells,w.heap[k]? =some (.cells cells e (0,0)):=by
 rcases h.2 with⟨rfl,_⟩|⟨g,cap,cur,rfl,hg,hh,r⟩
 ·simp[Value.ownBlock]at hk
 ·have:g=k:=by simpa [Value.ownBlock]using hk
  subst this;exact⟨cur,hh⟩
namespace Kd
def C{α:Type}(d:Kd α)(w:World)(A:Option Addr)(n:Nat)(xs:List α):Prop:=iC (d.K w) d.sz w A n xs
def R{α:Type}(d:Kd α)(e:Nat)(w:World)(base:Nat)(ok:Nat->Prop)(v:Value)(xs:List α):Prop:=
 (∀k,v.ownBlock=some k->ok k)/\gy (d.M w base (fun k=>ok k/\some k≠v.ownBlock)) e d.sz w base v xs
section
variable{α:Type}{d:Kd α}{e:Nat}{w w1:World}{base:Nat}{ok ok':Nat->Prop}{v:Value}{xs:List α}
theorem aU{A:Option Addr}{n:Nat}(h:d.C w A n xs)(hb:Below w.heap.size w w1):d.C w1 A n xs:=iC.oH h hb (fun _ _ hp=>d.jm hb hp)
theorem mP(d:Kd α)(e:Nat)(w:World)(base:Nat)(ok:Nat->Prop):d.R e w base ok (.slice none 0 0) []:=⟨fun k hk=>by simp[Value.ownBlock]at hk,gy.none_ _ _ _ _ _⟩
theorem gB(h:d.R e w base ok v xs)(hok:∀k,ok k->ok' k):d.R e w base ok' v xs:=⟨fun k hk=>hok k (h.1 k hk),h.2.oH (fun _ _ hp=>d.fP (fun k hk=>⟨hok k hk.1,hk.2⟩) hp)⟩
theorem iR(h:d.R e w base ok v xs):d.R e w base (fun k=>ok k/\base<=k/\k<w.heap.size/\∃q,q∈e::d.E/\∃cells,w.heap[k]? =some (.cells cells q (0,0))) v xs:=by
 obtain⟨h0,inner,ho,hr⟩:=h;refine⟨fun k hk=>?_,inner,ho,hr.oH (fun _ _ hp=>d.fP (fun k hk=>?_) (d.fK hp))⟩
 ·obtain⟨cells,hc⟩:=jP ho k hk
  exact⟨h0 k hk,own_base ho k hk,TN ho k hk,e,List.mem_cons_self,cells,hc⟩
 ·obtain⟨⟨h1,h2⟩,h3,h4,q,hq,hc⟩:=hk
  exact⟨⟨h1,h3,h4,q,List.mem_cons_of_mem _ hq,hc⟩,h2⟩
theorem wW(h:d.R e w base ok v xs)(hm:∀k,ok k->w1.heap[k]? =w.heap[k]?):d.R e w1 base ok v xs:=by
 obtain⟨h0,inner,ho,hr⟩:=h;exact⟨h0,inner,TT ho (fun k hk=>hm k (h0 k hk)),hr.oH (fun _ _ hp=>d.jq (fun k hk=>hm k hk.1) hp)⟩
theorem oI{base':Nat}(h:d.R e w base ok v xs)(hb:base'<=base):d.R e w base' ok v xs:=by
 obtain⟨h0,inner,ho,hr⟩:=h;exact⟨h0,inner,LY ho hb,hr.oH (fun _ _ hp=>d.iG hb hp)⟩
theorem uP(h:d.R e w base ok v xs)(hm:∀k,ok k->k<w.heap.size->w1.heap[k]? =w.heap[k]?):d.R e w1 base ok v xs:=
 gB (wW (iR h) (fun k hk=>hm k hk.1 hk.2.2.1)) (fun _ hk=>hk.1)
theorem aaY{x:α}{cs:List Value}(h:d.M w base ok x cs)(hm:∀k,ok k->k<w.heap.size->w1.heap[k]? =w.heap[k]?):d.M w1 base ok x cs:=
 d.fP (fun _ hk=>hk.1) (d.jq (fun k hk=>hm k hk.1 hk.2.2.1) (d.fK h))
theorem dY(h:d.R e w base ok v xs)(hb:Below w.heap.size w w1):d.R e w1 base ok v xs:=uP h (fun k _ hk=>hb.block k hk)
theorem Ph{x:α}{cs:List Value}(h:d.M w base ok x cs)(hb:Below w.heap.size w w1):d.M w1 base ok x cs:=aaY h (fun k _ hk=>hb.block k hk)
theorem Yi(h:d.R e w base ok v xs){row:Option Nat}(hg:w.grownBy w1 row)(hok:∀k,ok k->some k≠row):d.R e w1 base ok v xs:=uP h (fun k ho hk=>hg.block k hk (hok k ho))
theorem zI(h:d.R e w base ok v xs){p:Addr}(hok:∀k,ok k->k≠p.block)(u:Value):d.R e (w.setCell p u) base ok v xs:=uP h (fun k ho _=>Below.heap_setCell w p u k (hok k ho))
theorem sV(h:d.R e w base ok v xs){g:Nat}(hk:aH w w1 g none)(hok:∀k,ok k->k≠g):d.R e w1 base ok v xs:=uP h (fun k ho hlt=>hk.2 k hlt (hok k ho) (by simp))
theorem vP(h:d.R e w base ok v xs){g t:Nat}{cells:Array Value}(hb:w.heap[g]? =some (.cells cells t (0,0)))(ht:∀q,q∈e::d.E->q≠t):d.R e w base (fun k=>ok k/\k≠g) v xs:=
 gB (iR h) (fun k hk=>⟨hk.1,by
  obtain⟨_,_,_,q,hq,cells',hc⟩:=hk;rintro rfl;rw[hc]at hb;injection hb with hb
  injection hb with _ hb
  exact ht q hq hb⟩)
theorem jY(h:d.R e w base ok v xs){g t:Nat}{cells:Array Value}(hb:w.heap[g]? =some (.cells cells t (0,0)))(ht:∀q,q∈e::d.E->q≠t)(j:Nat)(u:Value):d.R e (w.setCell ⟨g,j,none⟩ u) base ok v xs:=
 gB (zI (p:=⟨g,j,none⟩) (vP h hb ht) (fun _ hk=>hk.2) u) (fun _ hk=>hk.1)
theorem jo(h:d.R e w base ok v xs):∃A c,v= .slice A xs.length c/\xs.length<=c/\d.C w A xs.length xs:=by
 obtain⟨A,c,he,hl,hr⟩:=gy.reads h.2;exact⟨A,c,he,hl,hr.oH (Below.refl _ _) (fun _ _ hp=>d.fJ hp)⟩
theorem fC(h:d.R e w base ok v xs):∃A c,v= .slice A xs.length c:=by
 obtain⟨A,c,he,_⟩:=jo h;exact⟨A,c,he⟩
theorem uQ(h:d.R e w base ok v xs):∃inner,w.ownsRow base e d.sz v xs.length inner:=by
 obtain⟨_,inner,ho,_⟩:=h;exact⟨inner,ho⟩
theorem xP(h:d.R e w base ok v xs){g t:Nat}{cells:Array Value}(hb:w.heap[g]? =some (.cells cells t (0,0)))(ht:e≠t):some g≠v.ownBlock:=gy.TR h.2 hb ht
end
def scalar{α:Type}(enc:α->Value)(h1:∀x,(enc x).oneCell'=true):Kd α where
 sz:=1
 E:=[]
 K:=fun _ x cs=>cs=[enc x]
 M:=fun _ _ _ x cs=>cs=[enc x]
 lN:=fun h=>by rw[h];rfl
 lX:=fun h u hu=>by
  rw[h]at hu;rw[List.mem_singleton.1 hu];exact h1 _
 jm:=fun _ h=>h
 fJ:=fun h=>h
 fP:=fun _ h=>h
 fK:=fun h=>h
 jq:=fun _ h=>h
 iG:=fun _ h=>h
def int(k:IntKind):Kd Int:=scalar (Value.int k) (fun _=>rfl)
def bool:Kd Bool:=scalar Value.bool (fun _=>rfl)
def string:Kd ByteArray:=scalar Value.string (fun _=>rfl)
def slice{α:Type}(e:Nat)(d:Kd α):Kd (List α)where
 sz:=1
 E:=e::d.E
 K:=fun w xs cs=>∃A c,cs=[.slice A xs.length c]/\xs.length<=c/\d.C w A xs.length xs
 M:=fun w base ok xs cs=>∃v,cs=[v]/\d.R e w base ok v xs
 lN:=by
  rintro w x cs⟨A,c,rfl,_⟩
  rfl
 lX:=by
  rintro w x cs⟨A,c,rfl,_⟩u hu;rw[List.mem_singleton.1 hu]
  rfl
 jm:=by
  rintro w w1 x cs hb⟨A,c,rfl,hl,hr⟩;exact⟨A,c,rfl,hl,aU hr hb⟩
 fJ:=by
  rintro w base ok x cs⟨v,rfl,h⟩;obtain⟨A,c,rfl,hl,hr⟩:=jo h;exact⟨A,c,rfl,hl,hr⟩
 fP:=by
  rintro w base ok ok' x cs hok⟨v,rfl,h⟩;exact⟨v,rfl,gB h hok⟩
 fK:=by
  rintro w base ok x cs⟨v,rfl,h⟩;exact⟨v,rfl,iR h⟩
 jq:=by
  rintro w w1 base ok x cs hm⟨v,rfl,h⟩;exact⟨v,rfl,wW h hm⟩
 iG:=by
  rintro w base base' ok x cs hb⟨v,rfl,h⟩;exact⟨v,rfl,oI h hb⟩
def pair{α β:Type}(a:Kd α)(b:Kd β):Kd (α×β)where
 sz:=a.sz+b.sz
 E:=a.E++b.E
 K:=fun w x cs=>∃c0 c1,cs=c0++c1/\a.K w x.1 c0/\b.K w x.2 c1
 M:=fun w base ok x cs=>∃c0 c1,cs=c0++c1/\a.M w base ok x.1 c0/\b.M w base ok x.2 c1
 lN:=by
  rintro w x cs⟨c0,c1,rfl,h0,h1⟩;rw[List.length_append,a.lN h0,b.lN h1]
 lX:=by
  rintro w x cs⟨c0,c1,rfl,h0,h1⟩u hu;rcases List.mem_append.1 hu with hu|hu
  ·exact a.lX h0 u hu
  ·exact b.lX h1 u hu
 jm:=by
  rintro w w1 x cs hb⟨c0,c1,rfl,h0,h1⟩;exact⟨c0,c1,rfl,a.jm hb h0,b.jm hb h1⟩
 fJ:=by
  rintro w base ok x cs⟨c0,c1,rfl,h0,h1⟩;exact⟨c0,c1,rfl,a.fJ h0,b.fJ h1⟩
 fP:=by
  rintro w base ok ok' x cs hok⟨c0,c1,rfl,h0,h1⟩;exact⟨c0,c1,rfl,a.fP hok h0,b.fP hok h1⟩
 fK:=by
  rintro w base ok x cs⟨c0,c1,rfl,h0,h1⟩;refine⟨c0,c1,rfl,a.fP ?_ (a.fK h0),b.fP ?_ (b.fK h1)⟩
  ·rintro k⟨h2,h3,h4,q,hq,hc⟩
   exact⟨h2,h3,h4,q,List.mem_append_left _ hq,hc⟩
  ·rintro k⟨h2,h3,h4,q,hq,hc⟩
   exact⟨h2,h3,h4,q,List.mem_append_right _ hq,hc⟩
 jq:=by
  rintro w w1 base ok x cs hm⟨c0,c1,rfl,h0,h1⟩;exact⟨c0,c1,rfl,a.jq hm h0,b.jq hm h1⟩
 iG:=by
  rintro w base base' ok x cs hb⟨c0,c1,rfl,h0,h1⟩;exact⟨c0,c1,rfl,a.iG hb h0,b.iG hb h1⟩
def iso{α β:Type}(d:Kd α)(f:β->α):Kd β where
 sz:=d.sz
 E:=d.E
 K:=fun w x cs=>d.K w (f x) cs
 M:=fun w base ok x cs=>d.M w base ok (f x) cs
 lN:=d.lN
 lX:=d.lX
 jm:=d.jm
 fJ:=d.fJ
 fP:=d.fP
 fK:=d.fK
 jq:=d.jq
 iG:=d.iG
def bot{α:Type}(sz:Nat)(E:List Nat):Kd α where
 sz:=sz
 E:=E
 K:=fun _ _ _=>False
 M:=fun _ _ _ _ _=>False
 lN:=fun h=>h.elim
 lX:=fun h=>h.elim
 jm:=fun _ h=>h
 fJ:=fun h=>h
 fP:=fun _ h=>h
 fK:=fun h=>h
 jq:=fun _ h=>h
 iG:=fun _ h=>h
def upto{α:Type}(F:Kd α->Kd α)(sz:Nat)(E:List Nat):Nat->Kd α
 |0=>bot sz E
 |n+1=>F (upto F sz E n)
theorem aed{α:Type}{d:Kd α}{w:World}{A:Option Addr}{n:Nat}{xs:List α}(h:d.C w A n xs)(z:α)(i:Int)(h0:0<=i)(h1:i<n):
 ∃ad c,A=some ad/\c.length=d.sz/\d.K w (xs.getD i.toNat z) c/\∀j u,c[j]? =some u->w.cell? (ad.add (i.toNat*d.sz+j))=some u:=iC.agA h z i h0 h1
theorem BI{α:Type}{d:Kd α}{e base:Nat}{ok BJ:Nat->Prop}{W w1:World}{v v1:Value}{xs:List α}{p:α}{inner cs:List Value}(h0:∀k,v.ownBlock=some k->ok k)(hr:kS (d.M W base (fun k=>ok k/\some k≠v.ownBlock)) d.sz xs inner)(hp:d.M W base BJ p cs)(FZ:∀k,BJ k->ok k/\some k≠v.ownBlock)(hfresh:∀k,W.heap.size<=k->ok k)
 (hown:w1.ownsRow base e d.sz v1 (xs.length+1) (inner++cs)) (hg:W.grownBy w1 v.ownBlock) (hat:v1.ownBlock=v.ownBlock∨∃b,v1.ownBlock=some b/\W.heap.size<=b):d.R e w1 base ok v1 (xs++[p]):=by
 have hne:∀k,some k≠v.ownBlock->k<W.heap.size->some k≠v1.ownBlock:=by
  intro k hk hlt;rcases hat with hat|⟨b,hb,hle⟩
  ·rw[hat];exact hk
  ·rw[hb]
   intro he;injection he with he
   omega
 have step:∀{q:α}{c:List Value}{o:Nat->Prop},d.M W base o q c->(∀k,o k->ok k/\some k≠v.ownBlock)->d.M w1 base (fun k=>ok k/\some k≠v1.ownBlock) q c:=by
  intro q c o hq ho;have h1:=d.jq (w1:=w1) (fun k hk=>hg.block k hk.2.2.1 (ho k hk.1).2) (d.fK hq);exact d.fP (fun k hk=>⟨(ho k hk.1).1,hne k (ho k hk.1).2 hk.2.2.1⟩) h1
 refine⟨fun k hk=>?_,inner++cs,by rw[List.length_append,List.length_singleton];exact hown,?_⟩
 ·rcases hat with hat|⟨b,hb,hle⟩
  ·exact h0 k (hat▸hk)
  ·rw[hb]at hk
   injection hk with hk
   exact hfresh k (by omega)
 ·exact(hr.oH (fun _ _ hq=>step hq (fun _ hk=>hk))).snoc (step hp FZ) (d.lN (d.fJ hp))
section
variable{P:Program}{ops:Array Oper}{rest:List Oper}{o:Oper}{a:Act}{Q:Exit->Act->World->Prop}{α:Type}
theorem nJ(d:Kd α){w0 W:World}(base:Nat)(hgd:o.guard=none)(s x:Operand)(t e:TypeId)(z:Value)(bytes:Nat)
 (ho:o.op= .call {callee:=.builtin .append,args:=#[s,x],argTypes:=#[t,t]})
 (ht:P.underlying t=some (.slice e)) (hinfo:(P.info? e).map (fun i=>(i.zero,i.size,i.bytes))=some (some z,d.sz,bytes)) (hz:z.cells.size=d.sz) (hs0:0<d.sz) (hb0:0<bytes)
 (v:Value) (xs:List α) (p:α) (cs:List Value) (ok BJ:Nat->Prop) (hs:a.eval s=v) (hx:a.eval x= .slice (some ⟨W.heap.size,0,none⟩) 1 1) (hp:d.M W base BJ p cs) (FZ:∀k,BJ k->ok k/\some k≠v.ownBlock) (hfresh:∀k,W.heap.size<=k->ok k)
 (HO:d.R e W base ok v xs) (HB:Below base w0 W) (hbase:base<=W.heap.size) (hl:(xs.length+1)*bytes<=140737488355328)
 (h:∀v1 w1,d.R e w1 base ok v1 (xs++[p])->Below base w0 w1->W.grownBy w1 v.ownBlock->(v1.ownBlock=v.ownBlock∨∃b,v1.ownBlock=some b/\W.heap.size<=b)->wpList P ops Q rest (a.put o.dst v1) w1):
 wpList P ops Q (o::rest) a (W.alloc (.cells cs.toArray e)):=by
 obtain⟨h0,inner,hown,hr⟩:=HO;refine pR base hgd s x t e z d.sz bytes ho ht hinfo hz hs0 hb0 v xs.length inner cs hs hx (d.lN (d.fJ hp)) (d.lX (d.fJ hp)) hown HB hbase hl ?_;intro v1 w1 hown1 hb1 hg1 hat1;exact h v1 w1 (BI h0 hr hp FZ hfresh hown1 hg1 hat1) hb1 hg1 hat1
end
section
variable{P:Program}{ops:Array Oper}{o:Oper}{a:Act}{Q:Exit->Act->World->Prop}{Kc:Act->World->Prop}{α:Type}
theorem qQ(d:Kd α){w0 W:World}(base:Nat)(hw:Region.wanted o (yielded ops a.tmps)=true)(s x:Operand)(t e:TypeId)(z:Value)(bytes:Nat)
 (ho:o.op= .call {callee:=.builtin .append,args:=#[s,x],argTypes:=#[t,t]})
 (ht:P.underlying t=some (.slice e)) (hinfo:(P.info? e).map (fun i=>(i.zero,i.size,i.bytes))=some (some z,d.sz,bytes)) (hz:z.cells.size=d.sz) (hs0:0<d.sz) (hb0:0<bytes)
 (v:Value) (xs:List α) (p:α) (cs:List Value) (ok BJ:Nat->Prop) (hs:a.eval s=v) (hx:a.eval x= .slice (some ⟨W.heap.size,0,none⟩) 1 1) (hp:d.M W base BJ p cs) (FZ:∀k,BJ k->ok k/\some k≠v.ownBlock) (hfresh:∀k,W.heap.size<=k->ok k)
 (HO:d.R e W base ok v xs) (HB:Below base w0 W) (hbase:base<=W.heap.size) (hl:(xs.length+1)*bytes<=140737488355328)
 (h:∀v1 w1,d.R e w1 base ok v1 (xs++[p])->Below base w0 w1->W.grownBy w1 v.ownBlock->(v1.ownBlock=v.ownBlock∨∃b,v1.ownBlock=some b/\W.heap.size<=b)->Kc (a.put o.dst v1) w1):
 if Region.wanted o (yielded ops a.tmps)=true then Oper.wp P o a (W.alloc (.cells cs.toArray e)) Kc Q else Kc (a.put o.dst undef) (W.alloc (.cells cs.toArray e)):=by
 obtain⟨h0,inner,hown,hr⟩:=HO;refine xO base hw s x t e z d.sz bytes ho ht hinfo hz hs0 hb0 v xs.length inner cs hs hx (d.lN (d.fJ hp)) (d.lX (d.fJ hp)) hown HB hbase hl ?_;intro v1 w1 hown1 hb1 hg1 hat1;exact h v1 w1 (BI h0 hr hp FZ hfresh hown1 hg1 hat1) hb1 hg1 hat1
end
theorem IL{α:Type}{enc:α->Value}(xs:List α):kS (fun(x:α)(cs:List Value)=>cs=[enc x]) 1 xs (encs enc xs):=by
 refine⟨by simp[encs],fun j p hj=>?_⟩;obtain⟨hl,hp⟩:=List.getElem?_eq_some_iff.1 hj;have hl':j<(encs enc xs).length:=by rw[zH];exact hl
 rw[Nat.mul_one,List.drop_eq_getElem_cons hl'];simp[encs,hp]
theorem fZ{α:Type}{enc:α->Value}{h1:∀x,(enc x).oneCell'=true}{e:Nat}{w:World}{base:Nat}{ok:Nat->Prop}{v:Value}{xs:List α}(ho:w.ownsRow base e 1 v xs.length (encs enc xs))(hok:∀k,v.ownBlock=some k->ok k):(scalar enc h1).R e w base ok v xs:=⟨hok,encs enc xs,ho,IL xs⟩
theorem pV{α:Type}{enc:α->Value}{h1:∀x,(enc x).oneCell'=true}{e:Nat}{w:World}{base:Nat}{ok:Nat->Prop}{v:Value}{xs:List α}(h:(scalar enc h1).R e w base ok v xs):w.ownsRow base e 1 v xs.length (encs enc xs):=by
 obtain⟨_,inner,ho,hr⟩:=h
 have:inner=encs enc xs:=by
  apply List.ext_getElem?
  intro j;rcases Nat.lt_or_ge j xs.length with hj|hj
  ·have h2:=hr.2 j _ (List.getElem?_eq_getElem hj)
   have hl:j<inner.length:=by have:=hr.1;simp[scalar]at this;omega
   have h3:(inner.drop (j*1)).take 1=[enc xs[j]]:=h2;rw[Nat.mul_one,List.drop_eq_getElem_cons hl]at h3
   have h4:inner[j]=enc xs[j]:=by
    have h5:=congrArg List.head? h3;rw[List.take_succ_cons]at h5;exact Option.some.inj h5
   rw[List.getElem?_eq_getElem hl,h4];simp[encs,List.getElem?_eq_getElem hj]
  ·have h3:inner.length=xs.length:=by have:=hr.1;simp[scalar]at this;omega
   rw[List.getElem?_eq_none (by omega),List.getElem?_eq_none (by rw[zH];omega)]
 rw[<-this];exact ho
theorem wX{α:Type}{enc:α->Value}{d:α}{h1:∀x,(enc x).oneCell'=true}{w:World}{A:Option Addr}{n:Nat}{xs:List α}(h:fH enc d w A n xs):(scalar enc h1).C w A n xs:=by
 refine⟨h.1,h.2.1,fun hn=>?_⟩;obtain⟨ad,e,hc⟩:=h.2.2 hn;refine⟨ad,e,fun j p hj=>⟨[enc p],rfl,rfl,fun i u hu=>?_⟩⟩;obtain⟨hl,hp⟩:=List.getElem?_eq_some_iff.1 hj;have h2:=hc j (by have:=h.1;omega);rw[List.getD_eq_getElem?_getD,hj]at h2;cases i with
 |zero=>
  have:enc p=u:=by simpa using hu
  subst this
  simpa [scalar]using h2
 |succ i=>simp at hu
theorem BM{α:Type}{enc:α->Value}{d:α}{h1:∀x,(enc x).oneCell'=true}{w:World}{A:Option Addr}{n:Nat}{xs:List α}(h:(scalar enc h1).C w A n xs):fH enc d w A n xs:=by
 refine⟨h.1,h.2.1,fun hn=>?_⟩;obtain⟨ad,e,hc⟩:=h.2.2 hn;refine⟨ad,e,fun j hj=>?_⟩;have hl:j<xs.length:=by have:=h.1;omega
 obtain⟨c,_,hK,hcell⟩:=hc j _ (List.getElem?_eq_getElem hl);have hK':c=[enc xs[j]]:=hK;subst hK';have:=hcell 0 _ rfl
 simpa [scalar,List.getD_eq_getElem?_getD,List.getElem?_eq_getElem hl]using this
end Kd
namespace Kd
theorem TU{α:Type}{d d':Kd α}(hs:d.sz=d'.sz)(h:∀w x cs,d.K w x cs->d'.K w x cs){w:World}{A:Option Addr}{n:Nat}{xs:List α}(hc:d.C w A n xs):d'.C w A n xs:=by
 unfold C at hc ⊢;rw[<-hs];exact hc.oH (Below.refl _ _) (fun _ _ hp=>h _ _ _ hp)
section
variable{α:Type}{F:Kd α->Kd α}{sz:Nat}{E:List Nat}{hs:∀n,(upto F sz E n).sz=sz}{hE:∀n q,q∈(upto F sz E n).E->q∈E}
end
end Kd
namespace Kd
end Kd
namespace Kd
section
variable{α β:Type}{d:Kd α}{d':Kd β}{e e':Nat}{w w1 W:World}{base b b':Nat}{ok ok' okv oku:Nat->Prop}{v u:Value}{xs:List α}{ys:List β}
theorem kX(h:d.R e w base ok v xs)(o:Obj):d.R e (w.alloc o) base ok v xs:=dY h (ak (Below.refl _ _) o)
theorem nY(h:d.R e w base ok v xs):d.R e w.drew base ok v xs:=dY h (aQ (Below.refl _ _))
theorem Pj(h:d.R e w base ok v xs)(m:Nat):d.R e (w.drewN m) base ok v xs:=dY h (aS (Below.refl _ _) m)
theorem dP{A:Option Addr}{n:Nat}(h:d.C w A n xs)(o:Obj):d.C (w.alloc o) A n xs:=aU h (ak (Below.refl _ _) o)
theorem BN{A:Option Addr}{n:Nat}(h:d.C w A n xs):d.C w.drew A n xs:=aU h (aQ (Below.refl _ _))
theorem Gf{A:Option Addr}{n:Nat}(h:d.C w A n xs)(m:Nat):d.C (w.drewN m) A n xs:=aU h (aS (Below.refl _ _) m)
theorem IQ(d:Kd α)(w:World):d.C w none ([]:List α).length []:=⟨rfl,by simp,fun h=>absurd h (Nat.lt_irrefl 0)⟩
theorem dG{A:Option Addr}{n:Nat}(h:d.C w A n xs):xs.length=n:=h.1
theorem ou{A:Option Addr}{n:Nat}(h:d.C w A n xs):n<=9223372036854775807:=h.2.1
theorem iM{A:Option Addr}{n c:Nat}(h:d.R e w base ok (.slice A n c) xs):n=xs.length/\n<=c/\d.C w A xs.length xs:=by
 obtain⟨A',c',he,hl,hr⟩:=jo h;injection he with h1 h2 h3
 subst h1;exact⟨h2,by omega,hr⟩
theorem aee(h:d.R e w base ok v xs):∀k,v.ownBlock=some k->k<w.heap.size:=by
 obtain⟨inner,ho⟩:=uQ h;exact TN ho
theorem lC(h:d.R e w base ok v xs):∀k,v.ownBlock=some k->base<=k:=by
 obtain⟨inner,ho⟩:=uQ h;exact own_base ho
theorem TV(h:d.R e w base ok v xs)(hp:0<xs.length):∃g cap,v= .slice (some ⟨g,0,none⟩) xs.length cap/\base<=g/\g<w.heap.size/\∃cells,w.heap[g]? =some (.cells cells e (0,0)):=by
 obtain⟨inner,ho⟩:=uQ h;obtain⟨g,cap,he,hb,hl⟩:=ho.form hp;obtain⟨cells,hc⟩:=jP ho g (by rw[he];simp[Value.ownBlock]);exact⟨g,cap,he,hb,hl,cells,hc⟩
theorem LZ(h:d.R e W b ok u xs)(hv:d'.R e' W b' ok' v ys)(ht:∀q,q∈e::d.E->q≠e')(hg:W.grownBy w1 v.ownBlock):d.R e w1 b ok u xs:=by
 obtain⟨inner,ho⟩:=uQ hv;refine gB (wW (iR h) (fun k hk=>hg.block k hk.2.2.1 (fun he=>?_))) (fun _ hk=>hk.1);obtain⟨_,_,_,q,hq,cells,hc⟩:=hk;obtain⟨cells',hc'⟩:=jP ho k he.symm;rw[hc]at hc';injection hc' with hc'
 injection hc' with _ hc'
 exact ht q hq hc'
end
section
variable{w W:World}{A:Option Addr}{n:Nat}
variable{α:Type}{enc:α->Value}{h1:∀x,(enc x).oneCell'=true}{e base g cap:Nat}{ok:Nat->Prop}{xs:List α}
theorem yN(d:α)(h:(scalar enc h1).R e W base ok (.slice (some ⟨g,0,none⟩) xs.length cap) xs)(i:Int)(h0:0<=i)(hi:i<xs.length):W.cell? ⟨g,i.toNat,none⟩=some (enc (wG d xs i))/\W.frozen? ⟨g,i.toNat,none⟩=false:=Qx (pV h) i h0 hi
theorem BO(h:(scalar enc h1).R e W base ok (.slice (some ⟨g,0,none⟩) xs.length cap) xs)(i:Int)(x:α):(scalar enc h1).R e (W.setCell ⟨g,i.toNat,none⟩ (enc x)) base ok (.slice (some ⟨g,0,none⟩) xs.length cap) (xs.set i.toNat x)/\W.grownBy (W.setCell ⟨g,i.toNat,none⟩ (enc x)) (some g):=by
 obtain⟨ho,hg⟩:=FX (pV h) i x;exact⟨fZ (by rw[List.length_set];exact ho) h.1,hg⟩
end
section
variable{P:Program}{ops:Array Oper}{rest:List Oper}{o:Oper}{a:Act}{Q:Exit->Act->World->Prop}
theorem Qy{W w1:World}{v:Value}(hgd:o.guard=none)(hrun:(execOp a.eval o).run P W= .ok (.value v) w1)(h:wpList P ops Q rest (a.put o.dst v) w1):wpList P ops Q (o::rest) a W:=by
 refine wpList_plain hgd fun K hK=>?_
 unfold Oper.wp;rw[hrun];exact hK _ _ h
variable{α:Type}
end
end Kd
theorem TW{w:World}{base n m c size:Nat}{e:TypeId}{A:Option Addr}{xs:List Value}(h:w.ownsRow base e size (.slice A n c) n xs)(hm:m<=n):w.ownsRow base e size (.slice A m c) m (xs.take (m*size)):=by
 obtain⟨h1,h2⟩:=h;refine⟨by rw[List.length_take,h1];exact Nat.min_eq_left (Nat.mul_le_mul_right _ hm),?_⟩;rcases h2 with⟨he,h0⟩|⟨g,cap,cur,he,hb,hh,hnc,hcm,hcs,ht⟩
 ·injection he with ha _ hc
  subst ha;subst hc;exact .inl ⟨by rw[show m=0 by omega],by omega⟩
 ·injection he with ha _ hc
  subst ha;subst hc;refine .inr ⟨g,c,cur,rfl,hb,hh,by omega,hcm,hcs,?_⟩;rw[<-ht,List.take_take,Nat.min_eq_left (Nat.mul_le_mul_right _ hm)]
section
variable{P:Program}
theorem Gg(t e:TypeId)(kh:IntKind){i:TypeInfo}(ht:P.underlying t=some (.slice e))(hi:P.info? e=some i)(A:Option Addr)(n c:Nat)(j:Int)(h0:0<=j)(hm:j<=n)(hc:n<=c):
 ∀W:World,(Instr.slice t (.slice A n c) none (some (.int kh j)) none).run P W= .ok (.slice A j.toNat c) W:=by
 intro W;have hel:P.elem t=e:=by simp[Program.elem,ht]
 have hu:P.underlying t=some (.slice (P.elem t)):=by rw[hel];exact ht
 have ha:(A.map fun x=>x.add 0)=A:=by cases A<;>simp[Addr.add]
 rw[run_slice_h W t A n c hu kh j h0 (by omega),hel];simp[sizeOf,typeInfo,hi,sliced,Result.andThen,ha]
theorem TY(t e:TypeId)(kl:IntKind){i:TypeInfo}(ht:P.underlying t=some (.slice e))(hi:P.info? e=some i)(size:Nat)(hsz:i.size=size)(A:Option Addr)(n c:Nat)(j:Int)(h0:0<=j)(hm:j<=n):
 ∀W:World,(Instr.slice t (.slice A n c) (some (.int kl j)) none none).run P W= .ok (.slice (if c=j.toNat then A else A.map (·.add (j.toNat*size))) (n-j.toNat) (c-j.toNat)) W:=by
 intro W;have hel:P.elem t=e:=by simp[Program.elem,ht]
 have hu:P.underlying t=some (.slice (P.elem t)):=by rw[hel];exact ht
 rw[run_slice_l W t A n c hu kl j h0 hm,hel];simp[sizeOf,typeInfo,hi,hsz,sliced,Result.andThen]
end
def agB(w:World)(base:Nat)(e:TypeId)(size:Nat)(v:Value)(n:Nat)(xs:List Value):Prop:=
 xs.length=n*size/\
 ((n=0/\∃A,v= .slice A 0 0/\∀a,A=some a->base<=a.block/\∃cur,w.heap[a.block]? =some (.cells cur e (0,0)))∨
  ∃g off cap cur,v= .slice (some ⟨g,off*size,none⟩) n cap/\base<=g/\w.heap[g]? =some (.cells cur e (0,0))/\n<=cap/\off+cap<=maxLen/\cur.size=(off+cap)*size/\(cur.toList.drop (off*size)).take (n*size)=xs)
section
variable{w w1:World}{base n size:Nat}{e:TypeId}{v:Value}{xs:List Value}
end
section
variable{P:Program}
end
namespace Kd
theorem Qz{α:Type}{R:α->List Value->Prop}{size m:Nat}{ps:List α}{cs:List Value}(h:kS R size ps cs)(hm:m<=ps.length):kS R size (ps.take m) (cs.take (m*size)):=by
 refine⟨by rw[List.length_take,List.length_take,h.1,Nat.min_eq_left hm,Nat.min_eq_left (Nat.mul_le_mul_right _ hm)],fun j p hj=>?_⟩;rw[List.getElem?_take]at hj
 split at hj
 ·rename_i hjm
  have:=h.2 j p hj;have hle:j*size+size<=m*size:=by rw[<-Nat.succ_mul];exact Nat.mul_le_mul_right _ hjm
  rw[List.drop_take,List.take_take,Nat.min_eq_left (by omega)];exact this
 ·cases hj
theorem Gh{α:Type}{d:Kd α}{e m n c:Nat}{w:World}{base:Nat}{ok:Nat->Prop}{A:Option Addr}{xs:List α}(h:d.R e w base ok (.slice A n c) xs)(hm:m<=xs.length):d.R e w base ok (.slice A m c) (xs.take m):=by
 obtain⟨h0,inner,ho,hr⟩:=h
 have hn:n=xs.length:=by
  obtain⟨A',c',he⟩:=Qu ho;injection he
 subst hn
 have hb:∀x y:Nat,(Value.slice A x c).ownBlock=(Value.slice A y c).ownBlock:=by
  intro x y;cases A<;>rfl
 refine⟨fun k hk=>h0 k (by rw[hb _ m];exact hk),inner.take (m*d.sz),?_,?_⟩
 ·rw[List.length_take,Nat.min_eq_left hm]
  exact TW ho hm
 ·rw[hb m xs.length]
  exact Qz hr hm
def Q{α:Type}(d:Kd α)(e:Nat)(w:World)(base:Nat)(ok:Nat->Prop)(v:Value)(xs:List α):Prop:=
 (∀k,v.ownBlock=some k->ok k)/\∃inner,agB w base e d.sz v xs.length inner/\kS (d.M w base (fun k=>ok k/\some k≠v.ownBlock)) d.sz xs inner
section
variable{α:Type}{d:Kd α}{e:Nat}{w w1 W:World}{base:Nat}{ok ok':Nat->Prop}{v:Value}{xs:List α}
end
section
variable{P:Program}{ops:Array Oper}{rest:List Oper}{o:Oper}{a:Act}{Q':Exit->Act->World->Prop}{Kc:Act->World->Prop}{α:Type}
end
end Kd
namespace Kd
section
variable{α:Type}{d:Kd α}{e e':Nat}{w w1 W:World}{base:Nat}{ok:Nat->Prop}{u v:Value}{xs:List α}
theorem Yj(h:d.R e w base ok v xs):∀k,v.ownBlock=some k->∃cells,w.heap[k]? =some (.cells cells e (0,0)):=by
 obtain⟨inner,ho⟩:=uQ h;exact fun k hk=>jP ho k hk
theorem Pm(h:d.R e W base ok u xs)(hty:∀k,v.ownBlock=some k->∃cells,W.heap[k]? =some (.cells cells e' (0,0)))(ht:∀q,q∈e::d.E->q≠e')(hg:W.grownBy w1 v.ownBlock):d.R e w1 base ok u xs:=by
 refine gB (wW (iR h) (fun k hk=>hg.block k hk.2.2.1 (fun he=>?_))) (fun _ hk=>hk.1);obtain⟨_,_,_,q,hq,cells,hc⟩:=hk;obtain⟨cells',hc'⟩:=hty k he.symm;rw[hc]at hc';injection hc' with hc'
 injection hc' with _ hc'
 exact ht q hq hc'
end
end Kd
namespace Kd
section
variable{α:Type}{d:Kd α}{e base g n cap:Nat}{ok BJ:Nat->Prop}{W:World}{xs:List α}
end
end Kd
namespace Kd
section
variable{α:Type}{F:Kd α->Kd α}{sz:Nat}{E:List Nat}{hs:∀n,(upto F sz E n).sz=sz}{hE:∀n q,q∈(upto F sz E n).E->q∈E}
end
end Kd
namespace Kd
theorem zJ{α:Type}{R:α->List Value->Prop}{size:Nat}{ps qs:List α}{cs ds:List Value}(h:kS R size ps cs)(h':kS R size qs ds):kS R size (ps++qs) (cs++ds):=by
 refine⟨by rw[List.length_append,List.length_append,h.1,h'.1,Nat.add_mul],fun j p hj=>?_⟩;rcases Nat.lt_or_ge j ps.length with hlt|hge
 ·rw[List.getElem?_append_left hlt]at hj
  have hle:j*size+size<=cs.length:=by rw[h.1,<-Nat.succ_mul];exact Nat.mul_le_mul_right _ hlt
  rw[List.drop_append_of_le_length (by omega),List.take_append_of_le_length (by rw[List.length_drop];omega)];exact h.2 j p hj
 ·rw[List.getElem?_append_right hge]at hj
  have h2:=h'.2 (j-ps.length) p hj;have hle:ps.length*size<=j*size:=Nat.mul_le_mul_right _ hge;rw[List.drop_append,List.drop_eq_nil_of_le (by rw[h.1];exact hle),List.nil_append,h.1,<-Nat.sub_mul];exact h2
section
variable{P:Program}{ops:Array Oper}{rest:List Oper}{o:Oper}{a:Act}{Q:Exit->Act->World->Prop}{α:Type}
theorem wO(d:Kd α){Rr:α->List Value->Prop}{w0 W:World}(base:Nat)(hgd:o.guard=none)(s x:Operand)(t e:TypeId)(z:Value)(bytes:Nat)
 (ho:o.op= .call {callee:=.builtin .append,args:=#[s,x],argTypes:=#[t,t]})
 (ht:P.underlying t=some (.slice e)) (hinfo:(P.info? e).map (fun i=>(i.zero,i.size,i.bytes))=some (some z,d.sz,bytes)) (hz:z.cells.size=d.sz) (hs0:0<d.sz) (hb0:0<bytes)
 (v:Value) (xs ys:List α) (A:Option Addr) (m c:Nat) (ok BJ:Nat->Prop) (hs:a.eval s=v) (hx:a.eval x= .slice A m c)
 (HO:d.R e W base ok v xs) (HR:iC Rr d.sz W A m ys) (hKM:∀x cs,Rr x cs->d.M W base BJ x cs) (FZ:∀k,BJ k->ok k/\some k≠v.ownBlock) (hfresh:∀k,W.heap.size<=k->ok k)
 (HB:Below base w0 W) (hbase:base<=W.heap.size) (hl:(xs.length+m)*bytes<=140737488355328)
 (h:∀v1 w1,d.R e w1 base ok v1 (xs++ys)->Below base w0 w1->W.grownBy w1 v.ownBlock->(v1.ownBlock=v.ownBlock∨∃b,v1.ownBlock=some b/\W.heap.size<=b)->wpList P ops Q rest (a.put o.dst v1) w1):
 wpList P ops Q (o::rest) a W:=by
 obtain⟨i0,hi,hzz⟩:=Option.map_eq_some_iff.1 hinfo;simp only[Prod.mk.injEq]at hzz;obtain⟨hz0,hz1,hz2⟩:=hzz;have hm:ys.length=m:=HR.1;have hlen:xs.length+m<=140737488355328:=Nat.le_trans (Nat.le_mul_of_pos_right _ hb0) hl;obtain⟨hok,inner,hown,hr⟩:=HO
 have hrun:∃v1 w1,(Builtin.append_ #[t,t] o.type #[v,.slice A m c]).run P W= .ok v1 w1/\d.R e w1 base ok v1 (xs++ys)/\W.grownBy w1 v.ownBlock/\(v1.ownBlock=v.ownBlock∨∃b,v1.ownBlock=some b/\W.heap.size<=b):=by
  rcases A with _|ad
  ·have h0:m=0:=by
    rcases Nat.eq_zero_or_pos m with h0|h0
    ·exact h0
    ·obtain⟨ad,h,_⟩:=HR.2.2 h0
     cases h
   subst h0;obtain rfl:ys=[]:=List.eq_nil_of_length_eq_zero hm;refine⟨v,W,?_,by rw[List.append_nil];exact⟨hok,inner,hown,hr⟩,World.grownBy.refl W _,.inl rfl⟩;rcases hown.2 with⟨rfl,hn⟩|⟨g,cap,cur,rfl,_,_,hnc,_⟩
   ·simp[Builtin.append_,run_underlying ht,sizeOf,typeInfo,hi,Builtin.lenOf,Builtin.firstCells]
   ·simp[Builtin.append_,run_underlying ht,sizeOf,typeInfo,hi,Builtin.lenOf,Builtin.firstCells,hnc,storeCells]
  ·obtain⟨news,hnr,hnc⟩:=iC.TS HR
   have hnM:kS (d.M W base BJ) d.sz ys news:=hnr.oH (fun p c hp=>hKM p c hp)
   have hone:∀u∈news,u.oneCell'=true:=by
    intro u hu;obtain⟨q,hq,rfl⟩:=List.mem_iff_getElem.1 hu
    have hql:q/d.sz<ys.length:=by
     rw[Nat.div_lt_iff_lt_mul hs0];rw[<-hnM.1];exact hq
    have hc:=hnM.2 (q/d.sz) _ (List.getElem?_eq_getElem hql);refine d.lX (d.fJ hc) _ ?_;rw[List.mem_iff_getElem?];refine⟨q%d.sz,?_⟩;rw[List.getElem?_take,if_pos (Nat.mod_lt _ hs0),List.getElem?_drop,Nat.mul_comm,Nat.div_add_mod,List.getElem?_eq_getElem hq]
   obtain⟨v1,w1,hrun,h2,hg,_,hat⟩:=run_append_own_at (P:=P) W base t o.type e i0 z d.sz bytes ht hi hz0 hz1 hz2 hz hs0 v xs.length inner hown ad m c news (by rw[hnM.1,hm]) hnc hone (by simp only[maxLen];omega) hl hbase
   have hat':v1.ownBlock=v.ownBlock∨∃b,v1.ownBlock=some b/\W.heap.size<=b:=by
    rcases hat with hat|hat
    ·exact .inl hat
    ·exact .inr ⟨_,hat,Nat.le_refl _⟩
   have hne:∀k,some k≠v.ownBlock->k<W.heap.size->some k≠v1.ownBlock:=by
    intro k hk hlt;rcases hat' with hat|⟨b,hb,hle⟩
    ·rw[hat];exact hk
    ·rw[hb]
     intro he;injection he with he
     omega
   have step:∀{q:α}{c:List Value}{o:Nat->Prop},d.M W base o q c->(∀k,o k->ok k/\some k≠v.ownBlock)->d.M w1 base (fun k=>ok k/\some k≠v1.ownBlock) q c:=by
    intro q c o hq ho;have h1:=d.jq (w1:=w1) (fun k hk=>hg.block k hk.2.2.1 (ho k hk.1).2) (d.fK hq);exact d.fP (fun k hk=>⟨(ho k hk.1).1,hne k (ho k hk.1).2 hk.2.2.1⟩) h1
   refine⟨v1,w1,hrun,⟨fun k hk=>?_,inner++news,by rw[List.length_append,hm];exact h2,zJ (hr.oH (fun _ _ hq=>step hq (fun _ hk=>hk))) (hnM.oH (fun _ _ hq=>step hq FZ))⟩,hg,hat'⟩;rcases hat' with hat|⟨b,hb,hle⟩
   ·exact hok k (hat▸hk)
   ·rw[hb]at hk
    injection hk with hk
    exact hfresh k (by omega)
 obtain⟨v1,w1,hr1,h1,hg,hat⟩:=hrun;refine wpList_plain hgd fun K hK=>?_
 unfold Oper.wp execOp;simp only[ho,resolve,invoke,builtin,Sem.run_bind,Sem.run_pure,Result.andThen_ok,List.map_toArray,List.map_cons,List.map_nil,hs,hx,hr1];exact hK _ _ (h v1 w1 h1 (HB.grown hg hbase (own_base hown)) hg hat)
end
end Kd
namespace Kd
section
variable{P:Program}{ops:Array Oper}{rest:List Oper}{o:Oper}{a:Act}{Q:Exit->Act->World->Prop}{α:Type}
end
end Kd
theorem add_add(a:Addr)(i j:Nat):(a.add i).add j=a.add (i+j):=by
 unfold Addr.add
 by_cases h1:i=0<;>by_cases h2:j=0<;>simp[h1,h2,Nat.add_assoc]
namespace Kd
section
variable{α:Type}{k:Kd α}{w:World}{A:Option Addr}{xs:List α}{m c:Nat}
theorem BP(h:k.C w A xs.length xs)(hm:m<=xs.length):k.C w A (xs.take m).length (xs.take m):=by
 have hl:(xs.take m).length=m:=by rw[List.length_take];omega
 refine⟨rfl,by rw[hl];have:=h.2.1;omega,fun hp=>?_⟩;obtain⟨ad,e,hc⟩:=h.2.2 (by omega);refine⟨ad,e,fun j p hj=>hc j p ?_⟩;rw[List.getElem?_take]at hj
 split at hj
 ·exact hj
 ·cases hj
theorem Gi(h:k.C w A xs.length xs)(hm:m<=xs.length)(hc:xs.length<=c):k.C w (if c=m then A else A.map (·.add (m*k.sz))) (xs.drop m).length (xs.drop m):=by
 have hl:(xs.drop m).length=xs.length-m:=List.length_drop;refine⟨rfl,by rw[hl];have:=h.2.1;omega,fun hp=>?_⟩;rw[hl]at hp;obtain⟨ad,rfl,hcell⟩:=h.2.2 (by omega);rw[if_neg (by omega)];refine⟨ad.add (m*k.sz),rfl,fun j p hj=>?_⟩;rw[List.getElem?_drop]at hj;obtain⟨cs,h1,h2,h3⟩:=hcell (m+j) p hj;refine⟨cs,h1,h2,fun i u hu=>?_⟩;rw[add_add,show m*k.sz+(j*k.sz+i)=(m+j)*k.sz+i by rw[Nat.add_mul];omega];exact h3 i u hu
end
end Kd
section
variable{P:Program}
end
theorem Ac{P:Program}{w:World}{src dst e:TypeId}{A:Option Addr}{n c:Nat}{xs:List Int}(hs:P.underlying src=some (.slice e))(he:P.underlying e=some (.int .u8))(hd:P.underlying dst=some .string)
 (h:dS w .u8 A n xs):(convert src dst (.slice A n c)).run P w= .ok (.string (strOfNums xs)) w:=by
 have hn:xs.length=n:=h.1;rcases A with _|ad
 ·have h0:n=0:=by
   rcases Nat.eq_zero_or_pos n with h0|h0
   ·exact h0
   ·obtain⟨ad,h',_⟩:=h.2.2 h0
    cases h'
  subst h0;obtain rfl:xs=[]:=List.eq_nil_of_length_eq_zero hn;exact run_convert_bytes_nil w src e hs he 0 c dst hd
 ·have hl:(loadCells ad n).run P w= .ok (xs.map (Value.int .u8)).toArray w:=by
   have:=run_loadCells_list (P:=P) w ad (xs.map (Value.int .u8)) (fun j v hj=>by
    have hjl:j<xs.length:=by
     rcases Nat.lt_or_ge j xs.length with h'|h'
     ·exact h'
     ·rw[List.getElem?_eq_none (by rw[List.length_map];exact h')]at hj
      cases hj
    obtain⟨ad',he',hc⟩:=h.2.2 (by omega);injection he' with he'
    subst he';rw[hc j (by omega)];rw[List.getElem?_map,List.getElem?_eq_getElem hjl]at hj;simp at hj;subst hj;simp[List.getD_eq_getElem?_getD,List.getElem?_eq_getElem hjl])
   simpa [hn]using this
  rw[run_convert_bytes_string w src dst e _ n c hs he hd,run_bytesToString w ad n c xs hl,foldl_push_bytes];simp[strOfNums,ByteArray.empty,ByteArray.emptyWithCapacity]
  rfl
theorem Kd.Ua{P:Program}{w:World}{src dst e:TypeId}{A:Option Addr}{n c:Nat}{xs:List Int}(hs:P.underlying src=some (.slice e))(he:P.underlying e=some (.int .u8))(hd:P.underlying dst=some .string)
 (h:(Kd.int .u8).C w A n xs):(convert src dst (.slice A n c)).run P w= .ok (.string (strOfNums xs)) w:=
 Ac hs he hd (Kd.BM (enc:=Value.int .u8) (d:=(0:Int)) (h1:=fun _=>rfl) h)
theorem au{w W w2:World}(h:Below w.heap.size w W)(k:Below W.heap.size W w2):Below w.heap.size w w2:=BF h h.size k
theorem dS.nil(W:World)(k:IntKind):dS W k none ([]:List Int).length []:=⟨rfl,by simp,fun h=>absurd h (Nat.lt_irrefl 0)⟩
theorem dS.drewN{W:World}{k:IntKind}{A:Option Addr}{n:Nat}{xs:List Int}(h:dS W k A n xs)(m:Nat):dS (W.drewN m) k A n xs:=h
theorem aV{w W:World}{g j:Nat}{v:Value}(h:Below w.heap.size w W)(hg:w.heap.size<=g):Below w.heap.size w (W.setCell ⟨g,j,none⟩ v):=h.setCell hg _
theorem pW{w W:World}{g:Nat}{row:Option Nat}(h:aH w W g row)(m:Nat):aH w (W.drewN m) g row:=h
theorem pX{w W:World}{g:Nat}(h:aH w W g none)(o:Obj):aH w (W.alloc o) g none:=h.trans (aH.BH (World.grownBy_alloc W o none) g) (.inl rfl)
theorem EN{w W:World}{g:Nat}(h:aH w W g none){a:Addr}{v:Value}(hc:w.cell? a=some v)(hne:a.block≠g):W.cell? a=some v:=by
 have:=h.2 a.block (World.block_lt_of_cell? w a hc) hne (by simp)
 simpa [World.cell?,this]using hc
theorem add_block(a:Addr)(i:Nat):(a.add i).block=a.block:=by unfold Addr.add;split<;>rfl
theorem Gj{w0 w w1:World}{B:Nat}(h:Below w0.heap.size w0 w)(hB:w0.heap.size<=B)(k:Below B w w1):Below w0.heap.size w0 w1:=
 h.trans ⟨k.os,k.tape,k.output,k.size,fun i hi=>k.block i (Nat.lt_of_lt_of_le hi hB)⟩
theorem QA{w W:World}{g:Nat}{row:Option Nat}(h:aH w W g row):w.heap.size<=W.heap.size:=h.1
theorem fH.nil{α:Type}(enc:α->Value)(d:α)(W:World):fH enc d W none ([]:List α).length []:=⟨rfl,by simp,fun h=>absurd h (Nat.lt_irrefl 0)⟩
theorem fH.drewN{α:Type}{enc:α->Value}{d:α}{W:World}{A:Option Addr}{n:Nat}{xs:List α}(h:fH enc d W A n xs)(m:Nat):fH enc d (W.drewN m) A n xs:=h
theorem dS.keep{w W:World}{k:IntKind}{A:Option Addr}{n g:Nat}{xs:List Int}(h:dS w k A n xs)(hk:aH w W g none)(hf:∀ad,A=some ad->0<n->ad.block≠g):dS W k A n xs:=
 ⟨h.1,h.2.1,fun hn=>by
  obtain⟨ad,e,hc⟩:=h.2.2 hn;exact⟨ad,e,fun j hj=>EN hk (hc j hj) (by rw[add_block];exact hf ad e hn)⟩⟩
theorem fH.keep{α:Type}{enc:α->Value}{d:α}{w W:World}{A:Option Addr}{n g:Nat}{xs:List α}(h:fH enc d w A n xs)(hk:aH w W g none)(hf:∀ad,A=some ad->0<n->ad.block≠g):fH enc d W A n xs:=
 ⟨h.1,h.2.1,fun hn=>by
  obtain⟨ad,e,hc⟩:=h.2.2 hn;exact⟨ad,e,fun j hj=>EN hk (hc j hj) (by rw[add_block];exact hf ad e hn)⟩⟩
theorem bU{w W:World}{g:Nat}{row:Option Nat}(h:aH w W g row){p:Addr}(hp:w.heap.size<=p.block)(u:Value):aH w (W.setCell p u) g row:=
 ⟨by simpa [World.setCell]using h.1,fun i hi hg hr=>(Below.heap_setCell W p u i (by omega)).trans (h.2 i hi hg hr)⟩
theorem lY{α:Type}{enc:α->Value}{d:α}(W:World)(base:Nat)(e:TypeId)(m:Nat)(hb:base<=W.heap.size)(hm:m<=9223372036854775807):
 (W.alloc (.cells (madeCells #[enc d] m) e)).ownsRow base e 1 (.slice (some ⟨W.heap.size,0,none⟩) m m) (List.replicate m d).length (encs enc (List.replicate m d)):=by
 have h:=IK (enc:=enc) (d:=d) W base e m hb hm
 rwa [show(List.replicate m d).length=m by simp]
theorem EO{w W:World}{g:Nat}{row:Option Nat}(h:aH w W g row):aH w W.drew g row:=h
namespace Kd
section
variable{α β:Type}{d:Kd α}{d':Kd β}{e e' base base' n:Nat}{ok ok':Nat->Prop}{w W w1 W1:World}{v u:Value}{xs:List α}{ys:List β}{A:Option Addr}{c:Nat}
end
section
variable{α:Type}{enc:α->Value}{h1:∀x,(enc x).oneCell'=true}{w W:World}{A:Option Addr}{n g:Nat}{xs:List α}
end
end Kd
namespace Kd
section
variable{α:Type}{d:Kd α}{e base g:Nat}{ok:Nat->Prop}{w w1:World}{v:Value}{xs:List α}{o:Obj}
end
end Kd
section
variable{P:Program}{ops:Array Oper}{rest:List Oper}{o:Oper}{a:Act}{Q:Exit->Act->World->Prop}
end
namespace Kd
section
variable{α:Type}{enc:α->Value}{h1:∀x,(enc x).oneCell'=true}{e base g n cap:Nat}{ok:Nat->Prop}{W:World}{xs:List α}
theorem sW(d:α)(h:(scalar enc h1).R e W base ok (.slice (some ⟨g,0,none⟩) n cap) xs)(i:Int)(h0:0<=i)(hi:i<n):W.cell? ⟨g,i.toNat,none⟩=some (enc (wG d xs i))/\W.frozen? ⟨g,i.toNat,none⟩=false:=by
 obtain⟨rfl,_⟩:=iM h;exact yN d h i h0 hi
theorem Mc(h:(scalar enc h1).R e W base ok (.slice (some ⟨g,0,none⟩) n cap) xs)(i:Int)(x:α):(scalar enc h1).R e (W.setCell ⟨g,i.toNat,none⟩ (enc x)) base ok (.slice (some ⟨g,0,none⟩) n cap) (xs.set i.toNat x):=by
 obtain⟨rfl,_⟩:=iM h;exact(BO h i x).1
end
end Kd
section
variable{P:Program}{ops:Array Oper}{rest:List Oper}{o:Oper}{a:Act}{Q:Exit->Act->World->Prop}
end
namespace Kd
section
variable{α:Type}{enc:α->Value}{h1:∀x,(enc x).oneCell'=true}{e base g n cap:Nat}{ok:Nat->Prop}{W:World}{xs:List α}
end
end Kd
section
variable{P:Program}{ops:Array Oper}{rest:List Oper}{o:Oper}{a:Act}{Q:Exit->Act->World->Prop}{W:World}
end
section
variable{P:Program}{ops:Array Oper}{o:Oper}{a:Act}{Q:Exit->Act->World->Prop}{Kc:Act->World->Prop}
namespace Kd
variable{α:Type}
theorem wY(d:Kd α){Rr:α->List Value->Prop}{w0 W:World}(base:Nat)(hw:Region.wanted o (yielded ops a.tmps)=true)(s x:Operand)(t e:TypeId)(z:Value)(bytes:Nat)
 (ho:o.op= .call {callee:=.builtin .append,args:=#[s,x],argTypes:=#[t,t]})
 (ht:P.underlying t=some (.slice e)) (hinfo:(P.info? e).map (fun i=>(i.zero,i.size,i.bytes))=some (some z,d.sz,bytes)) (hz:z.cells.size=d.sz) (hs0:0<d.sz) (hb0:0<bytes)
 (v:Value) (xs ys:List α) (A:Option Addr) (m c:Nat) (ok BJ:Nat->Prop) (hs:a.eval s=v) (hx:a.eval x= .slice A m c)
 (HO:d.R e W base ok v xs) (HR:iC Rr d.sz W A m ys) (hKM:∀x cs,Rr x cs->d.M W base BJ x cs) (FZ:∀k,BJ k->ok k/\some k≠v.ownBlock) (hfresh:∀k,W.heap.size<=k->ok k)
 (HB:Below base w0 W) (hbase:base<=W.heap.size) (hl:(xs.length+m)*bytes<=140737488355328)
 (h:∀v1 w1,d.R e w1 base ok v1 (xs++ys)->Below base w0 w1->W.grownBy w1 v.ownBlock->(v1.ownBlock=v.ownBlock∨∃b,v1.ownBlock=some b/\W.heap.size<=b)->Kc (a.put o.dst v1) w1):
 if Region.wanted o (yielded ops a.tmps)=true then Oper.wp P o a W Kc Q else Kc (a.put o.dst undef) W:=by
 obtain⟨i0,hi,hzz⟩:=Option.map_eq_some_iff.1 hinfo;simp only[Prod.mk.injEq]at hzz;obtain⟨hz0,hz1,hz2⟩:=hzz;have hm:ys.length=m:=HR.1;have hlen:xs.length+m<=140737488355328:=Nat.le_trans (Nat.le_mul_of_pos_right _ hb0) hl;obtain⟨hok,inner,hown,hr⟩:=HO
 have hrun:∃v1 w1,(Builtin.append_ #[t,t] o.type #[v,.slice A m c]).run P W= .ok v1 w1/\d.R e w1 base ok v1 (xs++ys)/\W.grownBy w1 v.ownBlock/\(v1.ownBlock=v.ownBlock∨∃b,v1.ownBlock=some b/\W.heap.size<=b):=by
  rcases A with _|ad
  ·have h0:m=0:=by
    rcases Nat.eq_zero_or_pos m with h0|h0
    ·exact h0
    ·obtain⟨ad,h,_⟩:=HR.2.2 h0
     cases h
   subst h0;obtain rfl:ys=[]:=List.eq_nil_of_length_eq_zero hm;refine⟨v,W,?_,by rw[List.append_nil];exact⟨hok,inner,hown,hr⟩,World.grownBy.refl W _,.inl rfl⟩;rcases hown.2 with⟨rfl,hn⟩|⟨g,cap,cur,rfl,_,_,hnc,_⟩
   ·simp[Builtin.append_,run_underlying ht,sizeOf,typeInfo,hi,Builtin.lenOf,Builtin.firstCells]
   ·simp[Builtin.append_,run_underlying ht,sizeOf,typeInfo,hi,Builtin.lenOf,Builtin.firstCells,hnc,storeCells]
  ·obtain⟨news,hnr,hnc⟩:=iC.TS HR
   have hnM:kS (d.M W base BJ) d.sz ys news:=hnr.oH (fun p c hp=>hKM p c hp)
   have hone:∀u∈news,u.oneCell'=true:=by
    intro u hu;obtain⟨q,hq,rfl⟩:=List.mem_iff_getElem.1 hu
    have hql:q/d.sz<ys.length:=by
     rw[Nat.div_lt_iff_lt_mul hs0];rw[<-hnM.1];exact hq
    have hc:=hnM.2 (q/d.sz) _ (List.getElem?_eq_getElem hql);refine d.lX (d.fJ hc) _ ?_;rw[List.mem_iff_getElem?];refine⟨q%d.sz,?_⟩;rw[List.getElem?_take,if_pos (Nat.mod_lt _ hs0),List.getElem?_drop,Nat.mul_comm,Nat.div_add_mod,List.getElem?_eq_getElem hq]
   obtain⟨v1,w1,hrun,h2,hg,_,hat⟩:=run_append_own_at (P:=P) W base t o.type e i0 z d.sz bytes ht hi hz0 hz1 hz2 hz hs0 v xs.length inner hown ad m c news (by rw[hnM.1,hm]) hnc hone (by simp only[maxLen];omega) hl hbase
   have hat':v1.ownBlock=v.ownBlock∨∃b,v1.ownBlock=some b/\W.heap.size<=b:=by
    rcases hat with hat|hat
    ·exact .inl hat
    ·exact .inr ⟨_,hat,Nat.le_refl _⟩
   have hne:∀k,some k≠v.ownBlock->k<W.heap.size->some k≠v1.ownBlock:=by
    intro k hk hlt;rcases hat' with hat|⟨b,hb,hle⟩
    ·rw[hat];exact hk
    ·rw[hb]
     intro he;injection he with he
     omega
   have step:∀{q:α}{c:List Value}{o:Nat->Prop},d.M W base o q c->(∀k,o k->ok k/\some k≠v.ownBlock)->d.M w1 base (fun k=>ok k/\some k≠v1.ownBlock) q c:=by
    intro q c o hq ho;have h1:=d.jq (w1:=w1) (fun k hk=>hg.block k hk.2.2.1 (ho k hk.1).2) (d.fK hq);exact d.fP (fun k hk=>⟨(ho k hk.1).1,hne k (ho k hk.1).2 hk.2.2.1⟩) h1
   refine⟨v1,w1,hrun,⟨fun k hk=>?_,inner++news,by rw[List.length_append,hm];exact h2,zJ (hr.oH (fun _ _ hq=>step hq (fun _ hk=>hk))) (hnM.oH (fun _ _ hq=>step hq FZ))⟩,hg,hat'⟩;rcases hat' with hat|⟨b,hb,hle⟩
   ·exact hok k (hat▸hk)
   ·rw[hb]at hk
    injection hk with hk
    exact hfresh k (by omega)
 obtain⟨v1,w1,hr1,h1,hg,hat⟩:=hrun;rw[if_pos hw];unfold Oper.wp execOp;simp only[ho,resolve,invoke,builtin,Sem.run_bind,Sem.run_pure,Result.andThen_ok,List.map_toArray,List.map_cons,List.map_nil,hs,hx,hr1];exact h v1 w1 h1 (HB.grown hg hbase (own_base hown)) hg hat
end Kd
end
section
variable{P:Program}{tmps:Array Value}{w:World}
end
namespace Kd
section
variable{P:Program}{α:Type}
end
section
variable{P:Program}{ops:Array Oper}{rest:List Oper}{o:Oper}{a:Act}{Q:Exit->Act->World->Prop}{Kc:Act->World->Prop}{α:Type}
end
end Kd
end Go.Proofs.YtapkmjfjikpnlaaGreatDoorW.aG
