/- A part of FnMsgJsonMeans. No conditions. -/
import Derived.Test.YtapkmjfjikpnlaaGreatDoorM09
set_option maxHeartbeats 4000000
set_option maxRecDepth 100000
namespace Go.Proofs.YtapkmjfjikpnlaaGreatDoor
open Go.RowKit YtapkmjfjikpnlaaGreatDoorW.aG YtapkmjfjikpnlaaGreatDoorW.aJ
set_option linter.unusedVariables false
set_option linter.unusedSimpArgs false
def Top(xs:List Int)(n:Nat):Prop:=Trim xs n (dJ xs)/\(n=0∨4294967296^(n-1)<=dJ xs)
theorem Jr{xs ys:List Int}{n m:Nat}(hx:Top xs n)(hL:DY xs)(hy:Top ys m)(h:n<m):dJ xs<dJ ys:=by
 have h1:=hx.1.lt hL;rcases hy.2 with h2|h2
 ·omega
 ·have:4294967296^n<=4294967296^(m-1):=Nat.pow_le_pow_right (by omega) (by omega)
  exact Nat.lt_of_lt_of_le h1 (Nat.le_trans this h2)
theorem PI{a b:Nat}(h:a<b):cmp3 a b= -1:=by rw[cmp3,if_pos h]
theorem PK{a b:Nat}(h:b<a):cmp3 a b=1:=by rw[cmp3,if_neg (by omega),if_pos h]
theorem YE(a:Nat):cmp3 a a=0:=by rw[cmp3,if_neg (by omega),if_neg (by omega)]
theorem kN(v1 v2:Value)(k1 L1 k2 L2:Nat)(w:World)(h1:gW w v1 k1 L1)(h2:gW w v2 k2 L2)(hl1:L1<=100000)(hl2:L2<=100000):
 Calls Tryz.prog 204 #[v1,v2] w fun e w'=>e= .returned (.int .i64 (cmp3 k1 k2))/\Below w.heap.size w w':=by
 obtain⟨A1,c1,xs,rfl,a2,a3,a4,a5,rfl⟩:=h1;obtain⟨A2,c2,ys,rfl,b2,b3,b4,b5,rfl⟩:=h2;have HX:=ah (a3 w (ku.refl w));have HY:=ah (b3 w (ku.refl w));have HLx:=ah a4;have HLy:=ah b4;have lx:xs.length<=100000:=by omega
 have ly:ys.length<=100000:=by omega
 clear a3 b3 a4 b4 a5 b5 hl1 hl2;go_enter Tryz.func204,Tryz.ntmps204
 go_upto_block 0 with fail
 go_cut [0] (fun s0 wx=>w=wx/\∃n:Nat,s0= .slice A1 n c1/\aC (Top xs n))
 case first=>
  go_wp2_with fail
  go_loopg [0] xs.length (fun g v0 w'=>w=w'/\v0= .slice A1 g c1/\aC (Trim xs g (dJ xs)))
  case atStart=>exact⟨rfl,rfl,⟨Nat.le_refl _,by rw[List.take_length]⟩⟩
  case round=>
   obtain⟨rfl,rfl,HT⟩:=hrel;cases gk with
   |zero=>
    go_wp2
    go_meet
    exact⟨rfl,0,rfl,⟨HT.out,.inl rfl⟩⟩
   |succ n=>
    obtain⟨x,hx⟩:=bF (show n<xs.length from HT.out.1);have hn:n<xs.length:=HT.out.1;obtain⟨ad,rfl,q0⟩:=iD HX.out hx.out;have hcut:=PG (some ad) n c1 (by omega);have e1:IntKind.i64.wrap ((n:Int)+1)=(n:Int)+1:=kL (by omega) (by omega);have e2:IntKind.i64.wrap (n:Int)=(n:Int):=kL (by omega) (by omega);have e3:IntKind.i64.wrap (((n+1:Nat):Int)-1)=(n:Int):=by rw[show(((n+1:Nat):Int)-1)=(n:Int)by omega];exact e2
    have e4:IntKind.i64.wrap ((n:Int)+1-1)=(n:Int):=by rw[show((n:Int)+1-1)=(n:Int)by omega];exact e2
    by_cases h0:x=0
    ·have HN:=ah (HT.out.next (by rw[hx.out,h0]))
     subst h0;go_wp2
     go_roundg n
     case measure=>omega
     case rel=>exact⟨rfl,by go_num,HN⟩
    ·have d:=eqF h0
     have HN:=ah (HT.out.top hx.out HLx.out h0);clear h0;go_wp2
     go_meet
     exact⟨rfl,n+1,by go_num,⟨HT.out,.inr HN.out⟩⟩
 case rest=>
  obtain⟨rfl,n,rfl,HN⟩:=hcut
  go_upto_block 2 with fail
  go_cut [1] (fun s1 wx=>w=wx/\∃m:Nat,s1= .slice A2 m c2/\aC (Top ys m))
  case first=>
   go_wp2_with fail
   go_loopg [1] ys.length (fun g v1 w'=>w=w'/\v1= .slice A2 g c2/\aC (Trim ys g (dJ ys)))
   case atStart=>exact⟨rfl,rfl,⟨Nat.le_refl _,by rw[List.take_length]⟩⟩
   case round=>
    obtain⟨rfl,rfl,HT⟩:=hrel;cases gk with
    |zero=>
     go_wp2
     go_meet
     exact⟨rfl,0,rfl,⟨HT.out,.inl rfl⟩⟩
    |succ n=>
     obtain⟨x,hx⟩:=bF (show n<ys.length from HT.out.1);have hn:n<ys.length:=HT.out.1;obtain⟨ad,rfl,q0⟩:=iD HY.out hx.out;have hcut:=PG (some ad) n c2 (by omega);have e1:IntKind.i64.wrap ((n:Int)+1)=(n:Int)+1:=kL (by omega) (by omega);have e2:IntKind.i64.wrap (n:Int)=(n:Int):=kL (by omega) (by omega);have e3:IntKind.i64.wrap (((n+1:Nat):Int)-1)=(n:Int):=by rw[show(((n+1:Nat):Int)-1)=(n:Int)by omega];exact e2
     have e4:IntKind.i64.wrap ((n:Int)+1-1)=(n:Int):=by rw[show((n:Int)+1-1)=(n:Int)by omega];exact e2
     by_cases h0:x=0
     ·have HN:=ah (HT.out.next (by rw[hx.out,h0]))
      subst h0;go_wp2
      go_roundg n
      case measure=>omega
      case rel=>exact⟨rfl,by go_num,HN⟩
     ·have d:=eqF h0
      have HN:=ah (HT.out.top hx.out HLy.out h0);clear h0;go_wp2
      go_meet
      exact⟨rfl,n+1,by go_num,⟨HT.out,.inr HN.out⟩⟩
  case rest=>
   obtain⟨rfl,m,rfl,HM⟩:=hcut;have hn:=HN.out.1.1;have hm:=HM.out.1.1
   by_cases hlt:n<m
   ·have HF:=ah (PI (Jr HN.out HLx.out HM.out hlt))
    have d1:((n:Int)!=(m:Int))=true:=Ci (by omega);have d2:decide ((n:Int)<(m:Int))=true:=bZ (by omega);clear hn hm;go_wp2
    go_ret
    exact⟨by rw[HF.out];rfl,bg _ _⟩
   by_cases hgt:m<n
   ·have HF:=ah (PK (Jr HM.out HLy.out HN.out hgt))
    have d1:((n:Int)!=(m:Int))=true:=Ci (by omega);have d2:decide ((n:Int)<(m:Int))=false:=bY (by omega);clear hn hm;go_wp2
    go_ret
    exact⟨by rw[HF.out];rfl,bg _ _⟩
   obtain rfl:n=m:=by omega
   have d1:((n:Int)!=(n:Int))=false:=Ef rfl;have e0:IntKind.i64.wrap ((n:Int)-1)=(n:Int)-1:=by rw[IntKind.wrap_i64];omega
   clear hlt hgt;go_wp2
   go_loopg [5] n (fun g v5 w'=>v5= .int .i64 ((g:Int)-1)/\g<=n/\aC ((xs.take n).drop g=(ys.take n).drop g)/\aC (Below w.heap.size w w'))
   case atStart=>exact⟨rfl,Nat.le_refl _,⟨by rw[List.drop_eq_nil_of_le (by rw[List.length_take];omega),List.drop_eq_nil_of_le (by rw[List.length_take];omega)]⟩,⟨bg _ _⟩⟩
   case round=>
    obtain⟨rfl,hg,HD,HB⟩:=hrel;cases gk with
    |zero=>
     have HF:=ah (show cmp3 (dJ xs) (dJ ys)=0 by
      have e:=HD.out;rw[List.drop_zero,List.drop_zero]at e;rw[<-HN.out.1.2,<-HM.out.1.2,e];exact YE _)
     go_wp2
     go_ret
     exact⟨by rw[HF.out];rfl,HB.out⟩
    |succ i=>
     obtain⟨x,hx⟩:=bF (show i<xs.length by omega);obtain⟨y,hy⟩:=bF (show i<ys.length by omega);obtain⟨ad,rfl,q0⟩:=iD (Kd.aU HX.out HB.out) hx.out;obtain⟨ad2,rfl,q1⟩:=iD (Kd.aU HY.out HB.out) hy.out;have HX1:=ah (show(xs.take n)[i]? =some x by rw[List.getElem?_take_of_lt (by omega)];exact hx.out);have HY1:=ah (show(ys.take n)[i]? =some y by rw[List.getElem?_take_of_lt (by omega)];exact hy.out);have Aw:=ah (show(xs.take n).length=(ys.take n).length by rw[List.length_take,List.length_take];omega);have i0:(0:Int)<=(i:Int):=by omega
     have i1:(i:Int)<(n:Int):=by omega
     have z1:((i+1:Nat):Int)-1=(i:Int):=by omega
     have z2:(i:Int)+1-1=(i:Int):=by omega
     have e3:IntKind.i64.wrap ((i:Int)-1)=(i:Int)-1:=by rw[IntKind.wrap_i64];omega
     by_cases hxy:x<y
     ·have HF:=ah (PI (show dJ xs<dJ ys by rw[<-HN.out.1.2,<-HM.out.1.2];exact Jq Aw.out HX1.out HY1.out (HLx.out.take n) (HLy.out.take n) HD.out hxy))
      have d2:decide (x<y)=true:=bZ hxy;clear hxy;rw[z1];go_wp2
      go_quiet (fail)
      go_wp2
      go_ret
      exact⟨by rw[HF.out];rfl,aS HB.out _⟩
     by_cases hyx:y<x
     ·have HF:=ah (PK (show dJ ys<dJ xs by rw[<-HN.out.1.2,<-HM.out.1.2];exact Jq Aw.out.symm HY1.out HX1.out (HLy.out.take n) (HLx.out.take n) HD.out.symm hyx))
      have d2:decide (x<y)=false:=bY hxy;have d3:decide (y<x)=true:=bZ hyx;clear hxy hyx;rw[z1];go_wp2
      go_quiet (fail)
      go_wp2
      go_quiet (fail)
      go_wp2
      go_ret
      exact⟨by rw[HF.out];rfl,(by first|exact aS HB.out _|exact aS (aS HB.out _) _)⟩
     obtain rfl:x=y:=by omega
     have d2:decide (x<x)=false:=bY (by omega)
     have HD2:=ah (show(xs.take n).drop i=(ys.take n).drop i by
      obtain⟨j1,e1⟩:=List.getElem?_eq_some_iff.1 HX1.out;obtain⟨j2,e2⟩:=List.getElem?_eq_some_iff.1 HY1.out;rw[List.drop_eq_getElem_cons j1,List.drop_eq_getElem_cons j2,e1,e2,HD.out])
     clear hxy hyx;rw[z1];go_wp2
     go_quiet (fail)
     go_wp2
     go_quiet (fail)
     go_wp2
     go_roundg i
     case measure=>omega
     case rel=>exact⟨by go_num,by omega,HD2,⟨aS HB.out _⟩⟩
theorem YF(n:Nat)(hn:n<=100000):∀W:World,(Instr.makeSlice 244 (.int .i64 (n:Int)) (.int .i64 (n:Int))).run Tryz.prog W= .ok (.slice (some ⟨W.heap.size,0,none⟩) n n) (W.alloc (.cells (madeCells #[.int .u32 0] n) 129)):=by
 obtain⟨i,hi,hzz⟩:=Option.map_eq_some_iff.1 Jp;exact nC (P:=Tryz.prog) 244 129 (.int .u32 0) 4 Tryz.underlying244 Jp rfl (by omega) n (by omega)
theorem UC(W:World)(n base:Nat)(hb:base<=W.heap.size)(hn:n<=100000):xY (W.alloc (.cells (madeCells #[.int .u32 0] n) 129)) base (.slice (some ⟨W.heap.size,0,none⟩) n n) (List.replicate n 0):=
 Kd.fZ (lY (enc:=Value.int .u32) (d:=(0:Int)) W base 129 n hb (by omega)) (fun _ _=>trivial)
def tN(b c:List Int)(i:Nat)(out:List Int)(br:Int):Prop:=
 ∃zs,out=zs++List.replicate (b.length-i) 0/\zs.length=i/\i<=b.length/\DY zs/\(br=0∨br=1)/\dJ zs+dJ (c.take i)=dJ (b.take i)+4294967296^i*br.toNat
theorem vk{xs:List Int}{i:Nat}{x:Int}(hx:xs[i]? =some x):dJ (xs.take (i+1))=dJ (xs.take i)+4294967296^i*x.toNat:=by
 obtain⟨hl,e⟩:=List.getElem?_eq_some_iff.1 hx;rw[List.take_succ_eq_append_getElem hl,e,pF,List.length_take,Nat.min_eq_left (Nat.le_of_lt hl)]
theorem En{xs:List Int}{i:Nat}(h:xs.length<=i):dJ (xs.take (i+1))=dJ (xs.take i):=by
 rw[List.take_of_length_le h,List.take_of_length_le (by omega)]
theorem MS{T Z C B br x y r UD:Nat}(h:Z+C=B+T*br)(hr:r+(y+br)=x+4294967296*UD):Z+T*r+(C+T*y)=B+T*x+T*4294967296*UD:=by
 have:=congrArg (T* ·) hr;simp only[Nat.mul_add,<-Nat.mul_assoc]at this;omega
theorem tN.next{b c:List Int}{i:Nat}{out:List Int}{br x y r UD:Int}(h:tN b c i out br)(hx:b[i]? =some x)(hy:(c[i]? =some y)∨(c.length<=i/\y=0))
 (hx0:0<=x) (hy0:0<=y) (hr0:0<=r) (hr1:r<4294967296) (hb':UD=0∨UD=1) (he:r+(y+br)=x+4294967296*UD):tN b c (i+1) (out.set i r) UD:=by
 obtain⟨zs,rfl,hl,hi,hL,hbr,hv⟩:=h;obtain⟨hlt,_⟩:=List.getElem?_eq_some_iff.1 hx;refine⟨zs++[r],?_,by simp[hl],by omega,hL.snoc hr0 hr1,hb',?_⟩
 ·rw[show b.length-i=(b.length-(i+1))+1 by omega,List.replicate_succ,List.set_append,if_neg (by omega),hl,Nat.sub_self,List.set_cons_zero,List.append_assoc]
  rfl
 ·have e2:dJ (c.take (i+1))=dJ (c.take i)+4294967296^i*y.toNat:=by
   rcases hy with hy|⟨hy,rfl⟩
   ·exact vk hy
   ·rw[En hy];show _=_+_*0;rw[Nat.mul_zero,Nat.add_zero]
  rw[pF,e2,vk hx,Nat.pow_succ,hl];refine MS hv ?_;rcases hbr with rfl|rfl<;>rcases hb' with rfl|rfl<;>omega
theorem tN.done{b c:List Int}{out:List Int}{br:Int}(h:tN b c b.length out br)(hc:dJ c<=dJ b)(hLb:DY b):DY out/\out.length=b.length/\dJ out=dJ b-dJ c:=by
 obtain⟨zs,rfl,hl,hi,hLz,hbr,hv⟩:=h;rw[Nat.sub_self,List.replicate_zero,List.append_nil];rw[List.take_length]at hv;have hz:=Ba hLz;have hbb:=Ba hLb;rw[hl]at hz
 have hct:dJ (c.take b.length)<=dJ c:=by
  by_cases hh:b.length<=c.length
  ·rw[rW c b.length hh];exact Nat.le_add_right _ _
  ·rw[List.take_of_length_le (by omega)];exact Nat.le_refl _
 have hce:dJ (c.take b.length)=dJ c:=by
  by_cases hh:b.length<=c.length
  ·have e:=rW c b.length hh
   by_cases h0:dJ (c.drop b.length)=0
   ·rw[h0,Nat.mul_zero,Nat.add_zero]at e;exact e.symm
   ·exfalso
    have h1:4294967296^b.length*1<=4294967296^b.length*dJ (c.drop b.length):=Nat.mul_le_mul_left _ (by omega);rw[Nat.mul_one]at h1;rcases hbr with rfl|rfl
    ·have h2:dJ zs+dJ (c.take b.length)=dJ b+4294967296^b.length*0:=hv
     generalize 4294967296^b.length=T at*;generalize T*dJ (c.drop b.length)=S at*;omega
    ·have h2:dJ zs+dJ (c.take b.length)=dJ b+4294967296^b.length*1:=hv
     generalize 4294967296^b.length=T at*;generalize T*dJ (c.drop b.length)=S at*;omega
  ·rw[List.take_of_length_le (by omega)]
 refine⟨hLz,hl,?_⟩;rw[hce]at hv;rcases hbr with rfl|rfl
 ·have h2:dJ zs+dJ c=dJ b+4294967296^b.length*0:=hv
  omega
 ·have h2:dJ zs+dJ c=dJ b+4294967296^b.length*1:=hv
  generalize 4294967296^b.length=T at*;omega
theorem YG(v1 v2:Value)(k1 L1 k2 L2:Nat)(w:World)(h1:gW w v1 k1 L1)(h2:gW w v2 k2 L2)(hl1:L1<=100000)(hk:k2<=k1):
 Calls Tryz.prog 206 #[v1,v2] w fun e w'=>∃v',e= .returned v'/\gW w' v' (k1-k2) L1/\Below w.heap.size w w':=by
 obtain⟨A1,c1,xs,rfl,a2,a3,a4,a5,rfl⟩:=h1;obtain⟨A2,c2,ys,rfl,b2,b3,b4,b5,rfl⟩:=h2;have HX:=ah (a3 w (ku.refl w));have HY:=ah (b3 w (ku.refl w));have HLx:=ah a4;have HLy:=ah b4;have lx:xs.length<=100000:=by omega
 have hmk:=YF xs.length lx;have H1:=ah hk;have HM0:=ah (show tN xs ys 0 (List.replicate xs.length 0) 0 from⟨[],rfl,rfl,Nat.zero_le _,fun x h=>absurd h List.not_mem_nil,.inl rfl,rfl⟩);have H5:=ah a5;clear a3 b3 a4 b4 b5 hk;go_enter Tryz.func206,Tryz.ntmps206;go_wp2
 go_loopg [6,7,8,9] xs.length (fun g v6 v7 v8 v9 w'=>∃(i:Nat)(out:List Int)(br:Int),v6= .int .u64 br/\v7= .int .i64 i/\i+g=xs.length/\aC (tN xs ys i out br)/\aC (xY w' w.heap.size (.slice (some ⟨w.heap.size,0,none⟩) xs.length xs.length) out)/\aC (Below w.heap.size w w'))
 case atStart=>exact⟨0,_,0,rfl,rfl,by omega,HM0,⟨UC w xs.length _ (Nat.le_refl _) lx⟩,⟨ak (bg _ _) _⟩⟩
 case round=>
  obtain⟨i,out,br,rfl,rfl,hg,HM,HO,HB⟩:=hrel
  by_cases hlt:i<xs.length
  ·obtain⟨x,hx⟩:=bF hlt
   obtain⟨ad,rfl,q0⟩:=iD (Kd.aU HX.out HB.out) hx.out;have hxr:=HLx.out x (List.mem_of_getElem? hx.out);have hol:out.length=xs.length:=by obtain⟨zs,rfl,e1,e2,_⟩:=HM.out;simp[e1];omega
   have hO:=HO.out;rw[<-hol]at hO;have hcell:=Kd.yN (0:Int) (by exact hO) (i:Int) (by omega) (by omega);rw[Int.toNat_natCast]at hcell;obtain⟨ho1,ho2⟩:=hcell;have hbr:br=0∨br=1:=by obtain⟨_,_,_,_,_,h,_⟩:=HM.out;exact h
   have u0:IntKind.u64.wrap x=x:=qY (by omega) (by omega);have w4:IntKind.i64.wrap ((i:Int)+1)=(i:Int)+1:=kL (by omega) (by omega);obtain⟨g',rfl⟩:∃g',gk=g'+1:=⟨gk-1,by omega⟩
   by_cases hc:i<ys.length
   ·obtain⟨y,hy⟩:=bF hc
    obtain⟨ad2,rfl,q1⟩:=iD (Kd.aU HY.out HB.out) hy.out;have hyr:=HLy.out y (List.mem_of_getElem? hy.out);have uy:IntKind.u64.wrap y=y:=qY (by omega) (by omega)
    by_cases h2:x<br+y
    ·skip
     obtain⟨s,hs⟩:∃s,s=br+y:=⟨_,rfl⟩
     have s0:0<=s:=by rcases hbr with h|h<;>omega
     have s1:s<=4294967296:=by rcases hbr with h|h<;>omega
     have u1:IntKind.u64.wrap (br+y)=s:=by rw[<-hs];exact qY (by omega) (by omega)
     have hlt2:x<s:=by rw[hs];exact h2
     have u2:IntKind.u64.wrap (x+4294967296)=x+4294967296:=qY (by omega) (by omega);have HN:=ah (HM.out.next (r:=x+4294967296-s) (UD:=1) hx.out (.inl hy.out) (by omega) (by omega) (by omega) (by omega) (.inr rfl) (by omega));obtain⟨r,hr⟩:∃r,r=x+4294967296-s:=⟨_,rfl⟩
     have u3:IntKind.u64.wrap (x+4294967296-s)=r:=by rw[hr];exact qY (by omega) (by omega)
     have u4:r%4294967296=r:=by omega
     have u5:IntKind.u32.wrap r=r:=u4;rw[<-hr]at HN;have d1:decide (x<s)=true:=bZ hlt2;have d0:decide ((i:Int)<(ys.length:Int))=true:=bZ (by omega);have HO2:=ah (show xY (wr.setCell ⟨w.heap.size,i,none⟩ (.int .u32 r)) w.heap.size (.slice (some ⟨w.heap.size,0,none⟩) xs.length xs.length) (out.set i r)by have:=(Kd.BO hO (i:Int) r).1;rw[Int.toNat_natCast]at this;rw[<-hol];exact this);have HB2:=ah (aV (g:=w.heap.size) (j:=i) (v:=.int .u32 r) HB.out (Nat.le_refl _));clear hO hlt2 h2 hbr s0 s1 hr hs;go_wp2
     go_roundg g'
     case measure=>omega
     case rel=>exact⟨i+1,_,_,rfl,by go_num,by omega,HN,HO2,HB2⟩
    ·skip
     obtain⟨s,hs⟩:∃s,s=br+y:=⟨_,rfl⟩
     have s0:0<=s:=by rcases hbr with h|h<;>omega
     have s1:s<=4294967296:=by rcases hbr with h|h<;>omega
     have u1:IntKind.u64.wrap (br+y)=s:=by rw[<-hs];exact qY (by omega) (by omega)
     have hlt2:¬x<s:=by rw[hs];exact h2
     have HN:=ah (HM.out.next (r:=x-s) (UD:=0) hx.out (.inl hy.out) (by omega) (by omega) (by omega) (by omega) (.inl rfl) (by omega));obtain⟨r,hr⟩:∃r,r=x-s:=⟨_,rfl⟩
     have u3:IntKind.u64.wrap (x-s)=r:=by rw[hr];exact qY (by omega) (by omega)
     have u4:r%4294967296=r:=by omega
     have u5:IntKind.u32.wrap r=r:=u4;rw[<-hr]at HN;have d1:decide (x<s)=false:=bY hlt2;have d0:decide ((i:Int)<(ys.length:Int))=true:=bZ (by omega);have HO2:=ah (show xY (wr.setCell ⟨w.heap.size,i,none⟩ (.int .u32 r)) w.heap.size (.slice (some ⟨w.heap.size,0,none⟩) xs.length xs.length) (out.set i r)by have:=(Kd.BO hO (i:Int) r).1;rw[Int.toNat_natCast]at this;rw[<-hol];exact this);have HB2:=ah (aV (g:=w.heap.size) (j:=i) (v:=.int .u32 r) HB.out (Nat.le_refl _));clear hO hlt2 h2 hbr s0 s1 hr hs;go_wp2
     go_roundg g'
     case measure=>omega
     case rel=>exact⟨i+1,_,_,rfl,by go_num,by omega,HN,HO2,HB2⟩
   ·skip
    by_cases h2:x<br
    ·skip
     obtain⟨s,hs⟩:∃s,s=br:=⟨_,rfl⟩
     have s0:0<=s:=by rcases hbr with h|h<;>omega
     have s1:s<=4294967296:=by rcases hbr with h|h<;>omega
     have hlt2:x<s:=by rw[hs];exact h2
     have u2:IntKind.u64.wrap (x+4294967296)=x+4294967296:=qY (by omega) (by omega);have HN:=ah (HM.out.next (r:=x+4294967296-s) (UD:=1) hx.out (y:=0) (.inr ⟨by omega,rfl⟩) (by omega) (by omega) (by omega) (by omega) (.inr rfl) (by omega));obtain⟨r,hr⟩:∃r,r=x+4294967296-s:=⟨_,rfl⟩
     have u3:IntKind.u64.wrap (x+4294967296-s)=r:=by rw[hr];exact qY (by omega) (by omega)
     have u4:r%4294967296=r:=by omega
     have u5:IntKind.u32.wrap r=r:=u4;rw[<-hr]at HN;have d1:decide (x<s)=true:=bZ hlt2;subst hs;have hs:=trivial;have d0:decide ((i:Int)<(ys.length:Int))=false:=bY (by omega);have HO2:=ah (show xY (wr.setCell ⟨w.heap.size,i,none⟩ (.int .u32 r)) w.heap.size (.slice (some ⟨w.heap.size,0,none⟩) xs.length xs.length) (out.set i r)by have:=(Kd.BO hO (i:Int) r).1;rw[Int.toNat_natCast]at this;rw[<-hol];exact this);have HB2:=ah (aV (g:=w.heap.size) (j:=i) (v:=.int .u32 r) HB.out (Nat.le_refl _));clear hO hlt2 h2 hbr s0 s1 hr hs;go_wp2
     go_roundg g'
     case measure=>omega
     case rel=>exact⟨i+1,_,_,rfl,by go_num,by omega,HN,HO2,HB2⟩
    ·skip
     obtain⟨s,hs⟩:∃s,s=br:=⟨_,rfl⟩
     have s0:0<=s:=by rcases hbr with h|h<;>omega
     have s1:s<=4294967296:=by rcases hbr with h|h<;>omega
     have hlt2:¬x<s:=by rw[hs];exact h2
     have HN:=ah (HM.out.next (r:=x-s) (UD:=0) hx.out (y:=0) (.inr ⟨by omega,rfl⟩) (by omega) (by omega) (by omega) (by omega) (.inl rfl) (by omega));obtain⟨r,hr⟩:∃r,r=x-s:=⟨_,rfl⟩
     have u3:IntKind.u64.wrap (x-s)=r:=by rw[hr];exact qY (by omega) (by omega)
     have u4:r%4294967296=r:=by omega
     have u5:IntKind.u32.wrap r=r:=u4;rw[<-hr]at HN;have d1:decide (x<s)=false:=bY hlt2;subst hs;have hs:=trivial;have d0:decide ((i:Int)<(ys.length:Int))=false:=bY (by omega);have HO2:=ah (show xY (wr.setCell ⟨w.heap.size,i,none⟩ (.int .u32 r)) w.heap.size (.slice (some ⟨w.heap.size,0,none⟩) xs.length xs.length) (out.set i r)by have:=(Kd.BO hO (i:Int) r).1;rw[Int.toNat_natCast]at this;rw[<-hol];exact this);have HB2:=ah (aV (g:=w.heap.size) (j:=i) (v:=.int .u32 r) HB.out (Nat.le_refl _));clear hO hlt2 h2 hbr s0 s1 hr hs;go_wp2
     go_roundg g'
     case measure=>omega
     case rel=>exact⟨i+1,_,_,rfl,by go_num,by omega,HN,HO2,HB2⟩
  ·obtain rfl:i=xs.length:=by omega
   have HF:=ah (HM.out.done H1.out HLx.out);go_wp2
   go_ret
   exact⟨_,rfl,by rw[<-HF.out.2.2];exact(gW.own HO.out HF.out.1).mono (by rw[HF.out.2.1];exact H5.out),HB.out⟩
end Go.Proofs.YtapkmjfjikpnlaaGreatDoor
namespace Go.Proofs.YtapkmjfjikpnlaaGreatDoor.FP
def gp(s k:Nat):Nat:=2^(k/2^s-1)
def fv(s k:Nat):Nat:=if k<2^s then k else(2^s+k%2^s)*2^(k/2^s-1)
theorem GH(s k:Nat):0<gp s k:=Nat.pow_pos (by omega)
theorem yc(s k:Nat):fv s (k+1)=fv s k+gp s k:=by
 have hp:0<2^s:=Nat.pow_pos (by omega);generalize hP:2^s=P at hp;unfold fv gp;rw[hP];have hk:=Nat.div_add_mod k P;have hm:=Nat.mod_lt k hp
 by_cases h1:k+1<P
 ·rw[if_pos h1,if_pos (by omega),Nat.div_eq_of_lt (by omega)]
 ·rw[if_neg h1]
  by_cases h2:k<P
  ·have:k+1=P:=by omega
   rw[if_pos h2,this,Nat.mod_self,Nat.div_self hp,Nat.div_eq_of_lt h2];simp;omega
  ·rw[if_neg h2]
   have hq:1<=k/P:=(Nat.le_div_iff_mul_le hp).2 (by omega)
   by_cases h3:k%P+1<P
   ·have e1:(k+1)/P=k/P:=by
     rw[Nat.div_eq_iff hp];constructor
     ·rw[Nat.mul_comm];omega
     ·rw[Nat.mul_comm];omega
    have e2:(k+1)%P=k%P+1:=by
     have:=Nat.div_add_mod (k+1) P;rw[e1]at this;omega
    rw[e1,e2,<-Nat.add_assoc,Nat.add_mul _ 1,Nat.one_mul]
   ·have h4:k%P+1=P:=by omega
    have e1:(k+1)/P=k/P+1:=by
     rw[Nat.div_eq_iff hp];constructor
     ·rw[Nat.add_mul,Nat.one_mul,Nat.mul_comm];omega
     ·rw[Nat.add_mul,Nat.one_mul,Nat.mul_comm (k/P)];omega
    have e2:(k+1)%P=0:=by
     have:=Nat.div_add_mod (k+1) P;rw[e1,Nat.mul_add]at this;omega
    rw[e1,e2];obtain⟨q,hq'⟩:∃q,k/P=q+1:=⟨k/P-1,by omega⟩
    rw[hq'];show(P+0)*2^(q+1)=(P+k%P)*2^q+2^q;rw[Nat.pow_succ];have:P+k%P+1=P*2:=by omega
    calc (P+0)*(2^q*2)=(P*2)*2^q:=by rw[Nat.add_zero,Nat.mul_comm (2^q) 2,Nat.mul_assoc]
     _=_:=by rw[<-this,Nat.add_mul,Nat.one_mul]
theorem PL{s k j:Nat}(h:k<j):fv s k<fv s j:=by
 induction j with
 |zero=>omega
 |succ j ih=>
  have:=yc s j;have:=GH s j
  by_cases e:k=j
  ·subst e;omega
  ·have:=ih (by omega);omega
theorem UE{s k j:Nat}(h:k<=j):fv s k<=fv s j:=by
 by_cases e:k=j
 ·subst e;exact Nat.le_refl _
 ·exact Nat.le_of_lt (PL (by omega))
theorem Bc(s:Nat):fv s 0=0:=by
 unfold fv;rw[if_pos (Nat.pow_pos (by omega))]
theorem YH{s k j:Nat}(h:k<=j):gp s k<=gp s j:=by
 unfold gp;have:=Nat.div_le_div_right (c:=2^s) h;exact Nat.pow_le_pow_right (by omega) (by omega)
theorem abo(s k:Nat):fv s (k+1)<=2^(s+1)*gp s k:=by
 have hp:0<2^s:=Nat.pow_pos (by omega);rw[yc,Nat.pow_succ];unfold fv gp;generalize hP:2^s=P at hp;have hm:=Nat.mod_lt k hp
 by_cases h1:k<P
 ·rw[if_pos h1,Nat.div_eq_of_lt h1];simp;omega
 ·rw[if_neg h1]
  have:P+k%P+1<=P*2:=by omega
  calc (P+k%P)*2^(k/P-1)+2^(k/P-1)=(P+k%P+1)*2^(k/P-1):=by rw[Nat.add_mul _ 1,Nat.one_mul]
   _<=_:=Nat.mul_le_mul_right _ this
def UF(s c X K:Nat):Prop:=2*X<c*(2*fv s K+gp s K)/\c*(2*fv s K)<2*X+c*gp s (K-1)
theorem PN(s c X K:Nat){T:Nat}(hK:0<K)(hc:0<c)(hT:2^(s+1)<T)
 (h1:2*X*T<=2*(c*fv s K)*T+c*fv s K) (h2:2*(c*fv s K)*T<=2*X*T+c*fv s K):UF s c X K:=by
 obtain⟨k,rfl⟩:∃k,K=k+1:=⟨K-1,by omega⟩
 have hg:=abo s k;have UG:=GH s k;have hcg:0<c*gp s k:=Nat.mul_pos hc UG;have hT0:0<T:=Nat.lt_of_le_of_lt (Nat.zero_le _) hT
 have key:c*fv s (k+1)<(c*gp s k)*T:=by
  have a1:c*fv s (k+1)<=c*(2^(s+1)*gp s k):=Nat.mul_le_mul_left _ hg;have a2:c*(2^(s+1)*gp s k)=(c*gp s k)*2^(s+1):=by rw[Nat.mul_comm (2^(s+1)),Nat.mul_assoc]
  have a3:(c*gp s k)*2^(s+1)<(c*gp s k)*T:=Nat.mul_lt_mul_of_pos_left hT hcg;rw[a2]at a1;exact Nat.lt_of_le_of_lt a1 a3
 have hmono:c*gp s k<=c*gp s (k+1):=Nat.mul_le_mul_left _ (YH (by omega))
 constructor
 ·apply Nat.lt_of_mul_lt_mul_right (a:=T)
  have e:c*(2*fv s (k+1)+gp s (k+1))*T=2*(c*fv s (k+1))*T+(c*gp s (k+1))*T:=by
   rw[Nat.mul_add,Nat.add_mul,<-Nat.mul_assoc c 2,Nat.mul_comm c 2,Nat.mul_assoc 2 c]
  have:=Nat.mul_le_mul_right T hmono;omega
 ·show c*(2*fv s (k+1))<2*X+c*gp s k
  apply Nat.lt_of_mul_lt_mul_right (a:=T)
  have e:(2*X+c*gp s k)*T=2*X*T+(c*gp s k)*T:=Nat.add_mul _ _ _;have e2:c*(2*fv s (k+1))*T=2*(c*fv s (k+1))*T:=by rw[<-Nat.mul_assoc c 2,Nat.mul_comm c 2,Nat.mul_assoc 2 c]
  omega
theorem QT{s c X K:Nat}(hK:0<K)(hc:0<c)(h:UF s c X K)(k:Nat):(c*fv s k<=X↔(k<K∨k=K/\c*fv s K<=X)):=by
 obtain⟨K,rfl⟩:∃j,K=j+1:=⟨K-1,by omega⟩
 obtain⟨h1,h2⟩:=h;have h2':c*(2*fv s (K+1))<2*X+c*gp s K:=h2;have e1:=congrArg (c* ·) (yc s K);have e2:=congrArg (c* ·) (yc s (K+1));simp only[Nat.mul_add]at e1 e2 h1;have e3:c*(2*fv s (K+1))=2*(c*fv s (K+1)):=by rw[<-Nat.mul_assoc c 2,Nat.mul_comm c 2,Nat.mul_assoc 2 c]
 have g0:0<c*gp s K:=Nat.mul_pos hc (GH _ _);have g1:0<c*gp s (K+1):=Nat.mul_pos hc (GH _ _)
 constructor
 ·intro hx
  by_cases hk:k<K+1
  ·exact .inl hk
  ·right
   by_cases hk2:k=K+1
   ·subst hk2;exact⟨rfl,hx⟩
   ·exfalso
    have:=Nat.mul_le_mul_left c (UE (s:=s) (show K+1+1<=k by omega));omega
 ·rintro(hk|⟨rfl,hx⟩)
  ·have:=Nat.mul_le_mul_left c (UE (s:=s) (show k<=K by omega))
   omega
  ·exact hx
theorem Js{s c X K:Nat}(h:UF s c X K):2*X<c*(2*fv s K+gp s K):=h.1
theorem Jt{s c X K:Nat}(h:UF s c X (K+1)):c*(2*fv s K+gp s K)<2*X:=by
 obtain⟨_,h2⟩:=h;have h2':c*(2*fv s (K+1))<2*X+c*gp s K:=h2;have e1:=yc s K;rw[e1]at h2';simp only[Nat.mul_add]at h2' ⊢;have e3:c*(2*gp s K)=2*(c*gp s K):=by rw[<-Nat.mul_assoc c 2,Nat.mul_comm c 2,Nat.mul_assoc 2 c]
 omega
def QU(acc:Nat):List Nat->Nat
 |[]=>acc
 |d::l=>QU (acc*10+(d-48)) l
def zi(l:List Nat):Nat:=QU 0 l
theorem YI(l:List Nat):∀acc,QU acc l=acc*10^l.length+zi l:=by
 induction l with
 |nil=>intro acc;show acc=acc*10^0+0;rw[Nat.pow_zero,Nat.mul_one,Nat.add_zero]
 |cons d l ih=>
  intro acc;have h1:=ih (acc*10+(d-48));have h2:=ih (0*10+(d-48));show QU (acc*10+(d-48)) l=acc*10^(l.length+1)+QU (0*10+(d-48)) l;rw[h1,h2,Nat.pow_succ,Nat.zero_mul,Nat.zero_add,<-Nat.add_assoc,Nat.add_mul,Nat.mul_assoc acc,Nat.mul_comm 10]
theorem rX(d:Nat)(l:List Nat):zi (d::l)=(d-48)*10^l.length+zi l:=by
 have:=YI l (0*10+(d-48));show QU (0*10+(d-48)) l=_;rw[this,Nat.zero_mul,Nat.zero_add]
theorem zT(l m:List Nat):zi (l++m)=zi l*10^m.length+zi m:=by
 induction l with
 |nil=>show zi m=0*_+zi m;rw[Nat.zero_mul,Nat.zero_add]
 |cons d l ih=>
  rw[List.cons_append,rX,rX,ih,List.length_append,Nat.pow_add,Nat.add_mul,Nat.mul_assoc,Nat.add_assoc]
theorem QV(l:List Nat)(d:Nat):zi (l++[d])=zi l*10+(d-48):=by
 rw[zT,rX];show zi l*10^1+((d-48)*10^0+0)=_;rw[Nat.pow_one,Nat.pow_zero,Nat.mul_one,Nat.add_zero]
def Dgs(l:List Nat):Prop:=∀d∈l,48<=d/\d<=57
theorem YJ(l:List Nat)(h:Dgs l):zi l<10^l.length:=by
 induction l with
 |nil=>exact Nat.one_pos
 |cons d l ih=>
  have h1:=ih (fun x hx=>h x (List.mem_cons_of_mem _ hx));have h2:=h d List.mem_cons_self;rw[rX,List.length_cons,Nat.pow_succ];have:(d-48)*10^l.length<=9*10^l.length:=Nat.mul_le_mul_right _ (by omega);generalize 10^l.length=T at this h1 ⊢;generalize (d-48)*T=E at this ⊢;omega
theorem MV{a b n D r:Nat}(h:D*b+r=a*10^n)(hr:r<b)(up:Nat)(hup:up=if 2*r<b then 0 else 1):
 2*((D+up)*b)<=2*(a*10^n)+b/\2*(a*10^n)<=2*((D+up)*b)+b:=by
 rw[<-h,Nat.add_mul];clear h;generalize D*b=E
 by_cases hc:2*r<b
 ·rw[if_pos hc]at hup;subst hup;omega
 ·rw[if_neg hc]at hup;subst hup;omega
theorem UH{a b n D r:Nat}(h:D*b+r=a*10^(n+1))(hr:r<b)(hb:b<=10*a):10^n<=D:=by
 have hb0:0<b:=by omega
 have h1:b*10^n<=a*10^(n+1):=by
  rw[Nat.pow_succ,Nat.mul_comm (10^n) 10,<-Nat.mul_assoc,Nat.mul_comm a 10];exact Nat.mul_le_mul_right _ hb
 have h2:b*10^n<b*(D+1):=by
  rw[Nat.mul_add,Nat.mul_one,Nat.mul_comm b D];refine Nat.lt_of_le_of_lt h1 ?_;rw[<-h];exact Nat.add_lt_add_left hr _
 exact Nat.le_of_lt_succ (Nat.lt_of_mul_lt_mul_left h2)
theorem UJ{m E1 E2 j1 j2 n a b D r up A B X V:Nat}(ha:a=m*2^E1*10^j2)(hb:b=2^E2*10^j1)(hab:b<=10*a)
 (h:D*b+r=a*10^(n+1)) (hr:r<b) (hup:up=if 2*r<b then 0 else 1) (hA:j2+(n+1)<=A) (hB:E2<=B)
 (hX:X=(D+up)*10^(A-(j2+(n+1))+j1)*2^B) (hV:V=m*10^A*2^(B-E2+E1)):
 2*X*10^n<=2*V*10^n+V/\2*V*10^n<=2*X*10^n+V:=by
 obtain⟨K,hK⟩:∃K,K=10^(A-(j2+(n+1)))*2^(B-E2):=⟨_,rfl⟩
 have hX2:X=(D+up)*b*K:=by
  rw[hX,hb,hK,Nat.pow_add,show(2:Nat)^B=2^E2*2^(B-E2)by rw[<-Nat.pow_add,Nat.add_sub_cancel' hB]]
  ac_rfl
 have hV2:V=a*10^(n+1)*K:=by
  rw[hV,ha,hK,Nat.pow_add 2,show(10:Nat)^A=10^j2*10^(n+1)*10^(A-(j2+(n+1)))by rw[<-Nat.pow_add,<-Nat.pow_add,Nat.add_sub_cancel' hA]]
  ac_rfl
 obtain⟨n1,n2⟩:=MV h hr up hup
 have hT:b*K*10^n<=V:=by
  rw[hV2,show a*10^(n+1)*K=(10*a)*K*10^n by rw[Nat.pow_succ];ac_rfl];exact Nat.mul_le_mul_right _ (Nat.mul_le_mul_right _ hab)
 have m1:=Nat.mul_le_mul_right (10^n) (Nat.mul_le_mul_right K n1);have m2:=Nat.mul_le_mul_right (10^n) (Nat.mul_le_mul_right K n2);rw[Nat.mul_assoc 2 ((D+up)*b),<-hX2,Nat.add_mul (2*(a*_)),Nat.mul_assoc 2 (a*_),<-hV2,Nat.add_mul (2*V)]at m1;rw[Nat.mul_assoc 2 (a*_),<-hV2,Nat.add_mul (2*_),Nat.mul_assoc 2 ((D+up)*b),<-hX2,Nat.add_mul (2*X)]at m2;exact⟨Nat.le_trans m1 (Nat.add_le_add_left hT _),Nat.le_trans m2 (Nat.add_le_add_left hT _)⟩
end Go.Proofs.YtapkmjfjikpnlaaGreatDoor.FP
namespace Go.Proofs.YtapkmjfjikpnlaaGreatDoor
open Go.RowKit YtapkmjfjikpnlaaGreatDoorW.aG YtapkmjfjikpnlaaGreatDoorW.aJ FP
set_option linter.unusedVariables false
set_option linter.unusedSimpArgs false
def iE(s k:Nat):Nat:=if k<2^s then k else 2^s+k%2^s
def gZ(s k:Nat):Nat:=k/2^s-1
theorem MW(s k:Nat):iE s k*2^gZ s k=fv s k:=by
 have hp:0<2^s:=Nat.pow_pos (by omega);unfold iE gZ fv
 split
 ·rename_i h
  rw[Nat.div_eq_of_lt h];simp
 ·rfl
theorem abp(s k:Nat):2^gZ s k=gp s k:=rfl
theorem aan(n:Int)(h₀:0<=n)(h₁:n<2^64):IntKind.u64.wrap n=n:=by rw[IntKind.wrap_u64];omega
theorem UK(i:Nat)(hi:i<=64){x:Int}(h0:0<=x)(h1:x<2^64):bits .and .u64 x (2^i-1)=x%2^i:=bits_mask .u64 64 (by decide) aan i hi x h0 h1
theorem oru64{y x:Int}(i:Nat)(h0:0<=y)(h1:y<2^i)(h2:y<2^64)(g0:0<=x)(g1:x%2^i=0)(g2:x<2^64):bits .or .u64 x y=x+y:=bits_join .u64 64 (by decide) aan i x y g0 g1 g2 h0 h1 h2
theorem oru64'{y x:Int}(i:Nat)(h0:0<=y)(h1:y<2^i)(h2:y<2^64)(g0:0<=x)(g1:x%2^i=0)(g2:x<2^64):bits .or .u64 y x=y+x:=by
 have h:=oru64 i h0 h1 h2 g0 g1 g2;obtain⟨a,rfl⟩:=Int.eq_ofNat_of_zero_le h0;obtain⟨b,rfl⟩:=Int.eq_ofNat_of_zero_le g0;rw[<-Int.add_comm,<-h];show IntKind.u64.wrap ((((BitVec.ofInt 64 (a:Int))|||(BitVec.ofInt 64 (b:Int))).toNat:Nat):Int)=IntKind.u64.wrap ((((BitVec.ofInt 64 (b:Int))|||(BitVec.ofInt 64 (a:Int))).toNat:Nat):Int);rw[BitVec.or_comm]
theorem CS(k:Nat)(w:World)(hk:k<2^63):Calls Tryz.prog 202 #[.int .u64 k,.int .i64 64] w fun e w'=>e= .returned (.tuple #[.int .u64 (iE 52 k),.int .i64 (-1074+(gZ 52 k:Nat))])/\w=w':=by
 have h1:(k:Int)/4503599627370496=((k/4503599627370496:Nat):Int):=by omega
 have h2:IntKind.i64.wrap ((k/4503599627370496:Nat):Int)=((k/4503599627370496:Nat):Int):=by rw[IntKind.wrap_i64];omega
 have h3:bits .and .u64 (k:Int) 4503599627370495=((k%4503599627370496:Nat):Int):=(UK 52 (by omega) (by omega) (by omega)).trans (by omega);obtain⟨q,hq⟩:∃q,q=k/4503599627370496:=⟨_,rfl⟩
 obtain⟨r,hr⟩:∃r,r=k%4503599627370496:=⟨_,rfl⟩
 have hr1:r<4503599627370496:=by omega
 have hq1:q<2048:=by omega
 rw[<-hq]at h1 h2;rw[<-hr]at h3
 by_cases h0:q=0
 ·have HF:=ah (show iE 52 k=r/\gZ 52 k=0 by
   have:k<4503599627370496:=by omega
   exact⟨by rw[iE,if_pos (by exact this)];omega,by show k/4503599627370496-1=0;omega⟩)
  subst h0;clear hq hr hk hr1;have h5:((0:Nat):Int)=0:=rfl;rw[h5]at h1;have h6:wrap64 0=0:=by unfold wrap64;omega
  go_enter Tryz.func202,Tryz.ntmps202;go_wp2
  go_ret2
  exact⟨by rw[HF.out.1,HF.out.2];rfl,rfl⟩
 ·have HF:=ah (show iE 52 k=r+4503599627370496/\((gZ 52 k:Nat):Int)=(q:Int)-1 by
   have:¬k<4503599627370496:=by omega
   exact⟨by rw[iE,if_neg (by exact this)];show 4503599627370496+k%4503599627370496=_;omega,by show((k/4503599627370496-1:Nat):Int)=_;omega⟩)
  have h4:bits .or .u64 (r:Int) 4503599627370496=(r:Int)+4503599627370496:=oru64' 52 (by omega) (by omega) (by omega) (by omega) (by decide) (by omega);have d:((q:Int)==0)=false:=eqF (by omega);have w1:wrap64 (-1074+(q:Int))= -1074+(q:Int):=by unfold wrap64;omega
  have w0:wrap64 (q:Int)=q:=by unfold wrap64;omega
  have w2:wrap64 (-1074+(q:Int)-1)= -1074+(q:Int)-1:=by unfold wrap64;omega
  clear hq hr hk hr1 h0;go_enter Tryz.func202,Tryz.ntmps202;go_wp2
  go_ret2
  exact⟨by rw[HF.out.1,HF.out.2];simp[go_sem];omega,rfl⟩
theorem MX(k:Nat)(w:World)(hk:k<2^63):Calls Tryz.prog 202 #[.int .u64 k,.int .i64 32] w fun e w'=>e= .returned (.tuple #[.int .u64 (iE 23 k),.int .i64 (-149+(gZ 23 k:Nat))])/\w=w':=by
 have h1:(k:Int)/8388608=((k/8388608:Nat):Int):=by omega
 have h2:IntKind.i64.wrap ((k/8388608:Nat):Int)=((k/8388608:Nat):Int):=by rw[IntKind.wrap_i64];omega
 have h3:bits .and .u64 (k:Int) 8388607=((k%8388608:Nat):Int):=(UK 23 (by omega) (by omega) (by omega)).trans (by omega);obtain⟨q,hq⟩:∃q,q=k/8388608:=⟨_,rfl⟩
 obtain⟨r,hr⟩:∃r,r=k%8388608:=⟨_,rfl⟩
 have hr1:r<8388608:=by omega
 have hq1:q<1099511627776:=by omega
 rw[<-hq]at h1 h2;rw[<-hr]at h3
 by_cases h0:q=0
 ·have HF:=ah (show iE 23 k=r/\gZ 23 k=0 by
   have:k<8388608:=by omega
   exact⟨by rw[iE,if_pos (by exact this)];omega,by show k/8388608-1=0;omega⟩)
  subst h0;clear hq hr hk hr1;have h5:((0:Nat):Int)=0:=rfl;rw[h5]at h1;have h6:wrap64 0=0:=by unfold wrap64;omega
  go_enter Tryz.func202,Tryz.ntmps202;go_wp2
  go_ret2
  exact⟨by rw[HF.out.1,HF.out.2];rfl,rfl⟩
 ·have HF:=ah (show iE 23 k=r+8388608/\((gZ 23 k:Nat):Int)=(q:Int)-1 by
   have:¬k<8388608:=by omega
   exact⟨by rw[iE,if_neg (by exact this)];show 8388608+k%8388608=_;omega,by show((k/8388608-1:Nat):Int)=_;omega⟩)
  have h4:bits .or .u64 (r:Int) 8388608=(r:Int)+8388608:=oru64' 23 (by omega) (by omega) (by omega) (by omega) (by decide) (by omega);have d:((q:Int)==0)=false:=eqF (by omega);have w1:wrap64 (-149+(q:Int))= -149+(q:Int):=by unfold wrap64;omega
  have w0:wrap64 (q:Int)=q:=by unfold wrap64;omega
  have w2:wrap64 (-149+(q:Int)-1)= -149+(q:Int)-1:=by unfold wrap64;omega
  clear hq hr hk hr1 h0;go_enter Tryz.func202,Tryz.ntmps202;go_wp2
  go_ret2
  exact⟨by rw[HF.out.1,HF.out.2];simp[go_sem];omega,rfl⟩
end Go.Proofs.YtapkmjfjikpnlaaGreatDoor
