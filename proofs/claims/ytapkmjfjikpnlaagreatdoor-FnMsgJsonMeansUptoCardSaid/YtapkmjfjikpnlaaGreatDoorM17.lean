/- A part of FnMsgJsonMeans. No conditions. -/
import Derived.Test.YtapkmjfjikpnlaaGreatDoorM15
import Derived.Test.YtapkmjfjikpnlaaGreatDoorM16
import Derived.Deep.RegionLawGrows
namespace Go.Proofs.YtapkmjfjikpnlaaGreatDoor
open Go.RowKit YtapkmjfjikpnlaaGreatDoorW.aG YtapkmjfjikpnlaaGreatDoorW.aJ
set_option linter.unusedVariables false
set_option linter.unusedSimpArgs false
theorem cell_spot{w:World}{b off:Nat}{sp:Option Nat}{v:Value}(h:w.cell? ⟨b,off,sp⟩=some v):sp=none:=by
 cases sp with
 |none=>rfl
 |some k=>
  exfalso
  unfold World.cell? at h
  split at h<;>simp at h
theorem og(w:World)(hU:Lib.Utf8Tabs 3 4 w)(A:Option Addr)(g c:Nat)(L:List Int)(hL:∀x∈L,0<=x/\x<=255)(hp:L≠[])(hr:RdB w A g L):
 Calls Tryz.prog 177 #[.slice A g c] w fun e w'=>e= .returned (.tuple #[.int .i32 (Az L).1,.int .i64 (Az L).2])/\Below w.heap.size w w':=by
 have hl:=Kd.dG hr;have hs:(str L).size=g:=by rw[bV,hl]
 cases hL0:L with
 |nil=>exact absurd hL0 hp
 |cons x R=>
  rw[<-hL0];have hr0:=hr;rw[hL0]at hr0;obtain⟨⟨b,off,sp⟩,rfl,hc⟩:=fD hr0;obtain rfl:=cell_spot hc
  have hcell:∀j,j<(str L).size->w.cell? ⟨b,off+j,none⟩=some (.int .u8 ((str L).get! j).toNat):=by
   intro j hj;rw[hs,<-hl]at hj;obtain⟨ad,e,hcj⟩:=iD hr (List.getElem?_eq_getElem hj);cases e;have hx:=hL L[j] (List.getElem_mem hj);rw[yh L hL,List.getD_eq_getElem?_getD,List.getElem?_eq_getElem hj];show w.cell? _=some (.int .u8 ((L[j].toNat:Nat):Int));rw[Int.toNat_of_nonneg hx.1,<-hcj]
   by_cases h0:j=0
   ·subst h0;rfl
   ·rw[Md _ _ (by omega)]
  have hd:Lib.decodeGo (str L)=Az L:=by
   unfold Lib.decodeGo;have:0<L.length:=List.length_pos_iff.2 hp;rw[if_neg (by omega),Bf L hL,List.drop_zero]
  have h:=GU (str L) b off c w hU hcell;rw[hd,hs]at h;exact h
theorem Nw{l:List Int}(h:YR l)(hn:¬(cO l<32∨cO l=34∨cO l=92)):32<=cO l/\cO l≠34/\cO l≠92/\cO l<=1114111/\(cO l=65533->l.length=3)/\0<l.length:=by
 obtain⟨⟨h0,h1⟩,h2,hu,h3⟩:=zn h;refine⟨by omega,by omega,by omega,h1,fun e=>?_,List.length_pos_iff.2 h.1⟩;rw[e]at hu;rw[<-hu]
 rfl
theorem YU{w0 W:World}{v:Value}{d:List Int}(hd:iW w0 W v d)(hB:Below w0.heap.size w0 W)(ty:TypeId){B:Addr}{m c:Nat}{ys:List Int}(hy:RdB W (some B) m ys)(hm:0<m)(hl:d.length+m<=140737488355328):
 ∃v1 w1,(Builtin.append_ #[27,27] ty #[v,.slice (some B) m c]).run Tryz.prog W= .ok v1 w1/\iW w0 w1 v1 (d++ys)/\Below w0.heap.size w0 w1:=by
 obtain⟨i0,hi,hzz⟩:=Option.map_eq_some_iff.1 uS;simp only[Prod.mk.injEq]at hzz;obtain⟨hz0,hz1,hz2⟩:=hzz;have hly:=Kd.dG hy;have e1:d.length+m=(d++ys).length:=by rw[List.length_append,hly]
 have e2:encs (fun x=>Value.int .u8 x) d++encs (fun x=>Value.int .u8 x) ys=encs (fun x=>Value.int .u8 x) (d++ys):=by simp[encs]
 have one:∀u∈encs (fun x=>Value.int .u8 x) ys,u.oneCell'=true:=by
  intro u hu;obtain⟨x,_,rfl⟩:=List.mem_map.1 hu
  rfl
 have mx:d.length+m<=maxLen:=by simp only[maxLen];omega
 rcases hd with hd|⟨A,n,rfl,hd⟩
 ·obtain⟨v1,w1,hr,h1,h2,_⟩:=run_append_own (P:=Tryz.prog) W w0.heap.size 27 ty 5 i0 (.int .u8 0) 1 1 Tryz.underlying27 hi hz0 hz1 hz2 rfl (by decide) v d.length _ (Kd.pV hd) B m c (encs (fun x=>Value.int .u8 x) ys) (by simp[encs,hly]) (ql hy) one mx (by omega) hB.size
  rw[e1,e2]at h1;exact⟨v1,w1,hr,.inl (Kd.fZ h1 (fun _ _=>trivial)),hB.grown h2 hB.size (fun k hk=>jG hd k hk)⟩
 ·have hd':=Kd.aU hd hB
  have hld:=Kd.dG hd;subst hld;cases A with
  |some b=>
   obtain⟨v1,w1,hr,h1,h2⟩:=run_append_arg_grows (P:=Tryz.prog) W 27 ty 5 i0 (.int .u8 0) 1 1 Tryz.underlying27 hi hz0 hz1 hz2 rfl (by decide) b d.length d.length (encs (fun x=>Value.int .u8 x) d) (by simp[encs]) (ql hd') B m c (encs (fun x=>Value.int .u8 x) ys) (by simp[encs,hly]) (ql hy) (by omega) mx (by omega);rw[e1,e2]at h1;exact⟨v1,w1,hr,.inl (sD (Kd.fZ h1 (fun _ _=>trivial)) hB.size),hB.grown h2 hB.size (fun k hk=>by cases hk)⟩
  |none=>
   have hn:d=[]:=by
    cases d with
    |nil=>rfl
    |cons x t=>obtain⟨ad,e,_⟩:=hd.2.2 (by simp);cases e
   subst hn;obtain⟨v1,w1,hr,h1,h2,_⟩:=run_append_own (P:=Tryz.prog) W W.heap.size 27 ty 5 i0 (.int .u8 0) 1 1 Tryz.underlying27 hi hz0 hz1 hz2 rfl (by decide) (.slice none 0 0) 0 [] (World.ownsRow_nil W _ 5 1) B m c (encs (fun x=>Value.int .u8 x) ys) (by simp[encs,hly]) (ql hy) one (by simpa using mx) (by simp at hl;omega) (Nat.le_refl _);rw[show 0+m=ys.length by omega,List.nil_append]at h1;exact⟨v1,w1,hr,.inl (sD (Kd.fZ h1 (fun _ _=>trivial)) hB.size),hB.grown h2 hB.size (fun k hk=>by cases hk)⟩
theorem Vk{w0 W:World}{v:Value}{d:List Int}(hd:iW w0 W v d)(hB:Below w0.heap.size w0 W)(ty:TypeId){y:ByteArray}(hm:0<y.size)(hl:d.length+y.size<=140737488355328):
 ∃v1 w1,(Builtin.append_ #[27,9] ty #[v,.string y]).run Tryz.prog W= .ok v1 w1/\iW w0 w1 v1 (d++bytesOf y)/\Below w0.heap.size w0 w1:=by
 obtain⟨i0,hi,hzz⟩:=Option.map_eq_some_iff.1 uS;simp only[Prod.mk.injEq]at hzz;obtain⟨hz0,hz1,hz2⟩:=hzz;have e1:d.length+y.size=(d++bytesOf y).length:=by rw[List.length_append,bytesOf_length]
 have e2:encs (fun x=>Value.int .u8 x) d++Lib.strCells y=encs (fun x=>Value.int .u8 x) (d++bytesOf y):=by simp[encs,bytesOf,Lib.strCells]
 have mx:d.length+y.size<=maxLen:=by simp only[maxLen];omega
 rcases hd with hd|⟨A,n,rfl,hd⟩
 ·obtain⟨v1,w1,hr,h1,h2,_⟩:=Lib.run_append_own_string (P:=Tryz.prog) W w0.heap.size 27 9 ty 5 i0 Tryz.underlying27 Tryz.underlying9 hi hz0 hz1 hz2 v d.length _ (Kd.pV hd) y mx hl hB.size
  rw[e1,e2]at h1;exact⟨v1,w1,hr,.inl (Kd.fZ h1 (fun _ _=>trivial)),hB.grown h2 hB.size (fun k hk=>jG hd k hk)⟩
 ·have hd':=Kd.aU hd hB
  have hld:=Kd.dG hd;subst hld;cases A with
  |some b=>
   have hr:=Lib.run_append_grow_string (P:=Tryz.prog) W 27 9 ty 5 i0 (.int .u8 0) Tryz.underlying27 Tryz.underlying9 hi hz0 b d.length d.length (encs (fun x=>Value.int .u8 x) d) (by rw[hz1];simp[encs]) (ql hd') y (by omega) (by omega) (by rw[hz2];exact growslice_fits (by omega) (by omega));have hge:=grownCap_ge W (d.length+y.size) d.length 5;have hcm:grownCap W (d.length+y.size) d.length 5<=maxLen:=grownCap_le_maxLen W (d.length+y.size) d.length 5 mx;have hx:(encs (fun x=>Value.int .u8 x) d).length=d.length:=by simp[encs]
   have h1:(W.drew.alloc (.cells ((encs (fun x=>Value.int .u8 x) d).toArray++(Lib.strCells y).toArray++Builtin.zeroCells (Value.int .u8 0).cells (grownCap W (d.length+y.size) d.length 5-(d.length+y.size))) 5)).ownsRow W.heap.size 5 1
    (.slice (some ⟨W.heap.size,0,none⟩) (d.length+y.size) (grownCap W (d.length+y.size) d.length 5)) (d.length+y.size) (encs (fun x=>Value.int .u8 x) d++Lib.strCells y):=by
    refine⟨by rw[List.length_append,hx,Lib.strCells_length,Nat.mul_one],.inr ⟨W.heap.size,_,_,rfl,Nat.le_refl _,heap_alloc_new W.drew _,hge,hcm,?_,?_⟩⟩
    ·have hz1:(Value.int IntKind.u8 0).cells.size=1:=rfl
     simp only[Array.size_append,List.size_toArray,size_zeroCells,hz1,hx,Lib.strCells_length];omega
    ·simp only[Array.toList_append,List.append_assoc]
     rw[<-List.append_assoc,show(d.length+y.size)*1=(encs (fun x=>Value.int .u8 x) d++Lib.strCells y).length by rw[List.length_append,hx,Lib.strCells_length,Nat.mul_one]];exact List.take_left
   rw[e1,e2]at h1;rw[e1]at hr;exact⟨_,_,hr,.inl (sD (Kd.fZ h1 (fun _ _=>trivial)) hB.size),au hB (ak (aQ (bg _ _)) _)⟩
  |none=>
   have hn:d=[]:=by
    cases d with
    |nil=>rfl
    |cons x t=>obtain⟨ad,e,_⟩:=hd.2.2 (by simp);cases e
   subst hn;obtain⟨v1,w1,hr,h1,h2,_⟩:=Lib.run_append_own_string (P:=Tryz.prog) W W.heap.size 27 9 ty 5 i0 Tryz.underlying27 Tryz.underlying9 hi hz0 hz1 hz2 (.slice none 0 0) 0 [] (World.ownsRow_nil W _ 5 1) y (by simpa using mx) (by simpa using hl) (Nat.le_refl _);rw[show 0+y.size=(bytesOf y).length by rw[bytesOf_length,Nat.zero_add],show[]++Lib.strCells y=encs (fun x=>Value.int .u8 x) (bytesOf y)by simp[encs,bytesOf,Lib.strCells]]at h1;exact⟨v1,w1,hr,.inl (sD (Kd.fZ h1 (fun _ _=>trivial)) hB.size),hB.grown h2 hB.size (fun k hk=>by cases hk)⟩
theorem iW.below{w0 W W1:World}{v:Value}{d:List Int}(h:iW w0 W v d)(hb:Below W.heap.size W W1):iW w0 W1 v d:=by
 rcases h with h|h
 ·exact .inl (Kd.dY h hb)
 ·exact .inr h
theorem iW.sl{w0 W:World}{v:Value}{d:List Int}(h:iW w0 W v d):∃A n c,v= .slice A n c:=by
 rcases h with h|⟨A,n,rfl,_⟩
 ·exact fQ h
 ·exact⟨_,_,_,rfl⟩
section
variable{w0 W:World}{ops:Array Oper}{rest:List Oper}{o:Oper}{a:Act}{Q:Exit->Act->World->Prop}{Kc:Act->World->Prop}
theorem Vl(hgd:o.guard=none)(s x:Operand)(ho:o.op= .call {callee:=.builtin .append,args:=#[s,x],argTypes:=#[27,9]}){v:Value}{d:List Int}{y:ByteArray}(hs:a.eval s=v)(hx:a.eval x= .string y)
 (hd:iW w0 W v d) (hB:Below w0.heap.size w0 W) (hm:0<y.size) (hl:d.length+y.size<=140737488355328)
 (h:∀v1 w1,iW w0 w1 v1 (d++bytesOf y)->Below w0.heap.size w0 w1->wpList Tryz.prog ops Q rest (a.put o.dst v1) w1):wpList Tryz.prog ops Q (o::rest) a W:=by
 refine wpList_plain hgd fun K hK=>?_
 obtain⟨v1,w1,hr,h1,h2⟩:=Vk hd hB o.type hm hl;unfold Oper.wp execOp;simp only[ho,resolve,invoke,builtin,Sem.run_bind,Sem.run_pure,Result.andThen_ok,List.map_toArray,List.map_cons,List.map_nil,hs,hx,hr];exact hK _ _ (h v1 w1 h1 h2)
theorem kV{E:Prop}(hw:Region.wanted o (yielded ops a.tmps)=true)(s x:Operand)(ho:o.op= .call {callee:=.builtin .append,args:=#[s,x],argTypes:=#[27,27]}){v:Value}{d:List Int}{B:Addr}{m c:Nat}{ys:List Int}(hs:a.eval s=v)(hx:a.eval x= .slice (some B) m c)
 (hd:iW w0 W v d) (hB:Below w0.heap.size w0 W) (hy:RdB W (some B) m ys) (hm:0<m) (hl:d.length+m<=140737488355328)
 (h:∀v1 w1,iW w0 w1 v1 (d++ys)->Below w0.heap.size w0 w1->Kc (a.put o.dst v1) w1):if Region.wanted o (yielded ops a.tmps)=true then Oper.wp Tryz.prog o a W Kc Q else E:=by
 rw[if_pos hw];obtain⟨v1,w1,hr,h1,h2⟩:=YU (c:=c) hd hB o.type hy hm hl;unfold Oper.wp;simp[execOp,ho,resolve,invoke,builtin,hs,hx,hr,Result.andThen];exact h v1 w1 h1 h2
theorem vI(W:World)(y:Int):RdB (W.alloc (.cells #[.int .u8 y] 5)) (some ⟨W.heap.size,0,none⟩) 1 [y]:=by
 refine Kd.wX (enc:=fun x=>Value.int .u8 x) (d:=0) ⟨rfl,by omega,fun _=>⟨⟨W.heap.size,0,none⟩,rfl,fun j hj=>?_⟩⟩;obtain rfl:j=0:=by omega
 exact(aA (aP W _) 0).trans rfl
end
theorem JM{c:Int}(h0:0<=c)(h1:c<=1114111)(h2:¬(55296<=c/\c<57344)):bytesOf (Utf8.encode c)=eU c/\0<(Utf8.encode c).size/\(Utf8.encode c).size<=4:=by
 have hv:Utf8.valid c=true:=by simp[Utf8.valid];omega
 have hb:∀n:Nat,n<256->(UInt8.ofNat n).toNat=n:=fun n hn=>by rw[UInt8.toNat_ofNat'];omega
 unfold Utf8.encode eU;simp only[hv,if_true]
 by_cases a1:c<128
 ·rw[if_pos (by omega),if_pos a1]
  refine⟨?_,by show 0<1;omega,by show 1<=4;omega⟩;simp only[bytesOf,List.map_cons,List.map_nil,hb _ (show c.toNat<256 by omega)]
  congr 1
  omega
 ·by_cases a2:c<2048
  ·rw[if_neg (by omega),if_pos (by omega),if_neg a1,if_pos a2]
   refine⟨?_,by show 0<2;omega,by show 2<=4;omega⟩;simp only[bytesOf,List.map_cons,List.map_nil,hb _ (show 192+c.toNat/64<256 by omega),hb _ (show 128+c.toNat%64<256 by omega)]
   congr 1
   ·omega
   ·congr 1;omega
  ·by_cases a3:c<65536
   ·rw[if_neg (by omega),if_neg (by omega),if_pos (by omega),if_neg a1,if_neg a2,if_pos a3]
    refine⟨?_,by show 0<3;omega,by show 3<=4;omega⟩;simp only[bytesOf,List.map_cons,List.map_nil,hb _ (show 224+c.toNat/4096<256 by omega),hb _ (show 128+c.toNat/64%64<256 by omega),hb _ (show 128+c.toNat%64<256 by omega)]
    congr 1
    ·omega
    ·congr 1
     ·omega
     ·congr 1;omega
   ·rw[if_neg (by omega),if_neg (by omega),if_neg (by omega),if_neg a1,if_neg a2,if_neg a3]
    refine⟨?_,by show 0<4;omega,by show 4<=4;omega⟩;simp only[bytesOf,List.map_cons,List.map_nil,hb _ (show 240+c.toNat/262144<256 by omega),hb _ (show 128+c.toNat/4096%64<256 by omega),hb _ (show 128+c.toNat/64%64<256 by omega),hb _ (show 128+c.toNat%64<256 by omega)]
    congr 1
    ·omega
    ·congr 1
     ·omega
     ·congr 1
      ·omega
      ·congr 1;omega
theorem Ny{w:World}{A:Option Addr}{g c:Nat}{x y:Int}{h R:List Int}(hr:RdB w A g (x::y::(h++R)))(hc:g<=c)(h4:h.length=4):
 ∃A' c' A6 g6 c6,(∀W:World,(Instr.slice 27 (.slice A g c) (some (.int .i64 2)) (some (.int .i64 6)) none).run Tryz.prog W= .ok (.slice A' 4 c') W)/\RdB w A' 4 h/\(∀W:World,(Instr.slice 27 (.slice A g c) (some (.int .i64 6)) none none).run Tryz.prog W= .ok (.slice A6 g6 c6) W)/\RdB w A6 g6 R/\g6<=c6/\g=g6+6:=by
 have hl:=Kd.dG hr;subst hl;have hlen:(x::y::(h++R)).length=R.length+6:=by simp only[List.length_cons,List.length_append];omega
 obtain⟨ib,hib,hsz⟩:=Gx;obtain⟨A',h1,h2,h3⟩:=Ed (P:=Tryz.prog) (k:=.u8) 27 5 Tryz.underlying27 hib hsz A c (x::y::(h++R)) 2 6 (by omega) (by omega) (by omega) hc
 have e:((x::y::(h++R)).take (6:Int).toNat).drop (2:Int).toNat=h:=by
  show(h++R).take 4=h;rw[<-h4,List.take_left]
 rw[e,h4]at h1 h2;obtain⟨A6,k1,k2⟩:=jF A (x::y::(h++R)).length c 6 (by omega) hc;have k3:=k2 w _ hr
 have e6:(x::y::(h++R)).drop 6=R:=by
  show(h++R).drop 4=R;rw[<-h4,List.drop_left]
 rw[e6]at k3;exact⟨A',_,A6,_,_,h1,Kd.wX (enc:=fun x=>Value.int .u8 x) (d:=0) (h2 w (Kd.BM (enc:=fun x=>Value.int .u8 x) (d:=0) hr)),k1,k3,by omega,by omega⟩
end Go.Proofs.YtapkmjfjikpnlaaGreatDoor
