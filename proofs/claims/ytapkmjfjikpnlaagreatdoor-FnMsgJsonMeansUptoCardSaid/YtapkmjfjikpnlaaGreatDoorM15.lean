/- A part of FnMsgJsonMeans. No conditions. -/
import Derived.Test.YtapkmjfjikpnlaaGreatDoorM14
import Derived.Lib.TrimU
import Derived.WalkSmall
set_option maxHeartbeats 4000000
set_option maxRecDepth 100000
namespace Go.Proofs.YtapkmjfjikpnlaaGreatDoor
open Go.RowKit YtapkmjfjikpnlaaGreatDoorW.aG YtapkmjfjikpnlaaGreatDoorW.aJ
set_option linter.unusedVariables false
set_option linter.unusedSimpArgs false
def Ends(c:Nat):Prop:=c<32∨c=92∨c=34∨c=65533
inductive oQ(s:ByteArray)(j:Nat):Nat->Prop
 |stop:oQ s j j
 |step {i:Nat}:i<s.size->¬Ends (Utf8.decode s i).1->oQ s j (i+(Utf8.decode s i).2)->oQ s j i
theorem abx(s:ByteArray)(j:Nat)(hp:oQ s j 0)(hj:j<s.size)(hs:Ends (Utf8.decode s j).1)(w:World):
 Calls Tryz.prog 152 #[.string s] w fun e w'=>e= .returned (.int .i64 j)/\Below w.heap.size w w':=by
 have HE:=ah hs;have HJ:=ah hj;have HP:=ah hp;clear hp hj hs;go_enter Tryz.func152,Tryz.ntmps152;go_wp2
 go_loopw [2] (fun v wr=>∃pos:Nat,v= .int .i64 0/\wr.heap[w.heap.size]? =some (.stringIter s pos)/\Below w.heap.size w wr/\aC (oQ s j pos)) (fun _ wr=>s.size-wr.iterPos w.heap.size)
 case atStart=>exact⟨0,rfl,World.iter_heap w s 0,(bg _ _).alloc (Nat.le_refl _) _,HP⟩
 case round=>
  obtain⟨pos,rfl,hit,hbw,HQ⟩:=hrel;have hpos0:=iterPos_of hit
  have hps:pos<s.size:=by
   cases HQ.out with
   |stop=>exact HJ.out
   |step h _ _=>exact h
  have hnx:∀ty,(Instr.next (.pointer (some ⟨w.heap.size,0,none⟩)) true ty).run Tryz.prog wr=_:=fun ty=>Lib.run_next_any_at wr w.heap.size s pos ty hit hps
  have hit2:=Lib.iterAt_heap wr w.heap.size s pos (pos+(Utf8.decode s pos).2) hit;have hbw2:=Lib.below_iterAt hbw (k:=w.heap.size) (Nat.le_refl _) s (pos+(Utf8.decode s pos).2);obtain⟨W1,hW1⟩:∃W1,W1=wr.iterAt w.heap.size s (pos+(Utf8.decode s pos).2):=⟨_,rfl⟩
  rw[<-hW1]at hnx hit2 hbw2;clear hW1 hit hbw
  by_cases he:Ends (Utf8.decode s pos).1
  ·have hpj:pos=j:=by
    cases HQ.out with
    |stop=>rfl
    |step _ h _=>exact absurd he h
   clear HQ HE HJ HP hps hpos0 hit2;obtain⟨c,hc⟩:∃c,c=(Utf8.decode s pos).1:=⟨_,rfl⟩
   rw[<-hc]at he hnx;clear hc;subst hpj;rcases Nat.lt_or_ge c 32 with h1|h1
   ·have i1:(c:Int)<32:=by omega
    have i2:(c:Int)≠92:=by omega
    have i3:(c:Int)≠34:=by omega
    have i4:(c:Int)≠65533:=by omega
    clear he h1;go_wp2
    go_ret
    exact⟨rfl,hbw2⟩
   ·have i1:(32:Int)<=(c:Int):=by omega
    rcases he.resolve_left (by omega)with rfl|rfl|rfl
    all_goals
     go_wp2
     go_ret
     exact⟨rfl,hbw2⟩
  ·have HN:aC (oQ s j (pos+(Utf8.decode s pos).2)):=ah (by
    cases HQ.out with
    |stop=>exact absurd HE.out he
    |step _ _ h=>exact h)
   have hw:=Lib.width_pos s pos;obtain⟨c,hc⟩:∃c,c=(Utf8.decode s pos).1:=⟨_,rfl⟩
   rw[<-hc]at he hnx;have i1:¬(c:Int)<32:=by unfold Ends at he;omega
   have i2:(c:Int)≠92:=by unfold Ends at he;omega
   have i3:(c:Int)≠34:=by unfold Ends at he;omega
   have i4:(c:Int)≠65533:=by unfold Ends at he;omega
   have b2:((c:Int)==92)=false:=beq_eq_false_iff_ne.2 i2;have b3:((c:Int)==34)=false:=beq_eq_false_iff_ne.2 i3;have b4:((c:Int)==65533)=false:=beq_eq_false_iff_ne.2 i4;clear hc he HQ HE HJ HP i2 i3 i4;go_wp2
   go_roundw
   case rel=>exact⟨_,rfl,hit2,hbw2,HN⟩
   case measure=>rw[iterPos_of hit2,hpos0];omega
theorem JG(A:Option Addr)(n c:Nat)(l:List Int)(w:World)(h:RdB w A n l):
 Calls Tryz.prog 208 #[.slice A n c] w fun e w'=>e= .returned (.string (str l))/\w=w':=by
 have e1:=iI (c:=c) h;clear h;go_enter Tryz.func208,Tryz.ntmps208;go_wp2
 go_ret
 exact⟨rfl,rfl⟩
theorem PO(A:Option Addr)(n c:Nat)(l:List Int)(w:World)(h:RdB w A n l)(j:Nat)(hp:oQ (str l) j 0)(hj:j<(str l).size)(hs:Ends (Utf8.decode (str l) j).1):
 Calls Tryz.prog 176 #[.slice A n c] w fun e w'=>e= .returned (.int .i64 j)/\Below w.heap.size w w':=by
 have H1:=ah (JG A n c l w h);have H2:=ah (abx (str l) j hp hj hs w);clear h hp hj hs;go_enter Tryz.func176,Tryz.ntmps176
 go_wp2_with (first|(go_at_call 208;(with_reducible refine H1.out.mono ?_);rintro e w1⟨rfl,rfl⟩)|(go_at_call 152;(with_reducible refine H2.out.mono ?_);rintro e w1⟨rfl,hb⟩;have HB:=ah hb))
 go_ret
 exact⟨rfl,HB.out⟩
theorem yh(L:List Int)(hL:∀x∈L,0<=x/\x<=255)(i:Nat):((str L).get! i).toNat=(L.getD i 0).toNat:=by
 have e:(str L).get! i=(str L).data.toList.getD i 0:=by
  show(str L).data[i]! =_
  by_cases h:i<(str L).data.size
  ·rw[getElem!_pos (str L).data i h,List.getD_eq_getElem?_getD,Array.getElem?_toList,Array.getElem?_eq_getElem h];rfl
  ·rw[getElem!_neg (str L).data i h,List.getD_eq_getElem?_getD,Array.getElem?_toList,Array.getElem?_eq_none (by omega)];rfl
 rw[e,strOfNums_data,List.getD_eq_getElem?_getD,List.getElem?_map,List.getD_eq_getElem?_getD];cases h:L[i]? with
 |none=>rfl
 |some x=>
  have:=hL x (List.mem_of_getElem? h);show(UInt8.ofNat x.toNat).toNat=x.toNat;rw[UInt8.toNat_ofNat'];omega
def Az(l:List Int):Nat×Nat:=Lib.decodeN l.length (l.getD 0 0).toNat (l.getD 1 0).toNat (l.getD 2 0).toNat (l.getD 3 0).toNat
theorem Bf(L:List Int)(hL:∀x∈L,0<=x/\x<=255)(i:Nat):Utf8.decode (str L) i=Az (L.drop i):=by
 have hg:∀k,(L.drop i).getD k 0=L.getD (i+k) 0:=fun k=>by rw[List.getD_eq_getElem?_getD,List.getElem?_drop,List.getD_eq_getElem?_getD]
 rw[Lib.decode_at,Az,hg,hg,hg,hg,yh L hL,yh L hL,yh L hL,yh L hL,bV,List.length_drop]
 rfl
theorem pG(c:Int):((eU c).length=2->128<=c/\c<2048)/\((eU c).length=3->2048<=c/\c<65536)/\((eU c).length=4->65536<=c):=by
 unfold eU
 split
 ·simp
 ·split
  ·simp;omega
  ·split
   ·simp;omega
   ·simp;omega
theorem pI{n:Nat}{c:Int}(h:fE n c=true):c<=1114111/\¬(55296<=c/\c<57344)/\(eU c).length=n:=by
 unfold fE at h;simp only[Bool.and_eq_true,decide_eq_true_eq,Bool.not_eq_true',Bool.and_eq_false_iff,decide_eq_false_iff_not]at h;obtain⟨⟨h1,h2⟩,h3⟩:=h;exact⟨h1,by omega,h3⟩
theorem Va(l:List Int)(hl:∀x∈l,0<=x/\x<=255)(hs:aZ l≠0):Az l=((cO (l.take (aZ l))).toNat,aZ l):=by
 cases l with
 |nil=>rfl
 |cons b t=>
  have hb:=hl b (by simp)
  by_cases h1:b<128
  ·have e:aZ (b::t)=1:=by unfold aZ;rw[List.getD_cons_zero,if_pos h1]
   rw[e];unfold Az Lib.decodeN;rw[List.getD_cons_zero,if_pos (by omega)]
   rfl
  ·have hn:¬dw b=0:=by
    intro h
    apply hs
    unfold aZ;rw[List.getD_cons_zero,if_neg h1,if_pos h]
   have hlen:dw b<=(b::t).length:=by
    apply Nat.le_of_not_lt
    intro h
    apply hs
    unfold aZ;rw[List.getD_cons_zero,if_neg h1,if_neg hn,if_pos h]
   have hall:((dW (b::t) (dw b)).all iO&&fE (dw b) (jy (lQ b) (dW (b::t) (dw b))))=true:=by
    cases h:((dW (b::t) (dw b)).all iO&&fE (dw b) (jy (lQ b) (dW (b::t) (dw b))))with
    |true=>rfl
    |false=>
     exfalso
     apply hs
     unfold aZ;rw[List.getD_cons_zero,if_neg h1,if_neg hn,if_neg (by omega),h]
     rfl
   have e:aZ (b::t)=dw b:=by
    unfold aZ;rw[List.getD_cons_zero,if_neg h1,if_neg hn,if_neg (by omega),hall]
    rfl
   rw[e];clear e hs;rcases uX h1 hn with⟨e1,h2,e2⟩|⟨e1,h2,e2⟩|⟨e1,h2,e2⟩<;>rw[e1]at hall hlen ⊢ <;>rw[e2]at hall<;>clear e1 e2 hn
   ·match t,hlen with
    |y::t,_=>
     have hy:=hl y (by simp);simp only[dW,List.take,List.drop,List.all_cons,List.all_nil,Bool.and_true,Bool.and_eq_true,iO,decide_eq_true_eq,jy,List.foldl]at hall;obtain⟨hc1,hr⟩:=hall;obtain⟨hr1,hr2,hr3⟩:=pI hr;have:=(pG _).1 hr3;show Lib.decodeN _ b.toNat y.toNat _ _=(((b%32*64+y%64).toNat,2):Nat×Nat);unfold Lib.decodeN;rw[if_neg (by omega),if_pos ⟨by omega,by simp,by omega⟩,if_pos (by omega)]
     congr 1
     omega
   ·match t,hlen with
    |y::z::t,_=>
     have hy:=hl y (by simp);have hz:=hl z (by simp);simp only[dW,List.take,List.drop,List.all_cons,List.all_nil,Bool.and_true,Bool.and_eq_true,iO,decide_eq_true_eq,jy,List.foldl]at hall;obtain⟨⟨hc1,hc2⟩,hr⟩:=hall;obtain⟨hr1,hr2,hr3⟩:=pI hr;have:=(pG _).2.1 hr3;show Lib.decodeN _ b.toNat y.toNat z.toNat _=(((b%16*4096+y%64*64+z%64).toNat,3):Nat×Nat);unfold Lib.decodeN;rw[if_neg (by omega),if_neg (by omega),if_pos ⟨by omega,⟨by simp,by omega⟩,by simp,by omega⟩,if_pos (by omega)]
     congr 1
     omega
   ·match t,hlen with
    |y::z::u::t,_=>
     have hy:=hl y (by simp);have hz:=hl z (by simp);have hu:=hl u (by simp);simp only[dW,List.take,List.drop,List.all_cons,List.all_nil,Bool.and_true,Bool.and_eq_true,iO,decide_eq_true_eq,jy,List.foldl]at hall;obtain⟨⟨hc1,hc2,hc3⟩,hr⟩:=hall;obtain⟨hr1,hr2,hr3⟩:=pI hr;have:=(pG _).2.2 hr3;show Lib.decodeN _ b.toNat y.toNat z.toNat u.toNat=(((b%8*262144+y%64*4096+z%64*64+u%64).toNat,4):Nat×Nat);unfold Lib.decodeN;rw[if_neg (by omega),if_neg (by omega),if_neg (by omega),if_pos ⟨by omega,⟨by simp,by omega⟩,⟨by simp,by omega⟩,by simp,by omega⟩,if_pos (by omega)]
     congr 1
     omega
def Hex4(h:List Int)(v:Int):Prop:=h.length=4/\(∀x∈h,tV x)/\hexW h 0=v
def YR(l:List Int):Prop:=l≠[]/\(∀x∈l,0<=x/\x<=255)/\aZ l=l.length
inductive JH:List Int->List Int->Prop
 |plain {l:List Int}:YR l->¬(cO l<32∨cO l=34∨cO l=92)->JH l l
 |short {c:Int}:jv c≠0->JH [92,jv c] [c]
 |esc {c:Int} {h:List Int}:0<=c->c<65536->¬(55296<=c/\c<57344)->Hex4 h c->JH (92::117::h) (eU c)
 |pair {c:Int} {h g:List Int}:65536<=c->c<=1114111->Hex4 h (55296+(c-65536)/1024)->Hex4 g (56320+(c-65536)%1024)->JH (92::117::h++92::117::g) (eU c)
inductive yK:List Int->List Int->Prop
 |nil:yK [] []
 |cons {a b r m:List Int}:JH a b->yK r m->yK (a++r) (b++m)
theorem yj(u:Bool)(n:Int)(h0:0<=n):tV (hexV u n)/\hexN (hexV u n)=n%16:=by
 have:0<=n%16/\n%16<16:=by omega
 unfold hexV
 by_cases h:n%16<10
 ·rw[if_pos h]
  refine⟨.inl (by omega),?_⟩;unfold hexN;rw[if_pos (by omega)];omega
 ·rw[if_neg h]
  cases u with
  |true=>
   refine⟨.inr (.inl ⟨?_,?_⟩),?_⟩
   ·show 65<=(55:Int)+n%16;omega
   ·show(55:Int)+n%16<=70;omega
   ·show hexN ((55:Int)+n%16)=_
    unfold hexN;rw[if_neg (by omega),if_pos (by omega)];omega
  |false=>
   refine⟨.inr (.inr ⟨?_,?_⟩),?_⟩
   ·show 97<=(87:Int)+n%16;omega
   ·show(87:Int)+n%16<=102;omega
   ·show hexN ((87:Int)+n%16)=_
    unfold hexN;rw[if_neg (by omega),if_neg (by omega)];omega
theorem GV(P:List Int)(a:Nat)(c:Int)(h0:0<=c)(h1:c<65536):∃h,kM P a c=92::117::h/\Hex4 h c:=by
 refine⟨_,rfl,rfl,?_,?_⟩
 ·intro x hx
  simp only[List.mem_cons,List.not_mem_nil,or_false]at hx;rcases hx with rfl|rfl|rfl|rfl<;>exact(yj _ _ (by omega)).1
 ·simp only[hexW]
  rw[(yj _ _ (by omega)).2,(yj _ _ (by omega)).2,(yj _ _ (by omega)).2,(yj _ _ (by omega)).2];omega
theorem Vb(P:List Int)(a:Nat)(l:List Int)(hl:YR l)(h0:0<=cO l)(h1:cO l<=1114111)(h2:¬(55296<=cO l/\cO l<57344))(hu:eU (cO l)=l)(hsh:jv (cO l)≠0->l=[cO l])(ch:Int):JH (mG P a l (cO l) ch).1 l:=by
 by_cases a1:jv (cO l)≠0/\ch<2/\((cO l<32∨cO l=34∨cO l=92)∨ch=1)
 ·rw[Px a1]
  have e:=hsh a1.1;have:=JH.short a1.1;rw[<-e]at this;exact this
 ·by_cases a2:¬(cO l<32∨cO l=34∨cO l=92)/\ch<3
  ·rw[Gy a1 a2]
   exact JH.plain hl a2.1
  ·by_cases a3:65536<=cO l
   ·rw[Py a1 a2 a3]
    obtain⟨h,e1,q1⟩:=GV P a (55296+(cO l-65536)/1024) (by omega) (by omega);obtain⟨g,e2,q2⟩:=GV P (iy P a) (56320+(cO l-65536)%1024) (by omega) (by omega);show JH (kM P a (55296+(cO l-65536)/1024)++kM P (iy P a) (56320+(cO l-65536)%1024)) l;rw[e1,e2];have:=JH.pair a3 h1 q1 q2;rw[hu]at this;exact this
   ·rw[AY a1 a2 a3]
    obtain⟨h,e1,q1⟩:=GV P a (cO l) h0 (by omega);show JH (kM P a (cO l)) l;rw[e1];have:=JH.esc h0 (by omega) h2 q1;rw[hu]at this;exact this
theorem zn{l:List Int}(h:YR l):(0<=cO l/\cO l<=1114111)/\¬(55296<=cO l/\cO l<57344)/\eU (cO l)=l/\(cO l<128->l=[cO l]):=by
 obtain⟨hne,hl,hs⟩:=h;cases l with
 |nil=>exact absurd rfl hne
 |cons b t=>
  have hb:=hl b (by simp)
  by_cases h1:b<128
  ·have e:aZ (b::t)=1:=by unfold aZ;rw[List.getD_cons_zero,if_pos h1]
   rw[e]at hs
   match t,hs with
   |[],_=>exact⟨⟨hb.1,by show b<=_;omega⟩,by show¬(55296<=b/\b<57344);omega,by show eU b=[b];unfold eU;rw[if_pos h1],fun _=>rfl⟩
  ·have hn:¬dw b=0:=by
    intro h;have:aZ (b::t)=0:=by unfold aZ;rw[List.getD_cons_zero,if_neg h1,if_pos h]
    rw[this]at hs;simp at hs
   have hlen:dw b<=(b::t).length:=by
    apply Nat.le_of_not_lt
    intro h;have:aZ (b::t)=0:=by unfold aZ;rw[List.getD_cons_zero,if_neg h1,if_neg hn,if_pos h]
    rw[this]at hs;simp at hs
   have hall:((dW (b::t) (dw b)).all iO&&fE (dw b) (jy (lQ b) (dW (b::t) (dw b))))=true:=by
    cases h:((dW (b::t) (dw b)).all iO&&fE (dw b) (jy (lQ b) (dW (b::t) (dw b))))with
    |true=>rfl
    |false=>
     exfalso
     have:aZ (b::t)=0:=by
      unfold aZ;rw[List.getD_cons_zero,if_neg h1,if_neg hn,if_neg (by omega),h]
      rfl
     rw[this]at hs;simp at hs
   have e:aZ (b::t)=dw b:=by
    unfold aZ;rw[List.getD_cons_zero,if_neg h1,if_neg hn,if_neg (by omega),hall]
    rfl
   rw[e]at hs;clear e;rcases uX h1 hn with⟨e1,h2,e2⟩|⟨e1,h2,e2⟩|⟨e1,h2,e2⟩<;>rw[e1]at hall hlen hs<;>rw[e2]at hall<;>clear e1 e2 hn
   ·match t,hs with
    |[y],_=>
     have hy:=hl y (by simp);simp only[dW,List.take,List.drop,List.all_cons,List.all_nil,Bool.and_true,Bool.and_eq_true,iO,decide_eq_true_eq,jy,List.foldl]at hall;obtain⟨hc1,hr⟩:=hall;obtain⟨hr1,hr2,hr3⟩:=pI hr;have:=(pG _).1 hr3;refine⟨⟨by show 0<=b%32*64+y%64;omega,hr1⟩,hr2,?_,fun h=>absurd h (by show¬b%32*64+y%64<128;omega)⟩;show eU (b%32*64+y%64)=_;unfold eU;rw[if_neg (by omega),if_pos (by omega)]
     congr 1
     ·omega
     ·congr 1;omega
   ·match t,hs with
    |[y,z],_=>
     have hy:=hl y (by simp);have hz:=hl z (by simp);simp only[dW,List.take,List.drop,List.all_cons,List.all_nil,Bool.and_true,Bool.and_eq_true,iO,decide_eq_true_eq,jy,List.foldl]at hall;obtain⟨⟨hc1,hc2⟩,hr⟩:=hall;obtain⟨hr1,hr2,hr3⟩:=pI hr;have:=(pG _).2.1 hr3;refine⟨⟨by show 0<=b%16*4096+y%64*64+z%64;omega,by show b%16*4096+y%64*64+z%64<=_;omega⟩,by show¬(55296<=b%16*4096+y%64*64+z%64/\b%16*4096+y%64*64+z%64<57344);omega,?_,fun h=>absurd h (by show¬b%16*4096+y%64*64+z%64<128;omega)⟩;show eU (b%16*4096+y%64*64+z%64)=_;unfold eU;rw[if_neg (by omega),if_neg (by omega),if_pos (by omega)]
     congr 1
     ·omega
     ·congr 1
      ·omega
      ·congr 1;omega
   ·match t,hs with
    |[y,z,u],_=>
     have hy:=hl y (by simp);have hz:=hl z (by simp);have hu:=hl u (by simp);simp only[dW,List.take,List.drop,List.all_cons,List.all_nil,Bool.and_true,Bool.and_eq_true,iO,decide_eq_true_eq,jy,List.foldl]at hall;obtain⟨⟨hc1,hc2,hc3⟩,hr⟩:=hall;obtain⟨hr1,hr2,hr3⟩:=pI hr;have:=(pG _).2.2 hr3;have ex:cO [b,y,z,u]=b%8*262144+y%64*4096+z%64*64+u%64:=rfl;rw[ex];refine⟨⟨by omega,by omega⟩,by omega,?_,fun h=>absurd h (by omega)⟩;unfold eU;rw[if_neg (by omega),if_neg (by omega),if_neg (by omega)]
     congr 1
     ·omega
     ·congr 1
      ·omega
      ·congr 1
       ·omega
       ·congr 1;omega
theorem GX{c:Int}(h:jv c≠0):c<128:=by
 by_cases hc:c=34∨c=92∨c=47∨c=8∨c=12∨c=10∨c=13∨c=9
 ·omega
 ·exact absurd (vY hc) h
theorem Vd(P:List Int)(a:Nat)(l:List Int)(hl:YR l):JH (jU P a l).1 l:=by
 obtain⟨⟨h0,h1⟩,h2,hu,h3⟩:=zn hl;exact Vb P (dB P a) l hl h0 h1 h2 hu (fun h=>h3 (GX h)) _
theorem Nq(l:List Int)(h:l≠[])(h0:aZ l≠0):aZ (l.take (aZ l))=aZ l/\(l.take (aZ l)).length=aZ l:=by
 cases l with
 |nil=>exact absurd rfl h
 |cons b t=>
  by_cases h1:b<128
  ·have e:aZ (b::t)=1:=by unfold aZ;rw[List.getD_cons_zero,if_pos h1]
   rw[e];refine⟨?_,rfl⟩;show aZ [b]=1;unfold aZ;rw[List.getD_cons_zero,if_pos h1]
  ·have hn:¬dw b=0:=by
    intro h;exact h0 (by unfold aZ;rw[List.getD_cons_zero,if_neg h1,if_pos h])
   have hlen:dw b<=(b::t).length:=by
    apply Nat.le_of_not_lt
    intro h;exact h0 (by unfold aZ;rw[List.getD_cons_zero,if_neg h1,if_neg hn,if_pos h])
   have hall:((dW (b::t) (dw b)).all iO&&fE (dw b) (jy (lQ b) (dW (b::t) (dw b))))=true:=by
    cases h:((dW (b::t) (dw b)).all iO&&fE (dw b) (jy (lQ b) (dW (b::t) (dw b))))with
    |true=>rfl
    |false=>
     exact absurd (by unfold aZ;rw[List.getD_cons_zero,if_neg h1,if_neg hn,if_neg (by omega),h];rfl) h0
   have e:aZ (b::t)=dw b:=by
    unfold aZ;rw[List.getD_cons_zero,if_neg h1,if_neg hn,if_neg (by omega),hall]
    rfl
   rw[e];have hlt:((b::t).take (dw b)).length=dw b:=by rw[List.length_take];omega
   refine⟨?_,hlt⟩
   have hg:((b::t).take (dw b)).getD 0 0=b:=by
    obtain⟨k,hk⟩:∃k,dw b=k+1:=⟨dw b-1,by omega⟩
    rw[hk];rfl
   have hm:dW ((b::t).take (dw b)) (dw b)=dW (b::t) (dw b):=by
    unfold dW;rw[List.take_take,Nat.min_self]
   unfold aZ;rw[hg,if_neg h1,if_neg hn,if_neg (by omega),hm,hall]
   rfl
theorem JI(P:List Int):∀(n:Nat)(l:List Int),l.length<=n->(∀x∈l,0<=x/\x<=255)->dh l=true->∀a,yK (iY P a l).1 l
 |0,l,hn,_,_,a=>by
  obtain rfl:l=[]:=List.eq_nil_of_length_eq_zero (by omega);rw[lF];exact yK.nil
 |n+1,l,hn,hl,hv,a=>by
  by_cases h:l=[]
  ·subst h
   rw[lF];exact yK.nil
  ·have h0:¬aZ l=0:=by
    intro h0;rw[yV h h0]at hv;cases hv
   obtain⟨ht1,ht2⟩:=Nq l h h0;have hpos:0<l.length:=List.length_pos_iff.2 h;rw[qJ P a h h0];have hv2:dh (l.drop (aZ l))=true:=by rw[<-uU h h0];exact hv
   have ih:=JI P n (l.drop (aZ l)) (by rw[List.length_drop];omega) (fun x hx=>hl x (List.mem_of_mem_drop hx)) hv2 (jU P a (l.take (aZ l))).2;have hc:YR (l.take (aZ l)):=⟨fun e=>by rw[e]at ht2;exact h0 ht2.symm,fun x hx=>hl x (List.mem_of_mem_take hx),by rw[ht1,ht2]⟩;have:=yK.cons (Vd P a (l.take (aZ l)) hc) ih;rw[List.take_append_drop]at this;exact this
theorem Rk{l:List Int}(h:YR l)(R:List Int):aZ (l++R)=l.length:=by
 obtain⟨hne,_,hs⟩:=h;cases l with
 |nil=>exact absurd rfl hne
 |cons b t=>
  rw[<-hs]
  by_cases h1:b<128
  ·unfold aZ
   rw[List.cons_append,List.getD_cons_zero,List.getD_cons_zero,if_pos h1,if_pos h1]
  ·have hn:¬dw b=0:=by
    intro h;have:aZ (b::t)=0:=by unfold aZ;rw[List.getD_cons_zero,if_neg h1,if_pos h]
    rw[this]at hs;simp at hs
   have hlen:dw b<=(b::t).length:=by
    apply Nat.le_of_not_lt
    intro h;have:aZ (b::t)=0:=by unfold aZ;rw[List.getD_cons_zero,if_neg h1,if_neg hn,if_pos h]
    rw[this]at hs;simp at hs
   have hm:dW (b::(t++R)) (dw b)=dW (b::t) (dw b):=by
    unfold dW;rw[show b::(t++R)=(b::t)++R from rfl,List.take_append_of_le_length hlen]
   have x1:¬(b::t).length<dw b:=by omega
   have x2:¬(b::(t++R)).length<dw b:=by simp only[List.length_cons,List.length_append]at hlen ⊢;omega
   unfold aZ;rw[List.cons_append,List.getD_cons_zero,List.getD_cons_zero,if_neg h1,if_neg h1,if_neg hn,if_neg hn,if_neg x2,if_neg x1,hm]
theorem CY{l:List Int}(h:YR l)(R:List Int)(hR:∀x∈R,0<=x/\x<=255):Az (l++R)=((cO l).toNat,l.length):=by
 have hs:=Rk h R;have hp:0<l.length:=List.length_pos_iff.2 h.1;rw[Va (l++R) (fun x hx=>(List.mem_append.1 hx).elim (h.2.1 x) (hR x)) (by omega),hs,List.take_left]
theorem gJ(b:Int)(h0:0<=b)(h:b<128)(R:List Int):Az (b::R)=(b.toNat,1):=by
 unfold Az Lib.decodeN;rw[List.getD_cons_zero,if_pos (by omega)]
theorem tV.rng{c:Int}(h:tV c):0<=c/\c<=255:=by unfold tV at h;omega
theorem Nr(c:Int):0<=jv c/\jv c<=255:=by
 unfold jv
 repeat' split
 all_goals omega
theorem JH.rng{a b:List Int}(h:JH a b):∀x∈a,0<=x/\x<=255:=by
 intro x hx;cases h with
 |plain h _=>exact h.2.1 x hx
 |short _=>
  simp only[List.mem_cons,List.not_mem_nil,or_false]at hx;rcases hx with rfl|rfl
  ·omega
  ·exact Nr _
 |esc _ _ _ h=>
  simp only[List.mem_cons]at hx;rcases hx with rfl|rfl|hx
  ·omega
  ·omega
  ·exact(h.2.1 x hx).rng
 |pair _ _ h g=>
  simp only[List.mem_append,List.mem_cons]at hx;rcases hx with(rfl|rfl|hx)|rfl|rfl|hx
  ·omega
  ·omega
  ·exact(h.2.1 x hx).rng
  ·omega
  ·omega
  ·exact(g.2.1 x hx).rng
theorem yK.rng{r m:List Int}(h:yK r m):∀x∈r,0<=x/\x<=255:=by
 induction h with
 |nil=>intro x hx;cases hx
 |cons u _ ih=>exact fun x hx=>(List.mem_append.1 hx).elim (u.rng x) (ih x)
theorem Ve(rest:List Int)(hrest:∀x∈rest,0<=x/\x<=255){r m:List Int}(h:yK r m):
 ∃p r2 m2,r=p++r2/\m=p++m2/\yK r2 m2/\Ends (Az (r2++34::rest)).1/\∀X:List Int,(∀x∈X,0<=x/\x<=255)->oQ (str (X++(r++34::rest))) (X.length+p.length) X.length:=by
 induction h with
 |nil=>exact⟨[],[],[],rfl,rfl,.nil,by rw[List.nil_append,gJ 34 (by omega) (by omega)];exact .inr (.inr (.inl rfl)),fun X _=>.stop⟩
 | @cons a b r m u hq ih=>
   have hstop:∀R:List Int,a=92::R->∃p r2 m2,a++r=p++r2/\b++m=p++m2/\yK r2 m2/\Ends (Az (r2++34::rest)).1/\∀X:List Int,(∀x∈X,0<=x/\x<=255)->oQ (str (X++((a++r)++34::rest))) (X.length+p.length) X.length:=fun R e=>
    ⟨[],a++r,b++m,rfl,rfl,.cons u hq,by rw[e,List.cons_append,List.cons_append,gJ 92 (by omega) (by omega)];exact .inr (.inl rfl),fun X _=>.stop⟩
   cases u with
   |short h=>exact hstop _ rfl
   |esc _ _ _ _=>exact hstop _ rfl
   |pair _ _ _ _=>exact hstop _ rfl
   |plain hc hn=>
    have hR:∀x∈r++34::rest,0<=x/\x<=255:=fun x hx=>by
     rcases List.mem_append.1 hx with h|h
     ·exact hq.rng x h
     ·rcases List.mem_cons.1 h with rfl|h
      ·omega
      ·exact hrest x h
    by_cases hf:cO a=65533
    ·exact⟨[],a++r,a++m,rfl,rfl,.cons (.plain hc hn) hq,by rw[List.append_assoc,CY hc _ hR,hf];exact .inr (.inr (.inr rfl)),fun X _=>.stop⟩
    ·obtain⟨p,r2,m2,e1,e2,q2,he,hX⟩:=ih
     refine⟨a++p,r2,m2,by rw[e1,List.append_assoc],by rw[e2,List.append_assoc],q2,he,fun X hx=>?_⟩;have hr:=(zn hc).1
     have hd:Utf8.decode (str (X++((a++r)++34::rest))) X.length=((cO a).toNat,a.length):=by
      rw[Bf _ (fun x hx'=>(List.mem_append.1 hx').elim (hx x) (fun h=>by rw[List.append_assoc]at h;exact(List.mem_append.1 h).elim (hc.2.1 x) (hR x))),List.drop_left,List.append_assoc,CY hc _ hR]
     refine .step ?_ ?_ ?_
     ·rw[bV]
      simp only[List.length_append,List.length_cons];omega
     ·rw[hd]
      unfold Ends;show¬((cO a).toNat<32∨(cO a).toNat=92∨(cO a).toNat=34∨(cO a).toNat=65533);omega
     ·rw[hd]
      have:=hX (X++a) (fun x hx'=>(List.mem_append.1 hx').elim (hx x) (hc.2.1 x));rw[List.length_append,List.append_assoc]at this;rw[List.length_append,List.append_assoc];rw[show X.length+(a.length+p.length)=X.length+a.length+p.length by omega];exact this
theorem ql{W:World}{b:Addr}{n:Nat}{l:List Int}(h:RdB W (some b) n l):∀j u,(encs (fun x=>Value.int .u8 x) l)[j]? =some u->W.cell? (b.add j)=some u:=by
 intro j u hu
 obtain⟨x,hx,rfl⟩:∃x,l[j]? =some x/\Value.int .u8 x=u:=by
  unfold encs at hu;rw[List.getElem?_map]at hu;exact Option.map_eq_some_iff.1 hu
 obtain⟨ad,e,hc⟩:=iD h hx;cases e;exact hc
theorem Vf{W:World}{ops:Array Oper}{rest:List Oper}{o:Oper}{a:Act}{Q:Exit->Act->World->Prop}(hgd:o.guard=none)(s x:Operand)
 (ho:o.op= .call {callee:=.builtin .append,args:=#[s,x],argTypes:=#[27,27]}) (A:Option Addr) (n:Nat) (d:List Int) (B:Addr) (m c:Nat) (ys:List Int) (hs:a.eval s= .slice A n n) (hx:a.eval x= .slice (some B) m c)
 (hd:RdB W A n d) (hy:RdB W (some B) m ys) (hm:0<m) (hl:n+m<=140737488355328)
 (h:∀v1 w1,OwnB w1 W.heap.size v1 (d++ys)->W.grownBy w1 none->wpList Tryz.prog ops Q rest (a.put o.dst v1) w1):
 wpList Tryz.prog ops Q (o::rest) a W:=by
 obtain⟨i0,hi,hzz⟩:=Option.map_eq_some_iff.1 uS;simp only[Prod.mk.injEq]at hzz;obtain⟨hz0,hz1,hz2⟩:=hzz;have hld:=Kd.dG hd;have hly:=Kd.dG hy;refine wpList_append_grows W hgd s x 27 ho 5 i0 (.int .u8 0) 1 1 Tryz.underlying27 hi hz0 hz1 hz2 rfl (by decide) A n n (encs (fun x=>Value.int .u8 x) d) hs ?_ (by simp[encs,hld]) ?_ B m c (encs (fun x=>Value.int .u8 x) ys) hx (by simp[encs,hly]) (ql hy) ?_ (by omega) (by show n+m<=9223372036854775807;omega) (by omega) ?_
 ·intro hA
  subst hA;rcases Nat.eq_zero_or_pos n with h0|h0
  ·exact⟨h0,h0⟩
  ·obtain⟨ad,e,_⟩:=hd.2.2 h0
   cases e
 ·intro b hb
  subst hb;exact ql hd
 ·intro u hu
  obtain⟨x,_,rfl⟩:=List.mem_map.1 hu
  rfl
 ·intro v1 w1 h1 h2
  refine h v1 w1 ?_ h2;have e1:n+m=(d++ys).length:=by rw[List.length_append,hld,hly]
  have e2:encs (fun x=>Value.int .u8 x) d++encs (fun x=>Value.int .u8 x) ys=encs (fun x=>Value.int .u8 x) (d++ys):=by simp[encs]
  rw[e1,e2]at h1;exact Kd.fZ h1 (fun _ _=>trivial)
theorem sD{W:World}{b b':Nat}{v:Value}{xs:List Int}(h:OwnB W b v xs)(hb:b'<=b):OwnB W b' v xs:=by
 obtain⟨h1,inner,h2,h3⟩:=h;refine⟨h1,inner,⟨h2.1,?_⟩,h3⟩;rcases h2.2 with h|⟨g,cap,cur,e,h,r⟩
 ·exact .inl h
 ·exact .inr ⟨g,cap,cur,e,by omega,r⟩
def iW(w0 W:World)(v:Value)(d:List Int):Prop:=OwnB W w0.heap.size v d∨∃A n,v= .slice A n n/\RdB w0 A n d
theorem iW.str{w0 W:World}{v:Value}{d:List Int}(h:iW w0 W v d)(hB:Below w0.heap.size w0 W):(convert 27 9 v).run Tryz.prog W= .ok (.string (str d)) W:=by
 rcases h with h|⟨A,n,rfl,h⟩
 ·exact kY h
 ·exact iI (Kd.aU h hB)
theorem YS{w0 W:World}{ops:Array Oper}{rest:List Oper}{o:Oper}{a:Act}{Q:Exit->Act->World->Prop}(hgd:o.guard=none)(s x:Operand)
 (ho:o.op= .call {callee:=.builtin .append,args:=#[s,x],argTypes:=#[27,27]}) (v:Value) (d:List Int) (B:Addr) (m c:Nat) (ys:List Int) (hs:a.eval s=v) (hx:a.eval x= .slice (some B) m c)
 (hd:iW w0 W v d) (hB:Below w0.heap.size w0 W) (hy:RdB W (some B) m ys) (hm:0<m) (hl:d.length+m<=140737488355328)
 (h:∀v1 w1,iW w0 w1 v1 (d++ys)->Below w0.heap.size w0 w1->wpList Tryz.prog ops Q rest (a.put o.dst v1) w1):
 wpList Tryz.prog ops Q (o::rest) a W:=by
 rcases hd with hd|⟨A,n,rfl,hd⟩
 ·exact wu w0.heap.size hgd s x ho (some B) m c ys hs hx hd hy hB.size (by omega) fun v1 w1 h1 h2 _=>h v1 w1 (.inl h1) (hB.grown h2 hB.size (fun k hk=>jG hd k hk))
 ·have hd':=Kd.aU hd hB
  exact Vf hgd s x ho A n d B m c ys hs hx hd' hy hm (by have:=Kd.dG hd;omega) fun v1 w1 h1 h2=>h v1 w1 (.inl (sD h1 hB.size)) (hB.grown h2 hB.size (fun k hk=>by cases hk))
end Go.Proofs.YtapkmjfjikpnlaaGreatDoor
