/- A part of FnMsgJsonMeans. No conditions. -/
import Derived.Test.YtapkmjfjikpnlaaGreatDoorM27
set_option maxHeartbeats 8000000
set_option maxRecDepth 100000
namespace Go.Proofs.YtapkmjfjikpnlaaGreatDoor
open Go.RowKit YtapkmjfjikpnlaaGreatDoorW.aG YtapkmjfjikpnlaaGreatDoorW.aJ
set_option linter.unusedVariables false
set_option linter.unusedSimpArgs false
abbrev Qd(w:World)(pl:Nat)(n:Int):Prop:=w.heap[pl]? =some (.cells #[.int .i64 n] 3 (0,0))
def AO(S:fM)(F:Int->List dD->Prop)(t:FT)(v:Val):Prop:=qF S F t v/\(aT t.kind=4->dQ t.kind=true->Short v.F.toNat)
def oZ(S:fM):Nat->Int->List dD->Prop
 |0,_,_=>False
 |n+1,typ,m=>0<=typ/\∃mt,S.ms[typ.toNat]? =some mt/\jk (-1) m/\∀f∈m,0<=f.At/\f.Values≠[]/\∃t,mt.fields[f.At.toNat]? =some t/\(t.rep=false->f.Values.length=1)/\∀v∈f.Values,AO S (oZ S n) t v
def acB(v:Val):Prop:=(-9223372036854775808<=v.I/\v.I<9223372036854775808)/\(0<=v.U/\v.U<18446744073709551616)/\(0<=v.F/\v.F<18446744073709551616)
def Ky:Nat->List dD->Prop
 |0,_=>True
 |n+1,m=>∀f∈m,∀v∈f.Values,acB v/\v.S.size<=140737488355328/\Ky n v.dA
structure AQ(w0 W w':World)(pl:Nat)(l':Int):Prop where
 le:Qd w' pl l'
 be:Below w0.heap.size w0 w'
 ke:aH W w' pl none
theorem AQ.below{w0 W w':World}{pl:Nat}{l':Int}(h:Qd W pl l')(hb:Below w0.heap.size w0 W)(k:Below W.heap.size W w'):AQ w0 W w' pl l':=
 ⟨aI h k,au hb k,aH.of_below k _ _⟩
theorem AQ.to{w0 W W1 w':World}{pl:Nat}{l':Int}(hk:aH W W1 pl none)(h:AQ w0 W1 w' pl l'):AQ w0 W w' pl l':=⟨h.le,h.be,hk.trans h.ke (.inl rfl)⟩
def Hr(w0 W:World)(pl:Nat)(Q:Int->Prop)(e:Ending)(w':World):Prop:=∃b l',e= .returned (.bool b)/\AQ w0 W w' pl l'/\(b=true->Q l')
def Kz(S:fM)(n d:Nat)(w0:World)(pl:Nat)(A0:Option Addr)(c0:Nat)(A1:Option Addr)(c1:Nat):Prop:=
 ∀(typ:Int)(m:List dD)(A:Option Addr)(c:Nat)(W:World)(left:Int),Kd.C (jh n) w0 A m.length m->Ky n m->0<=left->left<=2000->Below w0.heap.size w0 W->Qd W pl left->
  Calls Tryz.prog 87 #[kG S A0 c0 A1 c1,.int .i64 typ,.slice A m.length c,.int .i64 d,.pointer (some ⟨pl,0,none⟩)] W (Hr w0 W pl fun l'=>oZ S d typ m/\l'+iP d m=left/\0<=l')
def yF(S:fM)(n d:Nat)(w0:World)(pl:Nat)(A0:Option Addr)(c0:Nat)(A1:Option Addr)(c1:Nat)(t:FT):Prop:=
 ∀(v:Val)(A:Option Addr)(c:Nat)(W:World)(left:Int),Kd.C (jh n) w0 A v.dA.length v.dA->acB v->v.S.size<=140737488355328->Ky n v.dA->0<=left->left<=2000->Below w0.heap.size w0 W->Qd W pl left->
  Calls Tryz.prog 134 #[kG S A0 c0 A1 c1,mQ t,NK v A c,.int .i64 ((d:Int)+1),.pointer (some ⟨pl,0,none⟩)] W (Hr w0 W pl fun l'=>AO S (oZ S d) t v/\l'+iP d v.dA=left/\0<=l')
theorem KA{v:Val}{B:Bool}{I U F:Int}{s:ByteArray}{M:List dD}(h1:v.B=B)(h2:v.I=I)(h3:v.U=U)(h4:v.F=F)(h5:v.S=s)(h6:v.dA=M):v= .mk B I U F s M:=by
 cases v;cases h1;cases h2;cases h3;cases h4;cases h5;cases h6;rfl
theorem tZ{b:Bool}(h:¬b=true):b=false:=by cases b;rfl;exact absurd rfl h
theorem wE{s:ByteArray}(h:s.toList=[]):s=⟨#[]⟩:=by
 obtain⟨⟨l⟩⟩:=s;simp at h;rw[h]
theorem qN{l:List dD}(h:¬0<l.length):l=[]:=List.length_eq_zero_iff.1 (by omega)
theorem Ht(d:Nat):iP d []=0:=by cases d<;>rfl
theorem xG{d:Nat}{l:List dD}{left:Int}(h:¬0<l.length)(h0:0<=left):left+iP d l=left/\0<=left:=by rw[qN h,Ht];omega
theorem Ws{k:Int}(h:aT k=7):dQ k=true:=by
 unfold aT at h
 have:k=14:=by
  repeat' split at h
  all_goals simp_all
 subst this
 decide
theorem AQ.step{w0 W W1 w2:World}{pl:Nat}{l':Int}(h:AQ w0 W W1 pl l')(k:Below W1.heap.size W1 w2):AQ w0 W w2 pl l':=
 ⟨aI h.le k,au h.be k,h.ke.trans (aH.of_below k _ none) (.inl rfl)⟩
theorem KC(S:fM)(n d:Nat)(w0:World)(pl:Nat)(A0:Option Addr)(c0:Nat)(A1:Option Addr)(c1:Nat)(t:FT)(hk:aT t.kind=1):yF S n d w0 pl A0 c0 A1 c1 t:=by
 intro v A c W left hC hR hS hM h0 h1 hB hL;obtain⟨W3,hW3⟩:∃W3,W3=((W.alloc (.cells #[.slice A0 S.ms.length c0,.slice A1 S.es.length c1] 25)).alloc (.cells #[.string t.name,.int .i64 t.num,.int .i64 t.kind,.bool t.rep,.bool t.map,.int .i64 t.typ] 70)).alloc (.cells #[.bool v.B,.int .i64 v.I,.int .u64 v.U,.int .u64 v.F,.string v.S,.slice A v.dA.length c] 76):=⟨_,rfl⟩
 have hB3:Below W.heap.size W W3:=by rw[hW3];exact ak (ak (ak (bg _ _) _) _) _
 have hX3:Bx3 W3 W.heap.size (W.heap.size+1) (W.heap.size+1+1) S A0 c0 A1 c1 t v A c:=by
  rw[hW3];refine⟨?_,?_,?_⟩
  ·exact bn (bn (aP W _) _) _
  ·have:=bn (aP (W.alloc (.cells #[.slice A0 S.ms.length c0,.slice A1 S.es.length c1] 25)) (.cells #[.string t.name,.int .i64 t.num,.int .i64 t.kind,.bool t.rep,.bool t.map,.int .i64 t.typ] 70)) (.cells #[.bool v.B,.int .i64 v.I,.int .u64 v.U,.int .u64 v.F,.string v.S,.slice A v.dA.length c] 76)
   simpa using this
  ·have:=aP ((W.alloc (.cells #[.slice A0 S.ms.length c0,.slice A1 S.es.length c1] 25)).alloc (.cells #[.string t.name,.int .i64 t.num,.int .i64 t.kind,.bool t.rep,.bool t.map,.int .i64 t.typ] 70)) (.cells #[.bool v.B,.int .i64 v.I,.int .u64 v.U,.int .u64 v.F,.string v.S,.slice A v.dA.length c] 76)
   simpa using this
 obtain⟨z1,z2,z3,z4,z5,z6,z7,z8,z9,z10⟩:=hX3.cells;have yL:=ah hR;have kQ:=ah hS;have KD:=ah (And.intro h0 h1);have Dt:=ah (AQ.below (w':=W3) hL hB hB3);have HW3:=ah hW3;clear hW3 hB3 hX3 hC hR hS hM h0 h1 hB hL;go_enter Tryz.func134,Tryz.ntmps134
 go_upto_region 1 with fail
 rw[<-HW3.out];clear HW3
 go_wp2_with (first|(go_at_call 42;(with_reducible refine(bH _ _).mono ?_);rw[hk];rintro e w1⟨rfl,rfl⟩))
 all_goals go_ret
 all_goals refine⟨_,left,rfl,Dt.out,fun hb=>?_⟩
 all_goals first|(cases hb;done)|skip
 all_goals exact⟨⟨.inl ⟨hk,KA rfl (by assumption) (by assumption) (by assumption) (wE (by assumption)) (qN (by assumption))⟩,fun h4=>absurd h4 (by rw[hk];decide)⟩,xG (by assumption) KD.out.1⟩
theorem KE(S:fM)(n d:Nat)(w0:World)(pl:Nat)(A0:Option Addr)(c0:Nat)(A1:Option Addr)(c1:Nat)(t:FT)(hk:aT t.kind=2):yF S n d w0 pl A0 c0 A1 c1 t:=by
 intro v A c W left hC hR hS hM h0 h1 hB hL;obtain⟨W3,hW3⟩:∃W3,W3=((W.alloc (.cells #[.slice A0 S.ms.length c0,.slice A1 S.es.length c1] 25)).alloc (.cells #[.string t.name,.int .i64 t.num,.int .i64 t.kind,.bool t.rep,.bool t.map,.int .i64 t.typ] 70)).alloc (.cells #[.bool v.B,.int .i64 v.I,.int .u64 v.U,.int .u64 v.F,.string v.S,.slice A v.dA.length c] 76):=⟨_,rfl⟩
 have hB3:Below W.heap.size W W3:=by rw[hW3];exact ak (ak (ak (bg _ _) _) _) _
 have hX3:Bx3 W3 W.heap.size (W.heap.size+1) (W.heap.size+1+1) S A0 c0 A1 c1 t v A c:=by
  rw[hW3];refine⟨?_,?_,?_⟩
  ·exact bn (bn (aP W _) _) _
  ·have:=bn (aP (W.alloc (.cells #[.slice A0 S.ms.length c0,.slice A1 S.es.length c1] 25)) (.cells #[.string t.name,.int .i64 t.num,.int .i64 t.kind,.bool t.rep,.bool t.map,.int .i64 t.typ] 70)) (.cells #[.bool v.B,.int .i64 v.I,.int .u64 v.U,.int .u64 v.F,.string v.S,.slice A v.dA.length c] 76)
   simpa using this
  ·have:=aP ((W.alloc (.cells #[.slice A0 S.ms.length c0,.slice A1 S.es.length c1] 25)).alloc (.cells #[.string t.name,.int .i64 t.num,.int .i64 t.kind,.bool t.rep,.bool t.map,.int .i64 t.typ] 70)) (.cells #[.bool v.B,.int .i64 v.I,.int .u64 v.U,.int .u64 v.F,.string v.S,.slice A v.dA.length c] 76)
   simpa using this
 obtain⟨z1,z2,z3,z4,z5,z6,z7,z8,z9,z10⟩:=hX3.cells;have yL:=ah hR;have kQ:=ah hS;have KD:=ah (And.intro h0 h1);have Dt:=ah (AQ.below (w':=W3) hL hB hB3);have HW3:=ah hW3;clear hW3 hB3 hX3 hC hR hS hM h0 h1 hB hL;go_enter Tryz.func134,Tryz.ntmps134
 go_upto_region 1 with fail
 rw[<-HW3.out];clear HW3
 go_wp2_with (first|(go_at_call 42;(with_reducible refine(bH _ _).mono ?_);rw[hk];rintro e w1⟨rfl,rfl⟩)|(go_at_call 93;(with_reducible refine(nM _ _).mono ?_);rintro e w1⟨rfl,rfl⟩))
 all_goals go_ret
 all_goals refine⟨_,left,rfl,Dt.out,fun hb=>?_⟩
 all_goals first|(cases hb;done)|skip
 all_goals have hfin:(dQ t.kind=true-> -2147483648<=v.I/\v.I<2147483648):=fun hn=>by simp_all
 all_goals exact⟨⟨.inr (.inl ⟨hk,KA (tZ (by assumption)) rfl (by assumption) (by assumption) (wE (by assumption)) (qN (by assumption)),yL.out.1.1,yL.out.1.2,hfin⟩),fun h4=>absurd h4 (by rw[hk];decide)⟩,xG (by assumption) KD.out.1⟩
theorem KF(S:fM)(n d:Nat)(w0:World)(pl:Nat)(A0:Option Addr)(c0:Nat)(A1:Option Addr)(c1:Nat)(t:FT)(hk:aT t.kind=3):yF S n d w0 pl A0 c0 A1 c1 t:=by
 intro v A c W left hC hR hS hM h0 h1 hB hL;obtain⟨W3,hW3⟩:∃W3,W3=((W.alloc (.cells #[.slice A0 S.ms.length c0,.slice A1 S.es.length c1] 25)).alloc (.cells #[.string t.name,.int .i64 t.num,.int .i64 t.kind,.bool t.rep,.bool t.map,.int .i64 t.typ] 70)).alloc (.cells #[.bool v.B,.int .i64 v.I,.int .u64 v.U,.int .u64 v.F,.string v.S,.slice A v.dA.length c] 76):=⟨_,rfl⟩
 have hB3:Below W.heap.size W W3:=by rw[hW3];exact ak (ak (ak (bg _ _) _) _) _
 have hX3:Bx3 W3 W.heap.size (W.heap.size+1) (W.heap.size+1+1) S A0 c0 A1 c1 t v A c:=by
  rw[hW3];refine⟨?_,?_,?_⟩
  ·exact bn (bn (aP W _) _) _
  ·have:=bn (aP (W.alloc (.cells #[.slice A0 S.ms.length c0,.slice A1 S.es.length c1] 25)) (.cells #[.string t.name,.int .i64 t.num,.int .i64 t.kind,.bool t.rep,.bool t.map,.int .i64 t.typ] 70)) (.cells #[.bool v.B,.int .i64 v.I,.int .u64 v.U,.int .u64 v.F,.string v.S,.slice A v.dA.length c] 76)
   simpa using this
  ·have:=aP ((W.alloc (.cells #[.slice A0 S.ms.length c0,.slice A1 S.es.length c1] 25)).alloc (.cells #[.string t.name,.int .i64 t.num,.int .i64 t.kind,.bool t.rep,.bool t.map,.int .i64 t.typ] 70)) (.cells #[.bool v.B,.int .i64 v.I,.int .u64 v.U,.int .u64 v.F,.string v.S,.slice A v.dA.length c] 76)
   simpa using this
 obtain⟨z1,z2,z3,z4,z5,z6,z7,z8,z9,z10⟩:=hX3.cells;have yL:=ah hR;have kQ:=ah hS;have KD:=ah (And.intro h0 h1);have Dt:=ah (AQ.below (w':=W3) hL hB hB3);have HW3:=ah hW3;clear hW3 hB3 hX3 hC hR hS hM h0 h1 hB hL;go_enter Tryz.func134,Tryz.ntmps134
 go_upto_region 1 with fail
 rw[<-HW3.out];clear HW3
 go_wp2_with (first|(go_at_call 42;(with_reducible refine(bH _ _).mono ?_);rw[hk];rintro e w1⟨rfl,rfl⟩)|(go_at_call 93;(with_reducible refine(nM _ _).mono ?_);rintro e w1⟨rfl,rfl⟩))
 all_goals go_ret
 all_goals refine⟨_,left,rfl,Dt.out,fun hb=>?_⟩
 all_goals first|(cases hb;done)|skip
 all_goals have hfin:(dQ t.kind=true->v.U<4294967296):=fun hn=>by simp_all
 all_goals exact⟨⟨.inr (.inr (.inl ⟨hk,KA (tZ (by assumption)) (by assumption) rfl (by assumption) (wE (by assumption)) (qN (by assumption)),yL.out.2.1.1,yL.out.2.1.2,hfin⟩)),fun h4=>absurd h4 (by rw[hk];decide)⟩,xG (by assumption) KD.out.1⟩
theorem KG(S:fM)(n d:Nat)(w0:World)(pl:Nat)(A0:Option Addr)(c0:Nat)(A1:Option Addr)(c1:Nat)(t:FT)(hk:aT t.kind=4):yF S n d w0 pl A0 c0 A1 c1 t:=by
 intro v A c W left hC hR hS hM h0 h1 hB hL;obtain⟨W3,hW3⟩:∃W3,W3=((W.alloc (.cells #[.slice A0 S.ms.length c0,.slice A1 S.es.length c1] 25)).alloc (.cells #[.string t.name,.int .i64 t.num,.int .i64 t.kind,.bool t.rep,.bool t.map,.int .i64 t.typ] 70)).alloc (.cells #[.bool v.B,.int .i64 v.I,.int .u64 v.U,.int .u64 v.F,.string v.S,.slice A v.dA.length c] 76):=⟨_,rfl⟩
 have hB3:Below W.heap.size W W3:=by rw[hW3];exact ak (ak (ak (bg _ _) _) _) _
 have hX3:Bx3 W3 W.heap.size (W.heap.size+1) (W.heap.size+1+1) S A0 c0 A1 c1 t v A c:=by
  rw[hW3];refine⟨?_,?_,?_⟩
  ·exact bn (bn (aP W _) _) _
  ·have:=bn (aP (W.alloc (.cells #[.slice A0 S.ms.length c0,.slice A1 S.es.length c1] 25)) (.cells #[.string t.name,.int .i64 t.num,.int .i64 t.kind,.bool t.rep,.bool t.map,.int .i64 t.typ] 70)) (.cells #[.bool v.B,.int .i64 v.I,.int .u64 v.U,.int .u64 v.F,.string v.S,.slice A v.dA.length c] 76)
   simpa using this
  ·have:=aP ((W.alloc (.cells #[.slice A0 S.ms.length c0,.slice A1 S.es.length c1] 25)).alloc (.cells #[.string t.name,.int .i64 t.num,.int .i64 t.kind,.bool t.rep,.bool t.map,.int .i64 t.typ] 70)) (.cells #[.bool v.B,.int .i64 v.I,.int .u64 v.U,.int .u64 v.F,.string v.S,.slice A v.dA.length c] 76)
   simpa using this
 obtain⟨z1,z2,z3,z4,z5,z6,z7,z8,z9,z10⟩:=hX3.cells;have yL:=ah hR;have kQ:=ah hS;have KD:=ah (And.intro h0 h1);have Dt:=ah (AQ.below (w':=W3) hL hB hB3);have ahj:=ah (fun w:World=>yE v.F hR.2.2.1 hR.2.2.2 w);have HSh0:=ah (fun w:World=>yE 0 (by decide) (by decide) w);have HW3:=ah hW3;clear hW3 hB3 hX3 hC hR hS hM h0 h1 hB hL;go_enter Tryz.func134,Tryz.ntmps134
 go_upto_region 1 with fail
 rw[<-HW3.out];clear HW3
 go_wp2_with (first|(go_at_call 42;(with_reducible refine(bH _ _).mono ?_);rw[hk];rintro e w1⟨rfl,rfl⟩)|(go_at_call 93;(with_reducible refine(nM _ _).mono ?_);rintro e w1⟨rfl,rfl⟩)|(go_at_call 169;(with_reducible refine(ahj.out _).mono ?_);rintro e w2⟨bb,rfl,hsh,hb2⟩;have HSh:=ah hsh;have HB2:=ah hb2;clear hsh hb2)|(go_at_call 169;(with_reducible refine(HSh0.out _).mono ?_);rintro e w2⟨bb,rfl,hsh,hb2⟩;have HSh:=ah hsh;have HB2:=ah hb2;clear hsh hb2))
 all_goals go_ret
 all_goals refine⟨_,left,rfl,(by first|exact Dt.out|exact Dt.out.step HB2.out),fun hb=>?_⟩
 all_goals first|(cases hb;done)|skip
 all_goals exact⟨⟨.inr (.inr (.inr (.inl ⟨hk,KA (tZ (by assumption)) (by assumption) (by assumption) rfl (wE (by assumption)) (qN (by assumption)),yL.out.2.2.1,yL.out.2.2.2⟩))),fun _ hn=>(by first|exact HSh.out hb|(rename_i hz0;rw[show v.F=0 by assumption];exact HSh.out hb)|(exfalso;simp_all;done))⟩,xG (by assumption) KD.out.1⟩
theorem KH(S:fM)(n d:Nat)(w0:World)(pl:Nat)(A0:Option Addr)(c0:Nat)(A1:Option Addr)(c1:Nat)(t:FT)(hk:aT t.kind=5):yF S n d w0 pl A0 c0 A1 c1 t:=by
 intro v A c W left hC hR hS hM h0 h1 hB hL;obtain⟨W3,hW3⟩:∃W3,W3=((W.alloc (.cells #[.slice A0 S.ms.length c0,.slice A1 S.es.length c1] 25)).alloc (.cells #[.string t.name,.int .i64 t.num,.int .i64 t.kind,.bool t.rep,.bool t.map,.int .i64 t.typ] 70)).alloc (.cells #[.bool v.B,.int .i64 v.I,.int .u64 v.U,.int .u64 v.F,.string v.S,.slice A v.dA.length c] 76):=⟨_,rfl⟩
 have hB3:Below W.heap.size W W3:=by rw[hW3];exact ak (ak (ak (bg _ _) _) _) _
 have hX3:Bx3 W3 W.heap.size (W.heap.size+1) (W.heap.size+1+1) S A0 c0 A1 c1 t v A c:=by
  rw[hW3];refine⟨?_,?_,?_⟩
  ·exact bn (bn (aP W _) _) _
  ·have:=bn (aP (W.alloc (.cells #[.slice A0 S.ms.length c0,.slice A1 S.es.length c1] 25)) (.cells #[.string t.name,.int .i64 t.num,.int .i64 t.kind,.bool t.rep,.bool t.map,.int .i64 t.typ] 70)) (.cells #[.bool v.B,.int .i64 v.I,.int .u64 v.U,.int .u64 v.F,.string v.S,.slice A v.dA.length c] 76)
   simpa using this
  ·have:=aP ((W.alloc (.cells #[.slice A0 S.ms.length c0,.slice A1 S.es.length c1] 25)).alloc (.cells #[.string t.name,.int .i64 t.num,.int .i64 t.kind,.bool t.rep,.bool t.map,.int .i64 t.typ] 70)) (.cells #[.bool v.B,.int .i64 v.I,.int .u64 v.U,.int .u64 v.F,.string v.S,.slice A v.dA.length c] 76)
   simpa using this
 obtain⟨z1,z2,z3,z4,z5,z6,z7,z8,z9,z10⟩:=hX3.cells;have yL:=ah hR;have kQ:=ah hS;have KD:=ah (And.intro h0 h1);have Dt:=ah (AQ.below (w':=W3) hL hB hB3);have hcv:=mW v.S;have HU:=ah (fun Wx:World=>Jg (some ⟨Wx.heap.size,0,none⟩) (grownCap Wx v.S.size 0 5) v.S.size (bytesOf v.S) (Lib.bytesWorld Wx 5 v.S) (qg Wx v.S (by omega)) (gV v.S) (grownCap_ge _ _ _ _) hS);have HCe:=ah (fun(Wx:World)(hb:Below (Lib.bytesWorld W3 5 v.S).heap.size (Lib.bytesWorld W3 5 v.S) Wx)=>ay (au (je (bg W3.heap.size W3) (Nat.le_refl _) 5 v.S) hb) z9);have HBB:=ah (je (bg W3.heap.size W3) (Nat.le_refl _) 5 v.S);have HW3:=ah hW3;clear hW3 hB3 hX3 hC hR hS hM h0 h1 hB hL;go_enter Tryz.func134,Tryz.ntmps134
 go_upto_region 1 with fail
 rw[<-HW3.out];clear HW3
 go_wp2_with (first|(go_at_call 42;(with_reducible refine(bH _ _).mono ?_);rw[hk];rintro e w1⟨rfl,rfl⟩)|(go_at_call 170;(with_reducible refine(HU.out _).mono ?_);rintro e w2⟨rfl,hb2⟩;have HB2:=ah hb2;have y9:=HCe.out _ hb2;clear hb2))
 all_goals go_ret
 all_goals refine⟨_,left,rfl,(by first|exact Dt.out|exact(Dt.out.step HBB.out).step HB2.out),fun hb=>?_⟩
 all_goals first|(cases hb;done)|skip
 all_goals have hfin:dh (bytesOf v.S)=true/\v.S.size<=1000:=(by simp_all;omega)
 all_goals exact⟨⟨.inr (.inr (.inr (.inr (.inl ⟨hk,KA (tZ (by assumption)) (by assumption) (by assumption) (by assumption) rfl (qN (by assumption)),hfin⟩)))),fun h4=>absurd h4 (by rw[hk];decide)⟩,xG (by assumption) KD.out.1⟩
theorem KI(S:fM)(n d:Nat)(w0:World)(pl:Nat)(A0:Option Addr)(c0:Nat)(A1:Option Addr)(c1:Nat)(t:FT)(hk:aT t.kind=6):yF S n d w0 pl A0 c0 A1 c1 t:=by
 intro v A c W left hC hR hS hM h0 h1 hB hL;obtain⟨W3,hW3⟩:∃W3,W3=((W.alloc (.cells #[.slice A0 S.ms.length c0,.slice A1 S.es.length c1] 25)).alloc (.cells #[.string t.name,.int .i64 t.num,.int .i64 t.kind,.bool t.rep,.bool t.map,.int .i64 t.typ] 70)).alloc (.cells #[.bool v.B,.int .i64 v.I,.int .u64 v.U,.int .u64 v.F,.string v.S,.slice A v.dA.length c] 76):=⟨_,rfl⟩
 have hB3:Below W.heap.size W W3:=by rw[hW3];exact ak (ak (ak (bg _ _) _) _) _
 have hX3:Bx3 W3 W.heap.size (W.heap.size+1) (W.heap.size+1+1) S A0 c0 A1 c1 t v A c:=by
  rw[hW3];refine⟨?_,?_,?_⟩
  ·exact bn (bn (aP W _) _) _
  ·have:=bn (aP (W.alloc (.cells #[.slice A0 S.ms.length c0,.slice A1 S.es.length c1] 25)) (.cells #[.string t.name,.int .i64 t.num,.int .i64 t.kind,.bool t.rep,.bool t.map,.int .i64 t.typ] 70)) (.cells #[.bool v.B,.int .i64 v.I,.int .u64 v.U,.int .u64 v.F,.string v.S,.slice A v.dA.length c] 76)
   simpa using this
  ·have:=aP ((W.alloc (.cells #[.slice A0 S.ms.length c0,.slice A1 S.es.length c1] 25)).alloc (.cells #[.string t.name,.int .i64 t.num,.int .i64 t.kind,.bool t.rep,.bool t.map,.int .i64 t.typ] 70)) (.cells #[.bool v.B,.int .i64 v.I,.int .u64 v.U,.int .u64 v.F,.string v.S,.slice A v.dA.length c] 76)
   simpa using this
 obtain⟨z1,z2,z3,z4,z5,z6,z7,z8,z9,z10⟩:=hX3.cells;have yL:=ah hR;have kQ:=ah hS;have KD:=ah (And.intro h0 h1);have Dt:=ah (AQ.below (w':=W3) hL hB hB3);have HW3:=ah hW3;clear hW3 hB3 hX3 hC hR hS hM h0 h1 hB hL;go_enter Tryz.func134,Tryz.ntmps134
 go_upto_region 1 with fail
 rw[<-HW3.out];clear HW3
 go_wp2_with (first|(go_at_call 42;(with_reducible refine(bH _ _).mono ?_);rw[hk];rintro e w1⟨rfl,rfl⟩))
 all_goals go_ret
 all_goals refine⟨_,left,rfl,Dt.out,fun hb=>?_⟩
 all_goals first|(cases hb;done)|skip
 all_goals have hfin:v.S.size<=1000:=by simp_all;omega
 all_goals exact⟨⟨.inr (.inr (.inr (.inr (.inr (.inl ⟨hk,KA (tZ (by assumption)) (by assumption) (by assumption) (by assumption) rfl (qN (by assumption)),hfin⟩))))),fun h4=>absurd h4 (by rw[hk];decide)⟩,xG (by assumption) KD.out.1⟩
theorem KJ(S:fM)(n d:Nat)(w0:World)(pl:Nat)(A0:Option Addr)(c0:Nat)(A1:Option Addr)(c1:Nat)(t:FT)(hk:aT t.kind=7):yF S n d w0 pl A0 c0 A1 c1 t:=by
 intro v A c W left hC hR hS hM h0 h1 hB hL;obtain⟨W3,hW3⟩:∃W3,W3=((W.alloc (.cells #[.slice A0 S.ms.length c0,.slice A1 S.es.length c1] 25)).alloc (.cells #[.string t.name,.int .i64 t.num,.int .i64 t.kind,.bool t.rep,.bool t.map,.int .i64 t.typ] 70)).alloc (.cells #[.bool v.B,.int .i64 v.I,.int .u64 v.U,.int .u64 v.F,.string v.S,.slice A v.dA.length c] 76):=⟨_,rfl⟩
 have hB3:Below W.heap.size W W3:=by rw[hW3];exact ak (ak (ak (bg _ _) _) _) _
 have hX3:Bx3 W3 W.heap.size (W.heap.size+1) (W.heap.size+1+1) S A0 c0 A1 c1 t v A c:=by
  rw[hW3];refine⟨?_,?_,?_⟩
  ·exact bn (bn (aP W _) _) _
  ·have:=bn (aP (W.alloc (.cells #[.slice A0 S.ms.length c0,.slice A1 S.es.length c1] 25)) (.cells #[.string t.name,.int .i64 t.num,.int .i64 t.kind,.bool t.rep,.bool t.map,.int .i64 t.typ] 70)) (.cells #[.bool v.B,.int .i64 v.I,.int .u64 v.U,.int .u64 v.F,.string v.S,.slice A v.dA.length c] 76)
   simpa using this
  ·have:=aP ((W.alloc (.cells #[.slice A0 S.ms.length c0,.slice A1 S.es.length c1] 25)).alloc (.cells #[.string t.name,.int .i64 t.num,.int .i64 t.kind,.bool t.rep,.bool t.map,.int .i64 t.typ] 70)) (.cells #[.bool v.B,.int .i64 v.I,.int .u64 v.U,.int .u64 v.F,.string v.S,.slice A v.dA.length c] 76)
   simpa using this
 obtain⟨z1,z2,z3,z4,z5,z6,z7,z8,z9,z10⟩:=hX3.cells;have yL:=ah hR;have kQ:=ah hS;have KD:=ah (And.intro h0 h1);have Dt:=ah (AQ.below (w':=W3) hL hB hB3);have HW3:=ah hW3;clear hW3 hB3 hX3 hC hR hS hM h0 h1 hB hL;go_enter Tryz.func134,Tryz.ntmps134
 go_upto_region 1 with fail
 rw[<-HW3.out];clear HW3
 go_wp2_with (first|(go_at_call 42;(with_reducible refine(bH _ _).mono ?_);rw[hk];rintro e w1⟨rfl,rfl⟩)|(go_at_call 93;(with_reducible refine(nM _ _).mono ?_);rintro e w1⟨rfl,rfl⟩))
 all_goals go_ret
 all_goals refine⟨_,left,rfl,Dt.out,fun hb=>?_⟩
 all_goals first|(cases hb;done)|skip
 all_goals have hfin:(dQ t.kind=true-> -2147483648<=v.I/\v.I<2147483648):=fun hn=>by simp_all
 all_goals have hfin:=hfin (Ws hk)
 all_goals exact⟨⟨.inr (.inr (.inr (.inr (.inr (.inr (.inl ⟨hk,KA (tZ (by assumption)) rfl (by assumption) (by assumption) (wE (by assumption)) (qN (by assumption)),hfin⟩)))))),fun h4=>absurd h4 (by rw[hk];decide)⟩,xG (by assumption) KD.out.1⟩
theorem KL(S:fM)(n d:Nat)(w0:World)(pl:Nat)(A0:Option Addr)(c0:Nat)(A1:Option Addr)(c1:Nat)(t:FT)(hk:aT t.kind=8)(hd:d<=100000)(hfits:Kz S n d w0 pl A0 c0 A1 c1):yF S n d w0 pl A0 c0 A1 c1 t:=by
 intro v A c W left hC hR hS hM h0 h1 hB hL;obtain⟨W3,hW3⟩:∃W3,W3=((W.alloc (.cells #[.slice A0 S.ms.length c0,.slice A1 S.es.length c1] 25)).alloc (.cells #[.string t.name,.int .i64 t.num,.int .i64 t.kind,.bool t.rep,.bool t.map,.int .i64 t.typ] 70)).alloc (.cells #[.bool v.B,.int .i64 v.I,.int .u64 v.U,.int .u64 v.F,.string v.S,.slice A v.dA.length c] 76):=⟨_,rfl⟩
 have hB3:Below W.heap.size W W3:=by rw[hW3];exact ak (ak (ak (bg _ _) _) _) _
 have hX3:Bx3 W3 W.heap.size (W.heap.size+1) (W.heap.size+1+1) S A0 c0 A1 c1 t v A c:=by
  rw[hW3];refine⟨?_,?_,?_⟩
  ·exact bn (bn (aP W _) _) _
  ·have:=bn (aP (W.alloc (.cells #[.slice A0 S.ms.length c0,.slice A1 S.es.length c1] 25)) (.cells #[.string t.name,.int .i64 t.num,.int .i64 t.kind,.bool t.rep,.bool t.map,.int .i64 t.typ] 70)) (.cells #[.bool v.B,.int .i64 v.I,.int .u64 v.U,.int .u64 v.F,.string v.S,.slice A v.dA.length c] 76)
   simpa using this
  ·have:=aP ((W.alloc (.cells #[.slice A0 S.ms.length c0,.slice A1 S.es.length c1] 25)).alloc (.cells #[.string t.name,.int .i64 t.num,.int .i64 t.kind,.bool t.rep,.bool t.map,.int .i64 t.typ] 70)) (.cells #[.bool v.B,.int .i64 v.I,.int .u64 v.U,.int .u64 v.F,.string v.S,.slice A v.dA.length c] 76)
   simpa using this
 obtain⟨z1,z2,z3,z4,z5,z6,z7,z8,z9,z10⟩:=hX3.cells;have yL:=ah hR;have kQ:=ah hS;have KD:=ah (And.intro h0 h1);have Dt:=ah (AQ.below (w':=W3) hL hB hB3);have z11:W3.cell? ⟨W.heap.size+1,4,none⟩=some (.bool t.map):=(aA hX3.b2 4).trans rfl;have w1:wrap64 ((d:Int)+1-1)=(d:Int):=by unfold wrap64;omega
 have w2:IntKind.i64.wrap ((d:Int)+1-1)=(d:Int):=by rw[IntKind.wrap_i64];omega
 have w3:wrap64 (d:Int)=(d:Int):=by unfold wrap64;omega
 have w4:IntKind.i64.wrap (d:Int)=(d:Int):=by rw[IntKind.wrap_i64];omega
 have Ye:=ah (hfits t.typ v.dA A c W3 left hC hM h0 h1 (au hB hB3) (aI hL hB3));have Wu:=ah (aH.of_below hB3 pl none);have hpl:=bJ hL;have HCe:=ah (fun(Wx:World)(l2:Int)(hx:AQ w0 W3 Wx pl l2)=>(aA (hx.ke.blk hX3.b2 (by omega) (by simp)) 4).trans (rfl:_=some (Value.bool t.map)));have HCf:=ah (fun(Wx:World)(l2:Int)(hx:AQ w0 W3 Wx pl l2)=>(aA (hx.ke.blk hX3.b3 (by omega) (by simp)) 5).trans (rfl:_=some (Value.slice A v.dA.length c)));clear hpl;have hlt:((v.dA.length:Nat):Int)=2↔v.dA.length=2:=by omega
 have HW3:=ah hW3;clear hW3 hB3 hX3 hC hR hS hM h0 h1 hB hL;go_enter Tryz.func134,Tryz.ntmps134
 go_upto_region 1 with fail
 rw[<-HW3.out];clear HW3
 go_wp2_with (first|(go_at_call 42;(with_reducible refine(bH _ _).mono ?_);rw[hk];rintro e w1⟨rfl,rfl⟩)|(go_at_call 87;(with_reducible refine Ye.out.mono ?_);rintro e w2⟨bb,l2,rfl,hx2,hf2⟩;have HX2:=ah hx2;have HF2:=ah hf2;have y1:=HCe.out _ _ hx2;have y2:=HCf.out _ _ hx2;clear hx2 hf2))
 all_goals go_ret
 all_goals first|(refine⟨_,left,rfl,Dt.out,fun hb=>?_⟩;cases hb;done)|(refine⟨_,l2,rfl,HX2.out.to Wu.out,fun hb=>?_⟩)
 all_goals first|(cases hb;done)|skip
 all_goals have hbb:=HF2.out (by first|assumption|(simp_all;done))
 all_goals have hmp:(t.map=true->v.dA.length=2):=fun hm=>(by simp_all;try omega)
 all_goals have hfin:=And.intro hbb.1 hmp
 all_goals exact⟨⟨.inr (.inr (.inr (.inr (.inr (.inr (.inr ⟨hk,KA (tZ (by assumption)) (by assumption) (by assumption) (by assumption) (wE (by assumption)) rfl,hfin⟩)))))),fun h4=>absurd h4 (by rw[hk];decide)⟩,hbb.2⟩
theorem EH(S:fM)(n d:Nat)(w0:World)(pl:Nat)(A0:Option Addr)(c0:Nat)(A1:Option Addr)(c1:Nat)(t:FT)(ht:sG S t)(hd:d<=100000)(hfits:Kz S n d w0 pl A0 c0 A1 c1):yF S n d w0 pl A0 c0 A1 c1 t:=by
 rcases ht.kind with h|h|h|h|h|h|h|h
 ·exact KC S n d w0 pl A0 c0 A1 c1 t h
 ·exact KE S n d w0 pl A0 c0 A1 c1 t h
 ·exact KF S n d w0 pl A0 c0 A1 c1 t h
 ·exact KG S n d w0 pl A0 c0 A1 c1 t h
 ·exact KH S n d w0 pl A0 c0 A1 c1 t h
 ·exact KI S n d w0 pl A0 c0 A1 c1 t h
 ·exact KJ S n d w0 pl A0 c0 A1 c1 t h
 ·exact KL S n d w0 pl A0 c0 A1 c1 t h hd hfits
end Go.Proofs.YtapkmjfjikpnlaaGreatDoor
