/- A part of FnMsgJsonMeans. No conditions. -/
import Derived.Test.YtapkmjfjikpnlaaGreatDoorM02
set_option maxHeartbeats 1000000
namespace Go.Proofs.YtapkmjfjikpnlaaGreatDoor
open Go.RowKit YtapkmjfjikpnlaaGreatDoorW.aG YtapkmjfjikpnlaaGreatDoorW.aJ
attribute [local go_sem] BX IU Gn Pn
set_option linter.unusedVariables false
set_option linter.unusedSimpArgs false
def fit5(x:FT):Bool:=decide (x.name.size<=2147483647)
def fit4(l:List FT):Bool:=decide (l.length<=2147483647)&&l.all fit5
def fit3(x:MT):Bool:=decide (x.name.size<=2147483647)&&fit4 x.fields
def fit2(l:List MT):Bool:=decide (l.length<=2147483647)&&l.all fit3
def MC(s:ByteArray):Bool:=decide (s.size<=2147483647)
def fit8(l:List ByteArray):Bool:=decide (l.length<=2147483647)&&l.all MC
def fit7(x:ET):Bool:=fit8 x.names&&decide (x.nums.length<=2147483647)
def fit6(l:List ET):Bool:=decide (l.length<=2147483647)&&l.all fit7
def fit1(m:List MT)(e:List ET):Bool:=fit2 m&&fit6 e
def tC(c:Int):Bool:=c==95||(decide (97<=c)&&decide (c<=122))||(decide (65<=c)&&decide (c<=90))
def yP(c:Int):Bool:=decide (48<=c)&&decide (c<=57)
def oM(s:ByteArray)(i:Nat):Bool:=tC (bt s i)||(i !=0&&yP (bt s i))
def kR(s:ByteArray):Bool:=(List.range s.size).all (oM s)&&decide (s.size≠0)
theorem qV{n:Nat}(c:n<=2147483647):decide (2147483647<(n:Int))=false:=by simp;omega
theorem qW{n:Nat}(c:¬n<=2147483647):decide (2147483647<(n:Int))=true:=by simp;omega
theorem Uf(x:FT)(w:World):
 Calls Tryz.prog 130 #[.agg #[.string x.name,.int .i64 x.num,.int .i64 x.kind,.bool x.rep,.bool x.map,.int .i64 x.typ]] w fun e w'=>e= .returned (.bool (fit5 x))/\Below w.heap.size w w':=by
 by_cases c:x.name.size<=2147483647
 ·have c1:=qV c
  go_enter Tryz.func130,Tryz.ntmps130;go_wp2
  go_ret
  exact⟨by simp[fit5,c],ak (bg _ _) _⟩
 ·have c1:=qW c
  go_enter Tryz.func130,Tryz.ntmps130;go_wp2
  go_ret
  exact⟨by simp[fit5,c],ak (bg _ _) _⟩
theorem abd(A0:Option Addr)(c0:Nat)(l0:List FT)(w:World)(hr0:Kd.C kFT w A0 l0.length l0):
 Calls Tryz.prog 83 #[.slice A0 l0.length c0] w fun e w'=>e= .returned (.bool (fit4 l0))/\Below w.heap.size w w':=by
 have HR0:=ah hr0;clear hr0
 by_cases c:l0.length<=2147483647
 ·have c1:=qV c
  go_enter Tryz.func83,Tryz.ntmps83;go_wp2
  go_loopg [10] l0.length (fun g v10 w'=>∃i:Nat,v10= .int .i64 i/\i+g=l0.length/\aC ((l0.take i).all fit5=true)/\aC (Below w.heap.size w w'))
  case atStart=>exact⟨0,rfl,by simp,⟨by simp⟩,⟨bg _ _⟩⟩
  case round=>
   obtain⟨i,rfl,hg,HA,HB⟩:=hrel
   by_cases hlt:i<l0.length
   ·obtain⟨x,hx⟩:=bF hlt
    obtain⟨ad,rfl,h0,h1,h2,h3,h4,h5⟩:=uT (Kd.aU HR0.out HB.out) hx.out;cases b:fit5 x
    ·have HF:=ah (show fit4 l0=false by simp[fit4,nZ hx.out b])
     go_wp2_with (go_at_call 130;(with_reducible refine(Uf x _).mono ?_);rw[b];rintro e w1⟨rfl,hb⟩)
     go_ret
     exact⟨by rw[HF.out];rfl,au (ak HB.out _) hb⟩
    ·go_wp2_with (go_at_call 130;(with_reducible refine(Uf x _).mono ?_);rw[b];rintro e w1⟨rfl,hb⟩)
     obtain⟨g',rfl⟩:∃g',gk=g'+1:=⟨gk-1,by omega⟩
     go_roundg g'
     case measure=>omega
     case rel=>exact⟨i+1,by go_num,by omega,⟨all_succ hx.out HA.out b⟩,⟨au (ak HB.out _) hb⟩⟩
   ·have HF:=ah (show fit4 l0=true by simp[fit4,c,rH HA.out (by omega)])
    go_wp2
    go_ret
    exact⟨by rw[HF.out];rfl,HB.out⟩
 ·have c1:=qW c
  go_enter Tryz.func83,Tryz.ntmps83;go_wp2
  go_ret
  exact⟨by simp[fit4,c],bg _ _⟩
theorem Ug(x:MT)(A0:Option Addr)(c0:Nat)(w:World)(hr0:Kd.C kFT w A0 x.fields.length x.fields):
 Calls Tryz.prog 36 #[.agg #[.string x.name,.slice A0 x.fields.length c0]] w fun e w'=>e= .returned (.bool (fit3 x))/\Below w.heap.size w w':=by
 have HR0:=ah hr0;clear hr0
 by_cases c:x.name.size<=2147483647
 ·have c1:=qV c
  cases b:fit4 x.fields
  all_goals
   go_enter Tryz.func36,Tryz.ntmps36
   go_wp2_with (go_at_call 83;(with_reducible refine(abd A0 c0 x.fields _ (Kd.dP HR0.out _)).mono ?_);rw[b];rintro e w1⟨rfl,hb⟩)
   go_ret
   exact⟨by simp[fit3,b,c],au (ak (bg _ _) _) hb⟩
 ·have c1:=qW c
  go_enter Tryz.func36,Tryz.ntmps36;go_wp2
  go_ret
  exact⟨by simp[fit3,c],ak (bg _ _) _⟩
theorem Uh(A0:Option Addr)(c0:Nat)(l0:List MT)(w:World)(hr0:Kd.C Yl w A0 l0.length l0):
 Calls Tryz.prog 15 #[.slice A0 l0.length c0] w fun e w'=>e= .returned (.bool (fit2 l0))/\Below w.heap.size w w':=by
 have HR0:=ah hr0;clear hr0
 by_cases c:l0.length<=2147483647
 ·have c1:=qV c
  go_enter Tryz.func15,Tryz.ntmps15;go_wp2
  go_loopg [10] l0.length (fun g v10 w'=>∃i:Nat,v10= .int .i64 i/\i+g=l0.length/\aC ((l0.take i).all fit3=true)/\aC (Below w.heap.size w w'))
  case atStart=>exact⟨0,rfl,by simp,⟨by simp⟩,⟨bg _ _⟩⟩
  case round=>
   obtain⟨i,rfl,hg,HA,HB⟩:=hrel
   by_cases hlt:i<l0.length
   ·obtain⟨x,hx⟩:=bF hlt
    obtain⟨ad,A1,c1',rfl,h0,h1,h2,h3⟩:=Ag (Kd.aU HR0.out HB.out) hx.out;have H3:=ah h3;clear h2 h3;cases b:fit3 x
    ·have HF:=ah (show fit2 l0=false by simp[fit2,nZ hx.out b])
     go_wp2_with (go_at_call 36;(with_reducible refine(Ug x A1 c1' _ (Kd.dP H3.out _)).mono ?_);rw[b];rintro e w1⟨rfl,hb⟩)
     go_ret
     exact⟨by rw[HF.out];rfl,au (ak HB.out _) hb⟩
    ·go_wp2_with (go_at_call 36;(with_reducible refine(Ug x A1 c1' _ (Kd.dP H3.out _)).mono ?_);rw[b];rintro e w1⟨rfl,hb⟩)
     obtain⟨g',rfl⟩:∃g',gk=g'+1:=⟨gk-1,by omega⟩
     go_roundg g'
     case measure=>omega
     case rel=>exact⟨i+1,by go_num,by omega,⟨all_succ hx.out HA.out b⟩,⟨au (ak HB.out _) hb⟩⟩
   ·have HF:=ah (show fit2 l0=true by simp[fit2,c,rH HA.out (by omega)])
    go_wp2
    go_ret
    exact⟨by rw[HF.out];rfl,HB.out⟩
 ·have c1:=qW c
  go_enter Tryz.func15,Tryz.ntmps15;go_wp2
  go_ret
  exact⟨by simp[fit2,c],bg _ _⟩
theorem MF(A0:Option Addr)(c0:Nat)(l0:List ByteArray)(w:World)(hr0:Kd.C Kd.string w A0 l0.length l0):
 Calls Tryz.prog 84 #[.slice A0 l0.length c0] w fun e w'=>e= .returned (.bool (fit8 l0))/\Below w.heap.size w w':=by
 have HR0:=ah hr0;clear hr0
 by_cases c:l0.length<=2147483647
 ·have c1:=qV c
  go_enter Tryz.func84,Tryz.ntmps84;go_wp2
  go_loopg [10] l0.length (fun g v10 w'=>∃i:Nat,v10= .int .i64 i/\i+g=l0.length/\aC ((l0.take i).all MC=true)/\aC (Below w.heap.size w w'))
  case atStart=>exact⟨0,rfl,by simp,⟨by simp⟩,⟨bg _ _⟩⟩
  case round=>
   obtain⟨i,rfl,hg,HA,HB⟩:=hrel
   by_cases hlt:i<l0.length
   ·obtain⟨x,hx⟩:=bF hlt
    obtain⟨ad,rfl,h0⟩:=IV (Kd.aU HR0.out HB.out) hx.out
    by_cases b:x.size<=2147483647
    ·have c2:=qV b
     have HA2:=ah (all_succ hx.out HA.out (show MC x=true by simp[MC,b]));go_wp2;obtain⟨g',rfl⟩:∃g',gk=g'+1:=⟨gk-1,by omega⟩
     go_roundg g'
     case measure=>omega
     case rel=>exact⟨i+1,by go_num,by omega,HA2,HB⟩
    ·have c2:=qW b
     have HF:=ah (show fit8 l0=false by simp[fit8,nZ hx.out (show MC x=false by simp[MC,b])]);go_wp2
     go_ret
     exact⟨by rw[HF.out];rfl,HB.out⟩
   ·have HF:=ah (show fit8 l0=true by simp[fit8,c,rH HA.out (by omega)])
    go_wp2
    go_ret
    exact⟨by rw[HF.out];rfl,HB.out⟩
 ·have c1:=qW c
  go_enter Tryz.func84,Tryz.ntmps84;go_wp2
  go_ret
  exact⟨by simp[fit8,c],bg _ _⟩
theorem Ui(x:ET)(A0:Option Addr)(c0:Nat)(A1:Option Addr)(c1:Nat)(w:World)(hr0:Kd.C Kd.string w A0 x.names.length x.names):
 Calls Tryz.prog 37 #[.agg #[.slice A0 x.names.length c0,.slice A1 x.nums.length c1]] w fun e w'=>e= .returned (.bool (fit7 x))/\Below w.heap.size w w':=by
 have HR0:=ah hr0;clear hr0;cases b:fit8 x.names
 ·go_enter Tryz.func37,Tryz.ntmps37
  go_wp2_with (go_at_call 84;(with_reducible refine(MF A0 c0 x.names _ (Kd.dP HR0.out _)).mono ?_);rw[b];rintro e w1⟨rfl,hb⟩)
  go_ret
  exact⟨by simp[fit7,b],au (ak (bg _ _) _) hb⟩
 ·by_cases c:x.nums.length<=2147483647
  ·have c2:=qV c
   go_enter Tryz.func37,Tryz.ntmps37
   go_wp2_with (go_at_call 84;(with_reducible refine(MF A0 c0 x.names _ (Kd.dP HR0.out _)).mono ?_);rw[b];rintro e w1⟨rfl,hb⟩;have hq:=(hb.cell (p:=⟨w.heap.size,1,none⟩) (by simp)))
   go_ret
   exact⟨by simp[fit7,b,c],au (ak (bg _ _) _) hb⟩
  ·have c2:=qW c
   go_enter Tryz.func37,Tryz.ntmps37
   go_wp2_with (go_at_call 84;(with_reducible refine(MF A0 c0 x.names _ (Kd.dP HR0.out _)).mono ?_);rw[b];rintro e w1⟨rfl,hb⟩;have hq:=(hb.cell (p:=⟨w.heap.size,1,none⟩) (by simp)))
   go_ret
   exact⟨by simp[fit7,b,c],au (ak (bg _ _) _) hb⟩
theorem abe(A0:Option Addr)(c0:Nat)(l0:List ET)(w:World)(hr0:Kd.C kET w A0 l0.length l0):
 Calls Tryz.prog 16 #[.slice A0 l0.length c0] w fun e w'=>e= .returned (.bool (fit6 l0))/\Below w.heap.size w w':=by
 have HR0:=ah hr0;clear hr0
 by_cases c:l0.length<=2147483647
 ·have c1:=qV c
  go_enter Tryz.func16,Tryz.ntmps16;go_wp2
  go_loopg [10] l0.length (fun g v10 w'=>∃i:Nat,v10= .int .i64 i/\i+g=l0.length/\aC ((l0.take i).all fit7=true)/\aC (Below w.heap.size w w'))
  case atStart=>exact⟨0,rfl,by simp,⟨by simp⟩,⟨bg _ _⟩⟩
  case round=>
   obtain⟨i,rfl,hg,HA,HB⟩:=hrel
   by_cases hlt:i<l0.length
   ·obtain⟨x,hx⟩:=bF hlt
    obtain⟨ad,A1,c1',A2,c2',rfl,h0,h1,h2,h3,h4,h5⟩:=Ym (Kd.aU HR0.out HB.out) hx.out;have H3:=ah h3;clear h2 h3 h4 h5;cases b:fit7 x
    ·have HF:=ah (show fit6 l0=false by simp[fit6,nZ hx.out b])
     go_wp2_with (go_at_call 37;(with_reducible refine(Ui x A1 c1' A2 c2' _ (Kd.dP H3.out _)).mono ?_);rw[b];rintro e w1⟨rfl,hb⟩)
     go_ret
     exact⟨by rw[HF.out];rfl,au (ak HB.out _) hb⟩
    ·go_wp2_with (go_at_call 37;(with_reducible refine(Ui x A1 c1' A2 c2' _ (Kd.dP H3.out _)).mono ?_);rw[b];rintro e w1⟨rfl,hb⟩)
     obtain⟨g',rfl⟩:∃g',gk=g'+1:=⟨gk-1,by omega⟩
     go_roundg g'
     case measure=>omega
     case rel=>exact⟨i+1,by go_num,by omega,⟨all_succ hx.out HA.out b⟩,⟨au (ak HB.out _) hb⟩⟩
   ·have HF:=ah (show fit6 l0=true by simp[fit6,c,rH HA.out (by omega)])
    go_wp2
    go_ret
    exact⟨by rw[HF.out];rfl,HB.out⟩
 ·have c1:=qW c
  go_enter Tryz.func16,Tryz.ntmps16;go_wp2
  go_ret
  exact⟨by simp[fit6,c],bg _ _⟩
theorem abf(ms:List MT)(es:List ET)(A0:Option Addr)(c0:Nat)(A1:Option Addr)(c1:Nat)(w:World)(hr0:Kd.C Yl w A0 ms.length ms)(hr1:Kd.C kET w A1 es.length es):
 Calls Tryz.prog 5 #[.agg #[.slice A0 ms.length c0,.slice A1 es.length c1]] w fun e w'=>e= .returned (.bool (fit1 ms es))/\Below w.heap.size w w':=by
 have HR0:=ah hr0;have HR1:=ah hr1;clear hr0 hr1;cases b:fit2 ms
 ·go_enter Tryz.func5,Tryz.ntmps5
  go_wp2_with (go_at_call 15;(with_reducible refine(Uh A0 c0 ms _ (Kd.dP HR0.out _)).mono ?_);rw[b];rintro e w1⟨rfl,hb⟩)
  go_ret
  exact⟨by simp[fit1,b],au (ak (bg _ _) _) hb⟩
 ·cases b2:fit6 es
  all_goals
   go_enter Tryz.func5,Tryz.ntmps5
   go_wp2_with (first|(go_at_call 15;(with_reducible refine(Uh A0 c0 ms _ (Kd.dP HR0.out _)).mono ?_);rw[b];rintro e w1⟨rfl,hb⟩;have hq:=(hb.cell (p:=⟨w.heap.size,1,none⟩) (by simp));have Hb:=ah hb;clear hb)|(go_at_call 16;(with_reducible refine(abe A1 c1 es _ (Kd.aU (Kd.dP HR1.out _) Hb.out)).mono ?_);rw[b2];rintro e w2⟨rfl,hb2⟩))
   go_ret
   exact⟨by simp[fit1,b,b2],au (au (ak (bg _ _) _) Hb.out) hb2⟩
end Go.Proofs.YtapkmjfjikpnlaaGreatDoor
namespace Go.Proofs.YtapkmjfjikpnlaaGreatDoor
open Go.RowKit YtapkmjfjikpnlaaGreatDoorW.aG YtapkmjfjikpnlaaGreatDoorW.aJ
set_option linter.unusedVariables false
set_option linter.unusedSimpArgs false
theorem kZ{a b:Int}(h:a=b):(a==b)=true:=beq_iff_eq.mpr h
theorem eqF{a b:Int}(h:¬a=b):(a==b)=false:=beq_eq_false_iff_ne.mpr h
theorem Ci{a b:Int}(h:¬a=b):(a !=b)=true:=bne_iff_ne.mpr h
theorem Ef{a b:Int}(h:a=b):(a !=b)=false:=bne_eq_false_iff_eq.mpr h
theorem gY{p:Nat->Bool}{i:Nat}(h:(List.range i).all p=true)(hp:p i=true):(List.range (i+1)).all p=true:=by
 rw[List.range_succ,List.all_append,h];simp[hp]
theorem dN{p:Nat->Bool}{i n:Nat}(hi:i<n)(hp:p i=false):(List.range n).all p=false:=
 Bool.eq_false_iff.2 fun h=>by rw[List.all_eq_true]at h;rw[h i (List.mem_range.2 hi)]at hp;cases hp
theorem letter_c(c:Int)(w:World):Calls Tryz.prog 131 #[.int .u8 c] w fun e w'=>e= .returned (.bool (tC c))/\w=w':=by
 cases b1:(c==95)<;>cases b2:decide (97<=c)<;>cases b3:decide (c<=122)<;>cases b4:decide (65<=c)<;>cases b5:decide (c<=90)
 all_goals
  have HF:=ah (show tC c=_ by rw[tC,b1,b2,b3,b4,b5]);go_enter Tryz.func131,Tryz.ntmps131;go_wp2
  go_ret
  exact⟨by rw[HF.out];rfl,rfl⟩
theorem digit_c(c:Int)(w:World):Calls Tryz.prog 132 #[.int .u8 c] w fun e w'=>e= .returned (.bool (yP c))/\w=w':=by
 cases b4:decide (48<=c)<;>cases b5:decide (c<=57)
 all_goals
  have HF:=ah (show yP c=_ by rw[yP,b4,b5]);go_enter Tryz.func132,Tryz.ntmps132;go_wp2
  go_ret
  exact⟨by rw[HF.out];rfl,rfl⟩
theorem jf(s:ByteArray)(w:World)(hs:s.size<=2147483647):Calls Tryz.prog 85 #[.string s] w fun e w'=>e= .returned (.bool (kR s))/\w=w':=by
 go_enter Tryz.func85,Tryz.ntmps85;go_wp2
 go_loopg [3] s.size (fun g v3 w'=>∃i:Nat,v3= .int .i64 i/\i+g=s.size/\aC ((List.range i).all (oM s)=true)/\w=w')
 case atStart=>exact⟨0,rfl,by simp,⟨by simp⟩,rfl⟩
 case round=>
  obtain⟨i,rfl,hg,HA,rfl⟩:=hrel
  by_cases hlt:i<s.size
  ·have hx:=jX s (i:Int)
   rw[Int.toNat_natCast]at hx;cases b1:tC (bt s i)
   ·by_cases hi:i=0
    ·subst hi
     clear hx;have b1:tC (bt s 0)=false:=b1;have HF:=ah (show kR s=false by rw[kR,dN hlt (by simp[oM,b1])];rfl);have hx:∀h:0<s.size,((s[0]'h).toNat:Int)=bt s 0:=jX s 0
     go_wp2_with (go_at_call 131;(with_reducible refine(letter_c _ _).mono ?_);rw[b1];rintro e w1⟨rfl,rfl⟩)
     go_ret
     exact⟨by rw[HF.out];rfl,rfl⟩
    ·have hi0:((i:Int)==0)=false:=eqF (by omega)
     cases b2:yP (bt s i)
     ·have HF:=ah (show kR s=false by rw[kR,dN hlt (by simp[oM,b1,b2])];rfl)
      go_wp2_with (first|(go_at_call 131;(with_reducible refine(letter_c _ _).mono ?_);rw[b1];rintro e w1⟨rfl,rfl⟩)|(go_at_call 132;(with_reducible refine(digit_c _ _).mono ?_);rw[b2];rintro e w1⟨rfl,rfl⟩))
      go_ret
      exact⟨by rw[HF.out];rfl,rfl⟩
     ·have HA2:=ah (gY HA.out (show oM s i=true by simp[oM,b2,hi]))
      go_wp2_with (first|(go_at_call 131;(with_reducible refine(letter_c _ _).mono ?_);rw[b1];rintro e w1⟨rfl,rfl⟩)|(go_at_call 132;(with_reducible refine(digit_c _ _).mono ?_);rw[b2];rintro e w1⟨rfl,rfl⟩))
      obtain⟨g',rfl⟩:∃g',gk=g'+1:=⟨gk-1,by omega⟩
      go_roundg g'
      case measure=>omega
      case rel=>exact⟨i+1,by go_num,by omega,HA2,rfl⟩
   ·have HA2:=ah (gY HA.out (show oM s i=true by simp[oM,b1]))
    go_wp2_with (go_at_call 131;(with_reducible refine(letter_c _ _).mono ?_);rw[b1];rintro e w1⟨rfl,rfl⟩)
    obtain⟨g',rfl⟩:∃g',gk=g'+1:=⟨gk-1,by omega⟩
    go_roundg g'
    case measure=>omega
    case rel=>exact⟨i+1,by go_num,by omega,HA2,rfl⟩
  ·obtain rfl:i=s.size:=by omega
   by_cases h0:s.size=0
   ·have HF:=ah (show kR s=false by simp[kR,h0])
    have hn:s.toList.isEmpty=true:=by rw[kK];simp[h0]
    go_wp2
    go_ret
    exact⟨by rw[HF.out];rfl,rfl⟩
   ·have HF:=ah (show kR s=true by rw[kR,HA.out];simp[h0])
    have hn:s.toList.isEmpty=false:=by rw[kK];simp[h0]
    go_wp2
    go_ret
    exact⟨by rw[HF.out];rfl,rfl⟩
def aT(k:Int):Int:=
 if k=8 then 1 else if k=5∨k=3∨k=17∨k=18∨k=15∨k=16 then 2 else if k=13∨k=4∨k=7∨k=6 then 3
 else if k=2∨k=1 then 4 else if k=9 then 5 else if k=12 then 6 else if k=14 then 7 else if k=11∨k=10 then 8 else 0
theorem bH(k:Int)(w:World):Calls Tryz.prog 42 #[.int .i64 k] w fun e w'=>e= .returned (.int .i64 (aT k))/\w=w':=by
 by_cases h:k=8∨k=5∨k=3∨k=17∨k=18∨k=15∨k=16∨k=13∨k=4∨k=7∨k=6∨k=2∨k=1∨k=9∨k=12∨k=14∨k=11∨k=10
 ·rcases h with rfl|rfl|rfl|rfl|rfl|rfl|rfl|rfl|rfl|rfl|rfl|rfl|rfl|rfl|rfl|rfl|rfl|rfl
  all_goals
   go_enter Tryz.func42,Tryz.ntmps42;go_wp2
   go_ret
   exact⟨rfl,rfl⟩
 ·simp only[not_or]at h
  obtain⟨a1,a2,a3,a4,a5,a6,a7,a8,a9,a10,a11,a12,a13,a14,a15,a16,a17,a18⟩:=h;have HF:=ah (show aT k=0 by simp[aT, *])
  replace a1:=eqF a1;replace a2:=eqF a2;replace a3:=eqF a3;replace a4:=eqF a4;replace a5:=eqF a5;replace a6:=eqF a6
  replace a7:=eqF a7;replace a8:=eqF a8;replace a9:=eqF a9;replace a10:=eqF a10;replace a11:=eqF a11;replace a12:=eqF a12
  replace a13:=eqF a13;replace a14:=eqF a14;replace a15:=eqF a15;replace a16:=eqF a16;replace a17:=eqF a17;replace a18:=eqF a18
  go_enter Tryz.func42,Tryz.ntmps42;go_wp2
  go_ret
  exact⟨by rw[HF.out];rfl,rfl⟩
def keyBytes:List UInt8:=[107,101,121]
def xg:List UInt8:=[118,97,108,117,101]
def tH(k:Int):Bool:=aT k==1||aT k==2||aT k==3||aT k==5
def lD(l:List FT):Bool:=match l with
 |[a,b]=>decide (a.name.toList=keyBytes)&&decide (b.name.toList=xg)&& !a.rep&& !b.rep&&tH a.kind
 |_=>false
def uF(ms:List MT)(f:FT):Bool:=f.rep&&decide (f.kind=11)&&match ms[f.typ.toNat]? with
 |some m=>lD m.fields
 |none=>false
def fG(ms:List MT)(es:List ET)(f:FT):Bool:=
 kR f.name&&decide (1<=f.num)&&decide (f.num<=536870911)&&decide (f.kind≠10)&&decide (aT f.kind≠0)&&
 (decide (aT f.kind≠7)||(decide (0<=f.typ)&&decide (f.typ<es.length)))&&(decide (aT f.kind≠8)||(decide (0<=f.typ)&&decide (f.typ<ms.length)))&&
 (!f.map||uF ms f)
theorem kT{w w1:World}{cs:Array Value}{t:TypeId}(hb:Below (w.alloc (.cells cs t)).heap.size (w.alloc (.cells cs t)) w1)(j:Nat)(v:Value)(hv:cs[j]? =some v):w1.cell? ⟨w.heap.size,j,none⟩=some v:=by
 rw[hb.cell (p:=⟨w.heap.size,j,none⟩) (by simp)];rw[cell_of_row (w.alloc (.cells cs t)) w.heap.size j cs t (0,0) (heap_alloc_new w _)];exact hv
theorem yQ(ms:List MT)(f:FT)(bmp:Bool)(A0:Option Addr)(c0:Nat)(v1:Value)(hv1:v1.oneCell'=true)(w:World)(hr0:Kd.C Yl w A0 ms.length ms)(hk:f.kind=11->0<=f.typ/\f.typ<ms.length):
 Calls Tryz.prog 133 #[.agg #[.slice A0 ms.length c0,v1],.agg #[.string f.name,.int .i64 f.num,.int .i64 f.kind,.bool f.rep,.bool bmp,.int .i64 f.typ]] w fun e w'=>e= .returned (.bool (uF ms f))/\Below w.heap.size w w':=by
 have HR0:=ah hr0;have HK:=ah hk;clear hr0 hk;cases br:f.rep
 ·have HF:=ah (show uF ms f=false by simp[uF,br])
  go_enter Tryz.func133,Tryz.ntmps133;go_wp2
  go_ret
  exact⟨by rw[HF.out];rfl,ak (ak (bg _ _) _) _⟩
 ·by_cases bk:f.kind=11
  ·have hk1:=kZ bk
   have hk2:=Ef bk;obtain⟨h0,h1⟩:=HK.out bk;have BK:=ah bk;clear bk;obtain⟨i,hi⟩:=Int.eq_ofNat_of_zero_le h0;have hlt:i<ms.length:=by omega
   have HI:=ah hi;obtain⟨m,hm⟩:=bF hlt;obtain⟨ad,A1,c1',rfl,g0,g1,g2,g3⟩:=Ag (Kd.dP (Kd.dP HR0.out (.cells #[.slice A0 ms.length c0,v1] 25)) (.cells #[.string f.name,.int .i64 f.num,.int .i64 f.kind,.bool true,.bool bmp,.int .i64 i] 70)) hm.out;have G3:=ah g3;clear g2 g3;have HE:=ah (show uF ms f=lD m.fields by simp[uF,br,BK.out,hi,hm.out]);rw[hi];clear hi h0 h1
   by_cases hl:m.fields.length=2
   ·have hl1:=kZ (show(m.fields.length:Int)=2 by omega)
    have hl2:=Ef (show(m.fields.length:Int)=2 by omega);obtain⟨a,ha⟩:=bF (show 0<m.fields.length by omega);obtain⟨b,hb⟩:=bF (show 1<m.fields.length by omega);obtain⟨ad1,e1,p0,p1,p2,p3,p4,p5⟩:=uT G3.out ha.out;obtain⟨ad2,e2,q0,q1,q2,q3,q4,q5⟩:=uT G3.out hb.out;cases e1;cases e2;rw[add0]at p0 p1 p2 p3 p4 p5;rw[add1,Md _ 6 (by decide)]at q0 q1 q2 q3 q4 q5;dsimp only at q0 q1 q2 q3 q4 q5;clear p1 p4 p5 q1 q2 q4 q5
    have HM:=ah (show m.fields=[a,b]by
     rcases hf:m.fields with _|⟨x,_|⟨y,_|⟨z,l⟩⟩⟩<;>rw[hf]at hl<;>try(simp at hl)
     have h1:=ha.out;have h2:=hb.out;rw[hf]at h1 h2;cases h1;cases h2
     rfl)
    have HE2:=ah (show uF ms f=lD [a,b]by rw[HE.out,HM.out]);clear HE;cases n1:(a.name.toList==[107,101,121])
    ·have HF:=ah (show lD [a,b]=false by simp[lD,keyBytes,beq_eq_false_iff_ne.1 n1])
     go_enter Tryz.func133,Tryz.ntmps133;go_wp2
     go_ret
     exact⟨by rw[HE2.out,HF.out];rfl,ak (ak (bg _ _) _) _⟩
    ·cases n2:(b.name.toList==[118,97,108,117,101])
     ·have HF:=ah (show lD [a,b]=false by simp[lD,xg,beq_eq_false_iff_ne.1 n2])
      go_enter Tryz.func133,Tryz.ntmps133;go_wp2
      go_ret
      exact⟨by rw[HE2.out,HF.out];rfl,ak (ak (bg _ _) _) _⟩
     ·cases r1:a.rep
      ·cases r2:b.rep
       ·have HG:=ah (show lD [a,b]=tH a.kind by simp[lD,keyBytes,xg,beq_iff_eq.1 n1,beq_iff_eq.1 n2,r1,r2])
        obtain⟨sv,hsv⟩:∃sv,aC (aT a.kind=sv):=⟨_,⟨rfl⟩⟩
        have HK2:=ah (show tH a.kind=(sv==1||sv==2||sv==3||sv==5)by rw[tH,hsv.out])
        by_cases c1:sv=1∨sv=2∨sv=3∨sv=5
        ·rcases c1 with rfl|rfl|rfl|rfl
         all_goals
          go_enter Tryz.func133,Tryz.ntmps133
          go_wp2_with (go_at_call 42;(with_reducible refine(bH _ _).mono ?_);rw[hsv.out];rintro e w1⟨rfl,rfl⟩)
          go_ret
          exact⟨by rw[HE2.out,HG.out,HK2.out];rfl,ak (ak (bg _ _) _) _⟩
        ·simp only[not_or]at c1
         obtain⟨k1,k2,k3,k5⟩:=c1
         replace k1:=eqF k1
         replace k2:=eqF k2
         replace k3:=eqF k3
         replace k5:=eqF k5
         have HF:=ah (show tH a.kind=false by rw[HK2.out,k1,k2,k3,k5];rfl);go_enter Tryz.func133,Tryz.ntmps133
         go_wp2_with (go_at_call 42;(with_reducible refine(bH _ _).mono ?_);rw[hsv.out];rintro e w1⟨rfl,rfl⟩)
         go_ret
         exact⟨by rw[HE2.out,HG.out,HF.out];rfl,ak (ak (bg _ _) _) _⟩
       ·have HF:=ah (show lD [a,b]=false by simp[lD,r2])
        go_enter Tryz.func133,Tryz.ntmps133;go_wp2
        go_ret
        exact⟨by rw[HE2.out,HF.out];rfl,ak (ak (bg _ _) _) _⟩
      ·have HF:=ah (show lD [a,b]=false by simp[lD,r1])
       go_enter Tryz.func133,Tryz.ntmps133;go_wp2
       go_ret
       exact⟨by rw[HE2.out,HF.out];rfl,ak (ak (bg _ _) _) _⟩
   ·have hl1:=eqF (show¬(m.fields.length:Int)=2 by omega)
    have hl2:=Ci (show¬(m.fields.length:Int)=2 by omega)
    have HF:=ah (show lD m.fields=false by
     rcases hf:m.fields with _|⟨a,_|⟨b,_|⟨c,l⟩⟩⟩<;>first|rfl|(rw[hf]at hl;simp at hl))
    clear hl;go_enter Tryz.func133,Tryz.ntmps133;go_wp2
    go_ret
    exact⟨by rw[HE.out,HF.out];rfl,ak (ak (bg _ _) _) _⟩
  ·have hk1:=eqF bk
   have hk2:=Ci bk;have HF:=ah (show uF ms f=false by simp[uF,bk]);go_enter Tryz.func133,Tryz.ntmps133;go_wp2
   go_ret
   exact⟨by rw[HF.out];rfl,ak (ak (bg _ _) _) _⟩
theorem zL(ms:List MT)(es:List ET)(f:FT)(A0:Option Addr)(c0:Nat)(A1:Option Addr)(c1:Nat)(w:World)(hr0:Kd.C Yl w A0 ms.length ms)(hsz:f.name.size<=2147483647):
 Calls Tryz.prog 86 #[.agg #[.slice A0 ms.length c0,.slice A1 es.length c1],.agg #[.string f.name,.int .i64 f.num,.int .i64 f.kind,.bool f.rep,.bool f.map,.int .i64 f.typ]] w fun e w'=>e= .returned (.bool (fG ms es f))/\Below w.heap.size w w':=by
 have HR0:=ah hr0;clear hr0;cases bi:kR f.name
 ·have HF:=ah (show fG ms es f=false by simp[fG,bi])
  go_enter Tryz.func86,Tryz.ntmps86
  go_wp2_with (go_at_call 85;(with_reducible refine(jf _ _ hsz).mono ?_);rw[bi];rintro e w1⟨rfl,rfl⟩)
  go_ret
  exact⟨by rw[HF.out];rfl,ak (ak (bg _ _) _) _⟩
 ·cases b1:decide (f.num<1)
  ·cases b2:decide (536870911<f.num)
   ·by_cases b3:f.kind=10
    ·have HF:=ah (show fG ms es f=false by simp[fG,b3])
     replace b3:=kZ b3
     go_enter Tryz.func86,Tryz.ntmps86
     go_wp2_with (go_at_call 85;(with_reducible refine(jf _ _ hsz).mono ?_);rw[bi];rintro e w1⟨rfl,rfl⟩)
     go_ret
     exact⟨by rw[HF.out];rfl,ak (ak (bg _ _) _) _⟩
    ·obtain⟨sv,hsv⟩:∃sv,aC (aT f.kind=sv):=⟨_,⟨rfl⟩⟩
     have HB:=ah (show fG ms es f=(decide (sv≠0)&&(decide (sv≠7)||(decide (0<=f.typ)&&decide (f.typ<es.length)))&&(decide (sv≠8)||(decide (0<=f.typ)&&decide (f.typ<ms.length)))&&(!f.map||uF ms f))by
      have:=of_decide_eq_false b1;have:=of_decide_eq_false b2;simp only[fG,bi,hsv.out,b3,show(1<=f.num)=True by simp;omega,show(f.num<=536870911)=True by simp;omega];simp[b3])
     have HK11:=ah (show f.kind=11->sv=8 by intro h;rw[<-hsv.out,h];rfl)
     replace b3:=eqF b3
     by_cases s0:sv=0
     ·subst s0
      have HF:=ah (show fG ms es f=false by rw[HB.out];rfl);go_enter Tryz.func86,Tryz.ntmps86
      go_wp2_with (first|(go_at_call 85;(with_reducible refine(jf _ _ hsz).mono ?_);rw[bi];rintro e w1⟨rfl,rfl⟩)|(go_at_call 42;(with_reducible refine(bH _ _).mono ?_);rw[hsv.out];rintro e w1⟨rfl,rfl⟩))
      go_ret
      exact⟨by rw[HF.out];rfl,ak (ak (bg _ _) _) _⟩
     ·by_cases s7:sv=7
      ·subst s7
       clear s0;cases t0:decide (f.typ<0)
       ·cases t1:decide ((es.length:Int)<=f.typ)
        ·have HM:=ah (show fG ms es f=(!f.map||uF ms f)by
          have:=of_decide_eq_false t0;have:=of_decide_eq_false t1;rw[HB.out];simp[show(0<=f.typ)by omega,show(f.typ<es.length)by omega])
         have HK:=ah (show f.kind=11->0<=f.typ/\f.typ<ms.length by intro h;have:=HK11.out h;omega);cases bf:f.map
         ·have HF:=ah (show fG ms es f=true by rw[HM.out,bf];rfl)
          go_enter Tryz.func86,Tryz.ntmps86
          go_wp2_with (first|(go_at_call 85;(with_reducible refine(jf _ _ hsz).mono ?_);rw[bi];rintro e w1⟨rfl,rfl⟩)|(go_at_call 42;(with_reducible refine(bH _ _).mono ?_);rw[hsv.out];rintro e w1⟨rfl,rfl⟩))
          go_ret
          exact⟨by rw[HF.out];rfl,ak (ak (bg _ _) _) _⟩
         ·cases bm:uF ms f
          all_goals
           have HF:=ah (show fG ms es f=_ by rw[HM.out,bf,bm]);go_enter Tryz.func86,Tryz.ntmps86
           go_wp2_with (first|(go_at_call 85;(with_reducible refine(jf _ _ hsz).mono ?_);rw[bi];rintro e w1⟨rfl,rfl⟩)|(go_at_call 42;(with_reducible refine(bH _ _).mono ?_);rw[hsv.out];rintro e w1⟨rfl,rfl⟩)|(go_at_call 133;(with_reducible refine(yQ ms f _ A0 c0 _ rfl _ (Kd.dP (Kd.dP HR0.out _) _) HK.out).mono ?_);rw[bm];rintro e w1⟨rfl,hb⟩))
           go_ret
           exact⟨by rw[HF.out];rfl,au (ak (ak (bg _ _) _) _) hb⟩
        ·have HF:=ah (show fG ms es f=false by
          have:=of_decide_eq_true t1;rw[HB.out];simp[show¬(f.typ<es.length)by omega])
         go_enter Tryz.func86,Tryz.ntmps86
         go_wp2_with (first|(go_at_call 85;(with_reducible refine(jf _ _ hsz).mono ?_);rw[bi];rintro e w1⟨rfl,rfl⟩)|(go_at_call 42;(with_reducible refine(bH _ _).mono ?_);rw[hsv.out];rintro e w1⟨rfl,rfl⟩))
         go_ret
         exact⟨by rw[HF.out];rfl,ak (ak (bg _ _) _) _⟩
       ·have HF:=ah (show fG ms es f=false by
         have:=of_decide_eq_true t0;rw[HB.out];simp[show¬(0<=f.typ)by omega])
        go_enter Tryz.func86,Tryz.ntmps86
        go_wp2_with (first|(go_at_call 85;(with_reducible refine(jf _ _ hsz).mono ?_);rw[bi];rintro e w1⟨rfl,rfl⟩)|(go_at_call 42;(with_reducible refine(bH _ _).mono ?_);rw[hsv.out];rintro e w1⟨rfl,rfl⟩))
        go_ret
        exact⟨by rw[HF.out];rfl,ak (ak (bg _ _) _) _⟩
      ·by_cases s8:sv=8
       ·subst s8
        clear s0 s7;cases t0:decide (f.typ<0)
        ·cases t1:decide ((ms.length:Int)<=f.typ)
         ·have HM:=ah (show fG ms es f=(!f.map||uF ms f)by
           have:=of_decide_eq_false t0;have:=of_decide_eq_false t1;rw[HB.out];simp[show(0<=f.typ)by omega,show(f.typ<ms.length)by omega])
          have HK:=ah (show f.kind=11->0<=f.typ/\f.typ<ms.length by
           intro h;have:=of_decide_eq_false t0;have:=of_decide_eq_false t1;omega)
          cases bf:f.map
          ·have HF:=ah (show fG ms es f=true by rw[HM.out,bf];rfl)
           go_enter Tryz.func86,Tryz.ntmps86
           go_wp2_with (first|(go_at_call 85;(with_reducible refine(jf _ _ hsz).mono ?_);rw[bi];rintro e w1⟨rfl,rfl⟩)|(go_at_call 42;(with_reducible refine(bH _ _).mono ?_);rw[hsv.out];rintro e w1⟨rfl,rfl⟩))
           go_ret
           exact⟨by rw[HF.out];rfl,ak (ak (bg _ _) _) _⟩
          ·cases bm:uF ms f
           all_goals
            have HF:=ah (show fG ms es f=_ by rw[HM.out,bf,bm]);go_enter Tryz.func86,Tryz.ntmps86
            go_wp2_with (first|(go_at_call 85;(with_reducible refine(jf _ _ hsz).mono ?_);rw[bi];rintro e w1⟨rfl,rfl⟩)|(go_at_call 42;(with_reducible refine(bH _ _).mono ?_);rw[hsv.out];rintro e w1⟨rfl,rfl⟩)|(go_at_call 133;(with_reducible refine(yQ ms f _ A0 c0 _ rfl _ (Kd.dP (Kd.dP HR0.out _) _) HK.out).mono ?_);rw[bm];rintro e w1⟨rfl,hb⟩))
            go_ret
            exact⟨by rw[HF.out];rfl,au (ak (ak (bg _ _) _) _) hb⟩
         ·have HF:=ah (show fG ms es f=false by
           have:=of_decide_eq_true t1;rw[HB.out];simp[show¬(f.typ<ms.length)by omega])
          go_enter Tryz.func86,Tryz.ntmps86
          go_wp2_with (first|(go_at_call 85;(with_reducible refine(jf _ _ hsz).mono ?_);rw[bi];rintro e w1⟨rfl,rfl⟩)|(go_at_call 42;(with_reducible refine(bH _ _).mono ?_);rw[hsv.out];rintro e w1⟨rfl,rfl⟩))
          go_ret
          exact⟨by rw[HF.out];rfl,ak (ak (bg _ _) _) _⟩
        ·have HF:=ah (show fG ms es f=false by
          have:=of_decide_eq_true t0;rw[HB.out];simp[show¬(0<=f.typ)by omega])
         go_enter Tryz.func86,Tryz.ntmps86
         go_wp2_with (first|(go_at_call 85;(with_reducible refine(jf _ _ hsz).mono ?_);rw[bi];rintro e w1⟨rfl,rfl⟩)|(go_at_call 42;(with_reducible refine(bH _ _).mono ?_);rw[hsv.out];rintro e w1⟨rfl,rfl⟩))
         go_ret
         exact⟨by rw[HF.out];rfl,ak (ak (bg _ _) _) _⟩
       ·have HM:=ah (show fG ms es f=(!f.map||uF ms f)by
         rw[HB.out];simp[s0,s7,s8])
        have HK:=ah (show f.kind=11->0<=f.typ/\f.typ<ms.length by intro h;have:=HK11.out h;omega)
        replace s0:=eqF s0
        replace s7:=eqF s7
        replace s8:=eqF s8
        cases bf:f.map
        ·have HF:=ah (show fG ms es f=true by rw[HM.out,bf];rfl)
         go_enter Tryz.func86,Tryz.ntmps86
         go_wp2_with (first|(go_at_call 85;(with_reducible refine(jf _ _ hsz).mono ?_);rw[bi];rintro e w1⟨rfl,rfl⟩)|(go_at_call 42;(with_reducible refine(bH _ _).mono ?_);rw[hsv.out];rintro e w1⟨rfl,rfl⟩))
         go_ret
         exact⟨by rw[HF.out];rfl,ak (ak (bg _ _) _) _⟩
        ·cases bm:uF ms f
         all_goals
          have HF:=ah (show fG ms es f=_ by rw[HM.out,bf,bm]);go_enter Tryz.func86,Tryz.ntmps86
          go_wp2_with (first|(go_at_call 85;(with_reducible refine(jf _ _ hsz).mono ?_);rw[bi];rintro e w1⟨rfl,rfl⟩)|(go_at_call 42;(with_reducible refine(bH _ _).mono ?_);rw[hsv.out];rintro e w1⟨rfl,rfl⟩)|(go_at_call 133;(with_reducible refine(yQ ms f _ A0 c0 _ rfl _ (Kd.dP (Kd.dP HR0.out _) _) HK.out).mono ?_);rw[bm];rintro e w1⟨rfl,hb⟩))
          go_ret
          exact⟨by rw[HF.out];rfl,au (ak (ak (bg _ _) _) _) hb⟩
   ·have HF:=ah (show fG ms es f=false by
     have:=of_decide_eq_true b2;simp[fG,show¬(f.num<=536870911)by omega])
    go_enter Tryz.func86,Tryz.ntmps86
    go_wp2_with (go_at_call 85;(with_reducible refine(jf _ _ hsz).mono ?_);rw[bi];rintro e w1⟨rfl,rfl⟩)
    go_ret
    exact⟨by rw[HF.out];rfl,ak (ak (bg _ _) _) _⟩
  ·have HF:=ah (show fG ms es f=false by
    have:=of_decide_eq_true b1;simp[fG,show¬(1<=f.num)by omega])
   go_enter Tryz.func86,Tryz.ntmps86
   go_wp2_with (go_at_call 85;(with_reducible refine(jf _ _ hsz).mono ?_);rw[bi];rintro e w1⟨rfl,rfl⟩)
   go_ret
   exact⟨by rw[HF.out];rfl,ak (ak (bg _ _) _) _⟩
end Go.Proofs.YtapkmjfjikpnlaaGreatDoor
