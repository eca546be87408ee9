/- A part of FnMsgJsonMeans. No conditions. -/
import Derived.Test.YtapkmjfjikpnlaaGreatDoorM37
set_option maxHeartbeats 8000000
set_option maxRecDepth 100000
namespace Go.Proofs.YtapkmjfjikpnlaaGreatDoor
open Go.RowKit YtapkmjfjikpnlaaGreatDoorW.aG YtapkmjfjikpnlaaGreatDoorW.aJ
set_option linter.unusedVariables false
set_option linter.unusedSimpArgs false
def Xm(kind:Int)(x:NT)(I U F:Int):Prop:=
 (aT kind=2/\qo x I/\U=0/\F=0/\((dQ kind=true/\ -2147483648<=I/\I<2147483648)∨(dQ kind=false/\ -9223372036854775808<=I/\I<9223372036854775808)))∨
 (aT kind=3/\qo x U/\I=0/\F=0/\((dQ kind=true/\0<=U/\U<4294967296)∨(dQ kind=false/\0<=U/\U<18446744073709551616)))∨
 (aT kind=4/\I=0/\U=0/\∃G:Nat,F=G/\G<18446744073709551616/\G%9223372036854775808<9218868437227405312/\vw G (Rw kind) x/\(dQ kind=true->Short G))
theorem Xm.ok{kind:Int}{x:NT}{I U F:Int}(h:Xm kind x I U F):x.ok/\x.dg.length<=60:=by
 rcases h with⟨_,h,_⟩|⟨_,h,_⟩|⟨_,_,_,G,_,_,_,h,_⟩
 ·exact⟨h.1,h.2.2.1⟩
 ·exact⟨h.1,h.2.2.1⟩
 ·exact⟨h.1,h.2.2.1⟩
theorem zW.one{ts:List TK}{s:ByteArray}(h:zW ts s):∃t,ts=[t]/\((t.kind=8/\t.raw=s)∨(t.kind=16/\t.str=s)):=by
 rcases h with⟨sx,b,rfl⟩|⟨raw,b,rfl⟩
 ·exact⟨_,rfl,.inl ⟨rfl,rfl⟩⟩
 ·exact⟨_,rfl,.inr ⟨rfl,rfl⟩⟩
theorem Io{w0 W W1 w5 w6:World}{q g:Nat}{S:fM}{A0:Option Addr}{c0:Nat}{A1:Option Addr}{c1:Nat}{At:Option Addr}{cT:Nat}{L:List Tok}{a:Nat}(h:RS w0 w5 q S A0 c0 A1 c1 At cT L a)(hk:aH W1 w5 q none)(hb:Below w5.heap.size w5 w6)(hq:q<W.heap.size)(hw:w0.heap.size<=W.heap.size)(hg:W.heap.size<=g)(hg1:W1.heap.size<=g)(j:Nat)(u:Value):
 RS w0 (w6.setCell ⟨g,j,none⟩ u) q S A0 c0 A1 c1 At cT L a/\aH W1 (w6.setCell ⟨g,j,none⟩ u) q none:=by
 have h6:=h.below hb;have hk6:aH W1 w6 q none:=hk.trans (aH.of_below hb q none) (.inl rfl);exact⟨⟨bI (p:=⟨g,j,none⟩) h6.blk (show q≠g by omega) _,aV h6.be (Nat.le_trans hw hg),h6.ge,h6.toks,h6.len⟩,bU hk6 hg1 j _⟩
theorem Xn{F:Int}(h0:0<=F)(h1:F<18446744073709551616)(h:9218868437227405312<F%9223372036854775808):lH F=true:=by unfold lH;rw[IntKind.wrap_u64];exact bZ (by omega)
theorem ZC{F:Int}(h0:0<=F)(h1:F<18446744073709551616)(h:F%9223372036854775808<9218868437227405312):¬lH F=true:=by unfold lH;rw[IntKind.wrap_u64];intro hh;have:=of_decide_eq_true hh;omega
def bitsOf(kind:Int):Int:=if dQ kind=true then 32 else 64
section
variable(w0 W:World)(q:Nat)(S:fM)(A0:Option Addr)(c0:Nat)(A1:Option Addr)(c1:Nat)(At:Option Addr)(cT:Nat)(L:List Tok)(a:Nat)(hR:RS w0 W q S A0 c0 A1 c1 At cT L a)
include hR
theorem DI(kind:Int)(x:NT)(I U F:Int)(ts:List TK)(hT:lI L a ts)(hN:zW ts (str x.bytes))(hX:Xm kind x I U F):
 Calls Tryz.prog 149 #[.pointer (some ⟨q,0,none⟩),.int .i64 kind] W fun e w'=>e= .returned (.agg #[.bool false,.int .i64 I,.int .u64 U,.int .u64 F,.string ⟨#[]⟩,.slice none 0 0])/\RS w0 w' q S A0 c0 A1 c1 At cT L (a+1)/\aH W w' q none:=by
 obtain⟨KY,hdl⟩:=hX.ok;obtain⟨s,hs⟩:∃s,s=str x.bytes:=⟨_,rfl⟩
 have Bg:=ah (show bytesOf s=x.bytes by rw[hs];exact fO _ (x.pJ KY));have hsz:s.size<900000000000:=by rw[hs,bV];have:=NT.Fz KY hdl;omega
 have n1:(s.toList==[78,97,78])=false:=by rw[hs];exact DC KY _ 78 (by simp) (.inr rfl)
 have n2:(s.toList==[73,110,102,105,110,105,116,121])=false:=by rw[hs];exact DC KY _ 73 (by simp) (.inl rfl)
 have n3:(s.toList==[45,73,110,102,105,110,105,116,121])=false:=by rw[hs];exact DC KY _ 73 (by simp) (.inl rfl)
 have n4:s.toList.isEmpty=false:=by
  rw[kK];refine bY (fun h=>?_);obtain⟨c,r,e,_⟩:=x.qw KY;rw[hs,bV,e]at h;cases h
 rw[<-hs]at hN;obtain⟨t,rfl,hcase⟩:=hN.one;obtain⟨u,hu,hut,_⟩:=hT.head;have HCs:=ah (show(u.kind=8/\u.raw=s)∨(u.kind=16/\u.str=s)by rw[<-hut]at hcase;exact hcase);have HXo:=ah KY;have kQ:=ah hsz;clear hs hdl KY hN hT hut hcase hsz;have yM:=bJ hR.blk;have hwW:=hR.be.size;obtain⟨W1,hW1⟩:∃W1,W1=W.alloc xI:=⟨_,rfl⟩
 obtain⟨hR1,hk1,hz1⟩:=hR.boxed (aH.refl W q none) hW1;have HX:=ah hX;have HQ:=ah yM;have HW0:=ah hwW;have HW1:=ah hW1;have HK1:=ah hk1;have uN:=ah (fun(w2:World)(hk:aH W1 w2 q none)=>hk.blk hz1 (Nat.ne_of_gt yM) (by simp));have Eb:=ah (zC w0 W1 q S A0 c0 A1 c1 At cT L a hR1 u hu.out);have oC:=ah (fun Wx(hb:Below W1.heap.size W1 Wx)=>WL w0 Wx q S A0 c0 A1 c1 At cT L a (hR1.below hb) u hu.out);clear hR yM hwW hW1 hk1 hz1 hX hR1;go_enter Tryz.func149,Tryz.ntmps149
 go_upto_region 1 with fail
 rw[<-HW1.out]
 go_upto_if 15 with(go_at_call 55;(with_reducible refine Eb.out.mono ?_);rintro e w1⟨rfl,hb⟩;have HB1:=ah hb;clear hb)
 go_cut [5,6,7,8,9] (fun s5 s6 s7 s8 s9 wx=>s5= .string s/\aC (RS w0 wx q S A0 c0 A1 c1 At cT L (a+1)/\aH W1 wx q none))
 case first=>
  have HT2:=oC.out w1 HB1.out;rcases HCs.out with⟨hk8,hraw⟩|⟨hk16,hstr⟩
  ·rw[hk8]at HT2
   have HT2:=ah HT2;have d:(u.kind==16)=false:=eqF (by omega);have HRw:=ah hraw;clear hk8 hraw
   go_upto_region 12 with(go_at_call 54;(with_reducible refine HT2.out.mono ?_);rintro e w2⟨rfl,hr,hk⟩;have HR2:=ah hr;have HK2:=ah ((aH.of_below HB1.out q none).trans hk (.inl rfl));clear hr hk)
   obtain⟨w3,h3⟩:∃w3,w3=w2.alloc (.cells #[.int .i64 u.kind,.int .i64 u.pos,.string u.raw,.string u.str,.bool u.boo] 39):=⟨_,rfl⟩
   rw[<-h3];obtain⟨hR3,hk3,hx3⟩:=HR2.out.boxed HK2.out h3;have cr:w3.cell? ⟨w2.heap.size,2,none⟩=some (.string s):=by rw[<-HRw.out];exact(aA hx3 2).trans rfl
   have HR3:=ah (And.intro hR3 hk3);clear hR3 hk3 hx3 h3;go_wp2
   go_meet
   exact⟨rfl,HR3⟩
  ·rw[hk16]at HT2
   have HT2:=ah HT2;have d:(u.kind==16)=true:=kZ hk16;have wQ:=ah hstr;clear hk16 hstr
   go_upto_region 4 with(go_at_call 54;(with_reducible refine HT2.out.mono ?_);rintro e w2⟨rfl,hr,hk⟩;have HR2:=ah hr;have HK2:=ah ((aH.of_below HB1.out q none).trans hk (.inl rfl));clear hr hk)
   obtain⟨w3,h3⟩:∃w3,w3=w2.alloc (.cells #[.int .i64 u.kind,.int .i64 u.pos,.string u.raw,.string u.str,.bool u.boo] 39):=⟨_,rfl⟩
   rw[<-h3];obtain⟨hR3,hk3,hx3⟩:=HR2.out.boxed HK2.out h3;have cs:w3.cell? ⟨w2.heap.size,3,none⟩=some (.string s):=by rw[<-wQ.out];exact(aA hx3 3).trans rfl
   have hcv:=mW s w3;have hb2:=je (bg w3.heap.size w3) (Nat.le_refl _) 5 s;have hrd:=qg w3 s (by have:=kQ.out;omega);rw[Bg.out]at hrd;obtain⟨W4,hW4⟩:∃W4,W4=Lib.bytesWorld w3 5 s:=⟨_,rfl⟩
   rw[<-hW4]at hcv hb2 hrd;have HJn:=ah (Fj x HXo.out (some ⟨w3.heap.size,0,none⟩) s.size (grownCap w3 s.size 0 5) W4 hrd kQ.out);have HR4:=ah (And.intro (hR3.below hb2) (hk3.trans (aH.of_below hb2 q none) (.inl rfl)));have dn:((s.size:Int)!=(s.size:Int))=false:=Ef rfl;clear hR3 hk3 hx3 h3 hb2 hrd hW4
   by_cases h4:aT kind=4
   ·have d4:(aT kind==4)=true:=kZ h4
    clear h4
    go_wp2_with (first|(go_at_call 42;(with_reducible refine(bH _ _).mono ?_);rintro e w5⟨rfl,rfl⟩)|(go_at_call 166;(with_reducible refine HJn.out.mono ?_);rintro e w5⟨rfl,rfl⟩))
    go_meet
    exact⟨rfl,HR4⟩
   ·have d4:(aT kind==4)=false:=eqF h4
    clear h4
    go_wp2_with (first|(go_at_call 42;(with_reducible refine(bH _ _).mono ?_);rintro e w5⟨rfl,rfl⟩)|(go_at_call 166;(with_reducible refine HJn.out.mono ?_);rintro e w5⟨rfl,rfl⟩))
    go_meet
    exact⟨rfl,HR4⟩
 case rest=>
  obtain⟨rfl,HC⟩:=hcut;obtain⟨bits,KZ⟩:∃bits,bits=bitsOf kind:=⟨_,rfl⟩
  have TM:=ah KZ;clear n1 n2 n3 n4 KZ
  go_step
  go_upto_if 61 with(go_at_call 93;(with_reducible refine(nM _ _).mono ?_);rintro e w5⟨rfl,rfl⟩)
  go_cut [10] (fun s10 wx=>s10= .int .i64 bits/\wc=wx)
  case first=>
   cases hn:dQ kind
   ·have hb:=TM.out
    unfold bitsOf at hb;rw[hn]at hb;subst hb;go_wp2
    go_meet
    exact⟨rfl,rfl⟩
   ·have hb:=TM.out
    unfold bitsOf at hb;rw[hn]at hb;subst hb;go_wp2
    go_meet
    exact⟨rfl,rfl⟩
  case rest=>
   obtain⟨rfl,rfl⟩:=hcut;obtain⟨w5,h5⟩:∃w5,w5=wc.alloc xI:=⟨_,rfl⟩
   obtain⟨hR5,hk5,hx5⟩:=HC.out.1.boxed HC.out.2 h5;have HR5:=ah (And.intro hR5 hk5);have HX5:=ah hx5;have HW5:=ah h5;obtain⟨_,_,_,_,t4⟩:=hR5.cells;clear hR5 hk5 hx5 h5
   go_step
   go_upto_region 17 with fail
   rw[<-HW5.out];clear HW5
   go_upto_block 0 with fail
   go_cut [12] (fun s12 wx=>s12= .int .i64 1/\aC ((RS w0 wx q S A0 c0 A1 c1 At cT L (a+1)/\aH W1 wx q none)/\wx.heap[wc.heap.size]? =some (.cells #[.bool false,.int .i64 I,.int .u64 U,.int .u64 F,.string ⟨#[]⟩,.slice none 0 0] 76 (0,0))))
   case first=>
    rcases HX.out with⟨hs,hi,rfl,rfl,hb⟩|⟨hs,hi,rfl,rfl,hb⟩|⟨hs,rfl,rfl,G,rfl,hG1,hG2,hG3,hG4⟩
    ·have hbt:(bits=32/\ -2147483648<=I/\I<2147483648)∨(bits=64/\ -9223372036854775808<=I/\I<9223372036854775808):=by
      rcases hb with⟨h1,h2⟩|⟨h1,h2⟩
      ·exact .inl ⟨by rw[TM.out];unfold bitsOf;rw[if_pos h1],h2⟩
      ·exact .inr ⟨by rw[TM.out];unfold bitsOf;rw[h1];rfl,h2⟩
     have d2:(aT kind==2)=true:=kZ hs;have HJ:=ah (fun w:World=>Fp x I hi s Bg.out kQ.out bits hbt w);clear hs
     go_wp2_with (first|(go_at_call 42;(with_reducible refine(bH _ _).mono ?_);rintro e w6⟨rfl,rfl⟩)|(go_at_call 185;(with_reducible refine(HJ.out _).mono ?_);rintro e w6⟨rfl,hb⟩;have HB6:=ah hb;have hx6:=aI HX5.out hb;obtain⟨⟨a0,a1,a2,a3,a4,a5⟩,b0,b1,b2,b3,b4,b5⟩:=eu hx6;clear hb))
     go_meet
     exact⟨rfl,⟨Io HR5.out.1 HR5.out.2 HB6.out HQ.out HW0.out (Nat.le_trans HK1.out.1 HC.out.2.1) HC.out.2.1 1 _,(aW hx6 1 _).trans rfl⟩⟩
    ·have hbt:(bits=32/\0<=U/\U<4294967296)∨(bits=64/\0<=U/\U<18446744073709551616):=by
      rcases hb with⟨h1,h2⟩|⟨h1,h2⟩
      ·exact .inl ⟨by rw[TM.out];unfold bitsOf;rw[if_pos h1],h2⟩
      ·exact .inr ⟨by rw[TM.out];unfold bitsOf;rw[h1];rfl,h2⟩
     have d2:(aT kind==2)=false:=eqF (by omega);have d3:(aT kind==3)=true:=kZ hs;have HJ:=ah (fun w:World=>Ov x U hi s Bg.out kQ.out bits hbt w);clear hs
     go_wp2_with (first|(go_at_call 42;(with_reducible refine(bH _ _).mono ?_);rintro e w6⟨rfl,rfl⟩)|(go_at_call 187;(with_reducible refine(HJ.out _).mono ?_);rintro e w6⟨rfl,hb⟩;have HB6:=ah hb;have hx6:=aI HX5.out hb;obtain⟨⟨a0,a1,a2,a3,a4,a5⟩,b0,b1,b2,b3,b4,b5⟩:=eu hx6;clear hb))
     go_meet
     exact⟨rfl,⟨Io HR5.out.1 HR5.out.2 HB6.out HQ.out HW0.out (Nat.le_trans HK1.out.1 HC.out.2.1) HC.out.2.1 2 _,(aW hx6 2 _).trans rfl⟩⟩
    ·have hfk:Il bits (Rw kind) G:=by
      unfold Il Rw;rw[TM.out];unfold bitsOf;cases hn:dQ kind
      ·exact .inl ⟨rfl,rfl⟩
      ·exact .inr ⟨rfl,rfl,hG4 hn⟩
     have d2:(aT kind==2)=false:=eqF (by omega);have d3:(aT kind==3)=false:=eqF (by omega);have HJ:=ah (fun w:World=>KX x bits (Rw kind) G hG1 hG2 hfk hG3 s Bg.out kQ.out w);clear hs
     go_wp2_with (first|(go_at_call 42;(with_reducible refine(bH _ _).mono ?_);rintro e w6⟨rfl,rfl⟩)|(go_at_call 188;(with_reducible refine(HJ.out _).mono ?_);rintro e w6⟨rfl,hb⟩;have HB6:=ah hb;have hx6:=aI HX5.out hb;obtain⟨⟨a0,a1,a2,a3,a4,a5⟩,b0,b1,b2,b3,b4,b5⟩:=eu hx6;clear hb))
     go_meet
     exact⟨rfl,⟨Io HR5.out.1 HR5.out.2 HB6.out HQ.out HW0.out (Nat.le_trans HK1.out.1 HC.out.2.1) HC.out.2.1 3 _,(aW hx6 3 _).trans rfl⟩⟩
   case rest=>
    obtain⟨rfl,HF⟩:=hcut
    go_upto_region 25 with(go_at_call 26;(with_reducible refine(Bq w0 _ q S A0 c0 A1 c1 At cT L (a+1) HF.out.1.1).mono ?_);rintro e' w9⟨rfl,hr,hk⟩;have HR9:=ah (And.intro hr (HF.out.1.2.trans hk (.inl rfl)));have hx9:=hk.blk HF.out.2 (by have:=HQ.out;have:=HK1.out.1;have:=HC.out.2.1;omega) (by simp);clear hr hk)
    have z0:=uN.out _ HR9.out.2;have hq:=HQ.out;obtain⟨⟨q0,q1,q2,q3,q4,q5⟩,f0,f1,f2,f3,f4,f5⟩:=eu z0;obtain⟨⟨p0,p1,p2,p3,p4,p5⟩,g0,g1,g2,g3,g4,g5⟩:=eu hx9;go_wp2;refine bodyPost_ret (results_cell_row rfl _ _ W.heap.size _ _ _ _ rfl (iJ z0 rfl) Tryz.underlying76 rfl (by kernel_rfl)) rfl ?_;exact⟨rfl,Dz HR9.out.1 (HK1.out.trans HR9.out.2 (.inl rfl)) hq (Nat.le_refl _) rfl⟩
theorem DJ(kind:Int)(h4:aT kind=4)(wd:ByteArray)(F:Int)(raw:ByteArray)(b:Bool)(hT:lI L a [⟨16,raw,wd,b⟩])(hJ:∀w,Calls Tryz.prog 186 #[.string wd] w fun e w'=>e= .returned (.int .u64 F)/\w=w')
 (hw:(wd.toList==[78,97,78])=true∨((wd.toList==[78,97,78])=false/\(wd.toList==[73,110,102,105,110,105,116,121])=true)∨((wd.toList==[78,97,78])=false/\(wd.toList==[73,110,102,105,110,105,116,121])=false/\(wd.toList==[45,73,110,102,105,110,105,116,121])=true)):
 Calls Tryz.prog 149 #[.pointer (some ⟨q,0,none⟩),.int .i64 kind] W fun e w'=>e= .returned (.agg #[.bool false,.int .i64 0,.int .u64 0,.int .u64 F,.string ⟨#[]⟩,.slice none 0 0])/\RS w0 w' q S A0 c0 A1 c1 At cT L (a+1)/\aH W w' q none:=by
 obtain⟨u,hu,hut,_⟩:=hT.head;have hk16:u.kind=16:=congrArg TK.kind hut;have hstr:u.str=wd:=congrArg TK.str hut;have yM:=bJ hR.blk;obtain⟨W1,hW1⟩:∃W1,W1=W.alloc xI:=⟨_,rfl⟩
 obtain⟨hR1,hk1,hz1⟩:=hR.boxed (aH.refl W q none) hW1;have HQ:=ah yM;have HW1:=ah hW1;have HK1:=ah hk1;have uN:=ah (fun(w2:World)(hk:aH W1 w2 q none)=>hk.blk hz1 (Nat.ne_of_gt yM) (by simp));have Eb:=ah (qA w0 W1 q S A0 c0 A1 c1 At cT L a hR1 u hu.out 16 hk16);have oC:=ah (fun Wx(hb:Below W1.heap.size W1 Wx)=>lJ w0 Wx q S A0 c0 A1 c1 At cT L a (hR1.below hb) u hu.out 16 hk16);have wQ:=ah hstr;have HJ:=ah hJ;have HW:=ah hw;have d4:(aT kind==4)=true:=kZ h4;clear hR yM hW1 hk1 hz1 hR1 hT hut hk16 hstr hJ hw h4;go_enter Tryz.func149,Tryz.ntmps149
 go_upto_region 1 with fail
 rw[<-HW1.out]
 go_upto_region 4 with(first|(go_at_call 55;(with_reducible refine Eb.out.mono ?_);rintro e' w1⟨rfl,hb⟩;have HB1:=ah hb;clear hb)|(go_at_call 54;(with_reducible refine(oC.out _ HB1.out).mono ?_);rintro e' w2⟨rfl,hr,hk⟩;have HR2:=ah hr;have HK2:=ah ((aH.of_below HB1.out q none).trans hk (.inl rfl));clear hr hk))
 obtain⟨w3,h3⟩:∃w3,w3=w2.alloc (.cells #[.int .i64 u.kind,.int .i64 u.pos,.string u.raw,.string u.str,.bool u.boo] 39):=⟨_,rfl⟩
 rw[<-h3];obtain⟨hR3,hk3,hx3⟩:=HR2.out.boxed HK2.out h3;have cs:w3.cell? ⟨w2.heap.size,3,none⟩=some (.string wd):=by rw[<-wQ.out];exact(aA hx3 3).trans rfl
 have HR3:=ah (And.intro hR3 hk3);have z0:=uN.out _ hk3;obtain⟨⟨q0,q1,q2,q3,q4,q5⟩,f0,f1,f2,f3,f4,f5⟩:=eu z0;have hq:=HQ.out;clear hR3 hk3 hx3 h3;rcases HW.out with n1|⟨n1,n2⟩|⟨n1,n2,n3⟩
 all_goals
  go_wp2_with (first|(go_at_call 42;(with_reducible refine(bH _ _).mono ?_);rintro e' w5⟨rfl,rfl⟩)|(go_at_call 186;(with_reducible refine(HJ.out _).mono ?_);rintro e' w5⟨rfl,rfl⟩))
  refine bodyPost_ret (results_cell_row rfl _ _ W.heap.size _ _ _ _ rfl (iJ z0 rfl) Tryz.underlying76 rfl (by kernel_rfl)) rfl ?_;exact⟨rfl,Dz HR3.out.1 (HK1.out.trans HR3.out.2 (.inl rfl)) hq (Nat.le_refl _) rfl⟩
theorem Xo(t:FT)(h4:aT t.kind=4)(F:Int)(h0:0<=F)(h1:F<18446744073709551616)(hS:dQ t.kind=true->Short F.toNat)(ts:List TK)(hT:lI L a ts)(hF:PU t.kind F ts):
 Calls Tryz.prog 149 #[.pointer (some ⟨q,0,none⟩),.int .i64 t.kind] W fun e w'=>e= .returned (.agg #[.bool false,.int .i64 0,.int .u64 0,.int .u64 (yH F),.string ⟨#[]⟩,.slice none 0 0])/\RS w0 w' q S A0 c0 A1 c1 At cT L (a+ts.length)/\aH W w' q none:=by
 rcases hF with⟨raw,b,hf,rfl⟩|⟨raw,b,hf,rfl⟩|⟨raw,b,hf,rfl⟩|⟨hf,x,hN,hx⟩
 ·rw[show yH F=9218868437227405312 by rw[hf];decide]
  exact DJ w0 W q S A0 c0 A1 c1 At cT L a hR t.kind h4 _ _ raw b hT Ia (.inr (.inl ⟨by rw[toList_eq];rfl,by rw[toList_eq];rfl⟩))
 ·rw[show yH F=18442240474082181120 by rw[hf];decide]
  exact DJ w0 W q S A0 c0 A1 c1 At cT L a hR t.kind h4 _ _ raw b hT Ib (.inr (.inr ⟨by rw[toList_eq];rfl,by rw[toList_eq];rfl,by rw[toList_eq];rfl⟩))
 ·rw[show yH F=9221120237041090561 by unfold yH;rw[if_pos (Xn h0 h1 hf)]]
  exact DJ w0 W q S A0 c0 A1 c1 At cT L a hR t.kind h4 _ _ raw b hT Hz (.inl (by rw[toList_eq];rfl))
 ·rw[show yH F=F by unfold yH;rw[if_neg (ZC h0 h1 hf)]]
  obtain⟨tk,e,_⟩:=hN.one;rw[show ts.length=1 by rw[e];rfl];have hFt:F=((F.toNat:Nat):Int):=by omega
  exact DI w0 W q S A0 c0 A1 c1 At cT L a hR t.kind x 0 0 F ts hT hN (.inr (.inr ⟨h4,rfl,rfl,F.toNat,hFt,by omega,by omega,hx,hS⟩))
end
theorem SS(alt:Bool){v:Int}(h0:0<=v)(h1:v<64):0<=fU alt v/\fU alt v<=255:=by
 unfold fU;cases alt<;>simp<;>(repeat' split)<;>omega
inductive D64:Nat->Int->List Int->List Int->Prop
 |nil (n:Nat):D64 n 0 [] []
 |s0 {k:Int} {l o:List Int} (hk:0<=k/\k<64) (h:D64 6 k l o):D64 0 0 (k::l) o
 |s6 {b k:Int} {l o:List Int} (hb:0<=b/\b<64) (hk:0<=k/\k<64) (h:D64 4 ((b*64+k)%16) l o):D64 6 b (k::l) ((b*64+k)/16::o)
 |s4 {b k:Int} {l o:List Int} (hb:0<=b/\b<16) (hk:0<=k/\k<64) (h:D64 2 ((b*64+k)%4) l o):D64 4 b (k::l) ((b*64+k)/4::o)
 |s2 {b k:Int} {l o:List Int} (hb:0<=b/\b<4) (hk:0<=k/\k<64) (h:D64 0 0 l o):D64 2 b (k::l) ((b*64+k)::o)
theorem La(alt:Bool):∀l:List Int,(∀x∈l,0<=x/\x<=255)->∃vs,b64 alt l=vs.map (fU alt)/\(∀v∈vs,0<=v/\v<64)/\D64 0 0 vs l
 |[],_=>⟨[],rfl,fun _ h=>absurd h List.not_mem_nil,.nil 0⟩
 |[x],h=>by
  have hx:=h x (by simp);refine⟨[x/4,x%4*16],rfl,fun v hv=>by simp at hv;omega,.s0 (by omega) ?_⟩;have h1:=D64.s6 (b:=x/4) (k:=x%4*16) (l:=[]) (o:=[]) (by omega) (by omega) (by rw[show(x/4*64+x%4*16)%16=0 by omega];exact .nil 4)
  rwa [show(x/4*64+x%4*16)/16=x by omega]at h1
 |[x,y],h=>by
  have hx:=h x (by simp);have hy:=h y (by simp);refine⟨[x/4,x%4*16+y/16,y%16*4],rfl,fun v hv=>by simp at hv;omega,.s0 (by omega) ?_⟩;have h0:=D64.s4 (b:=y/16%16) (k:=y%16*4) (l:=[]) (o:=[]) (by omega) (by omega) (by rw[show(y/16%16*64+y%16*4)%4=0 by omega];exact .nil 2);rw[show(y/16%16*64+y%16*4)/4=y by omega]at h0;have h1:=D64.s6 (b:=x/4) (k:=x%4*16+y/16) (l:=[y%16*4]) (o:=[y]) (by omega) (by omega) (by rw[show(x/4*64+(x%4*16+y/16))%16=y/16%16 by omega];exact h0)
  rwa [show(x/4*64+(x%4*16+y/16))/16=x by omega]at h1
 |x::y::z::l,h=>by
  have hx:=h x (by simp);have hy:=h y (by simp);have hz:=h z (by simp);obtain⟨vs,e,hr,hd⟩:=La alt l (fun c hc=>h c (by simp[hc]));refine⟨x/4::(x%4*16+y/16)::(y%16*4+z/64)::(z%64)::vs,by simp only[b64,List.map_cons,e],fun v hv=>?_,.s0 (by omega) ?_⟩
  ·simp only[List.mem_cons]at hv
   rcases hv with rfl|rfl|rfl|rfl|hv
   ·omega
   ·omega
   ·omega
   ·omega
   ·exact hr v hv
  have h2:=D64.s2 (b:=z/64%4) (k:=z%64) (by omega) (by omega) hd;rw[show z/64%4*64+z%64=z by omega]at h2;have h0:=D64.s4 (b:=y/16%16) (k:=y%16*4+z/64) (l:=z%64::vs) (o:=z::l) (by omega) (by omega) (by rw[show(y/16%16*64+(y%16*4+z/64))%4=z/64%4 by omega];exact h2);rw[show(y/16%16*64+(y%16*4+z/64))/4=y by omega]at h0;have h1:=D64.s6 (b:=x/4) (k:=x%4*16+y/16) (l:=(y%16*4+z/64)::z%64::vs) (o:=y::z::l) (by omega) (by omega) (by rw[show(x/4*64+(x%4*16+y/16))%16=y/16%16 by omega];exact h0)
  rwa [show(x/4*64+(x%4*16+y/16))/16=x by omega]at h1
theorem SV{x s:ByteArray}(h:zV x s):∃(alt:Bool)(vs:List Int)(p:Nat),bytesOf x=vs.map (fU alt)++List.replicate p 61/\(∀v∈vs,0<=v/\v<64)/\D64 0 0 vs (bytesOf s)/\vs.length<=2*s.size/\vs.length%4≠1/\(p=0∨(p<=2/\(vs.length+p)%4=0)):=by
 obtain⟨alt,h⟩:=h;obtain⟨vs,e,hr,hd⟩:=La alt (bytesOf s) (gV s);have hl:=Bj alt (bytesOf s);rw[e,List.length_map,bytesOf_length]at hl
 have hv:∀c∈vs.map (fU alt),0<=c/\c<=255:=fun c hc=>by
  obtain⟨v,h1,rfl⟩:=List.mem_map.1 hc;exact SS alt (hr v h1).1 (hr v h1).2
 rcases h with h|h
 ·refine⟨alt,vs,0,?_,hr,hd,hl.1,by omega,.inl rfl⟩
  rw[h,e,fO _ hv];simp
 ·refine⟨alt,vs,(4-vs.length%4)%4,?_,hr,hd,hl.1,by omega,by omega⟩
  rw[h,e,List.length_map,fO];intro c hc;rcases List.mem_append.1 hc with hc|hc
  ·exact hv c hc
  ·rw[List.eq_of_mem_replicate hc];omega
theorem SX(alt:Bool)(v:Int)(h0:0<=v)(h1:v<64)(w:World):Calls Tryz.prog 183 #[.int .u8 (fU alt v)] w fun e w'=>e= .returned (.int .i64 v)/\w=w':=by
 by_cases c1:v<26
 ·have e:fU alt v=65+v:=by unfold fU;rw[if_pos c1]
  rw[e];have HU:=ah (show isUpperB (65+v)=true by unfold isUpperB;simp;omega);have e1:IntKind.u8.wrap (65+v-65)=v:=by rw[IntKind.wrap_u8];omega
  have e2:(65+v-65)%256=v:=by omega
  have e3:IntKind.i64.wrap v=v:=by rw[IntKind.wrap_i64];omega
  have e4:wrap64 v=v:=by unfold wrap64;omega
  clear e h0 h1 c1;go_enter Tryz.func183,Tryz.ntmps183
  go_wp2_with (go_at_call 214;(with_reducible refine(vU _ _).mono ?_);rw[HU.out];rintro e' w1⟨rfl,rfl⟩)
  go_ret
  exact⟨rfl,rfl⟩
 ·by_cases c2:v<52
  ·have e:fU alt v=71+v:=by unfold fU;rw[if_neg c1,if_pos c2]
   rw[e];have HU:=ah (show isUpperB (71+v)=false by unfold isUpperB;simp;omega);have HL:=ah (show Aq (71+v)=true by unfold Aq;simp;omega);have e1:IntKind.u8.wrap (71+v-97)=v-26:=by rw[IntKind.wrap_u8];omega
   have e2:(71+v-97)%256=v-26:=by omega
   have e3:IntKind.i64.wrap (v-26)=v-26:=by rw[IntKind.wrap_i64];omega
   have e4:wrap64 (v-26)=v-26:=by unfold wrap64;omega
   have e5:IntKind.i64.wrap (v-26+26)=v:=by rw[IntKind.wrap_i64];omega
   have e6:wrap64 (v-26+26)=v:=by unfold wrap64;omega
   clear e h0 h1 c1 c2;go_enter Tryz.func183,Tryz.ntmps183
   go_wp2_with (first|(go_at_call 214;(with_reducible refine(vU _ _).mono ?_);rw[HU.out];rintro e' w1⟨rfl,rfl⟩)|(go_at_call 135;(with_reducible refine(rU _ _).mono ?_);rw[HL.out];rintro e' w1⟨rfl,rfl⟩))
   go_ret
   exact⟨rfl,rfl⟩
  ·by_cases c3:v<62
   ·have e:fU alt v=v-4:=by unfold fU;rw[if_neg c1,if_neg c2,if_pos c3]
    rw[e];have HU:=ah (show isUpperB (v-4)=false by unfold isUpperB;simp;omega);have HL:=ah (show Aq (v-4)=false by unfold Aq;simp;omega);have HD:=ah (show dV (v-4)=true by unfold dV;simp;omega);have e1:IntKind.u8.wrap (v-4-48)=v-52:=by rw[IntKind.wrap_u8];omega
    have e2:(v-4-48)%256=v-52:=by omega
    have e3:IntKind.i64.wrap (v-52)=v-52:=by rw[IntKind.wrap_i64];omega
    have e4:wrap64 (v-52)=v-52:=by unfold wrap64;omega
    have e5:IntKind.i64.wrap (v-52+52)=v:=by rw[IntKind.wrap_i64];omega
    have e6:wrap64 (v-52+52)=v:=by unfold wrap64;omega
    clear e h0 h1 c1 c2 c3;go_enter Tryz.func183,Tryz.ntmps183
    go_wp2_with (first|(go_at_call 214;(with_reducible refine(vU _ _).mono ?_);rw[HU.out];rintro e' w1⟨rfl,rfl⟩)|(go_at_call 135;(with_reducible refine(rU _ _).mono ?_);rw[HL.out];rintro e' w1⟨rfl,rfl⟩)|(go_at_call 137;(with_reducible refine(dZ _ _).mono ?_);rw[HD.out];rintro e' w1⟨rfl,rfl⟩))
    go_ret
    exact⟨rfl,rfl⟩
   ·have hv:v=62∨v=63:=by omega
    clear c1 c2 c3 h0 h1;rcases hv with rfl|rfl<;>cases alt
    all_goals
     simp only[fU,reduceIte,Bool.false_eq_true];go_enter Tryz.func183,Tryz.ntmps183
     go_wp2_with (first|(go_at_call 214;(with_reducible refine(vU _ _).mono ?_);rintro e' w1⟨rfl,rfl⟩;rw[show isUpperB _=false from rfl])|(go_at_call 135;(with_reducible refine(rU _ _).mono ?_);rintro e' w1⟨rfl,rfl⟩;rw[show Aq _=false from rfl])|(go_at_call 137;(with_reducible refine(dZ _ _).mono ?_);rintro e' w1⟨rfl,rfl⟩;rw[show dV _=false from rfl]))
     go_ret
     exact⟨rfl,rfl⟩
theorem D64.head{n:Nat}{b v:Int}{vs o:List Int}(h:D64 n b (v::vs) o):0<=v/\v<64:=by
 cases h<;>assumption
theorem D64.len{n:Nat}{b:Int}{vs o:List Int}(h:D64 n b vs o):o.length<=vs.length:=by
 induction h with
 |nil=>simp
 |s0 _ _ ih=>simp;omega
 |s6 _ _ _ ih=>simp;omega
 |s4 _ _ _ ih=>simp;omega
 |s2 _ _ _ ih=>simp;omega
theorem SY(alt:Bool){v:Int}(h0:0<=v)(h1:v<64):(fU alt v=43∨fU alt v=47->alt=false)/\(fU alt v=45∨fU alt v=95->alt=true):=by
 unfold fU;cases alt<;>simp<;>(repeat' split)<;>omega
structure Fl64(alt us ot:Bool):Prop where
 u:us=true->alt=false
 o:ot=true->alt=true
theorem Fl64.no{alt us ot:Bool}(h:Fl64 alt us ot):us=false∨ot=false:=by
 cases us with
 |false=>exact .inl rfl
 |true=>
  right
  cases ot with
  |false=>rfl
  |true=>rw[h.u rfl]at h;exact absurd (h.o rfl) (by decide)
theorem Xp(x s:ByteArray)(h:zV x s)(hs:s.size<=1000000)(w:World):
 Calls Tryz.prog 147 #[.string x] w fun e w'=>∃v1,e= .returned (.tuple #[v1,.int .i64 1])/\OwnB w' w.heap.size v1 (bytesOf s)/\Below w.heap.size w w':=by
 obtain⟨alt,vs,p,hx,hr,hd,hvl,hm4,hp⟩:=SV h;obtain⟨vl,Tc⟩:∃vl,vl=vs.length:=⟨_,rfl⟩
 rw[<-Tc]at hvl hm4 hp;have hsz:x.size=vl+p:=by rw[<-bytesOf_length,hx,List.length_append,List.length_map,List.length_replicate,Tc]
 have HAt:=ah (show∀(i:Nat)(v:Int),vs[i]? =some v->bt x (i:Int)=fU alt v from fun i v hi=>by
  have hlt:=(List.getElem?_eq_some_iff.1 hi).1;rw[<-lu,hx];unfold rd;rw[Int.toNat_natCast,List.getD_eq_getElem?_getD,List.getElem?_append_left (by rw[List.length_map];exact hlt),List.getElem?_map,hi]
  rfl)
 have aft:=ah (show∀i:Nat,vl<=i->i<vl+p->bt x (i:Int)=61 from fun i h1 h2=>by
  rw[<-lu,hx];unfold rd;rw[Int.toNat_natCast,List.getD_eq_getElem?_getD,List.getElem?_append_right (by rw[List.length_map,<-Tc];exact h1),List.length_map,<-Tc,List.getElem?_replicate,if_pos (by omega)]
  rfl)
 have HR:=ah hr;have HD:=ah hd;have HVL:=ah hvl;have HM:=ah hm4;have HP:=ah hp;have HVE:=ah Tc;have kQ:=ah hsz;have HS:=ah hs;clear h hx hr hd hvl hm4 hp Tc hsz hs;go_enter Tryz.func147,Tryz.ntmps147
 go_upto_block 0 with fail
 go_cut [4] (fun s4 wx=>s4= .int .i64 (vl:Int)/\w=wx)
 case first=>
  go_wp2
  go_loopg [4] p (fun g v4 w'=>∃n:Nat,v4= .int .i64 n/\n=vl+g/\g<=p/\w=w')
  case atStart=>exact⟨x.size,rfl,kQ.out,Nat.le_refl _,rfl⟩
  case round=>
   obtain⟨n,rfl,hn,UG,rfl⟩:=hrel;have hpv:=HP.out;have hv:=HVL.out;have hss:=HS.out;have hz:=kQ.out;cases gk with
   |zero=>
    by_cases hv0:vl=0
    ·obtain rfl:n=0:=by omega
     have HV0:=ah hv0;clear hpv hv hss hz hn UG hv0;go_wp2
     go_meet
     exact⟨by rw[HV0.out],rfl⟩
    ·obtain rfl:n=vl:=by omega
     obtain⟨v,hvv⟩:=bF (show n-1<vs.length by have:=HVE.out;omega);have hb:=jX x ((n-1:Nat):Int);rw[Int.toNat_natCast,HAt.out _ _ hvv.out]at hb;have hc61:=jQ alt (HR.out v (List.mem_of_getElem? hvv.out)).1 (HR.out v (List.mem_of_getElem? hvv.out)).2;obtain⟨c,hc⟩:∃c,c=fU alt v:=⟨_,rfl⟩
     rw[<-hc]at hb hc61;have d61:(c==61)=false:=eqF hc61;have d0:decide ((0:Int)<(n:Int))=true:=bZ (by omega);have d1:decide (0<n)=true:=bZ (by omega);have p0:0<n:=by omega
     have e1:IntKind.i64.wrap ((n:Int)-1)=((n-1:Nat):Int):=by rw[IntKind.wrap_i64];omega
     have e2:wrap64 ((n:Int)-1)=((n-1:Nat):Int):=by unfold wrap64;omega
     have i0:(0:Int)<=((n-1:Nat):Int):=by omega
     have i1:((n-1:Nat):Int)<(x.size:Int):=by omega
     have i2:n-1<x.size:=by omega
     clear hpv hv hss hz hc hc61 hv0 hn UG;go_wp2
     go_meet
     exact⟨rfl,rfl⟩
   |succ g=>
    have hb:=jX x ((n-1:Nat):Int);rw[Int.toNat_natCast,aft.out (n-1) (by omega) (by omega)]at hb;have d0:decide ((0:Int)<(n:Int))=true:=bZ (by omega);have d1:decide (0<n)=true:=bZ (by omega);have p0:0<n:=by omega
    have e1:IntKind.i64.wrap ((n:Int)-1)=((n-1:Nat):Int):=by rw[IntKind.wrap_i64];omega
    have e2:wrap64 ((n:Int)-1)=((n-1:Nat):Int):=by unfold wrap64;omega
    have i0:(0:Int)<=((n-1:Nat):Int):=by omega
    have i1:((n-1:Nat):Int)<(x.size:Int):=by omega
    have i2:n-1<x.size:=by omega
    have HG:=ah (And.intro hn UG);clear hpv hv hss hz hn UG;go_wp2
    go_roundg g
    case measure=>omega
    case rel=>exact⟨n-1,rfl,by have:=HG.out;omega,by have:=HG.out;omega,rfl⟩
 case rest=>
  obtain⟨rfl,rfl⟩:=hcut;clear aft;go_wp2
  go_loopg [5,6,7,8,9,10,11,12] vl (fun g v5 v6 v7 v8 v9 v10 v11 v12 w'=>∃(i n:Nat)(b:Int)(us ot:Bool)(out o:List Int),v10= .int .i64 i/\v7= .int .i64 n/\v6= .int .i64 b/\v8= .bool us/\v9= .bool ot/\i+g=vl/\aC (out++o=bytesOf s)/\aC (D64 n b (vs.drop i) o)/\aC (Fl64 alt us ot)/\aC (OwnB w' w.heap.size v5 out)/\aC (Below w.heap.size w w'))
  case atStart=>exact⟨0,0,0,false,false,[],bytesOf s,rfl,rfl,rfl,rfl,rfl,by omega,⟨rfl⟩,HD,⟨⟨fun h=>(by cases h),fun h=>(by cases h)⟩⟩,⟨Kd.mP _ _ _ _ _⟩,⟨bg _ _⟩⟩
  case round=>
   obtain⟨i,n,b,us,ot,out,o,rfl,rfl,rfl,rfl,rfl,hg,HE,HDi,EJ,HO,HB⟩:=hrel;cases gk with
   |succ g=>
    obtain⟨v,hvv⟩:=bF (show i<vs.length by have:=HVE.out;omega);have VT:=HR.out v (List.mem_of_getElem? hvv.out);have Um:=ah (SX alt v VT.1 VT.2);have hb:=jX x (i:Int);rw[Int.toNat_natCast,HAt.out _ _ hvv.out]at hb;obtain⟨c,hc⟩:∃c,c=fU alt v:=⟨_,rfl⟩
    rw[<-hc]at hb Um;have Nu:=ah (SY alt VT.1 VT.2);rw[<-hc]at Nu;have HVr:=ah VT;have d0:decide ((i:Int)<(vl:Int))=true:=bZ (by omega);have d1:decide (i<vl)=true:=bZ (by omega);have p0:i<vl:=by omega
    have p1:(i:Int)<(vl:Int):=by omega
    have i0:(0:Int)<=(i:Int):=by omega
    have i1:(i:Int)<(x.size:Int):=by have:=kQ.out;omega
    have i2:i<x.size:=by have:=kQ.out;omega
    have dv:decide (v<0)=false:=bY (by omega);have e1:IntKind.i64.wrap ((i:Int)+1)=(i:Int)+1:=by rw[IntKind.wrap_i64];have:=HVL.out;have:=HS.out;omega
    have e2:wrap64 ((i:Int)+1)=(i:Int)+1:=by have:=HVL.out;have:=HS.out;unfold wrap64;omega
    have HG:=ah hg
    have HDn:=ah (show D64 n b (v::vs.drop (i+1)) o by
     have h1:=HDi.out;obtain⟨h2,h3⟩:=List.getElem?_eq_some_iff.1 hvv.out
     rwa [List.drop_eq_getElem_cons h2,h3]at h1)
    clear hc VT hg hvv HDi
    go_upto_region 16 with(go_at_call 183;(with_reducible refine(Um.out _).mono ?_);rintro e w1⟨rfl,rfl⟩)
    go_cut [8] (fun s8 wx=>∃us':Bool,s8= .bool us'/\aC (Fl64 alt us' ot)/\wr=wx)
    case first=>
     cases us
     ·by_cases h1:c=43
      ·have q1:(c==43)=true:=kZ h1
       have HF:=ah (show Fl64 alt true ot from⟨fun _=>Nu.out.1 (.inl h1),EJ.out.o⟩);clear h1;go_wp2
       go_meet
       exact⟨true,rfl,HF,rfl⟩
      ·have q1:(c==43)=false:=eqF h1
       by_cases h2:c=47
       ·have q2:(c==47)=true:=kZ h2
        have HF:=ah (show Fl64 alt true ot from⟨fun _=>Nu.out.1 (.inr h2),EJ.out.o⟩);clear h1 h2;go_wp2
        go_meet
        exact⟨true,rfl,HF,rfl⟩
       ·have q2:(c==47)=false:=eqF h2
        clear h1 h2;go_wp2
        go_meet
        exact⟨false,rfl,EJ,rfl⟩
     ·go_wp2
      go_meet
      exact⟨true,rfl,EJ,rfl⟩
    case rest=>
     obtain⟨us',rfl,HFl2,rfl⟩:=hcut
     go_upto_region 17 with fail
     go_cut [9] (fun s9 wx=>∃ot':Bool,s9= .bool ot'/\aC (Fl64 alt us' ot')/\wr=wx)
     case first=>
      cases ot
      ·by_cases h1:c=45
       ·have q1:(c==45)=true:=kZ h1
        have HF:=ah (show Fl64 alt us' true from⟨HFl2.out.u,fun _=>Nu.out.2 (.inl h1)⟩);clear h1;go_wp2
        go_meet
        exact⟨true,rfl,HF,rfl⟩
       ·have q1:(c==45)=false:=eqF h1
        by_cases h2:c=95
        ·have q2:(c==95)=true:=kZ h2
         have HF:=ah (show Fl64 alt us' true from⟨HFl2.out.u,fun _=>Nu.out.2 (.inr h2)⟩);clear h1 h2;go_wp2
         go_meet
         exact⟨true,rfl,HF,rfl⟩
        ·have q2:(c==95)=false:=eqF h2
         clear h1 h2;go_wp2
         go_meet
         exact⟨false,rfl,HFl2,rfl⟩
      ·go_wp2
       go_meet
       exact⟨true,rfl,HFl2,rfl⟩
     case rest=>
      obtain⟨ot',rfl,HFl3,rfl⟩:=hcut;have HO3:=HO;have hlo:out.length<=2000000:=by have:=congrArg List.length HE.out;rw[List.length_append,bytesOf_length]at this;have:=HS.out;omega
      have HLo:=ah hlo;obtain⟨Lr,hLr⟩:∃Lr,Lr=vs.drop (i+1):=⟨_,rfl⟩
      have hDn:=HDn.out;rw[<-hLr]at hDn;have HLr:=ah hLr;clear hb i0 i1 i2 d0 d1 p0 p1 dv HDn HAt hlo hLr;cases hDn with
      |s0 hk' h'=>
       have o1:bits .or .i64 0 v=v:=by have:=or64 6 (by decide) (x:=0) (y:=v) (by decide) (by decide) (by decide) hk'.1 hk'.2;rwa [Int.zero_add]at this
       have HD2:=ah h';clear hk' h' HLo;go_wp2
       go_roundg g
       case measure=>omega
       case rel=>exact⟨i+1,6,v,us',ot',out,o,by go_num,by go_num,rfl,rfl,rfl,by have:=HG.out;omega,HE,⟨by rw[<-HLr.out];exact HD2.out⟩,HFl3,HO,HB⟩
      |s6 hb' hk' h'=>
       have s1:shl .i64 b 6=b*64:=by show IntKind.i64.wrap (b*64)=_;rw[IntKind.wrap_i64];omega
       have s2:wrap64 (b*64)=b*64:=by unfold wrap64;omega
       have s3:IntKind.i64.wrap (b*64)=b*64:=by rw[IntKind.wrap_i64];omega
       have o1:bits .or .i64 (b*64) v=b*64+v:=or64 6 (by decide) (by omega) (by omega) (by omega) hk'.1 hk'.2;obtain⟨X,hX⟩:∃X,X=b*64+v:=⟨_,rfl⟩
       have hX0:0<=X/\X<4096:=by omega
       rw[<-hX]at o1 h';have e3:IntKind.u8.wrap (X/16)=X/16:=by rw[IntKind.wrap_u8];omega
       have e4:X/16%256=X/16:=by omega
       have e5:bits .and .i64 X 15=X%16:=and64 4 (by decide) hX0.1 (by omega);have HD2:=ah h';have RX:=ah hX;clear hk' hb' h' hX hX0
       go_wp2_with (at_builtin;refine rJ (w0:=w) rfl (.tmp 77) (.tmp 82) rfl (xs:=out) (X/16) rfl rfl ?aO ?aB (by have:=HLo.out;omega) ?_;(case aO=>exact HO.out);(case aB=>exact HB.out);intro v1 w1 ho hb hg;have HO1:=ah ho;have HB1:=ah hb;clear ho hb hg)
       go_roundg g
       case measure=>omega
       case rel=>exact⟨i+1,4,X%16,us',ot',out++[X/16],_,by go_num,by go_num,rfl,rfl,rfl,by have:=HG.out;omega,⟨by rw[RX.out,List.append_assoc];exact HE.out⟩,⟨by rw[<-HLr.out];exact HD2.out⟩,HFl3,HO1,HB1⟩
      |s4 hb' hk' h'=>
       have s1:shl .i64 b 6=b*64:=by show IntKind.i64.wrap (b*64)=_;rw[IntKind.wrap_i64];omega
       have s2:wrap64 (b*64)=b*64:=by unfold wrap64;omega
       have s3:IntKind.i64.wrap (b*64)=b*64:=by rw[IntKind.wrap_i64];omega
       have o1:bits .or .i64 (b*64) v=b*64+v:=or64 6 (by decide) (by omega) (by omega) (by omega) hk'.1 hk'.2;obtain⟨X,hX⟩:∃X,X=b*64+v:=⟨_,rfl⟩
       have hX0:0<=X/\X<1024:=by omega
       rw[<-hX]at o1 h';have e3:IntKind.u8.wrap (X/4)=X/4:=by rw[IntKind.wrap_u8];omega
       have e4:X/4%256=X/4:=by omega
       have e5:bits .and .i64 X 3=X%4:=and64 2 (by decide) hX0.1 (by omega);have HD2:=ah h';have RX:=ah hX;clear hk' hb' h' hX hX0
       go_wp2_with (at_builtin;refine rJ (w0:=w) rfl (.tmp 77) (.tmp 82) rfl (xs:=out) (X/4) rfl rfl ?aO ?aB (by have:=HLo.out;omega) ?_;(case aO=>exact HO.out);(case aB=>exact HB.out);intro v1 w1 ho hb hg;have HO1:=ah ho;have HB1:=ah hb;clear ho hb hg)
       go_roundg g
       case measure=>omega
       case rel=>exact⟨i+1,2,X%4,us',ot',out++[X/4],_,by go_num,by go_num,rfl,rfl,rfl,by have:=HG.out;omega,⟨by rw[RX.out,List.append_assoc];exact HE.out⟩,⟨by rw[<-HLr.out];exact HD2.out⟩,HFl3,HO1,HB1⟩
      |s2 hb' hk' h'=>
       have s1:shl .i64 b 6=b*64:=by show IntKind.i64.wrap (b*64)=_;rw[IntKind.wrap_i64];omega
       have s2:wrap64 (b*64)=b*64:=by unfold wrap64;omega
       have s3:IntKind.i64.wrap (b*64)=b*64:=by rw[IntKind.wrap_i64];omega
       have o1:bits .or .i64 (b*64) v=b*64+v:=or64 6 (by decide) (by omega) (by omega) (by omega) hk'.1 hk'.2;obtain⟨X,hX⟩:∃X,X=b*64+v:=⟨_,rfl⟩
       have hX0:0<=X/\X<256:=by omega
       rw[<-hX]at o1;have e3:IntKind.u8.wrap X=X:=by rw[IntKind.wrap_u8];omega
       have e4:X%256=X:=by omega
       have e5:bits .and .i64 X 0=0:=by have:=and64 0 (by decide) (x:=X) hX0.1 (by omega);simpa using this
       have HD2:=ah h';have RX:=ah hX;clear hk' hb' h' hX hX0
       go_wp2_with (at_builtin;refine rJ (w0:=w) rfl (.tmp 77) (.tmp 82) rfl (xs:=out) (X) rfl rfl ?aO ?aB (by have:=HLo.out;omega) ?_;(case aO=>exact HO.out);(case aB=>exact HB.out);intro v1 w1 ho hb hg;have HO1:=ah ho;have HB1:=ah hb;clear ho hb hg)
       go_roundg g
       case measure=>omega
       case rel=>exact⟨i+1,0,0,us',ot',out++[X],_,by go_num,by go_num,rfl,rfl,rfl,by have:=HG.out;omega,⟨by rw[RX.out,List.append_assoc];exact HE.out⟩,⟨by rw[<-HLr.out];exact HD2.out⟩,HFl3,HO1,HB1⟩
   |zero=>
    obtain rfl:i=vl:=by omega
    have hd0:b=0/\o=[]:=by
     have h1:=HDi.out;rw[List.drop_eq_nil_of_le (by rw[HVE.out];exact Nat.le_refl _)]at h1;cases h1;exact⟨rfl,rfl⟩
    obtain⟨rfl,rfl⟩:=hd0;have HOl:=ah (show out=bytesOf s by have:=HE.out;rwa [List.append_nil]at this);have hpv:=HP.out;have hm:=HM.out;have hv:=HVL.out;have hss:=HS.out;have hz:=kQ.out;have d0:decide ((i:Int)<(i:Int))=false:=bY (by omega);have d1:decide (i<i)=false:=bY (by omega);have e1:IntKind.i64.wrap ((x.size:Int)-(i:Int))=(p:Int):=by rw[IntKind.wrap_i64];omega
    have e2:wrap64 ((x.size:Int)-(i:Int))=(p:Int):=by unfold wrap64;omega
    have m1:((i:Int)%4==1)=false:=eqF (by omega);have hp2:decide (2<(p:Int))=false:=bY (by omega);have hp3:decide (2<p)=false:=bY (by omega);have hp4:¬2<p:=by omega
    have e3:IntKind.i64.wrap ((i:Int)+(p:Int))=(i:Int)+(p:Int):=by rw[IntKind.wrap_i64];omega
    have e4:wrap64 ((i:Int)+(p:Int))=(i:Int)+(p:Int):=by unfold wrap64;omega
    have Xk:aC ((us=false)∨(us=true/\ot=false)):=⟨by
     cases us with
     |false=>exact .inl rfl
     |true=>exact .inr ⟨rfl,(EJ.out.no).elim (fun h=>by cases h) id⟩⟩
    by_cases hp0:p=0
    ·subst hp0
     clear hpv hm hv hss hz;rcases Xk.out with rfl|⟨rfl,rfl⟩
     ·go_wp2
      go_ret2
      exact⟨_,rfl,by rw[<-HOl.out];exact HO.out,HB.out⟩
     ·go_wp2
      go_ret2
      exact⟨_,rfl,by rw[<-HOl.out];exact HO.out,HB.out⟩
    ·have g1:decide (0<(p:Int))=true:=bZ (by omega)
     have g2:decide (0<p)=true:=bZ (by omega);have g3:0<p:=by omega
     have g4:(((i:Int)+(p:Int))%4 !=0)=false:=Ef (by omega);have g5:((p:Int)==0)=false:=eqF (by omega);clear hpv hm hv hss hz;rcases Xk.out with rfl|⟨rfl,rfl⟩
     ·go_wp2
      go_ret2
      exact⟨_,rfl,by rw[<-HOl.out];exact HO.out,HB.out⟩
     ·go_wp2
      go_ret2
      exact⟨_,rfl,by rw[<-HOl.out];exact HO.out,HB.out⟩
end Go.Proofs.YtapkmjfjikpnlaaGreatDoor
