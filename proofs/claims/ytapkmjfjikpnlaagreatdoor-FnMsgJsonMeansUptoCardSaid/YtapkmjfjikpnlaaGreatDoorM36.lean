/- A part of FnMsgJsonMeans. No conditions. -/
import Derived.Test.YtapkmjfjikpnlaaGreatDoorM35
set_option maxHeartbeats 8000000
set_option maxRecDepth 100000
namespace Go.Proofs.YtapkmjfjikpnlaaGreatDoor
open Go.RowKit YtapkmjfjikpnlaaGreatDoorW.aG YtapkmjfjikpnlaaGreatDoorW.aJ
set_option linter.unusedVariables false
set_option linter.unusedSimpArgs false
theorem RS.boxed{w0 W W1 w3:World}{q:Nat}{S:fM}{A0:Option Addr}{c0:Nat}{A1:Option Addr}{c1:Nat}{At:Option Addr}{cT:Nat}{L:List Tok}{a:Nat}(h:RS w0 W1 q S A0 c0 A1 c1 At cT L a)(hk:aH W W1 q none){cs:Array Value}{t:TypeId}(h3:w3=W1.alloc (.cells cs t)):
 RS w0 w3 q S A0 c0 A1 c1 At cT L a/\aH W w3 q none/\w3.heap[W1.heap.size]? =some (.cells cs t (0,0)):=by
 subst h3;exact⟨h.below (ak (bg _ _) _),pX hk _,aP W1 _⟩
abbrev xI:Obj:=.cells #[.bool false,.int .i64 0,.int .u64 0,.int .u64 0,.string ⟨#[]⟩,.slice none 0 0] 76
theorem eu{w2:World}{g:Nat}{v0 v1 v2 v3 v4 v5:Value}{t:TypeId}(hx:w2.heap[g]? =some (.cells #[v0,v1,v2,v3,v4,v5] t (0,0))):(w2.cell? ⟨g,0,none⟩=some v0/\w2.cell? ⟨g,1,none⟩=some v1/\w2.cell? ⟨g,2,none⟩=some v2/\w2.cell? ⟨g,3,none⟩=some v3/\w2.cell? ⟨g,4,none⟩=some v4/\w2.cell? ⟨g,5,none⟩=some v5)/\(w2.frozen? ⟨g,0,none⟩=false/\w2.frozen? ⟨g,1,none⟩=false/\w2.frozen? ⟨g,2,none⟩=false/\w2.frozen? ⟨g,3,none⟩=false/\w2.frozen? ⟨g,4,none⟩=false/\w2.frozen? ⟨g,5,none⟩=false):=
 ⟨⟨(aA hx 0).trans rfl,(aA hx 1).trans rfl,(aA hx 2).trans rfl,(aA hx 3).trans rfl,(aA hx 4).trans rfl,(aA hx 5).trans rfl⟩,aN hx 0,aN hx 1,aN hx 2,aN hx 3,aN hx 4,aN hx 5⟩
theorem iJ{w w1:World}{g:Nat}{v0 v1 v2 v3 v4 v5 u0 u1 u2 u3 u4 u5:Value}{t:TypeId}(hx:w.heap[g]? =some (.cells #[v0,v1,v2,v3,v4,v5] t (0,0)))(h1:w1=(((((w.setCell ⟨g,0,none⟩ u0).setCell ⟨g,1,none⟩ u1).setCell ⟨g,2,none⟩ u2).setCell ⟨g,3,none⟩ u3).setCell ⟨g,4,none⟩ u4).setCell ⟨g,5,none⟩ u5):
 w1.heap[g]? =some (.cells #[u0,u1,u2,u3,u4,u5] t (0,0)):=by
 subst h1;exact aW (aW (aW (aW (aW (aW hx 0 u0) 1 u1) 2 u2) 3 u3) 4 u4) 5 u5
theorem Dz{w0 W w w1:World}{q g:Nat}{S:fM}{A0:Option Addr}{c0:Nat}{A1:Option Addr}{c1:Nat}{At:Option Addr}{cT:Nat}{L:List Tok}{a:Nat}{u0 u1 u2 u3 u4 u5:Value}(h:RS w0 w q S A0 c0 A1 c1 At cT L a)(hk:aH W w q none)(hq:q<W.heap.size)(hg:W.heap.size<=g)(h1:w1=(((((w.setCell ⟨g,0,none⟩ u0).setCell ⟨g,1,none⟩ u1).setCell ⟨g,2,none⟩ u2).setCell ⟨g,3,none⟩ u3).setCell ⟨g,4,none⟩ u4).setCell ⟨g,5,none⟩ u5):
 RS w0 w1 q S A0 c0 A1 c1 At cT L a/\aH W w1 q none:=by
 subst h1;have hne:q≠g:=by omega
 have hg0:w0.heap.size<=g:=by have:=h.ge;omega
 refine⟨⟨?_,?_,h.ge,h.toks,h.len⟩,?_⟩
 ·exact bI (p:=⟨g,5,none⟩) (bI (p:=⟨g,4,none⟩) (bI (p:=⟨g,3,none⟩) (bI (p:=⟨g,2,none⟩) (bI (p:=⟨g,1,none⟩) (bI (p:=⟨g,0,none⟩) h.blk hne _) hne _) hne _) hne _) hne _) hne _
 ·exact aV (aV (aV (aV (aV (aV h.be hg0) hg0) hg0) hg0) hg0) hg0
 ·exact bU (bU (bU (bU (bU (bU hk hg 0 _) hg 1 _) hg 2 _) hg 3 _) hg 4 _) hg 5 _
theorem iq{W w1 w2:World}{q:Nat}(h:aH W w1 q none)(hb:Below w1.heap.size w1 w2):aH W w2 q none:=h.trans (aH.of_below hb q none) (.inl rfl)
theorem WZ{l:List Int}(h:jT l):∀c∈l,c≠73/\c≠78:=fun c hc=>by have:=h c hc;omega
theorem NT.Xa{x:NT}(hx:x.ok):∀c∈x.bytes,c≠73/\c≠78:=by
 intro c hc;unfold NT.bytes at hc;rcases List.mem_append.1 hc with hc|hc
 ·unfold NT.wJ at hc
  split at hc
  ·rw[List.mem_singleton.1 hc];omega
  ·exact absurd hc List.not_mem_nil
 rcases List.mem_append.1 hc with hc|hc
 ·exact WZ hx.QY c hc
 rcases List.mem_append.1 hc with hc|hc
 ·unfold NT.kJ at hc
  split at hc
  ·exact absurd hc List.not_mem_nil
  ·rcases List.mem_cons.1 hc with rfl|hc
   ·omega
   ·exact WZ hx.fpD c hc
 ·unfold NT.iV at hc
  split at hc
  ·exact absurd hc List.not_mem_nil
  ·rename_i E sg ds he
   obtain⟨h1,h2,h3,h4,h5⟩:=hx.TF E sg ds he;rcases List.mem_cons.1 hc with rfl|hc
   ·omega
   rcases List.mem_append.1 hc with hc|hc
   ·rcases h2 with rfl|rfl|rfl
    ·exact absurd hc List.not_mem_nil
    ·rw[List.mem_singleton.1 hc];omega
    ·rw[List.mem_singleton.1 hc];omega
   ·exact WZ h4 c hc
theorem DC{x:NT}(hx:x.ok)(l:List UInt8)(c:UInt8)(hc:c∈l)(hcc:(c.toNat:Int)=73∨(c.toNat:Int)=78):((str x.bytes).toList==l)=false:=by
 cases h:((str x.bytes).toList==l)with
 |false=>rfl
 |true=>
  have e:=beq_iff_eq.1 h
  have hb:(c.toNat:Int)∈bytesOf (str x.bytes):=by
   unfold bytesOf;rw[<-toList_eq,e];exact List.mem_map.2 ⟨c,hc,rfl⟩
  rw[fO _ (x.pJ hx)]at hb;have:=NT.Xa hx _ hb;omega
theorem NT.Fz{x:NT}(hx:x.ok)(h:x.dg.length<=60):x.bytes.length<=100:=by
 have h1:x.wJ.length<=1:=by unfold NT.wJ;split<;>simp
 have h2:x.kJ.length<=x.fp.length+1:=by unfold NT.kJ;split<;>simp
 have h3:x.iV.length<=6:=by
  unfold NT.iV
  split
  ·simp
  ·rename_i E sg ds he
   obtain⟨_,k2,_,_,k5,_⟩:=hx.TF E sg ds he;have:sg.length<=1:=by rcases k2 with rfl|rfl|rfl<;>simp
   simp only[List.length_cons,List.length_append];omega
 unfold NT.dg at h;unfold NT.bytes;rw[List.length_append]at h;simp only[List.length_append];omega
section
variable(w0 W:World)(q:Nat)(S:fM)(A0:Option Addr)(c0:Nat)(A1:Option Addr)(c1:Nat)(At:Option Addr)(cT:Nat)(L:List Tok)(a:Nat)(hR:RS w0 W q S A0 c0 A1 c1 At cT L a)
include hR
theorem lJ(u:Tok)(hu:L[a]? =some u)(K:Int)(hK:u.kind=K):Calls Tryz.prog 54 #[.pointer (some ⟨q,0,none⟩),.int .i64 K] W fun e w'=>e= .returned (.tuple #[tokA u,.bool true])/\RS w0 w' q S A0 c0 A1 c1 At cT L (a+1)/\aH W w' q none:=by
 subst hK;exact WL w0 W q S A0 c0 A1 c1 At cT L a hR u hu
theorem qA(u:Tok)(hu:L[a]? =some u)(K:Int)(hK:u.kind=K):Calls Tryz.prog 55 #[.pointer (some ⟨q,0,none⟩)] W fun e w'=>e= .returned (.int .i64 K)/\Below W.heap.size W w':=by
 subst hK;exact zC w0 W q S A0 c0 A1 c1 At cT L a hR u hu
theorem acJ(e:ET)(hE:GY e)(hU:Dy e)(An:Option Addr)(cn:Nat)(Am:Option Addr)(cm:Nat)(hn:Kd.C Kd.string w0 An e.names.length e.names)(hm:Kd.C (Kd.int .i32) w0 Am e.nums.length e.nums)(n:Int)(ts:List TK)(hT:lI L a ts)(hr: -2147483648<=n/\n<2147483648)
 (hN:(∃raw b,(dM e n).2=true/\ts=[⟨16,raw,(dM e n).1,b⟩])∨(∃x sx b,ts=[⟨8,str x.bytes,sx,b⟩]/\qo x n)):
 Calls Tryz.prog 148 #[.pointer (some ⟨q,0,none⟩),.agg #[.slice An e.names.length cn,.slice Am e.nums.length cm]] W fun r w'=>r= .returned (.agg #[.bool false,.int .i64 n,.int .u64 0,.int .u64 0,.string ⟨#[]⟩,.slice none 0 0])/\RS w0 w' q S A0 c0 A1 c1 At cT L (a+1)/\aH W w' q none:=by
 have yM:=bJ hR.blk;obtain⟨W1,hW1⟩:∃W1,W1=W.alloc (.cells #[.slice An e.names.length cn,.slice Am e.nums.length cm] 97):=⟨_,rfl⟩
 obtain⟨hR1,hk1,hz1⟩:=hR.boxed (aH.refl W q none) hW1;obtain⟨W2,hW2⟩:∃W2,W2=W1.alloc xI:=⟨_,rfl⟩
 obtain⟨hR2,hk2,hz2⟩:=hR1.boxed hk1 hW2;have hs1:W1.heap.size=W.heap.size+1:=by rw[hW1];simp
 rw[hs1]at hz2;have HQ:=ah yM;have HW12:=ah (show W2=(W.alloc (.cells #[.slice An e.names.length cn,.slice Am e.nums.length cm] 97)).alloc xI by rw[hW2,hW1]);have HK2:=ah hk2;have hz12:W2.heap[W.heap.size]? =some (.cells #[.slice An e.names.length cn,.slice Am e.nums.length cm] 97 (0,0)):=by rw[hW2];exact bn hz1 _
 have uN:=ah (fun(w2:World)(hk:aH W2 w2 q none)=>And.intro (hk.blk hz2 (by omega) (by simp)) (hk.blk hz12 (by omega) (by simp)));have HE:=ah hE;have HU:=ah hU;have sS:=ah hn;have HMm:=ah hm;have HRn:=ah hr;rcases hN with⟨raw,b,hnm,rfl⟩|⟨x,sx,b,rfl,hx⟩
 ·obtain⟨u,hu,hut,_⟩:=hT.head
  have hk16:u.kind=16:=congrArg TK.kind hut;have hstr:u.str=(dM e n).1:=congrArg TK.str hut;have Eb:=ah (qA w0 W2 q S A0 c0 A1 c1 At cT L a hR2 u hu.out 16 hk16);have oC:=ah (fun Wx(hb:Below W2.heap.size W2 Wx)=>lJ w0 Wx q S A0 c0 A1 c1 At cT L a (hR2.below hb) u hu.out 16 hk16);obtain⟨k,hk,hkn⟩:=OA hnm;have hkn:=hkn hE.len;have Yb:=ah (fun(Wx:World)(hb:Below w0.heap.size w0 Wx)=>Ic e k (dM e n).1 n An cn Am cm Wx (Kd.aU hn hb) (Kd.aU hm hb) hE.len hE.nums hkn hk (fun i hi he=>hU i k _ _ he hkn (by omega) rfl));have wQ:=ah hstr;clear hR yM hW1 hR1 hk1 hz1 hW2 hR2 hk2 hz2 hs1 hz12 hE hU hn hm hr hT hut hk16 hstr hk hkn hnm;go_enter Tryz.func148,Tryz.ntmps148
  go_upto_region 1 with fail
  rw[<-HW12.out]
  go_upto_region 3 with(first|(go_at_call 55;(with_reducible refine Eb.out.mono ?_);rintro e' w1⟨rfl,hb⟩;have HB1:=ah hb;clear hb)|(go_at_call 54;(with_reducible refine(oC.out _ HB1.out).mono ?_);rintro e' w2⟨rfl,hr,hk⟩;have HR2:=ah hr;have HK3:=ah ((aH.of_below HB1.out q none).trans hk (.inl rfl));clear hr hk))
  obtain⟨w3,h3⟩:∃w3,w3=w2.alloc (.cells #[.int .i64 u.kind,.int .i64 u.pos,.string u.raw,.string u.str,.bool u.boo] 39):=⟨_,rfl⟩
  rw[<-h3];obtain⟨hR3,hk3,hx3⟩:=HR2.out.boxed HK3.out h3;have cs:w3.cell? ⟨w2.heap.size,3,none⟩=some (.string (dM e n).1):=by rw[<-wQ.out];exact(aA hx3 3).trans rfl
  obtain⟨z0,z1⟩:=uN.out w3 hk3;have ce0:w3.cell? ⟨W.heap.size,0,none⟩=some (.slice An e.names.length cn):=(aA z1 0).trans rfl;have ce1:w3.cell? ⟨W.heap.size,1,none⟩=some (.slice Am e.nums.length cm):=(aA z1 1).trans rfl;have HR3:=ah (And.intro hR3 hk3);clear h3 hR3 hk3 hx3 z0 z1
  go_upto_region 4 with(go_at_call 184;(with_reducible refine(Yb.out _ HR3.out.1.be).mono ?_);rintro e' w4⟨rfl,hb⟩;have HR4:=ah (And.intro (HR3.out.1.below hb) (iq HR3.out.2 hb));clear hb)
  go_quiet (fail)
  have HR5:=ah (And.intro (HR4.out.1.below (aS (bg w4.heap.size w4) nq)) (iq HR4.out.2 (aS (bg w4.heap.size w4) nq)));have z0:=(uN.out _ HR5.out.2).1;have hq:=HQ.out;obtain⟨⟨q0,q1,q2,q3,q4,q5⟩,f0,f1,f2,f3,f4,f5⟩:=eu z0;go_wp2;refine bodyPost_ret (results_cell_row rfl _ _ (W.heap.size+1) _ _ _ _ rfl (iJ z0 rfl) Tryz.underlying76 rfl (by kernel_rfl)) rfl ?_;exact⟨rfl,Dz HR5.out.1 (HK2.out.trans HR5.out.2 (.inl rfl)) hq (show W.heap.size<=W.heap.size+1 from Nat.le_succ _) rfl⟩
 ·obtain⟨u,hu,hut,_⟩:=hT.head
  have hk8:u.kind=8:=congrArg TK.kind hut;have hraw:u.raw=str x.bytes:=congrArg TK.raw hut;obtain⟨s,hs⟩:∃s,s=str x.bytes:=⟨_,rfl⟩
  rw[<-hs]at hraw;have Eb:=ah (qA w0 W2 q S A0 c0 A1 c1 At cT L a hR2 u hu.out 8 hk8);have oC:=ah (fun Wx(hb:Below W2.heap.size W2 Wx)=>lJ w0 Wx q S A0 c0 A1 c1 At cT L a (hR2.below hb) u hu.out 8 hk8);have HJ:=ah (Fp x n hx s (by rw[hs];exact fO _ (x.pJ hx.1)) (by rw[hs,bV];have:=NT.Fz hx.1 hx.2.2.1;omega) 32 (.inl ⟨rfl,hr.1,hr.2⟩));have HRw:=ah hraw;clear hR yM hW1 hR1 hk1 hz1 hW2 hR2 hk2 hz2 hs1 hz12 hE hU hn hm hr hT hut hk8 hraw hs hx;go_enter Tryz.func148,Tryz.ntmps148
  go_upto_region 1 with fail
  rw[<-HW12.out]
  go_upto_region 10 with(first|(go_at_call 55;(with_reducible refine Eb.out.mono ?_);rintro e' w1⟨rfl,hb⟩;have HB1:=ah hb;clear hb)|(go_at_call 54;(with_reducible refine(oC.out _ HB1.out).mono ?_);rintro e' w2⟨rfl,hr,hk⟩;have HR2:=ah hr;have HK3:=ah ((aH.of_below HB1.out q none).trans hk (.inl rfl));clear hr hk))
  obtain⟨w3,h3⟩:∃w3,w3=w2.alloc (.cells #[.int .i64 u.kind,.int .i64 u.pos,.string u.raw,.string u.str,.bool u.boo] 39):=⟨_,rfl⟩
  rw[<-h3];obtain⟨hR3,hk3,hx3⟩:=HR2.out.boxed HK3.out h3;have cs:w3.cell? ⟨w2.heap.size,2,none⟩=some (.string s):=by rw[<-HRw.out];exact(aA hx3 2).trans rfl
  have HR3:=ah (And.intro hR3 hk3);clear h3 hR3 hk3 hx3
  go_upto_region 12 with(first|(go_at_call 185;(with_reducible refine(HJ.out _).mono ?_);rintro e' w4⟨rfl,hb⟩;have HR4:=ah (And.intro (HR3.out.1.below hb) (iq HR3.out.2 hb));clear hb)|(go_at_call 26;(with_reducible refine(Bq w0 _ q S A0 c0 A1 c1 At cT L (a+1) HR4.out.1).mono ?_);rintro e' w5⟨rfl,hr,hk⟩;have HR5:=ah (And.intro hr (HR4.out.2.trans hk (.inl rfl)));clear hr hk))
  have z0:=(uN.out _ HR5.out.2).1;have hq:=HQ.out;obtain⟨⟨q0,q1,q2,q3,q4,q5⟩,f0,f1,f2,f3,f4,f5⟩:=eu z0;go_wp2;refine bodyPost_ret (results_cell_row rfl _ _ (W.heap.size+1) _ _ _ _ rfl (iJ z0 rfl) Tryz.underlying76 rfl (by kernel_rfl)) rfl ?_;exact⟨rfl,Dz HR5.out.1 (HK2.out.trans HR5.out.2 (.inl rfl)) hq (show W.heap.size<=W.heap.size+1 from Nat.le_succ _) rfl⟩
end
end Go.Proofs.YtapkmjfjikpnlaaGreatDoor
namespace Go.Proofs.YtapkmjfjikpnlaaGreatDoor
open Go.RowKit YtapkmjfjikpnlaaGreatDoorW.aG YtapkmjfjikpnlaaGreatDoorW.aJ FP
set_option linter.unusedVariables false
set_option linter.unusedSimpArgs false
theorem gW.nil(W:World):gW W (.slice none 0 0) 0 0:=⟨none,0,[],rfl,Nat.le_refl _,fun _ _=>Kd.IQ _ _,(fun _ h=>nomatch h),Nat.le_refl _,rfl⟩
theorem KU{d:Int}(h:48<=d/\d<=57):∃d':Nat,d'=d.toNat-48/\IntKind.u8.wrap (d-48)=(d':Int)/\IntKind.u32.wrap (d':Int)=(d':Int)/\(d':Int)%4294967296=(d':Int)/\(0:Int)<=(d':Int)/\(d':Int)<4294967296:=
 ⟨d.toNat-48,rfl,by rw[IntKind.wrap_u8];omega,by rw[IntKind.wrap_u32];omega,by omega,by omega,by omega⟩
theorem Zw(m:Nat)(hm:m<18446744073709551616):∃lo hi:Nat,(lo<4294967296/\hi<4294967296)/\IntKind.u32.wrap (m:Int)=lo/\(m:Int)/4294967296=hi/\(m:Int)%4294967296=lo/\(hi:Int)%4294967296=hi/\IntKind.u32.wrap (hi:Int)=hi/\((lo:Int)).toNat+4294967296*((hi:Int)).toNat=m:=
 ⟨m%4294967296,m/4294967296,by omega,by rw[IntKind.wrap_u32];omega,by omega,by omega,by omega,by rw[IntKind.wrap_u32];omega,by omega⟩
theorem FB(neg:Bool)(A:Option Addr)(n c:Nat)(dg:List Int)(pw:Int)(m:Nat)(e:Int)(w:World)(hr:RdB w A n dg)(hd:jT dg)(hn:n<=400)(hp: -4000<=pw/\pw<=4000)(he: -4000<=e/\e<=4000)(hm:m<18446744073709551616):
 Calls Tryz.prog 217 #[.agg #[.bool neg,.slice A n c,.int .i64 pw,.bool false],.int .u64 m,.int .i64 e] w fun r w'=>r= .returned (.int .i64 (cmp3 (bC dg*10^pw.toNat*2^(-e).toNat) (m*10^(-pw).toNat*2^e.toNat)))/\Below w.heap.size w w':=by
 obtain⟨W1,hW1⟩:∃W1,W1=w.alloc (.cells #[.bool neg,.slice A n c,.int .i64 pw,.bool false] 254):=⟨_,rfl⟩
 have hb1:Below w.heap.size w W1:=by rw[hW1];exact ak (bg _ _) _
 have y1:W1.heap[w.heap.size]? =some (.cells #[.bool neg,.slice A n c,.int .i64 pw,.bool false] 254 (0,0)):=by rw[hW1];exact aP w _
 have HR:=ah (Kd.aU hr hb1);have HL:=ah (Kd.dG hr);have HD:=ah hd;have HN:=ah hn;have HW1:=ah hW1;have HB1:=ah hb1;have HY1:=ah y1;obtain⟨P1,hP1,p1⟩:=QW pw;obtain⟨P2,hP2,p2⟩:=QW (-pw);obtain⟨E1,hE1,q1⟩:=QW e;obtain⟨E2,hE2,q2⟩:=QW (-e);have n1:wrap64 (-pw)= -pw:=by unfold wrap64;omega
 have n2:IntKind.i64.wrap (-pw)= -pw:=by rw[IntKind.wrap_i64];omega
 have n3:wrap64 (-e)= -e:=by unfold wrap64;omega
 have n4:IntKind.i64.wrap (-e)= -e:=by rw[IntKind.wrap_i64];omega
 have HE:=ah (show P1<=4000/\P2<=4000/\E1<=4000/\E2<=4000 by omega);rw[<-p1,<-p2,<-q1,<-q2];have Fa:=ah (Zw m hm);clear hr hd hn hp he hm hW1 hb1 y1 p1 p2 q1 q2;go_enter Tryz.func217,Tryz.ntmps217
 go_upto_region 1 with fail
 rw[<-HW1.out];go_wp2
 go_loopg [7,8] n (fun g v7 v8 w'=>∃k:Nat,v8= .int .i64 k/\k+g=n/\aC (gW w' v7 (bC (dg.take k)) k)/\aC (Below W1.heap.size W1 w'))
 case atStart=>exact⟨0,rfl,by omega,⟨gW.nil _⟩,⟨bg _ _⟩⟩
 case round=>
  obtain⟨k,rfl,hg,HV,HB⟩:=hrel;obtain⟨⟨c0,c1,c2,c3⟩,_⟩:=box4 (aI HY1.out HB.out);cases gk with
  |succ g=>
   have hkl:k<dg.length:=by rw[HL.out];omega
   obtain⟨d,hdk⟩:=bF hkl;obtain⟨ad,rfl,q0⟩:=iD (Kd.aU HR.out HB.out) hdk.out;have g1:decide ((k:Int)<(n:Int))=true:=bZ (by omega);have g2:decide (k<n)=true:=bZ (by omega);have i0:(0:Int)<=(k:Int):=by omega
   have i1:(k:Int)<(n:Int):=by omega
   obtain⟨d',hd',hw8,hw6,hw7,hw0,hw1⟩:=KU (HD.out d (List.mem_of_getElem? hdk.out))
   have hst:bC (dg.take (k+1))=bC (dg.take k)*10+d':=by
    obtain⟨h1,h2⟩:=List.getElem?_eq_some_iff.1 hdk.out;rw[List.take_succ_eq_append_getElem h1,h2,iK,hd']
   have hk4:k<400:=Nat.lt_of_lt_of_le (by omega) HN.out;obtain⟨e1,e2⟩:=kD (k:=k) (Nat.lt_of_lt_of_le hk4 (by decide));have HC:=ah (wB _ _ _ 10 (d':Int) wr HV.out (Nat.le_trans (Nat.le_of_lt hk4) (by decide)) (by decide) (by decide) hw0 hw1);have HEq:=ah (show bC (dg.take k)*(10:Int).toNat+((d':Int)).toNat=bC (dg.take (k+1))by rw[hst];rfl);rw[HEq.out]at HC;clear hst hd' hkl hk4 hw0 hw1
   go_wp2_with (go_at_call 205;(with_reducible refine HC.out.mono ?_);rintro e' w1'⟨v1,rfl,hv1,hb1⟩;have HV1:=ah hv1;have HB1':=ah (au HB.out hb1);clear hv1 hb1)
   go_roundg g
   case measure=>omega
   case rel=>exact⟨k+1,by go_num,by omega,HV1,HB1'⟩
  |zero=>
   obtain rfl:k=n:=by omega
   have g1:decide ((k:Int)<(k:Int))=false:=bY (by omega);have g2:decide (k<k)=false:=bY (by omega);have HV0:=ah (show gW wr u7 (bC dg) 400 by have:=HV.out.mono HN.out;rwa [List.take_of_length_le (by rw[HL.out];exact Nat.le_refl _)]at this);obtain⟨lo,hi,hlh,w1,s1,s2,s3,w2,hmv⟩:=Fa.out;have Hl:=ah hlh;have HMv:=ah hmv;have acK:=ah (Ju wr lo hi (Int.natCast_nonneg _) (by omega) (Int.natCast_nonneg _) (by omega));rw[HMv.out]at acK;obtain⟨W2,hW2⟩:∃W2,W2=wr.alloc (.cells #[.int .u32 lo,.int .u32 hi] 129):=⟨_,rfl⟩
   have hb2:Below wr.heap.size wr W2:=by rw[hW2];exact ak (bg _ _) _
   rw[<-hW2]at acK;have HW2:=ah hW2;have HA2:=ah (HV0.out.below hb2);have HB2:=ah (au HB.out hb2);have HY2:=ah (aI (aI HY1.out HB.out) hb2);obtain⟨⟨_,_,c2',_⟩,_⟩:=box4 HY2.out;clear hlh hmv hW2 hb2
   go_upto_region 7 with fail
   rw[<-HW2.out];have HP1:=ah (rV _ _ _ 10 P1 W2 HA2.out (by have:=HE.out.1;omega) (by omega) (by omega));have HP2:=ah (fun W v h=>rV v (bC dg*(10:Int).toNat^P1) (400+P1) 2 E2 W h (by have:=HE.out;omega) (by omega) (by omega))
   go_upto_region 8 with(first|(go_at_call 203;(with_reducible refine HP1.out.mono ?_);rintro e' w3⟨v3,rfl,hv3,hb3⟩;have HV3:=ah hv3;have HB3:=ah hb3;clear hv3 hb3)|(go_at_call 203;(with_reducible refine(HP2.out _ _ HV3.out).mono ?_);rintro e' w4⟨v4,rfl,hv4,hb4⟩;have HV4:=ah hv4;have HB4:=ah (au HB3.out hb4);clear hv4 hb4))
   obtain⟨⟨_,_,c4,_⟩,_⟩:=box4 (aI HY2.out HB4.out);have HP3:=ah (rV _ _ _ 10 P2 w4 (acK.out.below HB4.out) (by have:=HE.out;omega) (by omega) (by omega));have HP4:=ah (fun W v h=>rV v (m*(10:Int).toNat^P2) (2+P2) 2 E1 W h (by have:=HE.out;omega) (by omega) (by omega));have Yd:=ah (fun W u v h1 h2=>kN u v (bC dg*(10:Int).toNat^P1*(2:Int).toNat^E2) (400+P1+E2) (m*(10:Int).toNat^P2*(2:Int).toNat^E1) (2+P2+E1) W h1 h2 (by have:=HE.out;omega) (by have:=HE.out;omega));clear c0 c1 c2 c3 c2'
   go_wp2_with (first|(go_at_call 203;(with_reducible refine HP3.out.mono ?_);rintro e' w5⟨v5,rfl,hv5,hb5⟩;have HV5:=ah hv5;have HB5:=ah hb5;clear hv5 hb5)|(go_at_call 203;(with_reducible refine(HP4.out _ _ HV5.out).mono ?_);rintro e' w6⟨v6,rfl,hv6,hb6⟩;have HV6:=ah hv6;have HB6:=ah (au HB5.out hb6);clear hv6 hb6)|(go_at_call 204;(with_reducible refine(Yd.out _ _ _ (HV4.out.below HB6.out) HV6.out).mono ?_);rintro e' w7⟨rfl,hb7⟩;have HB7:=ah hb7;clear hb7))
   go_ret
   exact⟨rfl,au (au (au (au HB1.out HB2.out) HB4.out) HB6.out) HB7.out⟩
theorem Xb{a b t:Nat}(ht:0<t):cmp3 (a*t) (b*t)=cmp3 a b:=by
 unfold cmp3
 by_cases h1:a<b
 ·rw[if_pos h1,if_pos (Nat.mul_lt_mul_of_pos_right h1 ht)]
 ·rw[if_neg h1,if_neg (fun h=>h1 (Nat.lt_of_mul_lt_mul_right h))]
  by_cases h2:b<a
  ·rw[if_pos h2,if_pos (Nat.mul_lt_mul_of_pos_right h2 ht)]
  ·rw[if_neg h2,if_neg (fun h=>h2 (Nat.lt_of_mul_lt_mul_right h))]
theorem aaL(a b c d e:Nat):a*b*c*(d*e)=a*(b*d)*(c*e):=by
 rw[Nat.mul_assoc a b c,Nat.mul_assoc a (b*c),Nat.mul_assoc a (b*d),Nat.mul_mul_mul_comm b c d e]
theorem FC{D m A B:Nat}{p e:Int}(hp: -(A:Int)<=p)(he: -(B:Int)<=e):
 cmp3 (D*10^p.toNat*2^(-e).toNat) (m*10^(-p).toNat*2^e.toNat)=cmp3 (D*10^((A:Int)+p).toNat*2^B) (m*10^A*2^((B:Int)+e).toNat):=by
 have hT:0<10^(A-(-p).toNat)*2^(B-(-e).toNat):=Nat.mul_pos (Nat.pow_pos (by omega)) (Nat.pow_pos (by omega))
 rw[<-Xb hT,aaL,aaL,<-Nat.pow_add,<-Nat.pow_add,<-Nat.pow_add,<-Nat.pow_add,
  show p.toNat+(A-(-p).toNat)=((A:Int)+p).toNat by omega,show(-e).toNat+(B-(-e).toNat)=B by omega,show(-p).toNat+(A-(-p).toNat)=A by omega,show e.toNat+(B-(-e).toNat)=((B:Int)+e).toNat by omega]
noncomputable def atMost(s c X K:Nat):Nat:=if c*fv s K<=X then K else K-1
def EK(A B:Nat)(low:Int):Nat:=10^A*2^((B:Int)+low).toNat
theorem Xc{s k A B:Nat}{low:Int}(hl: -(B:Int)<=low):iE s k*10^A*2^((B:Int)+(low+(gZ s k:Nat))).toNat=EK A B low*fv s k:=by
 rw[show((B:Int)+(low+(gZ s k:Nat))).toNat=((B:Int)+low).toNat+gZ s k by omega,Nat.pow_add,<-MW,EK,Nat.mul_comm (iE s k) (10^A),Nat.mul_assoc,Nat.mul_assoc,Nat.mul_left_comm (iE s k)]
theorem SN{s k A B:Nat}{low:Int}(hl: -(B:Int)<low):2*((2*iE s k+1)*10^A*2^((B:Int)+(low+(gZ s k:Nat)-1)).toNat)=EK A B low*(2*fv s k+gp s k):=by
 rw[<-MW,<-abp,<-Nat.mul_assoc 2 (iE s k),show 2*iE s k*2^gZ s k+2^gZ s k=(2*iE s k+1)*2^gZ s k by rw[Nat.add_mul,Nat.one_mul]];rw[Nat.mul_comm 2,Nat.mul_assoc _ (2^_) 2,<-Nat.pow_succ,show((B:Int)+(low+(gZ s k:Nat)-1)).toNat.succ=((B:Int)+low).toNat+gZ s k by omega,Nat.pow_add,EK,Nat.mul_comm (2*iE s k+1) (10^A),Nat.mul_assoc,Nat.mul_assoc,Nat.mul_left_comm (2*iE s k+1)]
theorem Xd{a b:Nat}:cmp3 a b<0↔a<b:=by
 unfold cmp3
 split
 ·simp[*]
 ·split<;>simp[*]
theorem Xe{a b:Nat}:0<cmp3 a b↔b<a:=by
 unfold cmp3
 split
 ·simp;omega
 ·split<;>simp[*]
theorem KW{a b:Nat}:0<=cmp3 a b↔b<=a:=by
 unfold cmp3
 split
 ·simp;omega
 ·split<;>simp<;>omega
def A0:Nat:=4000
def B0:Nat:=1100
theorem Qh:4000<=A0:=Nat.le_refl _
theorem Aa:1100<=B0:=Nat.le_refl _
structure oD(s:Nat)(low:Int)(D:Nat)(p:Int)(K:Nat):Prop where
 k0:0<K
 near:UF s (EK A0 B0 low) (D*10^((A0:Int)+p).toNat*2^B0) K
 lo: -1074<=low
 hi:low<=0
 p0: -4000<=p
theorem Ij(A B:Nat)(low:Int):0<EK A B low:=Nat.mul_pos (Nat.pow_pos (by omega)) (Nat.pow_pos (by omega))
noncomputable def oD.R{s:Nat}{low:Int}{D:Nat}{p:Int}{K:Nat}(_:oD s low D p K):Nat:=atMost s (EK A0 B0 low) (D*10^((A0:Int)+p).toNat*2^B0) K
section
variable{s:Nat}{low:Int}{D:Nat}{p:Int}{K:Nat}
theorem oD.ahx(h:oD s low D p K):h.R<=K:=by unfold oD.R atMost;split<;>omega
theorem oD.test(h:oD s low D p K)(k:Nat):(0<=cmp3 (D*10^p.toNat*2^(-(low+(gZ s k:Nat))).toNat) (iE s k*10^(-p).toNat*2^(low+(gZ s k:Nat)).toNat))↔k<=h.R:=by
 have hl:=h.lo;rw[FC (A:=A0) (B:=B0) (Int.le_trans (Int.neg_le_neg (Int.ofNat_le.2 Qh)) h.p0) (by have:=Aa;omega),Xc (by have:=Aa;omega)];rw[KW];rw[QT h.k0 (Ij _ _ _) h.near];unfold oD.R atMost;have:=h.k0
 split
 ·rename_i h1
  simp only[h1,and_true];omega
 ·rename_i h1
  simp only[h1,and_false,or_false];omega
theorem oD.mid(h:oD s low D p K):(h.R=K/\cmp3 (D*10^p.toNat*2^(-(low+(gZ s h.R:Nat)-1)).toNat) ((2*iE s h.R+1)*10^(-p).toNat*2^(low+(gZ s h.R:Nat)-1).toNat)<0)∨(h.R+1=K/\0<cmp3 (D*10^p.toNat*2^(-(low+(gZ s h.R:Nat)-1)).toNat) ((2*iE s h.R+1)*10^(-p).toNat*2^(low+(gZ s h.R:Nat)-1).toNat)):=by
 have hl:=h.lo;have hk:=h.k0;rw[FC (A:=A0) (B:=B0) (Int.le_trans (Int.neg_le_neg (Int.ofNat_le.2 Qh)) h.p0) (by have:=Aa;omega),Xd,Xe];have e:=SN (s:=s) (k:=h.R) (A:=A0) (B:=B0) (low:=low) (by have:=Aa;omega);generalize (2*iE s h.R+1)*10^A0*2^((B0:Int)+(low+(gZ s h.R:Nat)-1)).toNat=Y at e ⊢;have h2:h.R=K∨h.R+1=K:=by unfold oD.R atMost;split<;>omega
 rcases h2 with h2|h2
 ·left
  refine⟨h2,?_⟩;have h3:=Js h.near;rw[h2]at e;rw[<-e]at h3;exact Nat.lt_of_mul_lt_mul_left h3
 ·right
  refine⟨h2,?_⟩;have h4:=h.near;rw[<-h2]at h4;have h3:=Jt h4;rw[<-e]at h3;exact Nat.lt_of_mul_lt_mul_left h3
end
theorem Ik{A B:Nat}(hB:1100<=B):EK A B (-1074)=10^A*2^(B-1074):=by
 unfold EK;rw[show((B:Int)+ -1074).toNat=B-1074 by omega]
theorem OB{f A B:Nat}(hB:1100<=B):iE 52 f*10^A*2^(B-1074+gZ 52 f)=EK A B (-1074)*fv 52 f:=by
 rw[Ik hB,Nat.pow_add,<-MW,Nat.mul_comm (iE 52 f) (10^A),Nat.mul_assoc,Nat.mul_assoc,Nat.mul_left_comm (iE 52 f)]
theorem acL{A B:Nat}(hB:1100<=B):EK A B (-149)=EK A B (-1074)*2^sh32:=by
 rw[Ik hB];unfold EK;rw[Nat.mul_assoc,<-Nat.pow_add,show((B:Int)+ -149).toNat=B-1074+sh32 by unfold sh32;omega]
theorem DF{f n D:Nat}{p:Int}(h:mJ f n D p):
 2*(D*10^((A0:Int)+p).toNat*2^B0)*10^n<=2*(EK A0 B0 (-1074)*fv 52 f)*10^n+EK A0 B0 (-1074)*fv 52 f/\2*(EK A0 B0 (-1074)*fv 52 f)*10^n<=2*(D*10^((A0:Int)+p).toNat*2^B0)*10^n+EK A0 B0 (-1074)*fv 52 f:=by
 have h1:=h A0 B0 Qh Aa;rw[OB Aa]at h1;exact h1
theorem Xf{f D:Nat}{p:Int}(hf:0<f)(hp: -4000<=p)(h:mJ f 16 D p):oD 52 (-1074) D p f:=by
 obtain⟨h1,h2⟩:=DF h;exact⟨hf,PN 52 _ _ f (T:=10^16) hf (Ij _ _ _) (by decide) h1 h2,by decide,by decide,hp⟩
theorem Xg{k D:Nat}{p:Int}(hk:0<k)(hk2:k<2139095040)(hp: -4000<=p)(h:mJ (widen k) 8 D p):oD 23 (-149) D p k:=by
 obtain⟨h1,h2⟩:=DF h
 have e:EK A0 B0 (-1074)*fv 52 (widen k)=EK A0 B0 (-149)*fv 23 k:=by
  rw[(qM hk2).2,acL Aa,Nat.mul_assoc,Nat.mul_comm (fv 23 k)]
 rw[e]at h1 h2;exact⟨hk,PN 23 _ _ k (T:=10^8) hk (Ij _ _ _) (by decide) h1 h2,by decide,by decide,hp⟩
theorem Qi{dg:List Int}(hd:jT dg)(h0:∀d,dg.head? =some d->d≠48)(hn:dg≠[]):10^(dg.length-1)<=bC dg:=by
 cases dg with
 |nil=>exact absurd rfl hn
 |cons d l=>
  have h1:=hd d List.mem_cons_self;have h2:=h0 d rfl;rw[iZ,List.length_cons,Nat.add_sub_cancel];have h3:1*10^l.length<=(d.toNat-48)*10^l.length:=Nat.mul_le_mul_right _ (by omega);omega
theorem Zx{A b N M D q len X Y:Nat}(h1:10^A*2^b<=Y)(h2:Y<=2*X)(hX:X=D*10^q*2^(b+N))(hD:D<10^len)(hN:2^(N+1)<10^M):A<M+len+q:=by
 apply Nat.lt_of_not_le
 intro hA;have hZ:0<10^q*2^b:=Nat.mul_pos (Nat.pow_pos (by omega)) (Nat.pow_pos (by omega))
 have e1:2*X=2^(N+1)*D*(10^q*2^b):=by
  rw[hX,Nat.pow_add,Nat.pow_succ];simp only[Nat.mul_comm,Nat.mul_left_comm,Nat.mul_assoc]
 have e2:10^M*10^len*(10^q*2^b)<=10^A*2^b:=by
  rw[<-Nat.mul_assoc,<-Nat.pow_add,<-Nat.pow_add];exact Nat.mul_le_mul_right _ (Nat.pow_le_pow_right (by omega) hA)
 have e3:10^M*10^len*(10^q*2^b)<=2^(N+1)*D*(10^q*2^b):=by rw[<-e1];exact Nat.le_trans e2 (Nat.le_trans h1 h2)
 have e4:=Nat.le_of_mul_le_mul_right e3 hZ;have e5:2^(N+1)*D<10^M*10^len:=Nat.mul_lt_mul_of_lt_of_le hN (Nat.le_of_lt hD) (Nat.pow_pos (by omega));omega
theorem Zy{A b N M F G D q l X Y:Nat}(h1:X<=2*Y)(hY:Y<=10^A*2^b*2^F)(hX:X=D*10^q*2^(b+N))(hD:10^l<=D)(hF:F+1=N+G)(hG:2^G<10^M):l+q<A+M:=by
 apply Nat.lt_of_not_le
 intro hA;have hZ:0<10^A*2^b*2^N:=Nat.mul_pos (Nat.mul_pos (Nat.pow_pos (by omega)) (Nat.pow_pos (by omega))) (Nat.pow_pos (by omega))
 have e1:2*Y<=2^G*(10^A*2^b*2^N):=by
  refine Nat.le_trans (Nat.mul_le_mul_left 2 hY) (Nat.le_of_eq ?_);rw[Nat.mul_comm 2,Nat.mul_assoc,<-Nat.pow_succ,show F.succ=N+G from hF,Nat.pow_add,<-Nat.mul_assoc,Nat.mul_comm]
 have e2:10^M*(10^A*2^b*2^N)<=X:=by
  rw[hX,Nat.pow_add 2,<-Nat.mul_assoc,<-Nat.mul_assoc,<-Nat.mul_assoc,<-Nat.pow_add];refine Nat.mul_le_mul_right _ (Nat.mul_le_mul_right _ ?_);refine Nat.le_trans ?_ (Nat.mul_le_mul_right _ hD);rw[<-Nat.pow_add];exact Nat.pow_le_pow_right (by omega) (by omega)
 have e3:=Nat.le_of_mul_le_mul_right (Nat.le_trans e2 (Nat.le_trans h1 e1)) hZ;omega
set_option exponentiation.threshold 3000 in
theorem acM:2^(1074+1)<10^340:=by decide
set_option exponentiation.threshold 3000 in
theorem acN:2^1025<10^340:=by decide
theorem SQ{f:Nat}(hf:f<9218868437227405312){N F:Nat}(hN:N=2046)(hF:F=52+N):fv 52 f<=2^F:=by
 have h1:=UE (s:=52) (show f<=N*2^52+2^52 by omega);refine Nat.le_trans h1 (Nat.le_of_eq ?_);rw[Wn (s:=52) (K:=2^52) (Nat.le_refl _) (by decide) N,hF,Nat.pow_add,Nat.add_sub_cancel]
theorem OC{f n D:Nat}{p:Int}{dg:List Int}(hf:0<f)(hf2:f<9218868437227405312)(hp: -3000<=p)(h:mJ f n D p)(hD:bC dg=D)(hd:jT dg)(h0:∀d,dg.head? =some d->d≠48)(hn:dg≠[]): -400<=(dg.length:Int)+p/\(dg.length:Int)+p<=400:=by
 obtain⟨h1,h2⟩:=DF h;have hT:0<10^n:=Nat.pow_pos (by omega);have hlo:=Qi hd h0 hn;have hhi:=Bd hd;have hl:=List.length_pos_iff.2 hn;rw[hD]at hlo hhi;obtain⟨X,hX⟩:∃X,X=D*10^((A0:Int)+p).toNat*2^B0:=⟨_,rfl⟩
 obtain⟨Y,hY⟩:∃Y,Y=EK A0 B0 (-1074)*fv 52 f:=⟨_,rfl⟩
 rw[<-hX,<-hY]at h1 h2;have hA:=Qh;have hB:=Aa
 have a1:X<=2*Y:=by
  apply Nat.le_of_mul_le_mul_right (c:=10^n) _ hT
  have:Y*1<=Y*10^n:=Nat.mul_le_mul_left _ hT;have e1:2*X*10^n=2*(X*10^n):=Nat.mul_assoc _ _ _;have e2:2*Y*10^n=2*(Y*10^n):=Nat.mul_assoc _ _ _;omega
 have a2:Y<=2*X:=by
  apply Nat.le_of_mul_le_mul_right (c:=10^n) _ hT
  have:Y*1<=Y*10^n:=Nat.mul_le_mul_left _ hT;have e1:2*X*10^n=2*(X*10^n):=Nat.mul_assoc _ _ _;have e2:2*Y*10^n=2*(Y*10^n):=Nat.mul_assoc _ _ _;omega
 obtain⟨N,hN⟩:∃N,N=1074:=⟨_,rfl⟩
 obtain⟨M,hM⟩:∃M,M=340:=⟨_,rfl⟩
 obtain⟨G,hG⟩:∃G,G=1025:=⟨_,rfl⟩
 obtain⟨F,hF⟩:∃F,F=52+2046:=⟨_,rfl⟩
 obtain⟨b,hb⟩:∃b,B0=b+N:=⟨B0-N,by omega⟩
 have g1:2^(N+1)<10^M:=by rw[hN,hM];exact acM
 have g2:2^G<10^M:=by rw[hG,hM];exact acN
 have g3:EK A0 B0 (-1074)=10^A0*2^b:=by rw[Ik hB,show B0-1074=b by omega]
 rw[g3]at hY;rw[hb]at hX
 have b1:10^A0*2^b<=Y:=by
  rw[hY];have:=PL (s:=52) hf;rw[Bc]at this;exact Nat.le_mul_of_pos_right _ this
 have b2:Y<=10^A0*2^b*2^F:=by rw[hY];exact Nat.mul_le_mul_left _ (SQ hf2 rfl hF)
 have c1:=Zx b1 a2 hX hhi g1;have c2:=Zy a1 b2 hX hlo (by omega) g2;omega
end Go.Proofs.YtapkmjfjikpnlaaGreatDoor
