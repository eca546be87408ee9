/- A part of FnMsgJsonMeans. No conditions. -/
import Derived.Test.YtapkmjfjikpnlaaGreatDoorM45
set_option maxRecDepth 100000
set_option maxHeartbeats 16000000
namespace Go.Proofs.YtapkmjfjikpnlaaGreatDoor
open Go.RowKit YtapkmjfjikpnlaaGreatDoorW.aG YtapkmjfjikpnlaaGreatDoorW.aJ
set_option linter.unusedVariables false
set_option linter.unusedSimpArgs false
section
variable(k:Int)(pos:Nat)(Ar:Option Addr)(nr cr:Nat)(b:Bool)(s:ByteArray)(w:World)
theorem um:Calls Tryz.prog 52 #[Eu k pos Ar nr cr b s] w fun e w'=>e= .returned (.int .u16 k)/\Below w.heap.size w w':=by
 go_enter Tryz.func52,Tryz.ntmps52;go_wp2
 go_ret
 exact⟨rfl,ak (bg _ _) _⟩
theorem adr:Calls Tryz.prog 111 #[Eu k pos Ar nr cr b s] w fun e w'=>e= .returned (.int .i64 pos)/\Below w.heap.size w w':=by
 go_enter Tryz.func111,Tryz.ntmps111;go_wp2
 go_ret
 exact⟨rfl,ak (bg _ _) _⟩
theorem ads(l:List Int)(hr:RdB w Ar nr l):Calls Tryz.prog 108 #[Eu k pos Ar nr cr b s] w fun e w'=>e= .returned (.string (str l))/\Below w.heap.size w w':=by
 have hcv:=iI (c:=cr) (Kd.aU hr (ak (bg _ _) (.cells #[.int .u16 k,.int .i64 pos,.slice Ar nr cr,.bool b,.string s] 111)));clear hr;go_enter Tryz.func108,Tryz.ntmps108;go_wp2
 go_ret
 exact⟨rfl,ak (bg _ _) _⟩
theorem aae:Calls Tryz.prog 112 #[Eu 4 pos Ar nr cr b s] w fun e w'=>e= .returned (.bool b)/\Below w.heap.size w w':=by
 go_enter Tryz.func112,Tryz.ntmps112;go_wp2
 go_ret
 exact⟨rfl,ak (bg _ _) _⟩
theorem Tn:Calls Tryz.prog 113 #[Eu 16 pos Ar nr cr b s] w fun e w'=>e= .returned (.string s)/\Below w.heap.size w w':=by
 go_enter Tryz.func113,Tryz.ntmps113;go_wp2
 go_ret
 exact⟨rfl,ak (bg _ _) _⟩
theorem aaf:Calls Tryz.prog 114 #[Eu 32 pos Ar nr cr b s] w fun e w'=>e= .returned (.string s)/\Below w.heap.size w w':=by
 go_enter Tryz.func114,Tryz.ntmps114;go_wp2
 go_ret
 exact⟨rfl,ak (bg _ _) _⟩
end
abbrev afJ(k pos:Int)(b:Bool)(raw s:ByteArray):Value:=.agg #[.int .i64 k,.int .i64 pos,.bool b,.string raw,.string s]
theorem Iu{W1 w':World}{g:Nat}{v0 v1 v2 v3 v4:Value}{t:TypeId}(h:W1.heap[g]? =some (.cells #[v0,v1,v2,v3,v4] t (0,0)))(hb:Below W1.heap.size W1 w'):w'.cell? ⟨g,0,none⟩=some v0/\w'.cell? ⟨g,1,none⟩=some v1/\w'.cell? ⟨g,2,none⟩=some v2/\w'.cell? ⟨g,3,none⟩=some v3/\w'.cell? ⟨g,4,none⟩=some v4:=box5 (aI h hb)
structure qC(W1 wx:World)(g:Nat)(k pos:Int)(b:Bool)(raw s:ByteArray):Prop where
 be:Below W1.heap.size W1 wx
 ge:W1.heap.size<=g
 blk:wx.heap[g]? =some (.cells #[.int .i64 k,.int .i64 pos,.bool b,.string raw,.string s] 37 (0,0))
abbrev FU:Array Value:=#[.int .i64 0,.int .i64 0,.bool false,.string ⟨#[]⟩,.string ⟨#[]⟩]
theorem lK{w2:World}{g:Nat}{v0 v1 v2 v3 v4:Value}{t:TypeId}(hx:w2.heap[g]? =some (.cells #[v0,v1,v2,v3,v4] t (0,0))):(w2.cell? ⟨g,0,none⟩=some v0/\w2.cell? ⟨g,1,none⟩=some v1/\w2.cell? ⟨g,2,none⟩=some v2/\w2.cell? ⟨g,3,none⟩=some v3/\w2.cell? ⟨g,4,none⟩=some v4)/\(w2.frozen? ⟨g,0,none⟩=false/\w2.frozen? ⟨g,1,none⟩=false/\w2.frozen? ⟨g,2,none⟩=false/\w2.frozen? ⟨g,3,none⟩=false/\w2.frozen? ⟨g,4,none⟩=false):=
 ⟨box5 hx,aN hx 0,aN hx 1,aN hx 2,aN hx 3,aN hx 4⟩
theorem mM{w w1:World}{g:Nat}{v0 v1 v2 v3 v4 u0 u1 u2 u3 u4:Value}{t:TypeId}(hx:w.heap[g]? =some (.cells #[v0,v1,v2,v3,v4] t (0,0)))(h1:w1=((((w.setCell ⟨g,0,none⟩ u0).setCell ⟨g,1,none⟩ u1).setCell ⟨g,2,none⟩ u2).setCell ⟨g,3,none⟩ u3).setCell ⟨g,4,none⟩ u4):
 w1.heap[g]? =some (.cells #[u0,u1,u2,u3,u4] t (0,0))/\∀B w0,Below B w0 w->B<=g->Below B w0 w1:=by
 subst h1;refine⟨aW (aW (aW (aW (aW hx 0 u0) 1 u1) 2 u2) 3 u3) 4 u4,fun B w0 hb hg=>?_⟩;exact(((((hb.setCell (p:=⟨g,0,none⟩) hg u0).setCell (p:=⟨g,1,none⟩) hg u1).setCell (p:=⟨g,2,none⟩) hg u2).setCell (p:=⟨g,3,none⟩) hg u3).setCell (p:=⟨g,4,none⟩) hg u4)
theorem adt(k:Int)(pos:Nat)(Ar:Option Addr)(nr cr:Nat)(b:Bool)(s:ByteArray)(w:World)(l:List Int)(hr:RdB w Ar nr l)(hk:0<=k/\k<=1024)(hbo:k≠4->b=false)(hst:k≠16->k≠32->s=⟨#[]⟩):Calls Tryz.prog 53 #[Eu k pos Ar nr cr b s] w fun e w'=>e= .returned (afJ k pos b (str l) s)/\Below w.heap.size w w':=by
 obtain⟨W1,hW1⟩:∃W1,W1=(w.alloc (.cells #[.int .u16 k,.int .i64 pos,.slice Ar nr cr,.bool b,.string s] 111)).alloc (.cells FU 37):=⟨_,rfl⟩
 have hb1:Below w.heap.size w W1:=by rw[hW1];exact ak (ak (bg _ _) _) _
 have x1:W1.heap[w.heap.size]? =some (.cells #[.int .u16 k,.int .i64 pos,.slice Ar nr cr,.bool b,.string s] 111 (0,0)):=by rw[hW1];exact bn (aP w _) _
 have x2:W1.heap[w.heap.size+1]? =some (.cells FU 37 (0,0)):=by
  rw[hW1];have:=aP (w.alloc (.cells #[.int .u16 k,.int .i64 pos,.slice Ar nr cr,.bool b,.string s] 111)) (.cells FU 37)
  simpa using this
 have hs1:W1.heap.size=w.heap.size+2:=by rw[hW1];simp
 have TD:=ah (fun(w':World)(hb:Below W1.heap.size W1 w')=>Iu x1 hb);have HX2:=ah x2;have HX1:=ah x1;have HS1:=ah hs1;have HB1:=ah hb1;have HS:aC (∀w',Below W1.heap.size W1 w'->w'.cell? ⟨w.heap.size,0,none⟩=some (.int .u16 k)/\w'.cell? ⟨w.heap.size,1,none⟩=some (.int .i64 pos)/\w'.cell? ⟨w.heap.size,2,none⟩=some (.slice Ar nr cr)/\w'.cell? ⟨w.heap.size,3,none⟩=some (.bool b)/\w'.cell? ⟨w.heap.size,4,none⟩=some (.string s)/\aC (Below W1.heap.size W1 w')):=⟨fun w' hb=>⟨(TD.out w' hb).1,(TD.out w' hb).2.1,(TD.out w' hb).2.2.1,(TD.out w' hb).2.2.2.1,(TD.out w' hb).2.2.2.2,⟨hb⟩⟩⟩;have HR:=ah (fun(w':World)(hb:Below W1.heap.size W1 w')=>Kd.aU hr (au hb1 hb));have HW1:=ah hW1;have e1:IntKind.i64.wrap k=k:=by rw[IntKind.wrap_i64];omega
 have MH:=ah hbo;have wQ:=ah hst;clear hW1 x1 hr hb1 hk x2 hs1 hbo hst;go_enter Tryz.func53,Tryz.ntmps53
 go_upto_region 1 with fail
 rw[<-HW1.out];clear HW1
 go_cut [3] (fun s3 wx=>∃g,s3= .pointer (some ⟨g,0,none⟩)/\aC (qC W1 wx g k pos false (str l) ⟨#[]⟩))
 case first=>
  go_region_held3 (fun w'=>w'.cell? ⟨w.heap.size,0,none⟩=some (.int .u16 k)/\w'.cell? ⟨w.heap.size,1,none⟩=some (.int .i64 pos)/\w'.cell? ⟨w.heap.size,2,none⟩=some (.slice Ar nr cr)/\w'.cell? ⟨w.heap.size,3,none⟩=some (.bool b)/\w'.cell? ⟨w.heap.size,4,none⟩=some (.string s)/\aC (Below W1.heap.size W1 w')) (((with_reducible refine HS.out _ ?_);(first|(with_reducible exact aQ (bg _ _))|(with_reducible exact au HBc.out (ak (bg _ _) _))|(with_reducible exact(mM HT3.out rfl).2 _ _ HBc.out Eh.out)|(rename _/\_/\_/\_/\_/\aC _=>hs_;first|(with_reducible exact au hs_.2.2.2.2.2.out hba)|(with_reducible exact au hs_.2.2.2.2.2.out hbb)|(with_reducible exact au hs_.2.2.2.2.2.out hbc)|(with_reducible exact au hs_.2.2.2.2.2.out (ak (bg _ _) _)))))) (first|(go_at_call 52;(with_reducible refine(um _ _ _ _ _ _ _ _).mono ?_);rintro e w3⟨rfl,hba⟩)|(go_at_call 111;(with_reducible refine(adr _ _ _ _ _ _ _ _).mono ?_);rintro e w4⟨rfl,hbb⟩)|(go_at_call 108;rename _/\_/\_/\_/\_/\aC _=>hs9;(with_reducible refine(ads _ _ _ _ _ _ _ _ l (HR.out _ hs9.2.2.2.2.2.out)).mono ?_);rintro e w5⟨rfl,hbc⟩;have HBc:=ah (au hs9.2.2.2.2.2.out hbc);(first|((with_reducible have HT3:=ah (aI (aI (aI (pU (aP W1 (.cells FU 37))) hba) hbb) hbc));have Eh:aC (W1.heap.size<=W1.heap.size):=⟨Nat.le_refl _⟩;obtain⟨⟨k0,k1,k2,k3,k4⟩,f0,f1,f2,f3,f4⟩:=lK HT3.out)|((with_reducible have HT3:=ah (aI (aI (aP w3 (.cells FU 37)) hbb) hbc));have Eh:aC (W1.heap.size<=w3.heap.size):=⟨hba.size⟩;obtain⟨⟨k0,k1,k2,k3,k4⟩,f0,f1,f2,f3,f4⟩:=lK HT3.out)|((with_reducible have HT3:=ah (aI (aP w4 (.cells FU 37)) hbc));have Eh:aC (W1.heap.size<=w4.heap.size):=⟨Nat.le_trans hba.size hbb.size⟩;obtain⟨⟨k0,k1,k2,k3,k4⟩,f0,f1,f2,f3,f4⟩:=lK HT3.out)|skip)))
  all_goals go_outline
  all_goals
   go_wp2
   go_meet
   first
    |exact⟨_,rfl,⟨⟨(mM HT3.out rfl).2 _ _ HBc.out Eh.out,Eh.out,(mM HT3.out rfl).1⟩⟩⟩
    |exact⟨_,rfl,⟨⟨au HBc.out (ak (bg _ _) _),HBc.out.size,aP w5 _⟩⟩⟩
 case rest=>
  obtain⟨g,rfl,uh⟩:=hcut;obtain⟨t0,t1,t2,t3,t4⟩:=TD.out wc uh.out.be
  by_cases hk4:k=4
  ·subst hk4
   have hs0:=wQ.out (by omega) (by omega);subst hs0;have gz:wc.frozen? ⟨g,2,none⟩=false:=aN uh.out.blk 2
   go_upto_region 9 with(first|(go_at_call 52;(with_reducible refine(um _ _ _ _ _ _ _ _).mono ?_);rintro e w6⟨rfl,hb⟩;have HB6:=ah (au uh.out.be hb);have HM6:=ah (show qC W1 w6 g 4 pos false (str l) ⟨#[]⟩from⟨HB6.out,uh.out.ge,aI uh.out.blk hb⟩);clear t0 t1 t2 t3 t4;obtain⟨t0,t1,t2,t3,t4⟩:=TD.out w6 HB6.out;clear hb)|(go_at_call 112;(with_reducible refine(aae _ _ _ _ _ _ _).mono ?_);rintro e w7⟨rfl,hb⟩;have HM7:=ah (show qC W1 w7 g 4 pos false (str l) ⟨#[]⟩from⟨au HB6.out hb,HM6.out.ge,aI HM6.out.blk hb⟩);have y0:w7.frozen? ⟨g,2,none⟩=false:=aN HM7.out.blk 2;have y1:=(aA HM7.out.blk 2).trans rfl;clear hb))
   obtain⟨w8,h8⟩:∃w8,w8=w7.setCell ⟨g,2,none⟩ (.bool b):=⟨_,rfl⟩
   rw[<-h8];have HM8:=ah (show qC W1 w8 g 4 pos b (str l) ⟨#[]⟩from by rw[h8];exact⟨aV HM7.out.be HM7.out.ge,HM7.out.ge,(aW HM7.out.blk 2 (.bool b)).trans rfl⟩);clear h8 y0 y1 t0 t1 t2 t3 t4 gz;have hm:=HM8.out;have hbk:=hm.blk;obtain⟨q0,q1,q2,q3,q4⟩:=box5 hbk;have hx2:=aI HX2.out hm.be;have hne:g≠w.heap.size+1:=by have:=hm.ge;have:=HS1.out;omega
   obtain⟨⟨k0,k1,k2,k3,k4⟩,f0,f1,f2,f3,f4⟩:=lK hx2;have HM:=ah hm;have HX3:=ah hx2;clear hm hbk hx2 hne;go_wp2;obtain⟨z1,z2⟩:=mM HX3.out rfl;refine bodyPost_ret (results_cell_row rfl _ _ (w.heap.size+1) _ _ _ _ rfl z1 Tryz.underlying37 rfl (by kernel_rfl)) rfl ?_;exact⟨rfl,z2 _ _ (au HB1.out HM.out.be) (by omega)⟩
  ·by_cases hk16:k=16
   ·subst hk16
    have hb0:=MH.out (by omega);subst hb0;have gz:wc.frozen? ⟨g,4,none⟩=false:=aN uh.out.blk 4
    go_upto_region 9 with(first|(go_at_call 52;(with_reducible refine(um _ _ _ _ _ _ _ _).mono ?_);rintro e w6⟨rfl,hb⟩;have HB6:=ah (au uh.out.be hb);have HM6:=ah (show qC W1 w6 g 16 pos false (str l) ⟨#[]⟩from⟨HB6.out,uh.out.ge,aI uh.out.blk hb⟩);clear t0 t1 t2 t3 t4;obtain⟨t0,t1,t2,t3,t4⟩:=TD.out w6 HB6.out;clear hb)|(go_at_call 113;(with_reducible refine(Tn _ _ _ _ _ _ _).mono ?_);rintro e w7⟨rfl,hb⟩;have HM7:=ah (show qC W1 w7 g 16 pos false (str l) ⟨#[]⟩from⟨au HB6.out hb,HM6.out.ge,aI HM6.out.blk hb⟩);have y0:w7.frozen? ⟨g,4,none⟩=false:=aN HM7.out.blk 4;have y1:=(aA HM7.out.blk 4).trans rfl;clear hb))
    obtain⟨w8,h8⟩:∃w8,w8=w7.setCell ⟨g,4,none⟩ (.string s):=⟨_,rfl⟩
    rw[<-h8];have HM8:=ah (show qC W1 w8 g 16 pos false (str l) s from by rw[h8];exact⟨aV HM7.out.be HM7.out.ge,HM7.out.ge,(aW HM7.out.blk 4 (.string s)).trans rfl⟩);clear h8 y0 y1 t0 t1 t2 t3 t4 gz;have hm:=HM8.out;have hbk:=hm.blk;obtain⟨q0,q1,q2,q3,q4⟩:=box5 hbk;have hx2:=aI HX2.out hm.be;have hne:g≠w.heap.size+1:=by have:=hm.ge;have:=HS1.out;omega
    obtain⟨⟨k0,k1,k2,k3,k4⟩,f0,f1,f2,f3,f4⟩:=lK hx2;have HM:=ah hm;have HX3:=ah hx2;clear hm hbk hx2 hne;go_wp2;obtain⟨z1,z2⟩:=mM HX3.out rfl;refine bodyPost_ret (results_cell_row rfl _ _ (w.heap.size+1) _ _ _ _ rfl z1 Tryz.underlying37 rfl (by kernel_rfl)) rfl ?_;exact⟨rfl,z2 _ _ (au HB1.out HM.out.be) (by omega)⟩
   ·by_cases hk32:k=32
    ·subst hk32
     have hb0:=MH.out (by omega);subst hb0;have gz:wc.frozen? ⟨g,4,none⟩=false:=aN uh.out.blk 4
     go_upto_region 9 with(first|(go_at_call 52;(with_reducible refine(um _ _ _ _ _ _ _ _).mono ?_);rintro e w6⟨rfl,hb⟩;have HB6:=ah (au uh.out.be hb);have HM6:=ah (show qC W1 w6 g 32 pos false (str l) ⟨#[]⟩from⟨HB6.out,uh.out.ge,aI uh.out.blk hb⟩);clear t0 t1 t2 t3 t4;obtain⟨t0,t1,t2,t3,t4⟩:=TD.out w6 HB6.out;clear hb)|(go_at_call 114;(with_reducible refine(aaf _ _ _ _ _ _ _).mono ?_);rintro e w7⟨rfl,hb⟩;have HM7:=ah (show qC W1 w7 g 32 pos false (str l) ⟨#[]⟩from⟨au HB6.out hb,HM6.out.ge,aI HM6.out.blk hb⟩);have y0:w7.frozen? ⟨g,4,none⟩=false:=aN HM7.out.blk 4;have y1:=(aA HM7.out.blk 4).trans rfl;clear hb))
     obtain⟨w8,h8⟩:∃w8,w8=w7.setCell ⟨g,4,none⟩ (.string s):=⟨_,rfl⟩
     rw[<-h8];have HM8:=ah (show qC W1 w8 g 32 pos false (str l) s from by rw[h8];exact⟨aV HM7.out.be HM7.out.ge,HM7.out.ge,(aW HM7.out.blk 4 (.string s)).trans rfl⟩);clear h8 y0 y1 t0 t1 t2 t3 t4 gz;have hm:=HM8.out;have hbk:=hm.blk;obtain⟨q0,q1,q2,q3,q4⟩:=box5 hbk;have hx2:=aI HX2.out hm.be;have hne:g≠w.heap.size+1:=by have:=hm.ge;have:=HS1.out;omega
     obtain⟨⟨k0,k1,k2,k3,k4⟩,f0,f1,f2,f3,f4⟩:=lK hx2;have HM:=ah hm;have HX3:=ah hx2;clear hm hbk hx2 hne;go_wp2;obtain⟨z1,z2⟩:=mM HX3.out rfl;refine bodyPost_ret (results_cell_row rfl _ _ (w.heap.size+1) _ _ _ _ rfl z1 Tryz.underlying37 rfl (by kernel_rfl)) rfl ?_;exact⟨rfl,z2 _ _ (au HB1.out HM.out.be) (by omega)⟩
    ·have hs0:=wQ.out hk16 hk32
     have hb0:=MH.out hk4;subst hs0;subst hb0;have d1:(k==4)=false:=eqF hk4;have d2:(k==16)=false:=eqF hk16;have d3:(k==32)=false:=eqF hk32;clear hk4 hk16 hk32
     go_upto_region 9 with(go_at_call 52;(with_reducible refine(um _ _ _ _ _ _ _ _).mono ?_);rintro e w6⟨rfl,hb⟩;have HB6:=ah (au uh.out.be hb);have HM6:=ah (show qC W1 w6 g k pos false (str l) ⟨#[]⟩from⟨HB6.out,uh.out.ge,aI uh.out.blk hb⟩);clear t0 t1 t2 t3 t4;obtain⟨t0,t1,t2,t3,t4⟩:=TD.out w6 HB6.out;clear hb)
     clear t0 t1 t2 t3 t4;have hm:=HM6.out;have hbk:=hm.blk;obtain⟨q0,q1,q2,q3,q4⟩:=box5 hbk;have hx2:=aI HX2.out hm.be;have hne:g≠w.heap.size+1:=by have:=hm.ge;have:=HS1.out;omega
     obtain⟨⟨k0,k1,k2,k3,k4⟩,f0,f1,f2,f3,f4⟩:=lK hx2;have HM:=ah hm;have HX3:=ah hx2;clear hm hbk hx2 hne;go_wp2;obtain⟨z1,z2⟩:=mM HX3.out rfl;refine bodyPost_ret (results_cell_row rfl _ _ (w.heap.size+1) _ _ _ _ rfl z1 Tryz.underlying37 rfl (by kernel_rfl)) rfl ?_;exact⟨rfl,z2 _ _ (au HB1.out HM.out.be) (by omega)⟩
end Go.Proofs.YtapkmjfjikpnlaaGreatDoor
