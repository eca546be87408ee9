/- A part of FnMsgJsonMeans. No conditions. -/
import Derived.Test.YtapkmjfjikpnlaaGreatDoorM36
set_option maxHeartbeats 8000000
set_option maxRecDepth 100000
namespace Go.Proofs.YtapkmjfjikpnlaaGreatDoor
open Go.RowKit YtapkmjfjikpnlaaGreatDoorW.aG YtapkmjfjikpnlaaGreatDoorW.aJ FP
set_option linter.unusedVariables false
set_option linter.unusedSimpArgs false
structure FlF(bits:Int)(s:Nat)(low:Int)(last:Nat):Prop where
 fin:∀(k:Nat)(W:World),k<=last->Calls Tryz.prog 202 #[.int .u64 k,.int .i64 bits] W fun e w'=>e= .returned (.tuple #[.int .u64 (iE s k),.int .i64 (low+(gZ s k:Nat))])/\W=w'
 m:∀k,k<=last->iE s k<9007199254740992
 e:∀k,k<=last-> -1074<=low+(gZ s k:Nat)/\low+(gZ s k:Nat)<=1000
 l:last<9223372036854775808
theorem flF64:FlF 64 52 (-1074) 9218868437227405311 where
 fin:=fun k W hk=>CS k W (by omega)
 m:=fun k hk=>by unfold iE;split<;>omega
 e:=fun k hk=>by unfold gZ;omega
 l:=by decide
theorem flF32:FlF 32 23 (-149) 2139095039 where
 fin:=fun k W hk=>MX k W (by omega)
 m:=fun k hk=>by unfold iE;split<;>omega
 e:=fun k hk=>by unfold gZ;omega
 l:=by decide
structure qB(W w:World)(D6:Nat)(neg:Bool)(A:Option Addr)(n c:Nat)(pw:Int)(dg:List Int):Prop where
 blk:w.heap[D6]? =some (.cells #[.bool neg,.slice A n c,.int .i64 pw,.bool false] 254 (0,0))
 rd0:∃W2,RdB W2 A n dg/\Below W2.heap.size W2 w/\W2.heap.size<=D6
 be:Below W.heap.size W w
 cap:n<=c
 ge:W.heap.size<=D6
theorem qB.below{W w w1:World}{D6:Nat}{neg:Bool}{A:Option Addr}{n c:Nat}{pw:Int}{dg:List Int}(h:qB W w D6 neg A n c pw dg)(hb:Below w.heap.size w w1):qB W w1 D6 neg A n c pw dg:=by
 obtain⟨W2,h1,h2,h3⟩:=h.rd0;exact⟨aI h.blk hb,⟨W2,h1,au h2 hb,h3⟩,au h.be hb,h.cap,h.ge⟩
theorem qB.rd{W w:World}{D6:Nat}{neg:Bool}{A:Option Addr}{n c:Nat}{pw:Int}{dg:List Int}(h:qB W w D6 neg A n c pw dg):RdB w A n dg:=by
 obtain⟨W2,h1,h2,h3⟩:=h.rd0;exact Kd.aU h1 h2
noncomputable def jfB:Code:=sq2 (sq2 (sq2 (sq2 (dF Tryz.f188))))
noncomputable def jfT:Code:=sq2 (sq2 (sq2 (sq2 (sq2 (sq2 (sq2 jfB))))))
noncomputable def jfE:Code:=sq2 (sq2 (sq2 jfT))
def Zz(W:World)(F:Nat)(e:Ending)(w':World):Prop:=e= .returned (.tuple #[.int .u64 F,.int .i64 1])/\Below W.heap.size W w'
theorem OD{lo hi:Nat}(h:lo<hi)(hh:hi<9223372036854775808):∃k h1 h2 h3:Nat,(lo<k/\k<=hi)/\IntKind.u64.wrap ((hi:Int)-(lo:Int))=(h1:Int)/\IntKind.u64.wrap ((h1:Int)+1)=(h2:Int)/\(h2:Int).tdiv 2=(h3:Int)/\IntKind.u64.wrap (h3:Int)=(h3:Int)/\IntKind.u64.wrap ((lo:Int)+(h3:Int))=(k:Int)/\IntKind.u64.wrap ((k:Int)-1)=((k-1:Nat):Int):=by
 refine⟨lo+(hi-lo+1)/2,hi-lo,hi-lo+1,(hi-lo+1)/2,by omega,?_,?_,?_,?_,?_,?_⟩
 ·rw[IntKind.wrap_u64];omega
 ·rw[IntKind.wrap_u64];omega
 ·rw[Int.tdiv_eq_ediv_of_nonneg (by omega)];omega
 ·rw[IntKind.wrap_u64];omega
 ·rw[IntKind.wrap_u64];omega
 ·rw[IntKind.wrap_u64];omega
theorem ZA(b:Nat)(w:World)(hb:b<2139095040):(convert 126 127 (.float .f32 b)).run Tryz.prog w= .ok (.float .f64 (widen b)) w:=by
 have hs:(Tryz.prog.underlying 126).isSome=true:=by rw[Tryz.underlying126];rfl
 have hd:Ieee.single.signWeight=2147483648:=by decide
 have hi:Ieee.single.infRung=2139095040:=by decide
 refine run_convert_float_float w _ _ _ _ _ _ hs Tryz.underlying127 ?_;unfold floatToFloatBits;rw[if_neg (by decide)];obtain⟨m,p,h1,_⟩:=nV Ieee.single b (by rw[hd,hi];omega);have e1:FloatKind.f32.decode b= .number (b/Ieee.single.signWeight%2==1) m (Ieee.single.leastPlace+p):=h1;obtain⟨k,k1,k2,k3⟩:=tY b (by omega);have hw:FloatKind.f64.encode (.number (b/Ieee.single.signWeight%2==1) m (Ieee.single.leastPlace+p))=widen b:=by unfold widen;rw[e1]
 rw[e1];simp only;rw[hw];have hd2:Ieee.double.signWeight=9223372036854775808:=by decide
 have hi2:Ieee.double.infRung=9218868437227405312:=by decide
 have hkm:widen b%9223372036854775808=k:=by rw[k2];split<;>omega
 obtain⟨m2,p2,g1,_⟩:=nV Ieee.double (widen b) (by rw[hd2,hi2,hkm];exact k1);rw[if_neg];intro hh;have g2:FloatKind.f64.decode (widen b)=_:=g1;rw[g2]at hh;cases hh
theorem acO(b:Nat)(w:World):(callFunc 218 #[.int .u32 (b:Int)]).run Tryz.prog w= .ok (.value (.float .f32 b)) w:=by kernel_rfl
theorem acP(b:Nat)(w:World):(callFunc 190 #[.float .f64 b]).run Tryz.prog w= .ok (.value (.int .u64 (b:Int))) w:=by kernel_rfl
theorem Xh{sg:Int}{K:Nat}(h:sg=0∨sg=9223372036854775808)(hK:K<9223372036854775808):bits .or .u64 sg (K:Int)=sg+(K:Int):=by
 rcases h with rfl|rfl
 ·exact oru64 (y:=(K:Int)) (x:=0) 63 (by omega) (by omega) (by omega) (by omega) (by omega) (by omega)
 ·exact oru64 (y:=(K:Int)) (x:=9223372036854775808) 63 (by omega) (by omega) (by omega) (by omega) (by omega) (by omega)
theorem Xi(bits last:Int)(hb:bits=64)(K F:Nat)(W w:World)(sg:Int)(hs:sg=0∨sg=9223372036854775808)(hK:(K:Int)<=last)(hl:last<9223372036854775808)(hF:sg+(K:Int)=F)(hbe:Below W.heap.size W w){u0 u2 u3 u4 u5 u6 u7 u11 u12 u13 u14 u15 u16 u17 u18 u19 u20 u21 u22 u23 u24 u25 u26 u27 u28 u29 u30 u31 u32 u33 u34 u35 u36 u37 u38 u39 u40 u41 u42 u43 u44 u45 u46 u47 u48 u49 u50 u51 u52 u53 u54 u55 u56 u57 u58 u59 u60 u61 u62 u63 u64 u65 u66 u67 u68 u69 u70 u71 u72 u73 u74 u75 u76 u77 u78 u79 u80 u81 u82 u83 u84 u85 u86 u87 u88 u89 u90 u91 u92 u93 u94 u95 u96 u97 u98 u99 u100 u101 u102 u103 u104 u105 u106 u107 u108 u109 u110 u111 u112 u113 u114 u115 u116 u117 u118 u119 u120 u121 u122 u123 u124 u125 u126 u127 u128 u129 u130 u131 u132 u133 u134 u135 u136 u137 u138:Value}:
 jfE.wp Tryz.prog (bodyPost Tryz.prog Tryz.f188 (Zz W F)) {tmps:=List.toArray (u0::(.int .i64 bits)::u2::u3::u4::u5::u6::u7::(.int .u64 sg)::(.int .u64 last)::(.int .u64 (K:Int))::u11::u12::u13::u14::u15::u16::u17::u18::u19::u20::u21::u22::u23::u24::u25::u26::u27::u28::u29::u30::u31::u32::u33::u34::u35::u36::u37::u38::u39::u40::u41::u42::u43::u44::u45::u46::u47::u48::u49::u50::u51::u52::u53::u54::u55::u56::u57::u58::u59::u60::u61::u62::u63::u64::u65::u66::u67::u68::u69::u70::u71::u72::u73::u74::u75::u76::u77::u78::u79::u80::u81::u82::u83::u84::u85::u86::u87::u88::u89::u90::u91::u92::u93::u94::u95::u96::u97::u98::u99::u100::u101::u102::u103::u104::u105::u106::u107::u108::u109::u110::u111::u112::u113::u114::u115::u116::u117::u118::u119::u120::u121::u122::u123::u124::u125::u126::u127::u128::u129::u130::u131::u132::u133::u134::u135::u136::u137::u138::[]),defers:=[]} w:=by
 subst hb;have h1:=Xh hs (show K<9223372036854775808 by omega);rw[hF]at h1;have d1:decide (last<(K:Int))=false:=bY (by omega);clear hs hK hF hl;generalize hQ:bodyPost Tryz.prog Tryz.f188 (Zz W F)=Q;dsimp only[jfE,jfT,jfB,dF,sq2,Tryz.f188];subst hQ;go_wp2
 go_ret2
 exact⟨rfl,hbe⟩
theorem Xj(bits last:Int)(hb:bits=32)(K F:Nat)(W w:World)(sg:Int)(hs:sg=0∨sg=9223372036854775808)(hK:(K:Int)<=last)(hl:last<2139095040)(hF:sg+(widen K:Int)=F)(hbe:Below W.heap.size W w){u0 u2 u3 u4 u5 u6 u7 u11 u12 u13 u14 u15 u16 u17 u18 u19 u20 u21 u22 u23 u24 u25 u26 u27 u28 u29 u30 u31 u32 u33 u34 u35 u36 u37 u38 u39 u40 u41 u42 u43 u44 u45 u46 u47 u48 u49 u50 u51 u52 u53 u54 u55 u56 u57 u58 u59 u60 u61 u62 u63 u64 u65 u66 u67 u68 u69 u70 u71 u72 u73 u74 u75 u76 u77 u78 u79 u80 u81 u82 u83 u84 u85 u86 u87 u88 u89 u90 u91 u92 u93 u94 u95 u96 u97 u98 u99 u100 u101 u102 u103 u104 u105 u106 u107 u108 u109 u110 u111 u112 u113 u114 u115 u116 u117 u118 u119 u120 u121 u122 u123 u124 u125 u126 u127 u128 u129 u130 u131 u132 u133 u134 u135 u136 u137 u138:Value}:
 jfE.wp Tryz.prog (bodyPost Tryz.prog Tryz.f188 (Zz W F)) {tmps:=List.toArray (u0::(.int .i64 bits)::u2::u3::u4::u5::u6::u7::(.int .u64 sg)::(.int .u64 last)::(.int .u64 (K:Int))::u11::u12::u13::u14::u15::u16::u17::u18::u19::u20::u21::u22::u23::u24::u25::u26::u27::u28::u29::u30::u31::u32::u33::u34::u35::u36::u37::u38::u39::u40::u41::u42::u43::u44::u45::u46::u47::u48::u49::u50::u51::u52::u53::u54::u55::u56::u57::u58::u59::u60::u61::u62::u63::u64::u65::u66::u67::u68::u69::u70::u71::u72::u73::u74::u75::u76::u77::u78::u79::u80::u81::u82::u83::u84::u85::u86::u87::u88::u89::u90::u91::u92::u93::u94::u95::u96::u97::u98::u99::u100::u101::u102::u103::u104::u105::u106::u107::u108::u109::u110::u111::u112::u113::u114::u115::u116::u117::u118::u119::u120::u121::u122::u123::u124::u125::u126::u127::u128::u129::u130::u131::u132::u133::u134::u135::u136::u137::u138::[]),defers:=[]} w:=by
 subst hb;have hw:=(qM (k:=K) (by omega)).1;obtain⟨g,hg⟩:∃g,g=widen K:=⟨_,rfl⟩
 have hcv:=ZA K w (by omega);rw[<-hg]at hcv;rw[<-hg]at hF hw;have h1:=Xh hs (show g<9223372036854775808 by omega);rw[hF]at h1;have d1:decide (last<(K:Int))=false:=bY (by omega);have e1:IntKind.u32.wrap (K:Int)=(K:Int):=by rw[IntKind.wrap_u32];omega
 have e2:(K:Int)%4294967296=(K:Int):=by omega
 have f1:=fun W=>acO K W
 have f2:=fun W=>acP g W
 clear hs hK hF hl hg hw;generalize hQ:bodyPost Tryz.prog Tryz.f188 (Zz W F)=Q;dsimp only[jfE,jfT,jfB,dF,sq2,Tryz.f188];subst hQ;go_wp2
 go_ret2
 exact⟨rfl,hbe⟩
theorem ZB(bits:Int)(s:Nat)(low:Int)(last:Nat)(K F:Nat)(W w:World)(D6:Nat)(neg:Bool)(A:Option Addr)(n c:Nat)(pw:Int)(dg:List Int)(sg:Int)(hFm:FlF bits s low last)(hN:oD s low (bC dg) pw K)(hK:K<=last)(hJ:qB W w D6 neg A n c pw dg)(hd:jT dg)(hn:n<=400)(hp: -4000<=pw/\pw<=4000)(hs:sg=0∨sg=9223372036854775808)
 (hend:(bits=64/\sg+(K:Int)=F)∨(bits=32/\last<2139095040/\sg+(widen K:Int)=F)) {u0 u2 u3 u4 u5 u7 u12 u13 u14 u15 u16 u17 u18 u19 u20 u21 u22 u23 u24 u25 u26 u27 u28 u29 u30 u31 u32 u33 u34 u35 u36 u37 u38 u39 u40 u41 u42 u43 u44 u45 u46 u47 u48 u49 u50 u51 u52 u53 u54 u55 u56 u57 u58 u59 u60 u61 u62 u63 u64 u65 u66 u67 u68 u69 u70 u71 u72 u73 u74 u75 u76 u77 u78 u79 u80 u81 u82 u83 u84 u85 u86 u87 u88 u89 u90 u91 u92 u93 u94 u95 u96 u97 u98 u99 u100 u101 u102 u103 u104 u105 u106 u107 u108 u109 u110 u111 u112 u113 u114 u115 u116 u117 u118 u119 u120 u121 u122 u123 u124 u125 u126 u127 u128 u129 u130 u131 u132 u133 u134 u135 u136 u137 u138:Value}:
 jfT.wp Tryz.prog (bodyPost Tryz.prog Tryz.f188 (Zz W F)) {tmps:=List.toArray (u0::(.int .i64 bits)::u2::u3::u4::u5::(.pointer (some ⟨D6,0,none⟩))::u7::(.int .u64 sg)::(.int .u64 (last:Int))::(.int .u64 0)::(.int .u64 (last:Int))::u12::u13::u14::u15::u16::u17::u18::u19::u20::u21::u22::u23::u24::u25::u26::u27::u28::u29::u30::u31::u32::u33::u34::u35::u36::u37::u38::u39::u40::u41::u42::u43::u44::u45::u46::u47::u48::u49::u50::u51::u52::u53::u54::u55::u56::u57::u58::u59::u60::u61::u62::u63::u64::u65::u66::u67::u68::u69::u70::u71::u72::u73::u74::u75::u76::u77::u78::u79::u80::u81::u82::u83::u84::u85::u86::u87::u88::u89::u90::u91::u92::u93::u94::u95::u96::u97::u98::u99::u100::u101::u102::u103::u104::u105::u106::u107::u108::u109::u110::u111::u112::u113::u114::u115::u116::u117::u118::u119::u120::u121::u122::u123::u124::u125::u126::u127::u128::u129::u130::u131::u132::u133::u134::u135::u136::u137::u138::[]),defers:=[]} w:=by
 obtain⟨R,hR⟩:∃R,R=hN.R:=⟨_,rfl⟩
 have hRK:R<=K:=by rw[hR];exact hN.ahx
 have aaM:=ah (fun k=>(hN.test k));have uh:=ah hN.mid;rw[<-hR]at aaM uh;have TL:=ah hFm;have HK:=ah hK;have HRK:=ah hRK;have HD:=ah hd;have yu:=ah hn;have HP:=ah hp;have HS:=ah hs;have Xk:=ah hend;have HJ:=ah hJ;clear hFm hN hK hJ hd hn hp hs hend hR hRK;generalize hQ:bodyPost Tryz.prog Tryz.f188 (Zz W F)=Q;dsimp only[jfT,jfB,dF,sq2,Tryz.f188];subst hQ
 go_upto_block 3 with fail
 go_cut [10,11,12,13,14] (fun s10 s11 s12 s13 s14 wx=>s10= .int .u64 (R:Int)/\aC (qB W wx D6 neg A n c pw dg))
 case first=>
  go_wp2
  go_loopg [10,11,12,13,14] last (fun g v10 v11 v12 v13 v14 w'=>∃lo hi:Nat,v10= .int .u64 (lo:Int)/\v11= .int .u64 (hi:Int)/\aC (lo<=R/\R<=hi/\hi<=last/\hi-lo<=g)/\aC (qB W w' D6 neg A n c pw dg))
  case atStart=>exact⟨0,last,rfl,rfl,⟨by omega,Nat.le_trans HRK.out HK.out,Nat.le_refl _,by omega⟩,HJ⟩
  case round=>
   obtain⟨lo,hi,rfl,rfl,HH,HJr⟩:=hrel
   by_cases hlt:lo<hi
   ·have hhi:hi<9223372036854775808:=Nat.lt_of_le_of_lt HH.out.2.2.1 TL.out.l
    obtain⟨k,h1,h2,h3,⟨hk1,hk2⟩,x1,x2,x3,x4,x5,x6⟩:=OD hlt hhi;have hkl:k<=last:=Nat.le_trans hk2 HH.out.2.2.1;have hm:=TL.out.m k hkl;have he:=TL.out.e k hkl;have HFin:=ah (TL.out.fin k wr hkl);have HAg:=ah (FB neg A n c dg pw (iE s k) (low+(gZ s k:Nat)) wr HJr.out.rd HD.out yu.out HP.out (by omega) (by omega));obtain⟨cv,hcv⟩:∃cv,cv=cmp3 (bC dg*10^pw.toNat*2^(-(low+(gZ s k:Nat))).toNat) (iE s k*10^(-pw).toNat*2^(low+(gZ s k:Nat)).toNat):=⟨_,rfl⟩
    have htk:=aaM.out k;rw[<-hcv]at HAg htk;have d1:decide ((lo:Int)<(hi:Int))=true:=bZ (by omega);have d2:decide (lo<hi)=true:=bZ hlt;obtain⟨⟨c0,c1,c2,c3⟩,_⟩:=box4 HJr.out.blk;have MO:=ah (And.intro hk1 hk2);have Eh:=ah (show 0<gk by have:=HH.out.2.2.2;omega);generalize iE s k=mm at*;generalize low+(gZ s k:Nat)=ee at*;clear hcv hlt hhi hk1 hk2 hkl hm he
    by_cases hkR:k<=R
    ·have d3:decide (cv<0)=false:=bY (by have:=htk.2 hkR;omega)
     clear htk
     go_wp2_with (first|(go_at_call 202;(with_reducible refine HFin.out.mono ?_);rintro e' w1⟨rfl,rfl⟩)|(go_at_call 217;(with_reducible refine HAg.out.mono ?_);rintro e' w2⟨rfl,hb2⟩;have HJ2:=ah (HJr.out.below hb2);clear hb2))
     go_roundg (gk-1)
     case measure=>have:=Eh.out;omega
     case rel=>exact⟨k,hi,rfl,rfl,⟨hkR,HH.out.2.1,HH.out.2.2.1,by have:=HH.out.2.2.2;have:=MO.out;have:=Eh.out;omega⟩,HJ2⟩
    ·have d3:decide (cv<0)=true:=bZ (by
      apply Classical.byContradiction
      intro h;exact hkR (htk.1 (by omega)))
     clear htk
     go_wp2_with (first|(go_at_call 202;(with_reducible refine HFin.out.mono ?_);rintro e' w1⟨rfl,rfl⟩)|(go_at_call 217;(with_reducible refine HAg.out.mono ?_);rintro e' w2⟨rfl,hb2⟩;have HJ2:=ah (HJr.out.below hb2);clear hb2))
     go_roundg (gk-1)
     case measure=>have:=Eh.out;omega
     case rel=>exact⟨lo,k-1,rfl,rfl,⟨HH.out.1,Nat.le_sub_one_of_lt (Nat.lt_of_not_le hkR),by have:=HH.out.2.2.1;have:=MO.out;omega,by have:=HH.out.2.2.2;have:=MO.out;have:=Eh.out;omega⟩,HJ2⟩
   ·have hlR:lo=R:=by have:=HH.out;omega
    have d1:decide ((lo:Int)<(hi:Int))=false:=bY (by omega);have d2:decide (lo<hi)=false:=bY hlt;have HlR:=ah hlR;clear hlt hlR;go_wp2
    go_meet
    exact⟨by rw[HlR.out],HJr⟩
 case rest=>
  obtain⟨rfl,HJ3⟩:=hcut;have hRl:R<=last:=Nat.le_trans HRK.out HK.out;have hm:=TL.out.m R hRl;have he:=TL.out.e R hRl;have HFin:=ah (TL.out.fin R wc hRl);have HAg:=ah (FB neg A n c dg pw (2*iE s R+1) (low+(gZ s R:Nat)-1) wc HJ3.out.rd HD.out yu.out HP.out (by omega) (by omega));have hmid:=uh.out;obtain⟨cv,hcv⟩:∃cv,cv=cmp3 (bC dg*10^pw.toNat*2^(-(low+(gZ s R:Nat)-1)).toNat) ((2*iE s R+1)*10^(-pw).toNat*2^(low+(gZ s R:Nat)-1).toNat):=⟨_,rfl⟩
  rw[<-hcv]at HAg hmid;have w1:IntKind.u64.wrap (2*(iE s R:Int))=2*(iE s R:Int):=by rw[IntKind.wrap_u64];omega
  obtain⟨m2,hm2⟩:∃m2,m2=2*iE s R+1:=⟨_,rfl⟩
  have w2:IntKind.u64.wrap (2*(iE s R:Int)+1)=(m2:Int):=by rw[IntKind.wrap_u64];omega
  rw[<-hm2]at HAg;have w3:IntKind.i64.wrap (low+(gZ s R:Nat)-1)=low+(gZ s R:Nat)-1:=by rw[IntKind.wrap_i64];omega
  have w4:wrap64 (low+(gZ s R:Nat)-1)=low+(gZ s R:Nat)-1:=by unfold wrap64;omega
  obtain⟨⟨c0,c1,c2,c3⟩,_⟩:=box4 HJ3.out.blk;have HRl:=ah hRl;generalize iE s R=mm at*;generalize low+(gZ s R:Nat)=ee at*;have HM:=ah hmid;clear hcv hm he hm2 hmid hRl
  go_upto_region 27 with(first|(go_at_call 202;(with_reducible refine HFin.out.mono ?_);rintro e' w1⟨rfl,rfl⟩)|(go_at_call 217;(with_reducible refine HAg.out.mono ?_);rintro e' w2⟨rfl,hb2⟩;have HJ2:=ah (HJ3.out.below hb2);clear hb2))
  rcases HM.out with⟨h1,h2⟩|⟨h1,h2⟩
  ·have d1:decide (0<cv)=false:=bY (by omega)
   have d2:(cv==0)=false:=eqF (by omega);have HE:=ah h1;clear h1 h2
   go_upto_if 123 with fail
   go_cut [10] (fun s10 wx=>s10= .int .u64 (K:Int)/\aC (Below W.heap.size W wx))
   case first=>
    go_wp2
    go_meet
    exact⟨by rw[HE.out],⟨HJ2.out.be⟩⟩
   case rest=>
    obtain⟨rfl,HB⟩:=hcut
    go_step
    have hl:=TL.out.l;have hk:=HK.out;rcases Xk.out with⟨h1,h2⟩|⟨h1,h2,h3⟩
    ·exact Xi bits (last:Int) h1 K F W _ sg HS.out (by omega) (by omega) h2 HB.out
    ·exact Xj bits (last:Int) h1 K F W _ sg HS.out (by omega) (by omega) h3 HB.out
  ·have d1:decide (0<cv)=true:=bZ h2
   have e1:IntKind.u64.wrap ((R:Int)+1)=(K:Int):=by rw[IntKind.wrap_u64];have:=TL.out.l;have:=HK.out;omega
   clear h1 h2
   go_upto_if 123 with fail
   go_cut [10] (fun s10 wx=>s10= .int .u64 (K:Int)/\aC (Below W.heap.size W wx))
   case first=>
    go_wp2
    go_meet
    exact⟨rfl,⟨HJ2.out.be⟩⟩
   case rest=>
    obtain⟨rfl,HB⟩:=hcut
    go_step
    have hl:=TL.out.l;have hk:=HK.out;rcases Xk.out with⟨h1,h2⟩|⟨h1,h2,h3⟩
    ·exact Xi bits (last:Int) h1 K F W _ sg HS.out (by omega) (by omega) h2 HB.out
    ·exact Xj bits (last:Int) h1 K F W _ sg HS.out (by omega) (by omega) h3 HB.out
theorem qB.cut{W w:World}{D6:Nat}{neg:Bool}{A A1:Option Addr}{n c n1 c1:Nat}{pw:Int}{dg dg1:List Int}(h:qB W w D6 neg A n c pw dg)(hr:∀W2,RdB W2 A n dg->RdB W2 A1 n1 dg1)(hc:n1<=c1):qB W (w.setCell ⟨D6,1,none⟩ (.slice A1 n1 c1)) D6 neg A1 n1 c1 pw dg1:=by
 obtain⟨W2,h1,h2,h3⟩:=h.rd0;exact⟨(aW h.blk 1 _).trans rfl,⟨W2,hr _ h1,aV h2 h3,h3⟩,aV h.be h.ge,hc,h.ge⟩
def aaN(bits:Int)(D:Nat)(pw:Int)(neg:Bool)(F:Nat):Prop:=
 (D=0/\(F:Int)=if neg=true then 9223372036854775808 else 0)∨
 (0<D/\(∀dg:List Int,bC dg=D->jT dg->(∀d,dg.head? =some d->d≠48)->dg≠[]-> -400<=(dg.length:Int)+pw/\(dg.length:Int)+pw<=400)/\
   ((bits=64/\∃K,oD 52 (-1074) D pw K/\K<=9218868437227405311/\(if neg=true then(9223372036854775808:Int)else 0)+(K:Int)=F)∨(bits=32/\∃K,oD 23 (-149) D pw K/\K<=2139095039/\(if neg=true then(9223372036854775808:Int)else 0)+(widen K:Int)=F)))
theorem ahz(bits:Int)(D F:Nat)(W w:World)(D6:Nat)(neg:Bool)(A:Option Addr)(n c:Nat)(pw:Int)(dg:List Int)(hJ:qB W w D6 neg A n c pw dg)(hD:bC dg=D)(hd:jT dg)(hn:n<=400)(hp: -4000<=pw/\pw<=4000)(hA:aaN bits D pw neg F){u0 u2 u3 u4 u5 u7 u8 u9 u10 u11 u12 u13 u14 u15 u16 u17 u18 u19 u20 u21 u22 u23 u24 u25 u26 u27 u28 u29 u30 u31 u32 u33 u34 u35 u36 u37 u38 u39 u40 u41 u42 u43 u44 u45 u46 u47 u48 u49 u50 u51 u52 u53 u54 u55 u56 u57 u58 u59 u60 u61 u62 u63 u64 u65 u66 u67 u68 u69 u70 u71 u72 u73 u74 u75 u76 u77 u78 u79 u80 u81 u82 u83 u84 u85 u86 u87 u88 u89 u90 u91 u92 u93 u94 u95 u96 u97 u98 u99 u100 u101 u102 u103 u104 u105 u106 u107 u108 u109 u110 u111 u112 u113 u114 u115 u116 u117 u118 u119 u120 u121 u122 u123 u124 u125 u126 u127 u128 u129 u130 u131 u132 u133 u134 u135 u136 u137 u138:Value}:
 jfB.wp Tryz.prog (bodyPost Tryz.prog Tryz.f188 (Zz W F)) {tmps:=List.toArray (u0::(.int .i64 bits)::u2::u3::u4::u5::(.pointer (some ⟨D6,0,none⟩))::u7::u8::u9::u10::u11::u12::u13::u14::u15::u16::u17::u18::u19::u20::u21::u22::u23::u24::u25::u26::u27::u28::u29::u30::u31::u32::u33::u34::u35::u36::u37::u38::u39::u40::u41::u42::u43::u44::u45::u46::u47::u48::u49::u50::u51::u52::u53::u54::u55::u56::u57::u58::u59::u60::u61::u62::u63::u64::u65::u66::u67::u68::u69::u70::u71::u72::u73::u74::u75::u76::u77::u78::u79::u80::u81::u82::u83::u84::u85::u86::u87::u88::u89::u90::u91::u92::u93::u94::u95::u96::u97::u98::u99::u100::u101::u102::u103::u104::u105::u106::u107::u108::u109::u110::u111::u112::u113::u114::u115::u116::u117::u118::u119::u120::u121::u122::u123::u124::u125::u126::u127::u128::u129::u130::u131::u132::u133::u134::u135::u136::u137::u138::[]),defers:=[]} w:=by
 have HJ:=ah hJ;have HD:=ah (And.intro hD hd);have yu:=ah hn;have HP:=ah hp;have HA:=ah hA;clear hJ hD hd hn hp hA;generalize hQ:bodyPost Tryz.prog Tryz.f188 (Zz W F)=Q;dsimp only[jfB,dF,sq2,Tryz.f188];subst hQ
 go_upto_block 0 with fail
 go_cut [] (fun wx=>∃(A1:Option Addr)(n1 c1:Nat)(dg1:List Int),aC (qB W wx D6 neg A1 n1 c1 pw dg1/\bC dg1=D/\jT dg1/\n1<=n/\∀d,dg1.head? =some d->d≠48))
 case first=>
  go_wp2
  go_loopg [] n (fun g w'=>∃(A1:Option Addr)(c1:Nat)(dg1:List Int),aC (qB W w' D6 neg A1 g c1 pw dg1/\bC dg1=D/\jT dg1/\g<=n))
  case atStart=>exact⟨A,c,dg,⟨HJ.out,HD.out.1,HD.out.2,Nat.le_refl _⟩⟩
  case round=>
   obtain⟨A1,c1,dg1,HH⟩:=hrel;obtain⟨⟨b0,b1,b2,b3⟩,f0,f1,_⟩:=box4 HH.out.1.blk;cases gk with
   |zero=>
    have h0:=List.eq_nil_of_length_eq_zero (Kd.dG HH.out.1.rd);have HF:=ah (show∀d,dg1.head? =some d->d≠48 from fun d h=>by rw[h0]at h;cases h);clear h0;go_wp2
    go_meet
    exact⟨A1,0,c1,dg1,⟨HH.out.1,HH.out.2.1,HH.out.2.2.1,HH.out.2.2.2,HF.out⟩⟩
   |succ g=>
    have hl:=Kd.dG HH.out.1.rd;obtain⟨d,ds,hds⟩:∃d ds,dg1=d::ds:=List.exists_cons_of_ne_nil (by intro e;rw[e]at hl;cases hl)
    subst hds;obtain⟨ad,rfl,q0⟩:=iD HH.out.1.rd (show(d::ds)[0]? =some d from rfl);rw[show ad.add 0=ad by simp[Addr.add]]at q0;have p1:(0:Int)<(g:Int)+1:=by omega
    have p2:decide ((0:Int)<(g:Int)+1)=true:=bZ p1
    by_cases h48:d=48
    ·subst h48
     obtain⟨A2,hcut,hrd⟩:=aaK (some ad) g c1 HH.out.1.cap;have HJ2:=ah (HH.out.1.cut (fun _ h=>hrd _ _ h) (show g<=c1-1 by have:=HH.out.1.cap;omega));have HD2:=ah (show jT ds from fun y hy=>HH.out.2.2.1 y (List.mem_cons_of_mem _ hy));have HE2:=ah (show bC ds=D by have:=HH.out.2.1;rw[iZ]at this;rw[<-this];show _=0*_+_;omega);clear hrd hl;go_wp2
     go_roundg g
     case measure=>omega
     case rel=>exact⟨A2,c1-1,ds,⟨HJ2.out,HE2.out,HD2.out,by have:=HH.out.2.2.2;omega⟩⟩
    ·have d1:(d==48)=false:=eqF h48
     have HF:=ah (show∀y,(d::ds).head? =some y->y≠48 from fun y h=>by cases h;exact h48);clear hl h48;go_wp2
     go_meet
     exact⟨some ad,g+1,c1,d::ds,⟨HH.out.1,HH.out.2.1,HH.out.2.2.1,HH.out.2.2.2,HF.out⟩⟩
 case rest=>
  obtain⟨A1,n1,c1,dg1,HH⟩:=hcut
  go_step
  have hl:=Kd.dG HH.out.1.rd;obtain⟨⟨b0,b1,b2,b3⟩,_⟩:=box4 HH.out.1.blk;have uM:=ah HH.out.1.be;rcases HA.out with⟨h0,hF⟩|⟨h0,hbd,hk⟩
  ·have he:dg1=[]:=by
    apply Classical.byContradiction
    intro hne;have h1:=Qi HH.out.2.2.1 HH.out.2.2.2.2 hne;have h2:0<10^(dg1.length-1):=Nat.pow_pos (by omega);have h3:=HH.out.2.1;omega
   subst he;obtain rfl:n1=0:=hl.symm;clear hl h0 HH;cases neg
   ·have hF2:F=0:=by simp at hF;omega
    subst hF2;clear hF;go_wp2
    go_ret2
    exact⟨rfl,uM.out⟩
   ·have hF2:F=9223372036854775808:=by simp at hF;omega
    subst hF2;clear hF;go_wp2
    go_ret2
    exact⟨rfl,uM.out⟩
  ·have hne:dg1≠[]:=by
    intro e;have h3:=HH.out.2.1;rw[e]at h3;have:bC []=0:=rfl;omega
   have hpos:=List.length_pos_iff.2 hne;have hb:=hbd dg1 HH.out.2.1 HH.out.2.2.1 HH.out.2.2.2.2 hne;have d1:((n1:Int)==0)=false:=eqF (by omega);have d2:decide ((n1:Int)+pw< -400)=false:=bY (by omega);have d3:decide (400<(n1:Int)+pw)=false:=bY (by omega);have e1:IntKind.i64.wrap ((n1:Int)+pw)=(n1:Int)+pw:=by rw[IntKind.wrap_i64];omega
   have e2:wrap64 ((n1:Int)+pw)=(n1:Int)+pw:=by unfold wrap64;omega
   clear hl h0 hbd hne hpos hb;rcases hk with⟨rfl,K,hN,hK,hF⟩|⟨rfl,K,hN,hK,hF⟩
   ·have qH:=ah (And.intro hN hK)
    clear hN hK;cases neg
    ·have HFe:=ah (show(0:Int)+(K:Int)=F by simpa using hF)
     clear hF
     go_upto_region 18 with fail
     go_cut [10,11] (fun s10 s11 wx=>s10= .int .u64 0/\s11= .int .u64 9218868437227405311/\wc=wx)
     case first=>
      go_wp2
      go_meet
      exact⟨rfl,rfl,rfl⟩
     case rest=>
      obtain⟨rfl,rfl,rfl⟩:=hcut
      go_step
      exact ZB 64 52 (-1074) 9218868437227405311 K F W _ D6 false A1 n1 c1 pw dg1 0 flF64 (by rw[HH.out.2.1];exact qH.out.1) qH.out.2 HH.out.1 HH.out.2.2.1 (Nat.le_trans HH.out.2.2.2.1 yu.out) HP.out (by first|exact .inl rfl|exact .inr rfl) (.inl ⟨rfl,HFe.out⟩)
    ·have HFe:=ah (show(9223372036854775808:Int)+(K:Int)=F by simpa using hF)
     clear hF
     go_upto_region 18 with fail
     go_cut [10,11] (fun s10 s11 wx=>s10= .int .u64 0/\s11= .int .u64 9218868437227405311/\wc=wx)
     case first=>
      go_wp2
      go_meet
      exact⟨rfl,rfl,rfl⟩
     case rest=>
      obtain⟨rfl,rfl,rfl⟩:=hcut
      go_step
      exact ZB 64 52 (-1074) 9218868437227405311 K F W _ D6 true A1 n1 c1 pw dg1 9223372036854775808 flF64 (by rw[HH.out.2.1];exact qH.out.1) qH.out.2 HH.out.1 HH.out.2.2.1 (Nat.le_trans HH.out.2.2.2.1 yu.out) HP.out (by first|exact .inl rfl|exact .inr rfl) (.inl ⟨rfl,HFe.out⟩)
   ·have qH:=ah (And.intro hN hK)
    clear hN hK;cases neg
    ·have HFe:=ah (show(0:Int)+(widen K:Int)=F by simpa using hF)
     clear hF
     go_upto_region 18 with fail
     go_cut [10,11] (fun s10 s11 wx=>s10= .int .u64 0/\s11= .int .u64 2139095039/\wc=wx)
     case first=>
      go_wp2
      go_meet
      exact⟨rfl,rfl,rfl⟩
     case rest=>
      obtain⟨rfl,rfl,rfl⟩:=hcut
      go_step
      exact ZB 32 23 (-149) 2139095039 K F W _ D6 false A1 n1 c1 pw dg1 0 flF32 (by rw[HH.out.2.1];exact qH.out.1) qH.out.2 HH.out.1 HH.out.2.2.1 (Nat.le_trans HH.out.2.2.2.1 yu.out) HP.out (by first|exact .inl rfl|exact .inr rfl) (.inr ⟨rfl,by omega,HFe.out⟩)
    ·have HFe:=ah (show(9223372036854775808:Int)+(widen K:Int)=F by simpa using hF)
     clear hF
     go_upto_region 18 with fail
     go_cut [10,11] (fun s10 s11 wx=>s10= .int .u64 0/\s11= .int .u64 2139095039/\wc=wx)
     case first=>
      go_wp2
      go_meet
      exact⟨rfl,rfl,rfl⟩
     case rest=>
      obtain⟨rfl,rfl,rfl⟩:=hcut
      go_step
      exact ZB 32 23 (-149) 2139095039 K F W _ D6 true A1 n1 c1 pw dg1 9223372036854775808 flF32 (by rw[HH.out.2.1];exact qH.out.1) qH.out.2 HH.out.1 HH.out.2.2.1 (Nat.le_trans HH.out.2.2.2.1 yu.out) HP.out (by first|exact .inl rfl|exact .inr rfl) (.inr ⟨rfl,by omega,HFe.out⟩)
def Il(bits:Int)(n F:Nat):Prop:=(bits=64/\n=16)∨(bits=32/\n=8/\Short F)
theorem Xl{bits:Int}{n F:Nat}{x:NT}(hF:F<18446744073709551616)(hf:F%9223372036854775808<9218868437227405312)(hk:Il bits n F)(h:vw F n x):aaN bits (bC x.dg) x.pw x.neg F:=by
 obtain⟨hx,hneg,hl,hp1,hp2,h⟩:=h
 have hsF:(if x.neg=true then(9223372036854775808:Int)else 0)+(F%9223372036854775808:Nat)=F:=by
  rw[hneg]
  by_cases h9:9223372036854775808<=F
  ·rw[if_pos (bZ h9)];omega
  ·rw[if_neg (by simp;omega)];omega
 rcases h with⟨h0,hD⟩|⟨h0,hD,hN⟩
 ·left
  rw[h0]at hsF;exact⟨hD,by omega⟩
 ·right
  refine⟨hD,fun dg e1 e2 e3 e4=>OC h0 hf hp1 hN e1 e2 e3 e4,?_⟩;rcases hk with⟨rfl,rfl⟩|⟨rfl,rfl,hsh⟩
  ·exact .inl ⟨rfl,_,Xf h0 (by omega) hN,by omega,hsF⟩
  ·rcases hsh with hsh|⟨k,hk1,hk2⟩
   ·omega
   ·rw[hk2]at hN h0 hsF
    have hk0:0<k:=by
     apply Nat.pos_of_ne_zero
     rintro rfl;have h1:=(qM hk1).2;rw[Bc,Nat.zero_mul]at h1;have:=Oe (s:=52) (a:=widen 0) (b:=0) (by rw[h1,Bc]);omega
    exact .inr ⟨rfl,k,Xg hk0 hk1 (by omega) hN,by omega,hsF⟩
theorem KX(x:NT)(bits:Int)(n F:Nat)(hF:F<18446744073709551616)(hf:F%9223372036854775808<9218868437227405312)(hk:Il bits n F)(h:vw F n x)(s:ByteArray)(hs:bytesOf s=x.bytes)(hn:s.size<900000000000)(w:World):
 Calls Tryz.prog 188 #[.string s,.int .i64 bits] w (Zz w F):=by
 have DX:=ah (rD x h.1 s hs hn w);have HA:=ah (Xl hF hf hk h);have HX:=ah h;clear hF hf hk h hs hn;go_enter Tryz.func188,Tryz.ntmps188
 go_upto_region 2 with(go_at_call 215;(with_reducible refine DX.out.mono ?_);rintro e w1⟨vd,rfl,ho,hbe⟩;obtain⟨A1,n1,c1,rfl⟩:=fQ ho;have HO:=ah ho;have HB:=ah hbe;clear ho hbe)
 obtain⟨w3,h3⟩:∃w3,w3=w1.alloc (.cells #[.bool x.neg,.slice A1 n1 c1,.int .i64 x.pw,.bool false] 254):=⟨_,rfl⟩
 rw[<-h3];obtain⟨y3,hb3,hl3,hc3,hr3⟩:=Ig HO.out HB.out h3;obtain⟨⟨k0,k1,k2,k3⟩,_⟩:=box4 y3;obtain⟨hx1,_,hx3,hx4,hx5,_⟩:=HX.out;obtain⟨hre,_,hro⟩:=Kd.iM HO.out;have HJ:=ah (show qB w w3 w1.heap.size x.neg A1 n1 c1 x.pw x.dg from⟨y3,⟨w1,by rw[hl3];exact hro,by rw[h3];exact ak (bg _ _) _,Nat.le_refl _⟩,hb3,hc3,HB.out.size⟩);have HD:=ah (NT.dgD hx1);have HN:=ah (show n1<=400 by omega);have HP:=ah (show -4000<=x.pw/\x.pw<=4000 by omega);have d1:decide ((400:Int)<(n1:Int))=false:=bY (by omega);have d2:decide (400<n1)=false:=bY (by omega);clear h3 y3 hb3 hl3 hc3 hr3 hx1 hx3 hx4 hx5 hro hre
 go_upto_if 32 with fail
 go_cut [] (fun wx=>w3=wx)
 case first=>
  go_wp2
  go_meet
  rfl
 case rest=>
  obtain rfl:=hcut
  go_step
  exact ahz bits (bC x.dg) F w _ _ _ _ _ _ x.pw x.dg HJ.out rfl HD.out HN.out HP.out HA.out
end Go.Proofs.YtapkmjfjikpnlaaGreatDoor
