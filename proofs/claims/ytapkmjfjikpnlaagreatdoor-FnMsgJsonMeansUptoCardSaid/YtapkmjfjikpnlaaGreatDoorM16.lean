/- A part of FnMsgJsonMeans. No conditions. -/
import Derived.Test.YtapkmjfjikpnlaaGreatDoorM14
set_option maxHeartbeats 8000000
set_option maxRecDepth 100000
namespace Go.Proofs.YtapkmjfjikpnlaaGreatDoor
open Go.RowKit YtapkmjfjikpnlaaGreatDoorW.aG YtapkmjfjikpnlaaGreatDoorW.aJ
set_option linter.unusedVariables false
set_option linter.unusedSimpArgs false
theorem fD{w:World}{A:Option Addr}{r:Nat}{h:Int}{L:List Int}(hr:RdB w A r (h::L)):∃ad,A=some ad/\w.cell? ad=some (.int .u8 h):=by
 obtain⟨ad,e,hc⟩:=iD hr (i:=0) rfl;refine⟨ad,e,?_⟩;rw[show ad.add 0=ad by simp[Addr.add]]at hc;exact hc
theorem jc{w:World}{ad:Addr}{r:Nat}{h g:Int}{L:List Int}(hr:RdB w (some ad) r (h::g::L)):w.cell? ⟨ad.block,ad.off+1,none⟩=some (.int .u8 g):=by
 obtain⟨ad',e,hc⟩:=iD hr (i:=1) rfl;injection e with e
 subst e;rw[show ad.add 1=⟨ad.block,ad.off+1,none⟩from Md ad 1 (by omega)]at hc;exact hc
theorem vG{w:World}{A:Option Addr}{r c:Nat}{h:Int}{L:List Int}(hr:RdB w A r (h::L))(hc:r<=c):
 ∃A' r' c',(∀W:World,(Instr.slice 27 (.slice A r c) (some (.int .i64 1)) none none).run Tryz.prog W= .ok (.slice A' r' c') W)/\RdB w A' r' L/\r'<=c'/\r=r'+1:=by
 have hl:=Kd.dG hr;rw[List.length_cons]at hl;obtain⟨A',h1,h2⟩:=jF A r c 1 (by omega) hc;exact⟨A',r-1,c-1,h1,h2 w _ hr,by omega,by omega⟩
theorem oU{w:World}{A:Option Addr}{r c:Nat}{h g:Int}{L:List Int}(hr:RdB w A r (h::g::L))(hc:r<=c):
 ∃A' r' c',(∀W:World,(Instr.slice 27 (.slice A r c) (some (.int .i64 2)) none none).run Tryz.prog W= .ok (.slice A' r' c') W)/\RdB w A' r' L/\r'<=c'/\r=r'+2:=by
 have hl:=Kd.dG hr;rw[List.length_cons,List.length_cons]at hl;obtain⟨A',h1,h2⟩:=jF A r c 2 (by omega) hc;exact⟨A',r-2,c-2,h1,h2 w _ hr,by omega,by omega⟩
def Vg(L:List Int):Prop:=L=[]∨∃h t,L=h::t/\(h<48∨57<h)
theorem lU.nd{c:Int}(h:lU c):c<48∨57<c:=by rcases h with h|h|h|h|h|h|h<;>omega
theorem Vg.rest{R:List Int}(h:R=[]∨∃c r,R=c::r/\lU c):Vg R:=by
 rcases h with h|⟨c,r,h,hd⟩
 ·exact .inl h
 ·exact .inr ⟨c,r,h,hd.nd⟩
theorem NT.Ns{x:NT}(hx:x.ok){R:List Int}(h:Vg R):Vg (x.iV++R):=by
 unfold NT.iV;cases he:x.ex with
 |none=>exact h
 |some v=>
  obtain⟨E,sg,ds⟩:=v;have:=(hx.TF E sg ds he).1;exact .inr ⟨E,_,rfl,by omega⟩
theorem NT.Vh{x:NT}(hx:x.ok){R:List Int}(h:Vg R):Vg (x.kJ++(x.iV++R)):=by
 unfold NT.kJ
 split
 ·exact NT.Ns hx h
 ·exact .inr ⟨46,_,rfl,by omega⟩
theorem NT.JJ{x:NT}(hx:x.ok){R:List Int}(h:R=[]∨∃c r,R=c::r/\lU c):x.iV++R=[]∨∃c r,x.iV++R=c::r/\c≠46:=by
 unfold NT.iV;cases he:x.ex with
 |none=>
  rcases h with h|⟨c,r,h,hd⟩
  ·exact .inl h
  ·exact .inr ⟨c,r,h,by rcases hd with h|h|h|h|h|h|h<;>omega⟩
 |some v=>
  obtain⟨E,sg,ds⟩:=v;have:=(hx.TF E sg ds he).1;exact .inr ⟨E,_,rfl,by omega⟩
theorem kD{k:Nat}(h:k<1000000000000):wrap64 ((k:Int)+1)=(k:Int)+1/\IntKind.i64.wrap ((k:Int)+1)=(k:Int)+1:=⟨w64 (by omega) (by omega),by rw[IntKind.wrap_i64];omega⟩
theorem YT{k:Nat}(h:k<1000000000000):wrap64 ((k:Int)+2)=(k:Int)+2/\IntKind.i64.wrap ((k:Int)+2)=(k:Int)+2:=⟨w64 (by omega) (by omega),by rw[IntKind.wrap_i64];omega⟩
theorem dR{r:Nat}(h:0<r):decide ((0:Int)<(r:Int))=true/\decide (0<r)=true/\(0:Int)<(r:Int)/\((r:Int)==0)=false:=⟨bZ (by omega),bZ h,by omega,eqF (by omega)⟩
theorem xB:decide ((0:Int)<((0:Nat):Int))=false/\decide (0<0)=false:=⟨by decide,by decide⟩
noncomputable def sq2:Code->Code
 | .seq _ b=>b
 |c=>c
noncomputable def dF(f:Func):Code:=match f.body with|some c=>c|none=>.skip
noncomputable def npC:Code:=sq2 (sq2 (sq2 (sq2 (sq2 (sq2 (dF Tryz.f143))))))
noncomputable def npE:Code:=sq2 npC
noncomputable def npF:Code:=sq2 npE
structure NP(x:NT)(R:List Int)(w:World)(ad0:Addr)(n c N1 N2 N3 N4:Nat)(fb eb:Bool):Prop where
 lim:N4<900000000000/\N3<=N4/\N2<=N3/\N1<=N2
 ok:x.ok
 rd:RdB w (some ad0) n (x.bytes++R)
 cp:n<=c
 nd:Vg R
 rr:R=[]∨∃c r,R=c::r/\lU c
 len:(x.bytes++R).length=n
 nn:N1=x.wJ.length/\N2=N1+x.ip.length/\N3=N2+x.kJ.length/\N4=N3+x.iV.length/\x.bytes.length=N4
 fb:fb=decide (x.fp≠[])
 eb:eb=x.ex.isSome
theorem agS(x:NT)(R:List Int)(w:World)(ad0:Addr)(n c N1 N2 N3 N4:Nat)(fb eb:Bool)(hp:NP x R w ad0 n c N1 N2 N3 N4 fb eb)(A1:Option Addr)(r1 c1:Nat)(hrd:RdB w A1 r1 (R))(hcp:r1<=c1){u1 u2 u3 u6 u7 u8 u9 u10 u11 u12 u13 u14 u15 u16 u17 u18 u19 u20 u21 u22 u23 u24 u25 u26 u27 u28 u29 u30 u31 u32 u33 u34 u35 u36 u37 u38 u39 u40 u41 u42 u43 u44 u45 u46 u47 u48 u49 u50 u51 u52 u53 u54 u55 u56 u57 u58 u59 u60 u61 u62 u63 u64 u65 u66 u67 u68 u69 u70 u71 u72 u73 u74 u75 u76 u77 u78 u79 u80 u81 u82 u83 u84 u85 u86 u87 u88 u89 u90 u91 u92 u93 u94 u95 u96 u97 u98 u99 u100 u101 u102 u103 u104 u105 u106 u107 u108 u109 u110 u111 u112 u113 u114 u115 u116 u117 u118 u119 u120 u121 u122 u123 u124 u125 u126 u127 u128 u129 u130 u131 u132 u133 u134 u135 u136 u137 u138 u139 u140 u141 u142 u143 u144 u145 u146 u147 u148 u149 u150 u151 u152 u153 u154 u155 u156 u157 u158 u159 u160 u161 u162 u163 u164 u165 u166 u167 u168 u169 u170 u171 u172 u173 u174:Value}:
 npF.wp Tryz.prog (bodyPost Tryz.prog Tryz.f143 fun e w'=>e= .returned (.tuple #[.int .i64 x.bytes.length,.bool true])/\w=w') {tmps:=List.toArray ((.slice (some ad0) n c)::u1::u2::u3::(.int .i64 ((N4:Nat):Int))::(.slice A1 r1 c1)::u6::u7::u8::u9::u10::u11::u12::u13::u14::u15::u16::u17::u18::u19::u20::u21::u22::u23::u24::u25::u26::u27::u28::u29::u30::u31::u32::u33::u34::u35::u36::u37::u38::u39::u40::u41::u42::u43::u44::u45::u46::u47::u48::u49::u50::u51::u52::u53::u54::u55::u56::u57::u58::u59::u60::u61::u62::u63::u64::u65::u66::u67::u68::u69::u70::u71::u72::u73::u74::u75::u76::u77::u78::u79::u80::u81::u82::u83::u84::u85::u86::u87::u88::u89::u90::u91::u92::u93::u94::u95::u96::u97::u98::u99::u100::u101::u102::u103::u104::u105::u106::u107::u108::u109::u110::u111::u112::u113::u114::u115::u116::u117::u118::u119::u120::u121::u122::u123::u124::u125::u126::u127::u128::u129::u130::u131::u132::u133::u134::u135::u136::u137::u138::u139::u140::u141::u142::u143::u144::u145::u146::u147::u148::u149::u150::u151::u152::u153::u154::u155::u156::u157::u158::u159::u160::u161::u162::u163::u164::u165::u166::u167::u168::u169::u170::u171::u172::u173::u174::[]),defers:=[]} w:=by
 have CZ:=ah hp.lim;have HX:=ah hp.ok;have HRD0:=ah hp.rd;have HCP0:=ah hp.cp;have Rl:=ah hp.nd;have wK:=ah hp.rr;have HL:=ah hp.len;have DZ:=ah hp.nn;have XZ:=ah hp.fb;have Ya:=ah hp.eb;have Rn:=ah hrd;have Ro:=ah hcp;have HNP:=ah hp;clear hp hrd hcp;generalize hQ:bodyPost Tryz.prog Tryz.f143 (fun e w'=>e= .returned (.tuple #[.int .i64 x.bytes.length,.bool true])/\w=w')=Q;dsimp only[npF,npE,npC,dF,sq2,Tryz.f143];subst hQ;have HNb:=ah DZ.out.2.2.2.2;rcases wK.out with he|⟨h,t,he,hd⟩
 ·have hl:=HL.out
  rw[he,List.append_nil,HNb.out]at hl;subst hl;have f1:decide ((N4:Int)<(N4:Int))=false:=bY (by omega);have f2:decide (N4<N4)=false:=bY (by omega);clear he;go_wp2
  go_ret2
  exact⟨by rw[HNb.out];rfl,rfl⟩
 ·have hl:=HL.out
  rw[he,List.length_append,List.length_cons,HNb.out]at hl
  have hget:(x.bytes++R)[N4]? =some h:=by
   rw[he,List.getElem?_append_right (by rw[HNb.out];exact Nat.le_refl _),HNb.out,Nat.sub_self]
   rfl
  obtain⟨ad,e,hc⟩:=iD HRD0.out hget;injection e with e
  subst e;have f1:decide ((N4:Int)<(n:Int))=true:=bZ (by omega);have f2:decide (N4<n)=true:=bZ (by omega);have i0:(0:Int)<=(N4:Int):=by omega
  have i1:(N4:Int)<(n:Int):=by omega
  have HD:=ah (yg h hd);clear hl he hget hd
  go_wp2_with (go_at_call 175;(with_reducible refine(HD.out _).mono ?_);rintro e w1⟨rfl,rfl⟩)
  go_ret2
  exact⟨by rw[HNb.out];rfl,rfl⟩
theorem agT(x:NT)(R:List Int)(w:World)(ad0:Addr)(n c N1 N2 N3 N4:Nat)(fb eb:Bool)(hp:NP x R w ad0 n c N1 N2 N3 N4 fb eb)(A1:Option Addr)(r1 c1:Nat)(hrd:RdB w A1 r1 (x.iV++R))(hcp:r1<=c1){u1 u2 u3 u6 u7 u8 u9 u10 u11 u12 u13 u14 u15 u16 u17 u18 u19 u20 u21 u22 u23 u24 u25 u26 u27 u28 u29 u30 u31 u32 u33 u34 u35 u36 u37 u38 u39 u40 u41 u42 u43 u44 u45 u46 u47 u48 u49 u50 u51 u52 u53 u54 u55 u56 u57 u58 u59 u60 u61 u62 u63 u64 u65 u66 u67 u68 u69 u70 u71 u72 u73 u74 u75 u76 u77 u78 u79 u80 u81 u82 u83 u84 u85 u86 u87 u88 u89 u90 u91 u92 u93 u94 u95 u96 u97 u98 u99 u100 u101 u102 u103 u104 u105 u106 u107 u108 u109 u110 u111 u112 u113 u114 u115 u116 u117 u118 u119 u120 u121 u122 u123 u124 u125 u126 u127 u128 u129 u130 u131 u132 u133 u134 u135 u136 u137 u138 u139 u140 u141 u142 u143 u144 u145 u146 u147 u148 u149 u150 u151 u152 u153 u154 u155 u156 u157 u158 u159 u160 u161 u162 u163 u164 u165 u166 u167 u168 u169 u170 u171 u172 u173 u174:Value}:
 npE.wp Tryz.prog (bodyPost Tryz.prog Tryz.f143 fun e w'=>e= .returned (.tuple #[.int .i64 x.bytes.length,.bool true])/\w=w') {tmps:=List.toArray ((.slice (some ad0) n c)::u1::u2::u3::(.int .i64 ((N3:Nat):Int))::(.slice A1 r1 c1)::u6::u7::u8::u9::u10::u11::u12::u13::u14::u15::u16::u17::u18::u19::u20::u21::u22::u23::u24::u25::u26::u27::u28::u29::u30::u31::u32::u33::u34::u35::u36::u37::u38::u39::u40::u41::u42::u43::u44::u45::u46::u47::u48::u49::u50::u51::u52::u53::u54::u55::u56::u57::u58::u59::u60::u61::u62::u63::u64::u65::u66::u67::u68::u69::u70::u71::u72::u73::u74::u75::u76::u77::u78::u79::u80::u81::u82::u83::u84::u85::u86::u87::u88::u89::u90::u91::u92::u93::u94::u95::u96::u97::u98::u99::u100::u101::u102::u103::u104::u105::u106::u107::u108::u109::u110::u111::u112::u113::u114::u115::u116::u117::u118::u119::u120::u121::u122::u123::u124::u125::u126::u127::u128::u129::u130::u131::u132::u133::u134::u135::u136::u137::u138::u139::u140::u141::u142::u143::u144::u145::u146::u147::u148::u149::u150::u151::u152::u153::u154::u155::u156::u157::u158::u159::u160::u161::u162::u163::u164::u165::u166::u167::u168::u169::u170::u171::u172::u173::u174::[]),defers:=[]} w:=by
 have CZ:=ah hp.lim;have HX:=ah hp.ok;have HRD0:=ah hp.rd;have HCP0:=ah hp.cp;have Rl:=ah hp.nd;have wK:=ah hp.rr;have HL:=ah hp.len;have DZ:=ah hp.nn;have XZ:=ah hp.fb;have Ya:=ah hp.eb;have Rn:=ah hrd;have Ro:=ah hcp;have HNP:=ah hp;clear hp hrd hcp;generalize hQ:bodyPost Tryz.prog Tryz.f143 (fun e w'=>e= .returned (.tuple #[.int .i64 x.bytes.length,.bool true])/\w=w')=Q;dsimp only[npF,npE,npC,dF,sq2,Tryz.f143];subst hQ;have HRD3:=Rn;have HCP3:=Ro;clear Rn Ro
 go_upto_region 26 with fail
 go_cut [122] (fun s122 wx=>w=wx/\s122= .bool eb)
 case first=>
  have hrd:=HRD3.out;cases hex:x.ex with
  |none=>
   have hL:x.iV=[]:=by unfold NT.iV;rw[hex]
   rw[hL,List.nil_append]at hrd;have hl:=Kd.dG hrd;rcases wK.out with he|⟨h,t,he,hd⟩
   ·rw[he,List.length_nil]at hl
    have f1:decide ((2:Int)<=(r1:Int))=false:=bY (by omega);have f2:decide (2<=r1)=false:=bY (by omega);clear hrd hl he hL;go_wp2
    go_meet
    exact⟨rfl,by rw[Ya.out,hex];rfl⟩
   ·rw[he]at hrd hl
    rw[List.length_cons]at hl
    by_cases h2:2<=r1
    ·obtain⟨ad,rfl,hc0⟩:=fD hrd
     have f1:decide ((2:Int)<=(r1:Int))=true:=bZ (by omega);have f2:decide (2<=r1)=true:=bZ h2;have f3:(0:Int)<(r1:Int):=by omega
     have d1:(h==101)=false:=eqF (by rcases hd with h|h|h|h|h|h|h<;>omega);have d2:(h==69)=false:=eqF (by rcases hd with h|h|h|h|h|h|h<;>omega);clear hrd hl he hL h2 hd;go_wp2
     go_meet
     exact⟨rfl,by rw[Ya.out,hex];rfl⟩
    ·have f1:decide ((2:Int)<=(r1:Int))=false:=bY (by omega)
     have f2:decide (2<=r1)=false:=bY h2;clear hrd hl he hL h2 hd;go_wp2
     go_meet
     exact⟨rfl,by rw[Ya.out,hex];rfl⟩
  |some v=>
   obtain⟨E,sg,ds⟩:=v;obtain⟨hE,hsg,hds,_⟩:=HX.out.TF E sg ds hex;have hL:x.iV=E::(sg++ds):=by unfold NT.iV;rw[hex]
   rw[hL]at hrd;have uJ:RdB w A1 r1 (E::((sg++ds)++R)):=hrd;obtain⟨ad,rfl,hc0⟩:=fD uJ;have hl:=Kd.dG uJ;have hdl:=List.length_pos_iff.2 hds;rw[List.length_cons,List.length_append,List.length_append]at hl;have f1:decide ((2:Int)<=(r1:Int))=true:=bZ (by omega);have f2:decide (2<=r1)=true:=bZ (by omega);have f3:(0:Int)<(r1:Int):=by omega
   clear hrd uJ hl hL hsg hds hdl;rcases hE with rfl|rfl
   all_goals
    go_wp2
    go_meet
    exact⟨rfl,by rw[Ya.out,hex];rfl⟩
 case rest=>
  obtain⟨rfl,rfl⟩:=hcut
  go_upto_if 122 with fail
  go_cut [4,5] (fun s4 s5 wx=>w=wx/\∃(A':Option Addr)(r' c':Nat),s4= .int .i64 ((N4:Nat):Int)/\s5= .slice A' r' c'/\aC (RdB w A' r' (R))/\aC (r'<=c'))
  case first=>
   cases hex:x.ex with
   |none=>
    have hL:x.iV=[]:=by unfold NT.iV;rw[hex]
    have HN4:=ah (show N4=N3 by rw[DZ.out.2.2.2.1,hL];rfl);have hrd:=HRD3.out;rw[hL,List.nil_append]at hrd;have HRD4:=ah hrd;have f1:eb=false:=by rw[Ya.out,hex];rfl
    subst f1;clear hrd hL;go_wp2
    go_meet
    exact⟨rfl,A1,r1,c1,by rw[HN4.out],rfl,HRD4,HCP3⟩
   |some v=>
    obtain⟨E,sg,ds0⟩:=v;obtain⟨hE,hsg,hds,hdg,_⟩:=HX.out.TF E sg ds0 hex;have hL:x.iV=E::(sg++ds0):=by unfold NT.iV;rw[hex]
    have hrd:=HRD3.out;rw[hL]at hrd;have uJ:RdB w A1 r1 (E::(sg++(ds0++R))):=by rw[<-List.append_assoc];exact hrd
    obtain⟨A2,r2,c2,hs,hrd2,hc2,hr2⟩:=vG uJ HCP3.out;obtain⟨h1,t1,hh⟩:∃h t,sg++(ds0++R)=h::t:=List.exists_cons_of_ne_nil (by intro e;have h:=congrArg List.length e;rw[List.length_append,List.length_append,List.length_nil]at h;have:=List.length_pos_iff.2 hds;omega)
    have hrd3:=hrd2;rw[hh]at hrd3;obtain⟨ad1,rfl,hc1⟩:=fD hrd3;have hl3:=Kd.dG hrd3;rw[List.length_cons]at hl3;have f3:(0:Int)<(r2:Int):=by omega
    have hk1:N3<1000000000000:=by have:=CZ.out;omega
    have HRD4:=ah hrd2;have HC4:=ah hc2;have HHd:=ah hh;have HDS0:=ah hdg;have HNe:=ah hds;have Nu:=ah hsg;have HN4:=ah (show N3+1+sg.length+ds0.length=N4 by rw[DZ.out.2.2.2.1,hL,List.length_cons,List.length_append];omega);have f1:eb=true:=by rw[Ya.out,hex];rfl
    subst f1;have Bg:=ah (show∃sb:Bool,sb=decide (sg≠[])from⟨_,rfl⟩)
    have HHr:=ah (show sg=[]->48<=h1/\h1<=57 from fun h=>by
     subst h;obtain⟨d,ds',hd⟩:=List.exists_cons_of_ne_nil hds;rw[hd]at hh;injection hh with hh _
     have:=hdg d (by rw[hd];exact List.mem_cons_self);omega)
    have HHs:=ah (show(sg=[43]->h1=43)/\(sg=[45]->h1=45)from⟨fun h=>by subst h;injection hh with hh _;exact hh.symm,fun h=>by subst h;injection hh with hh _;exact hh.symm⟩);clear hrd uJ hrd2 hrd3 hc2 hr2 hL hh hl3 hdg hds hsg hE;obtain⟨e1,e2⟩:=kD hk1
    go_upto_region 29 with fail
    clear e1 e2;obtain⟨sb,hsb⟩:=Bg.out;have Bg:=ah hsb;clear hsb
    go_cut [136] (fun s136 wx=>w=wx/\s136= .bool sb)
    case first=>
     rcases Nu.out with hsg|hsg|hsg
     ·have hr:=HHr.out hsg
      have d1:(h1==43)=false:=eqF (by omega);have d2:(h1==45)=false:=eqF (by omega);clear hr;go_wp2
      go_meet
      exact⟨rfl,by rw[Bg.out,hsg];rfl⟩
     ·have d1:(h1==43)=true:=kZ (HHs.out.1 hsg)
      go_wp2
      go_meet
      exact⟨rfl,by rw[Bg.out,hsg];rfl⟩
     ·have hr:=HHs.out.2 hsg
      have d1:(h1==43)=false:=eqF (by omega);have d2:(h1==45)=true:=kZ hr;clear hr;go_wp2
      go_meet
      exact⟨rfl,by rw[Bg.out,hsg];rfl⟩
    case rest=>
    obtain⟨rfl,rfl⟩:=hcut
    go_upto_if 136 with fail
    go_cut [4,5] (fun s4 s5 wx=>w=wx/\∃(A':Option Addr)(r' c':Nat),s4= .int .i64 ((N3+1+sg.length:Nat):Int)/\s5= .slice A' r' c'/\aC (RdB w A' r' (ds0++R))/\aC (r'<=c'))
    case first=>
     rcases Nu.out with hsg|hsg|hsg
     ·have f9:sb=false:=by rw[Bg.out,hsg];rfl
      subst f9;subst hsg;go_wp2
      go_meet
      exact⟨rfl,_,_,_,rfl,rfl,HRD4,HC4⟩
     all_goals
      have f9:sb=true:=by rw[Bg.out,hsg];rfl
      subst f9;subst hsg;have hrd:=HRD4.out;obtain⟨A3,r3,c3,hs3,hrd3,hc3,hr3⟩:=vG hrd HC4.out;have hl3:(ds0++R).length=r3:=Kd.dG hrd3;have hpos:=List.length_pos_iff.2 HNe.out;rw[List.length_append]at hl3;have q1:((r3:Int)==0)=false:=eqF (by omega);have HRD5:=ah hrd3;have HC5:=ah hc3;have hk2:N3+1<1000000000000:=by have:=CZ.out;omega
      clear hrd hrd3 hc3 hr3 hl3 hpos;obtain⟨e1,e2⟩:=kD hk2;go_wp2
      go_meet
      exact⟨rfl,_,_,_,rfl,rfl,HRD5,HC5⟩
    case rest=>
     obtain⟨rfl,A2,r2,c2,rfl,rfl,HRD5,HC5⟩:=hcut;go_wp2
     (try clear e1 e2)
     go_loopg [4,5] ds0.length (fun g v4 v5 w'=>w=w'/\∃(k:Nat)(ds:List Int)(A':Option Addr)(r' c':Nat),v4= .int .i64 k/\v5= .slice A' r' c'/\g=ds.length/\aC (k+ds.length=N4)/\aC (jT ds)/\aC (RdB w A' r' (ds++R))/\aC (r'<=c'))
     case atStart=>exact⟨rfl,N3+1+sg.length,ds0,A2,r2,c2,rfl,rfl,rfl,HN4,HDS0,HRD5,HC5⟩
     case round=>
      obtain⟨rfl,k,ds,A',r',c',rfl,rfl,hgk,JK,zo,TG,Iy⟩:=hrel;have JL:=ah hgk;clear hgk;cases ds with
      |nil=>
       have hrd:RdB w A' r' R:=TG.out;have hkn:=JK.out;rw[List.length_nil,Nat.add_zero]at hkn;have HE:=ah (And.intro hkn hrd);rcases Rl.out with hT|⟨h,t,hT,hnd⟩
       ·have hl:=Kd.dG hrd
        rw[hT,List.length_nil]at hl;subst hl;obtain⟨p1,p2⟩:=xB;clear hrd hT hkn;go_wp2
        go_meet
        exact⟨rfl,A',_,c',by rw[HE.out.1],rfl,⟨HE.out.2⟩,Iy⟩
       ·rw[hT]at hrd
        obtain⟨ad,rfl,hc0⟩:=fD hrd;have hl:=Kd.dG hrd;rw[List.length_cons]at hl;obtain⟨p1,p2,p3,p4⟩:=dR (show 0<r' by omega);clear hrd hl hT hkn
        by_cases h1:48<=h
        ·have d1:decide (48<=h)=true:=bZ h1
         have d2:decide (h<=57)=false:=bY (by omega);clear h1 hnd;go_wp2
         go_meet
         exact⟨rfl,_,_,c',by rw[HE.out.1],rfl,⟨HE.out.2⟩,Iy⟩
        ·have d1:decide (48<=h)=false:=bY h1
         clear h1 hnd;go_wp2
         go_meet
         exact⟨rfl,_,_,c',by rw[HE.out.1],rfl,⟨HE.out.2⟩,Iy⟩
      |cons d ds=>
       have hrd:RdB w A' r' (d::(ds++R)):=TG.out;obtain⟨ad,rfl,hc0⟩:=fD hrd;obtain⟨A2,r2,c2,hs,hrd2,hc2,hr2⟩:=vG hrd Iy.out;have hd:=zo.out d List.mem_cons_self;have d1:decide (48<=d)=true:=bZ hd.1;have d2:decide (d<=57)=true:=bZ hd.2;obtain⟨p1,p2,p3,p4⟩:=dR (show 0<r' by omega);have HRD2:=ah hrd2;have HC2:=ah hc2;have hkn:=JK.out;rw[List.length_cons]at hkn;have HKN2:=ah (show(k+1)+ds.length=N4 by omega);have HDS2:=ah (show jT ds from fun y hy=>zo.out y (List.mem_cons_of_mem _ hy));have vH:=JL.out;rw[List.length_cons]at vH;subst vH;have hk1:k<1000000000000:=by have:=CZ.out;omega
       clear hrd hrd2 hc2 hr2 hd hkn;obtain⟨e1,e2⟩:=kD hk1;go_wp2
       go_roundg ds.length
       case measure=>exact Nat.lt_succ_self _
       case rel=>exact⟨rfl,k+1,ds,A2,r2,c2,rfl,rfl,rfl,HKN2,HDS2,HRD2,HC2⟩
  case rest=>
   obtain⟨rfl,A2,r2,c2,rfl,rfl,HRD6,HC6⟩:=hcut
   go_step
   exact agS x R w ad0 n c N1 N2 N3 N4 fb eb HNP.out A2 r2 c2 HRD6.out HC6.out
theorem agV(x:NT)(R:List Int)(w:World)(ad0:Addr)(n c N1 N2 N3 N4:Nat)(fb eb:Bool)(hp:NP x R w ad0 n c N1 N2 N3 N4 fb eb)(A1:Option Addr)(r1 c1:Nat)(hrd:RdB w A1 r1 (x.kJ++(x.iV++R)))(hcp:r1<=c1){u1 u2 u3 u6 u7 u8 u9 u10 u11 u12 u13 u14 u15 u16 u17 u18 u19 u20 u21 u22 u23 u24 u25 u26 u27 u28 u29 u30 u31 u32 u33 u34 u35 u36 u37 u38 u39 u40 u41 u42 u43 u44 u45 u46 u47 u48 u49 u50 u51 u52 u53 u54 u55 u56 u57 u58 u59 u60 u61 u62 u63 u64 u65 u66 u67 u68 u69 u70 u71 u72 u73 u74 u75 u76 u77 u78 u79 u80 u81 u82 u83 u84 u85 u86 u87 u88 u89 u90 u91 u92 u93 u94 u95 u96 u97 u98 u99 u100 u101 u102 u103 u104 u105 u106 u107 u108 u109 u110 u111 u112 u113 u114 u115 u116 u117 u118 u119 u120 u121 u122 u123 u124 u125 u126 u127 u128 u129 u130 u131 u132 u133 u134 u135 u136 u137 u138 u139 u140 u141 u142 u143 u144 u145 u146 u147 u148 u149 u150 u151 u152 u153 u154 u155 u156 u157 u158 u159 u160 u161 u162 u163 u164 u165 u166 u167 u168 u169 u170 u171 u172 u173 u174:Value}:
 npC.wp Tryz.prog (bodyPost Tryz.prog Tryz.f143 fun e w'=>e= .returned (.tuple #[.int .i64 x.bytes.length,.bool true])/\w=w') {tmps:=List.toArray ((.slice (some ad0) n c)::u1::u2::u3::(.int .i64 ((N2:Nat):Int))::(.slice A1 r1 c1)::u6::u7::u8::u9::u10::u11::u12::u13::u14::u15::u16::u17::u18::u19::u20::u21::u22::u23::u24::u25::u26::u27::u28::u29::u30::u31::u32::u33::u34::u35::u36::u37::u38::u39::u40::u41::u42::u43::u44::u45::u46::u47::u48::u49::u50::u51::u52::u53::u54::u55::u56::u57::u58::u59::u60::u61::u62::u63::u64::u65::u66::u67::u68::u69::u70::u71::u72::u73::u74::u75::u76::u77::u78::u79::u80::u81::u82::u83::u84::u85::u86::u87::u88::u89::u90::u91::u92::u93::u94::u95::u96::u97::u98::u99::u100::u101::u102::u103::u104::u105::u106::u107::u108::u109::u110::u111::u112::u113::u114::u115::u116::u117::u118::u119::u120::u121::u122::u123::u124::u125::u126::u127::u128::u129::u130::u131::u132::u133::u134::u135::u136::u137::u138::u139::u140::u141::u142::u143::u144::u145::u146::u147::u148::u149::u150::u151::u152::u153::u154::u155::u156::u157::u158::u159::u160::u161::u162::u163::u164::u165::u166::u167::u168::u169::u170::u171::u172::u173::u174::[]),defers:=[]} w:=by
 have CZ:=ah hp.lim;have HX:=ah hp.ok;have HRD0:=ah hp.rd;have HCP0:=ah hp.cp;have Rl:=ah hp.nd;have wK:=ah hp.rr;have HL:=ah hp.len;have DZ:=ah hp.nn;have XZ:=ah hp.fb;have Ya:=ah hp.eb;have Rn:=ah hrd;have Ro:=ah hcp;have HNP:=ah hp;clear hp hrd hcp;generalize hQ:bodyPost Tryz.prog Tryz.f143 (fun e w'=>e= .returned (.tuple #[.int .i64 x.bytes.length,.bool true])/\w=w')=Q;dsimp only[npF,npE,npC,dF,sq2,Tryz.f143];subst hQ;have HRD2:=Rn;have HCP2:=Ro;clear Rn Ro
 go_upto_region 20 with fail
 go_cut [84] (fun s84 wx=>w=wx/\s84= .bool fb)
 case first=>
  have hrd:=HRD2.out;cases hfp:x.fp with
  |nil=>
   have hL:x.kJ=[]:=by unfold NT.kJ;rw[hfp];rfl
   rw[hL,List.nil_append]at hrd;have hl:=Kd.dG hrd;rcases NT.JJ HX.out wK.out with he|⟨h,t,he,hne⟩
   ·rw[he,List.length_nil]at hl
    have f1:decide ((2:Int)<=(r1:Int))=false:=bY (by omega);have f2:decide (2<=r1)=false:=bY (by omega);clear hrd hl he hL;go_wp2
    go_meet
    exact⟨rfl,by rw[XZ.out,hfp];rfl⟩
   ·rw[he]at hrd hl
    rw[List.length_cons]at hl
    by_cases h2:2<=r1
    ·obtain⟨ad,rfl,hc0⟩:=fD hrd
     have f1:decide ((2:Int)<=(r1:Int))=true:=bZ (by omega);have f2:decide (2<=r1)=true:=bZ h2;have f3:(0:Int)<(r1:Int):=by omega
     have d1:(h==46)=false:=eqF hne;clear hrd hl he hL h2;go_wp2
     go_meet
     exact⟨rfl,by rw[XZ.out,hfp];rfl⟩
    ·have f1:decide ((2:Int)<=(r1:Int))=false:=bY (by omega)
     have f2:decide (2<=r1)=false:=bY h2;clear hrd hl he hL h2;go_wp2
     go_meet
     exact⟨rfl,by rw[XZ.out,hfp];rfl⟩
  |cons d fp'=>
   have hL:x.kJ=46::x.fp:=by unfold NT.kJ;rw[if_neg (by rw[hfp];simp)]
   rw[hL,hfp]at hrd;have hl:=Kd.dG hrd;have uJ:RdB w A1 r1 (46::d::(fp'++(x.iV++R))):=hrd;obtain⟨ad,rfl,hc0⟩:=fD uJ;have hc1:=jc uJ;have hl':r1=(fp'++(x.iV++R)).length+2:=by have:=Kd.dG uJ;rw[List.length_cons,List.length_cons]at this;omega
   have hd:=HX.out.fpD d (by rw[hfp];exact List.mem_cons_self);have f1:decide ((2:Int)<=(r1:Int))=true:=bZ (by omega);have f2:decide (2<=r1)=true:=bZ (by omega);have f3:(0:Int)<(r1:Int):=by omega
   have f4:(1:Int)<(r1:Int):=by omega
   have d2:decide (48<=d)=true:=bZ hd.1;have d3:decide (d<=57)=true:=bZ hd.2;clear hrd uJ hl hl' hL hd;go_wp2
   go_meet
   exact⟨rfl,by rw[XZ.out,hfp];rfl⟩
 case rest=>
  obtain⟨rfl,rfl⟩:=hcut
  go_upto_if 84 with fail
  go_cut [4,5] (fun s4 s5 wx=>w=wx/\∃(A':Option Addr)(r' c':Nat),s4= .int .i64 ((N3:Nat):Int)/\s5= .slice A' r' c'/\aC (RdB w A' r' (x.iV++R))/\aC (r'<=c'))
  case first=>
   cases hfp:x.fp with
   |nil=>
    have hL:x.kJ=[]:=by unfold NT.kJ;rw[hfp];rfl
    have HN3:=ah (show N3=N2 by rw[DZ.out.2.2.1,hL];rfl);have hrd:=HRD2.out;rw[hL,List.nil_append]at hrd;have HRD3:=ah hrd;have f1:fb=false:=by rw[XZ.out,hfp];rfl
    subst f1;clear hrd hL;go_wp2
    go_meet
    exact⟨rfl,A1,r1,c1,by rw[HN3.out],rfl,HRD3,HCP2⟩
   |cons d fp'=>
    have hL:x.kJ=46::x.fp:=by unfold NT.kJ;rw[if_neg (by rw[hfp];simp)]
    have hrd:=HRD2.out;rw[hL,hfp]at hrd;have uJ:RdB w A1 r1 (46::d::(fp'++(x.iV++R))):=hrd;obtain⟨A2,r2,c2,hs,hrd2,hc2,hr2⟩:=oU uJ HCP2.out;have hk1:N2<1000000000000:=by have:=CZ.out;omega
    have f1:fb=true:=by rw[XZ.out,hfp];rfl
    subst f1;obtain⟨ds0,hds0⟩:∃l,l=fp':=⟨_,rfl⟩
    rw[<-hds0]at hrd2;have HRD3:=ah hrd2;have HC3:=ah hc2;have HDS0:=ah (show jT ds0 from fun y hy=>HX.out.fpD y (by rw[hfp,<-hds0];exact List.mem_cons_of_mem _ hy));have HK0:=ah (show(N2+2)+ds0.length=N3 by rw[DZ.out.2.2.1,hL,hfp,<-hds0,List.length_cons,List.length_cons];omega);clear hrd uJ hrd2 hc2 hr2 hL hds0;obtain⟨e1,e2⟩:=YT hk1;go_wp2
    (try clear e1 e2)
    go_loopg [4,5] ds0.length (fun g v4 v5 w'=>w=w'/\∃(k:Nat)(ds:List Int)(A':Option Addr)(r' c':Nat),v4= .int .i64 k/\v5= .slice A' r' c'/\g=ds.length/\aC (k+ds.length=N3)/\aC (jT ds)/\aC (RdB w A' r' (ds++(x.iV++R)))/\aC (r'<=c'))
    case atStart=>exact⟨rfl,N2+2,ds0,A2,r2,c2,rfl,rfl,rfl,HK0,HDS0,HRD3,HC3⟩
    case round=>
     obtain⟨rfl,k,ds,A',r',c',rfl,rfl,hgk,JK,zo,TG,Iy⟩:=hrel;have JL:=ah hgk;clear hgk;cases ds with
     |nil=>
      have hrd:RdB w A' r' (x.iV++R):=TG.out;have hkn:=JK.out;rw[List.length_nil,Nat.add_zero]at hkn;have HE:=ah (And.intro hkn hrd);rcases(NT.Ns HX.out Rl.out)with hT|⟨h,t,hT,hnd⟩
      ·have hl:=Kd.dG hrd
       rw[hT,List.length_nil]at hl;subst hl;obtain⟨p1,p2⟩:=xB;clear hrd hT hkn;go_wp2
       go_meet
       exact⟨rfl,A',_,c',by rw[HE.out.1],rfl,⟨HE.out.2⟩,Iy⟩
      ·rw[hT]at hrd
       obtain⟨ad,rfl,hc0⟩:=fD hrd;have hl:=Kd.dG hrd;rw[List.length_cons]at hl;obtain⟨p1,p2,p3,p4⟩:=dR (show 0<r' by omega);clear hrd hl hT hkn
       by_cases h1:48<=h
       ·have d1:decide (48<=h)=true:=bZ h1
        have d2:decide (h<=57)=false:=bY (by omega);clear h1 hnd;go_wp2
        go_meet
        exact⟨rfl,_,_,c',by rw[HE.out.1],rfl,⟨HE.out.2⟩,Iy⟩
       ·have d1:decide (48<=h)=false:=bY h1
        clear h1 hnd;go_wp2
        go_meet
        exact⟨rfl,_,_,c',by rw[HE.out.1],rfl,⟨HE.out.2⟩,Iy⟩
     |cons d ds=>
      have hrd:RdB w A' r' (d::(ds++(x.iV++R))):=TG.out;obtain⟨ad,rfl,hc0⟩:=fD hrd;obtain⟨A2,r2,c2,hs,hrd2,hc2,hr2⟩:=vG hrd Iy.out;have hd:=zo.out d List.mem_cons_self;have d1:decide (48<=d)=true:=bZ hd.1;have d2:decide (d<=57)=true:=bZ hd.2;obtain⟨p1,p2,p3,p4⟩:=dR (show 0<r' by omega);have HRD2:=ah hrd2;have HC2:=ah hc2;have hkn:=JK.out;rw[List.length_cons]at hkn;have HKN2:=ah (show(k+1)+ds.length=N3 by omega);have HDS2:=ah (show jT ds from fun y hy=>zo.out y (List.mem_cons_of_mem _ hy));have vH:=JL.out;rw[List.length_cons]at vH;subst vH;have hk1:k<1000000000000:=by have:=CZ.out;omega
      clear hrd hrd2 hc2 hr2 hd hkn;obtain⟨e1,e2⟩:=kD hk1;go_wp2
      go_roundg ds.length
      case measure=>exact Nat.lt_succ_self _
      case rel=>exact⟨rfl,k+1,ds,A2,r2,c2,rfl,rfl,rfl,HKN2,HDS2,HRD2,HC2⟩
  case rest=>
   obtain⟨rfl,A1,r1,c1,rfl,rfl,HRD3,HCP3⟩:=hcut
   go_step
   exact agT x R w ad0 n c N1 N2 N3 N4 fb eb HNP.out A1 r1 c1 HRD3.out HCP3.out
theorem Nv(x:NT)(hx:x.ok)(R:List Int)(hR:R=[]∨∃c r,R=c::r/\lU c)(A:Option Addr)(n c:Nat)(w:World)(hr:RdB w A n (x.bytes++R))(hc:n<=c)(hn:n<900000000000):
 Calls Tryz.prog 143 #[.slice A n c] w fun e w'=>e= .returned (.tuple #[.int .i64 x.bytes.length,.bool true])/\w=w':=by
 have hlen:=Kd.dG hr;have Iz:=List.length_pos_iff.2 hx.ip1;obtain⟨N1,hN1⟩:∃N1,N1=x.wJ.length:=⟨_,rfl⟩
 obtain⟨N2,hN2⟩:∃N2,N2=N1+x.ip.length:=⟨_,rfl⟩
 obtain⟨N3,hN3⟩:∃N3,N3=N2+x.kJ.length:=⟨_,rfl⟩
 obtain⟨N4,hN4⟩:∃N4,N4=N3+x.iV.length:=⟨_,rfl⟩
 have hNb:x.bytes.length=N4:=by unfold NT.bytes;rw[List.length_append,List.length_append,List.length_append];omega
 have hlim:N4<900000000000:=by rw[List.length_append]at hlen;omega
 have CZ:=ah (show N4<900000000000/\N3<=N4/\N2<=N3/\N1<=N2 from⟨hlim,by omega,by omega,by omega⟩);obtain⟨fb,hfb⟩:∃fb,fb=decide (x.fp≠[]):=⟨_,rfl⟩
 obtain⟨eb,heb⟩:∃eb,eb=x.ex.isSome:=⟨_,rfl⟩
 have XZ:=ah hfb;have Ya:=ah heb;clear hfb heb;have HX:=ah hx;have HRD0:=ah hr;have HCP0:=ah hc;have Rl:=ah (Vg.rest hR);have wK:=ah hR;have HL:=ah hlen;have DZ:=ah (And.intro hN1 (And.intro hN2 (And.intro hN3 (And.intro hN4 hNb))));obtain⟨p1,p2,p3,p4⟩:=dR (show 0<n by rw[List.length_append]at hlen;omega);clear hx hr hc hR hlen Iz hN1 hN2 hN3 hN4 hNb hlim hn;go_enter Tryz.func143,Tryz.ntmps143;obtain⟨h0,t0,hh⟩:∃h t,x.bytes++R=h::t:=List.exists_cons_of_ne_nil (List.length_pos_iff.1 (by rw[HL.out];exact(of_decide_eq_true p2)))
 have hrd0:=HRD0.out;rw[hh]at hrd0;obtain⟨ad0,rfl,hc0⟩:=fD hrd0;have HHd:=ah hh;clear hh hrd0
 go_upto_if 13 with fail
 go_cut [4,5] (fun s4 s5 wx=>w=wx/\∃(A':Option Addr)(r' c':Nat),s4= .int .i64 ((N1:Nat):Int)/\s5= .slice A' r' c'/\aC (RdB w A' r' (x.ip++(x.kJ++(x.iV++R))))/\aC (r'<=c'))
 case first=>
  have hrd:=HRD0.out;cases Vj:x.neg
  ·have hb:x.bytes++R=x.ip++(x.kJ++(x.iV++R)):=by unfold NT.bytes NT.wJ;rw[Vj];simp
   have h1:N1=0:=by rw[DZ.out.1];unfold NT.wJ;rw[Vj];rfl
   have HN1:=ah h1;rw[hb]at hrd;have TG:=ah hrd;obtain⟨d,ip',Iz⟩:=List.exists_cons_of_ne_nil HX.out.ip1;have hd:=HX.out.QY d (by rw[Iz];exact List.mem_cons_self);have hhd:=HHd.out;rw[hb,Iz]at hhd;injection hhd with hhd _
   have d1:(h0==45)=false:=eqF (by omega);clear hrd hb h1 Vj Iz hd hhd hc0;go_wp2
   go_meet
   exact⟨rfl,_,_,_,by rw[HN1.out];rfl,rfl,TG,HCP0⟩
  ·have hb:x.bytes++R=45::(x.ip++(x.kJ++(x.iV++R))):=by unfold NT.bytes NT.wJ;rw[Vj];simp
   have h1:N1=1:=by rw[DZ.out.1];unfold NT.wJ;rw[Vj];rfl
   have HN1:=ah h1;have hhd:=HHd.out;rw[hb]at hhd hrd;injection hhd with hhd _
   obtain⟨A2,r2,c2,hs,hrd2,hc2,hr2⟩:=vG hrd HCP0.out;have TG:=ah hrd2;have Iy:=ah hc2;have hl2:=Kd.dG hrd2;have h3:=List.length_pos_iff.2 HX.out.ip1;have q1:((r2:Int)==0)=false:=eqF (by rw[List.length_append]at hl2;omega);have d1:(h0==45)=true:=kZ hhd.symm;clear hrd hrd2 hc2 hr2 hb h1 Vj hl2 h3 hhd hc0;go_wp2
   go_meet
   exact⟨rfl,_,_,_,by rw[HN1.out];rfl,rfl,TG,Iy⟩
 case rest=>
  obtain⟨rfl,A1,r1,c1,rfl,rfl,HRD1,HCP1⟩:=hcut;clear p1 p2 p3 p4 hc0
  go_upto_block 0 with fail
  go_cut [4,5,21,30] (fun s4 s5 s21 s30 wx=>w=wx/\∃(A':Option Addr)(r' c':Nat),s4= .int .i64 ((N2:Nat):Int)/\s5= .slice A' r' c'/\aC (RdB w A' r' (x.kJ++(x.iV++R)))/\aC (r'<=c'))
  case first=>
   obtain⟨d,ip',Iz⟩:=List.exists_cons_of_ne_nil HX.out.ip1;have hrd:=HRD1.out;rw[Iz]at hrd;obtain⟨ad,rfl,hc0⟩:=fD hrd;obtain⟨A2,r2,c2,hs,hrd2,hc2,hr2⟩:=vG hrd HCP1.out;have hd:=HX.out.QY d (by rw[Iz];exact List.mem_cons_self);have HRD2:=ah hrd2;have HC2:=ah hc2;obtain⟨p1,p2,p3,p4⟩:=dR (show 0<r1 by omega);have hk1:N1<1000000000000:=by have:=CZ.out;omega
   have HIp:=ah Iz
   by_cases h48:d=48
   ·have h1:x.ip=[48]:=HX.out.ip0 (by rw[Iz,h48];rfl)
    rw[h1]at Iz;injection Iz with _ aeE
    have HN2:=ah (show N2=N1+1 by rw[DZ.out.2.1,h1];rfl);rw[<-aeE]at HRD2;have d1:(d==48)=true:=kZ h48;clear hrd hrd2 hc2 hr2 hd h48 h1 aeE HIp;obtain⟨e1,e2⟩:=kD hk1;go_wp2
    go_meet
    exact⟨rfl,A2,r2,c2,by rw[HN2.out];rfl,rfl,HRD2,HC2⟩
   ·have d1:(d==48)=false:=eqF h48
    have d2:decide (49<=d)=true:=bZ (by omega);have d3:decide (d<=57)=true:=bZ hd.2;obtain⟨ds0,hds0⟩:∃l,l=ip':=⟨_,rfl⟩
    rw[<-hds0]at HRD2;have HDS0:=ah (show jT ds0 from fun y hy=>HX.out.QY y (by rw[Iz,<-hds0];exact List.mem_cons_of_mem _ hy));have HK0:=ah (show(N1+1)+ds0.length=N2 by rw[DZ.out.2.1,Iz,<-hds0,List.length_cons];omega);clear hrd hrd2 hc2 hr2 hd h48 Iz hds0;obtain⟨e1,e2⟩:=kD hk1;go_wp2
    (try clear e1 e2)
    go_loopg [4,5] ds0.length (fun g v4 v5 w'=>w=w'/\∃(k:Nat)(ds:List Int)(A':Option Addr)(r' c':Nat),v4= .int .i64 k/\v5= .slice A' r' c'/\g=ds.length/\aC (k+ds.length=N2)/\aC (jT ds)/\aC (RdB w A' r' (ds++(x.kJ++(x.iV++R))))/\aC (r'<=c'))
    case atStart=>exact⟨rfl,N1+1,ds0,A2,r2,c2,rfl,rfl,rfl,HK0,HDS0,HRD2,HC2⟩
    case round=>
     obtain⟨rfl,k,ds,A',r',c',rfl,rfl,hgk,JK,zo,TG,Iy⟩:=hrel;have JL:=ah hgk;clear hgk;cases ds with
     |nil=>
      have hrd:RdB w A' r' (x.kJ++(x.iV++R)):=TG.out;have hkn:=JK.out;rw[List.length_nil,Nat.add_zero]at hkn;have HE:=ah (And.intro hkn hrd);rcases(NT.Vh HX.out Rl.out)with hT|⟨h,t,hT,hnd⟩
      ·have hl:=Kd.dG hrd
       rw[hT,List.length_nil]at hl;subst hl;obtain⟨p1,p2⟩:=xB;clear hrd hT hkn;go_wp2
       go_meet
       exact⟨rfl,A',_,c',by rw[HE.out.1],rfl,⟨HE.out.2⟩,Iy⟩
      ·rw[hT]at hrd
       obtain⟨ad,rfl,hc0⟩:=fD hrd;have hl:=Kd.dG hrd;rw[List.length_cons]at hl;obtain⟨p1,p2,p3,p4⟩:=dR (show 0<r' by omega);clear hrd hl hT hkn
       by_cases h1:48<=h
       ·have d1:decide (48<=h)=true:=bZ h1
        have d2:decide (h<=57)=false:=bY (by omega);clear h1 hnd;go_wp2
        go_meet
        exact⟨rfl,_,_,c',by rw[HE.out.1],rfl,⟨HE.out.2⟩,Iy⟩
       ·have d1:decide (48<=h)=false:=bY h1
        clear h1 hnd;go_wp2
        go_meet
        exact⟨rfl,_,_,c',by rw[HE.out.1],rfl,⟨HE.out.2⟩,Iy⟩
     |cons d ds=>
      have hrd:RdB w A' r' (d::(ds++(x.kJ++(x.iV++R)))):=TG.out;obtain⟨ad,rfl,hc0⟩:=fD hrd;obtain⟨A2,r2,c2,hs,hrd2,hc2,hr2⟩:=vG hrd Iy.out;have hd:=zo.out d List.mem_cons_self;have d1:decide (48<=d)=true:=bZ hd.1;have d2:decide (d<=57)=true:=bZ hd.2;obtain⟨p1,p2,p3,p4⟩:=dR (show 0<r' by omega);have HRD2:=ah hrd2;have HC2:=ah hc2;have hkn:=JK.out;rw[List.length_cons]at hkn;have HKN2:=ah (show(k+1)+ds.length=N2 by omega);have HDS2:=ah (show jT ds from fun y hy=>zo.out y (List.mem_cons_of_mem _ hy));have vH:=JL.out;rw[List.length_cons]at vH;subst vH;have hk1:k<1000000000000:=by have:=CZ.out;omega
      clear hrd hrd2 hc2 hr2 hd hkn;obtain⟨e1,e2⟩:=kD hk1;go_wp2
      go_roundg ds.length
      case measure=>exact Nat.lt_succ_self _
      case rel=>exact⟨rfl,k+1,ds,A2,r2,c2,rfl,rfl,rfl,HKN2,HDS2,HRD2,HC2⟩
  case rest=>
   obtain⟨rfl,A1,r1,c1,rfl,rfl,HRD2,HCP2⟩:=hcut
   go_step
   exact agV x R w ad0 n c N1 N2 N3 N4 fb eb ⟨CZ.out,HX.out,HRD0.out,HCP0.out,Rl.out,wK.out,HL.out,DZ.out,XZ.out,Ya.out⟩ A1 r1 c1 HRD2.out HCP2.out
end Go.Proofs.YtapkmjfjikpnlaaGreatDoor
