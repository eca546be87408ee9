/- A part of FnMsgJsonMeans. No conditions. -/
import Derived.Test.YtapkmjfjikpnlaaGreatDoorM34
set_option maxHeartbeats 8000000
set_option maxRecDepth 100000
namespace Go.Proofs.YtapkmjfjikpnlaaGreatDoor
open Go.RowKit YtapkmjfjikpnlaaGreatDoorW.aG YtapkmjfjikpnlaaGreatDoorW.aJ FP
set_option linter.unusedVariables false
set_option linter.unusedSimpArgs false
def Zv(dg:List Int)(pw:Int)(N:Nat):Prop:=(0<=pw/\bC dg*10^pw.toNat=N)∨(pw<0/\bC dg=N*10^(-pw).toNat)
theorem Ot{xs dg:List Int}{pw:Int}{k N:Nat}(h1:bC xs*10^k=bC dg)(h2:Zv dg pw N)(h0:xs=[]):N=0:=by
 subst h0;have e:bC dg=0:=by rw[<-h1];show 0*_=0;omega
 rcases h2 with⟨_,h⟩|⟨_,h⟩
 ·rw[e]at h;omega
 ·rw[e]at h
  have:0<10^(-pw).toNat:=Nat.pow_pos (by omega);rcases Nat.mul_eq_zero.1 h.symm with h|h<;>omega
theorem SI{xs dg:List Int}{pw:Int}{k N:Nat}(h1:bC xs*10^k=bC dg)(h2:Zv dg pw N)(h3:bC xs%10≠0)(hN:N<10^40):
 ∃q:Nat,pw+k=q/\bC xs*10^q=N/\q<40:=by
 have key:∃q:Nat,pw+k=q/\bC xs*10^q=N:=by
  rcases h2 with⟨hp,h⟩|⟨hp,h⟩
  ·obtain⟨p,rfl⟩:=Int.eq_ofNat_of_zero_le hp
   refine⟨k+p,by omega,?_⟩;rw[Nat.pow_add,<-Nat.mul_assoc,h1];exact h
  ·obtain⟨p,hp2⟩:∃p:Nat,pw= -(p:Int):=⟨(-pw).toNat,by omega⟩
   subst hp2;have e:(-(-(p:Int))).toNat=p:=by omega
   rw[e]at h
   by_cases hk:k<p
   ·exfalso
    obtain⟨j,rfl⟩:∃j,p=k+(j+1):=⟨p-k-1,by omega⟩
    rw[h,Nat.pow_add,Nat.mul_comm (10^k),<-Nat.mul_assoc]at h1;have h4:=Nat.eq_of_mul_eq_mul_right (Nat.pow_pos (by omega)) h1;rw[h4,Nat.pow_succ,<-Nat.mul_assoc]at h3;exact h3 (Nat.mul_mod_left _ _)
   ·obtain⟨j,rfl⟩:∃j,k=p+j:=⟨k-p,by omega⟩
    refine⟨j,by omega,?_⟩;rw[h,Nat.pow_add,Nat.mul_comm (10^p),<-Nat.mul_assoc]at h1;exact Nat.eq_of_mul_eq_mul_right (Nat.pow_pos (by omega)) h1
 obtain⟨q,e1,e2⟩:=key;refine⟨q,e1,e2,?_⟩;have h5:1*10^q<=bC xs*10^q:=Nat.mul_le_mul_right _ (by omega);rw[e2,Nat.one_mul]at h5;exact(Nat.pow_lt_pow_iff_right (by omega)).1 (Nat.lt_of_le_of_lt h5 hN)
theorem SK{xs:List Int}{d:Int}(h:jT (xs++[d]))(hd:d≠48):bC (xs++[d])%10≠0:=by
 have:=h d (by simp);rw[iK];omega
def acG(w:World)(N:Nat)(e:Ending)(w':World):Prop:=∃(A:Option Addr)(n c:Nat)(l:List Int),e= .returned (.tuple #[.slice A n c,.bool true])/\RdB w' A n l/\n<=c/\jT l/\bC l=N/\n<=2000000000/\Below w.heap.size w w'
theorem aaK(A:Option Addr)(n c:Nat)(hc:n+1<=c):∃A',(∀W:World,(Instr.slice 27 (.slice A (n+1) c) (some (.int .i64 1)) none none).run Tryz.prog W= .ok (.slice A' n (c-1)) W)/\∀w l,RdB w A (n+1) l->RdB w A' n (l.drop 1):=by
 obtain⟨A',h1,h2⟩:=jF A (n+1) c 1 (by omega) hc;exact⟨A',h1,h2⟩
theorem afo(A:Option Addr)(n c:Nat)(hc:n+1<=c):(∀W:World,(Instr.slice 27 (.slice A (n+1) c) none (some (.int .i64 (n:Int))) none).run Tryz.prog W= .ok (.slice A n c) W)/\∀w l,RdB w A (n+1) l->RdB w A n (l.take n):=by
 obtain⟨h1,h2⟩:=jZ A (n+1) c n (by omega) hc;exact⟨h1,h2⟩
theorem KQ(neg:Bool)(A:Option Addr)(n c:Nat)(pw:Int)(dg:List Int)(w:World)(N:Nat)(hr:RdB w A n dg)(hc:n<=c)(hd:jT dg)(hD:Zv dg pw N)(hN:N<10^40)(hp: -1000000000000<=pw/\pw<=1000000000000)(hn:n<=1000000000):
 Calls Tryz.prog 216 #[.agg #[.bool neg,.slice A n c,.int .i64 pw,.bool false]] w (acG w N):=by
 obtain⟨W1,hW1⟩:∃W1,W1=w.alloc (.cells #[.bool neg,.slice A n c,.int .i64 pw,.bool false] 254):=⟨_,rfl⟩
 have hb1:Below w.heap.size w W1:=by rw[hW1];exact ak (bg _ _) _
 have y1:W1.heap[w.heap.size]? =some (.cells #[.bool neg,.slice A n c,.int .i64 pw,.bool false] 254 (0,0)):=by rw[hW1];exact aP w _
 obtain⟨⟨k0,k1,k2,k3⟩,_⟩:=box4 y1;have HR:=ah (Kd.aU hr hb1);have Yf:=ah hd;have HD:=ah hD;have HN:=ah hN;have HP:=ah hp;have HB1:=ah hb1;have HW1:=ah hW1;have HC:=ah hc;have yu:=ah hn;clear hr hd hD hN hp hb1 hW1 hc hn y1;go_enter Tryz.func216,Tryz.ntmps216
 go_upto_region 1 with fail
 rw[<-HW1.out]
 go_upto_block 0 with fail
 go_cut [4] (fun s4 wx=>W1=wx/\∃(A1:Option Addr)(n1 c1:Nat)(xs:List Int),s4= .slice A1 n1 c1/\aC (RdB W1 A1 n1 xs/\n1<=c1/\n1<=n/\jT xs/\bC xs=bC dg))
 case first=>
  go_wp2
  go_loopg [4] n (fun g v4 w'=>W1=w'/\∃(A1:Option Addr)(c1:Nat)(xs:List Int),v4= .slice A1 g c1/\aC (RdB W1 A1 g xs/\g<=c1/\g<=n/\jT xs/\bC xs=bC dg))
  case atStart=>exact⟨rfl,A,c,dg,rfl,⟨HR.out,HC.out,Nat.le_refl _,Yf.out,rfl⟩⟩
  case round=>
   obtain⟨rfl,A1,c1,xs,rfl,HH⟩:=hrel;cases gk with
   |zero=>
    go_wp2
    go_meet
    exact⟨rfl,A1,0,c1,xs,rfl,HH⟩
   |succ g=>
    have hl:=Kd.dG HH.out.1;obtain⟨d,ds,hds⟩:∃d ds,xs=d::ds:=List.exists_cons_of_ne_nil (by intro e;rw[e]at hl;cases hl)
    subst hds;obtain⟨ad,rfl,q0⟩:=iD HH.out.1 (show(d::ds)[0]? =some d from rfl);rw[show ad.add 0=ad by simp[Addr.add]]at q0;have p1:(0:Int)<(g:Int)+1:=by omega
    have p2:decide ((0:Int)<(g:Int)+1)=true:=bZ p1
    by_cases h48:d=48
    ·subst h48
     obtain⟨A2,hcut,hrd⟩:=aaK (some ad) g c1 HH.out.2.1;have HR2:=ah (hrd _ _ HH.out.1);have HD2:=ah (show jT ds from fun y hy=>HH.out.2.2.2.1 y (List.mem_cons_of_mem _ hy));have HE2:=ah (show bC ds=bC dg by have:=HH.out.2.2.2.2;rw[iZ]at this;rw[<-this];show _=0*_+_;omega);clear hrd hl;go_wp2
     go_roundg g
     case measure=>omega
     case rel=>exact⟨rfl,A2,c1-1,ds,rfl,⟨HR2.out,by have:=HH.out.2.1;omega,by have:=HH.out.2.2.1;omega,HD2.out,HE2.out⟩⟩
    ·have d1:(d==48)=false:=eqF h48
     clear hl h48;go_wp2
     go_meet
     exact⟨rfl,some ad,g+1,c1,d::ds,by go_num,HH⟩
 case rest=>
 obtain⟨rfl,A1,n1,c1,xs,rfl,HX⟩:=hcut;clear HR HC Yf
 go_upto_block 2 with fail
 go_cut [4,5] (fun s4 s5 wx=>W1=wx/\∃(A2:Option Addr)(n2 c2 k:Nat)(ys:List Int),s4= .slice A2 n2 c2/\s5= .int .i64 (pw+k)/\aC (RdB W1 A2 n2 ys/\n2<=c2/\n2<=n/\jT ys/\bC ys*10^k=bC dg/\(ys=[]∨bC ys%10≠0)))
 case first=>
  go_wp2
  go_loopg [4,5] n1 (fun g v4 v5 w'=>W1=w'/\∃(c2 k:Nat)(A2:Option Addr)(ys:List Int),v4= .slice A2 g c2/\v5= .int .i64 (pw+k)/\aC (RdB W1 A2 g ys/\g<=c2/\g+k=n1/\jT ys/\bC ys*10^k=bC dg))
  case atStart=>exact⟨rfl,c1,0,A1,xs,rfl,by go_num,⟨HX.out.1,HX.out.2.1,by omega,HX.out.2.2.2.1,by rw[Nat.pow_zero,Nat.mul_one];exact HX.out.2.2.2.2⟩⟩
  case round=>
   obtain⟨rfl,c2,k,A2,ys,rfl,rfl,HH⟩:=hrel;cases gk with
   |zero=>
    have hys:=List.eq_nil_of_length_eq_zero (Kd.dG HH.out.1);have HF:=ah (show RdB W1 A2 0 ys/\0<=c2/\0<=n/\jT ys/\bC ys*10^k=bC dg/\(ys=[]∨bC ys%10≠0)from⟨HH.out.1,by omega,by omega,HH.out.2.2.2.1,HH.out.2.2.2.2,.inl hys⟩);clear hys;go_wp2
    go_meet
    exact⟨rfl,A2,0,c2,k,ys,rfl,rfl,HF⟩
   |succ g=>
    have hl:=Kd.dG HH.out.1
    obtain⟨zs,d,hzd⟩:∃zs d,ys=zs++[d]:=by
     have hne:ys≠[]:=by intro e;rw[e]at hl;cases hl
     exact⟨ys.dropLast,ys.getLast hne,(List.dropLast_concat_getLast hne).symm⟩
    subst hzd;have hzl:zs.length=g:=by rw[List.length_append]at hl;simpa using hl
    obtain⟨ad,rfl,q0⟩:=iD HH.out.1 (show(zs++[d])[g]? =some d by rw[List.getElem?_append_right (by omega),hzl,Nat.sub_self];rfl);have hgn:g<1000000000000:=by have:=HH.out.2.2.1;have:=HX.out.2.2.1;have:=yu.out;omega
    have hkn:k<1000000000000:=by have:=HH.out.2.2.1;have:=HX.out.2.2.1;have:=yu.out;omega
    have p1:(0:Int)<(g:Int)+1:=by omega
    have p2:decide ((0:Int)<(g:Int)+1)=true:=bZ p1;have e1:IntKind.i64.wrap ((g:Int)+1-1)=(g:Int):=by rw[IntKind.wrap_i64];omega
    have e2:wrap64 ((g:Int)+1-1)=(g:Int):=by unfold wrap64;omega
    have i1:(g:Int)<(g:Int)+1:=by omega
    by_cases h48:d=48
    ·subst h48
     obtain⟨hcut,hrd⟩:=afo (some ad) g c2 HH.out.2.1;have hr2:=hrd _ _ HH.out.1;rw[<-hzl,List.take_left,hzl]at hr2;have HR2:=ah hr2;have HD2:=ah (show jT zs from fun y hy=>HH.out.2.2.2.1 y (List.mem_append_left _ hy));have HE2:=ah (show bC zs*10^(k+1)=bC dg by have:=HH.out.2.2.2.2;rw[iK]at this;rw[<-this,Nat.pow_succ];show _=(_*10+0)*_;rw[Nat.add_zero,Nat.mul_assoc,Nat.mul_comm (10^k)]);have e3:IntKind.i64.wrap (pw+(k:Int)+1)=pw+(k:Int)+1:=by rw[IntKind.wrap_i64];have:=HP.out;omega
     have e4:wrap64 (pw+(k:Int)+1)=pw+(k:Int)+1:=by have:=HP.out;unfold wrap64;omega
     clear hrd hl hr2 hzl;go_wp2
     go_roundg g
     case measure=>omega
     case rel=>exact⟨rfl,c2,k+1,some ad,zs,rfl,by go_num,⟨HR2.out,by have:=HH.out.2.1;omega,by have:=HH.out.2.2.1;omega,HD2.out,HE2.out⟩⟩
    ·have d1:(d==48)=false:=eqF h48
     have HF:=ah (show RdB W1 (some ad) (g+1) (zs++[d])/\g+1<=c2/\g+1<=n/\jT (zs++[d])/\bC (zs++[d])*10^k=bC dg/\(zs++[d]=[]∨bC (zs++[d])%10≠0)from⟨HH.out.1,HH.out.2.1,by have:=HH.out.2.2.1;have:=HX.out.2.2.1;omega,HH.out.2.2.2.1,HH.out.2.2.2.2,.inr (SK HH.out.2.2.2.1 h48)⟩);clear hl h48 hzl;go_wp2
     go_meet
     exact⟨rfl,some ad,g+1,c2,k,zs++[d],by go_num,rfl,HF⟩
 case rest=>
 obtain⟨rfl,A2,n2,c2,k,ys,rfl,rfl,HY⟩:=hcut;have hl:=Kd.dG HY.out.1;rcases HY.out.2.2.2.2.2 with h0|h10
 ·have HZ:=ah (Ot HY.out.2.2.2.2.1 HD.out h0)
  subst h0;obtain rfl:n2=0:=hl.symm;clear hl;go_wp2
  go_ret2
  exact⟨none,0,0,[],rfl,Kd.IQ _ _,Nat.le_refl _,(fun _ h=>nomatch h),HZ.out.symm,by omega,HB1.out⟩
 ·obtain⟨q,hq,hNq,hq40⟩:=SI HY.out.2.2.2.2.1 HD.out h10 HN.out
  have hne:ys≠[]:=by rintro rfl;exact h10 rfl
  have hpos:=List.length_pos_iff.2 hne;have d1:((n2:Int)==0)=false:=eqF (by omega);have d2:decide ((q:Int)<0)=false:=bY (by omega);rw[hq];have HNq:=ah hNq;have HQ:=ah hq40;have HLn:=ah (show([]:List Int).length+n2<=140737488355328 by have:=HY.out.2.2.1;have:=yu.out;rw[List.length_nil];omega);have HB:=HB1.out.size;have HO:=ah (mF W1 w.heap.size [] HB (by simp));have HRy:=ah (Kd.dP HY.out.1 (.cells #[] 5));have HBa:=ah (show w.heap.size<=(W1.alloc (.cells #[] 5)).heap.size from(ak HB1.out _).size);clear hq hNq hq40 h10 hne hpos hl HB
  go_upto_region 12 with fail
  go_upto_region 13 with(at_builtin;refine wu w.heap.size rfl (.tmp 47) (.tmp 48) rfl A2 n2 c2 ys rfl rfl ?aO ?aR ?aB HLn.out ?_;(case aO=>exact HO.out);(case aR=>exact HRy.out);(case aB=>exact HBa.out);intro v13 w13 ho13 hg13 hat13;have HO13:=ah ho13;have HB13:=ah ((ak HB1.out _).grown hg13 (ak HB1.out _).size (Kd.lC HO.out));clear ho13 hg13 hat13)
  have HYl:=ah (show ys.length<=1000000000 by have:=Kd.dG HY.out.1;have:=HY.out.2.2.1;have:=yu.out;omega);go_wp2
  go_loopg [6,7] q (fun g v6 v7 w'=>∃i:Nat,v7= .int .i64 i/\i+g=q/\aC (OwnB w' w.heap.size v6 (ys++List.replicate i 48))/\aC (Below w.heap.size w w'))
  case atStart=>exact⟨0,rfl,by omega,⟨by show OwnB _ _ _ (ys++[]);rw[List.append_nil];exact HO13.out⟩,HB13⟩
  case round=>
   obtain⟨i,rfl,hg,HOr,IY⟩:=hrel;obtain⟨Ar,nr,cr,rfl⟩:=fQ HOr.out;cases gk with
   |zero=>
    obtain rfl:i=q:=by omega
    have g1:decide ((i:Int)<(i:Int))=false:=bY (by omega);have g2:decide (i<i)=false:=bY (by omega);have HF:=ah (Kd.iM HOr.out);have HE:=ah (show bC (ys++List.replicate i 48)=N by rw[nP,xw,List.length_replicate,Nat.add_zero];exact HNq.out);go_wp2
    go_ret2
    obtain⟨f1,f2,f3⟩:=HF.out;exact⟨Ar,nr,cr,_,rfl,by rw[f1];exact f3,f2,HY.out.2.2.2.1.append (jT.zeros _),HE.out,by rw[f1,List.length_append,List.length_replicate];have:=HYl.out;have:=HQ.out;omega,IY.out⟩
   |succ g=>
    have hi:=HQ.out;have g1:decide ((i:Int)<(q:Int))=true:=bZ (by omega);have g2:decide (i<q)=true:=bZ (by omega);have g3:decide ((i:Int)<40)=true:=bZ (by omega);have g4:decide (i<40)=true:=bZ (by omega);obtain⟨e1,e2⟩:=kD (k:=i) (by omega);have HL2:=ah (show(ys++List.replicate i 48).length+1<=140737488355328 by rw[List.length_append,List.length_replicate];have:=HYl.out;omega);clear hi
    go_wp2_with (at_builtin;refine gG w.heap.size rfl (.tmp 59) (.tmp 60) rfl 48 rfl rfl ?aO ?aB HL2.out ?_;(case aO=>exact HOr.out);(case aB=>exact IY.out.size);intro v2 w2 ho2 hg2;have HO2:=ah ho2;have HB2:=ah (IY.out.grown hg2 IY.out.size (Kd.lC HOr.out));clear ho2 hg2)
    go_roundg g
    case measure=>omega
    case rel=>exact⟨i+1,by go_num,by omega,⟨by rw[List.replicate_succ',<-List.append_assoc];exact HO2.out⟩,HB2⟩
theorem Ou(A:Option Addr)(n c:Nat)(l:List Int)(most:Nat)(w:World)(hr:RdB w A n l)(hd:jT l)(hm:bC l<=most)(hm2:most<18446744073709551616)(hn:n<=2000000000):
 Calls Tryz.prog 213 #[.slice A n c,.int .u64 most] w fun e w'=>e= .returned (.tuple #[.int .u64 (bC l),.bool true])/\w=w':=by
 have hl:=Kd.dG hr;have HR:=ah hr;have HD:=ah hd;have HM:=ah hm;have HM2:=ah hm2;have HL:=ah hl;have HN:=ah hn;clear hr hd hm hm2 hl hn;go_enter Tryz.func213,Tryz.ntmps213;go_wp2
 go_loopg [6,7,8] n (fun g v6 v7 v8 w'=>w=w'/\∃(k e:Nat),v6= .int .u64 e/\v7= .int .i64 k/\k+g=n/\aC (e=bC (l.take k)))
 case atStart=>exact⟨rfl,0,0,rfl,rfl,by omega,⟨rfl⟩⟩
 case round=>
  obtain⟨rfl,k,e,rfl,rfl,hg,HE⟩:=hrel;cases gk with
  |zero=>
   obtain rfl:k=n:=by omega
   have g1:decide ((k:Int)<(k:Int))=false:=bY (by omega);have g2:decide (k<k)=false:=bY (by omega);have HF:=ah (show e=bC l by rw[HE.out,List.take_of_length_le (by rw[HL.out];exact Nat.le_refl _)]);go_wp2
   go_ret2
   exact⟨by rw[HF.out];rfl,rfl⟩
  |succ g=>
   have hkl:k<l.length:=by rw[HL.out];omega
   obtain⟨d,hdk⟩:=bF hkl;obtain⟨ad,rfl,q0⟩:=iD HR.out hdk.out;have g1:decide ((k:Int)<(n:Int))=true:=bZ (by omega);have g2:decide (k<n)=true:=bZ (by omega);have i0:(0:Int)<=(k:Int):=by omega
   have i1:(k:Int)<(n:Int):=by omega
   have hdd:=HD.out d (List.mem_of_getElem? hdk.out);obtain⟨d',hd'⟩:∃d':Nat,(d':Int)=d-48:=⟨(d-48).toNat,by omega⟩
   have hst:bC (l.take (k+1))=e*10+d':=by
    obtain⟨h1,h2⟩:=List.getElem?_eq_some_iff.1 hdk.out;rw[List.take_succ_eq_append_getElem h1,h2,iK,HE.out];omega
   have hle:bC (l.take (k+1))<=bC l:=by
    have:bC l=bC (l.take (k+1))*10^(l.drop (k+1)).length+bC (l.drop (k+1)):=by rw[<-nP,List.take_append_drop]
    have h2:bC (l.take (k+1))*1<=bC (l.take (k+1))*10^(l.drop (k+1)).length:=Nat.mul_le_mul_left _ (Nat.pow_pos (by omega));omega
   have hb:e*10+d'<=most:=by have:=HM.out;omega
   have hm2:=HM2.out;have hw8:IntKind.u8.wrap (d-48)=(d':Int):=by rw[IntKind.wrap_u8];omega
   have hw6:IntKind.u64.wrap (d':Int)=(d':Int):=by rw[IntKind.wrap_u64];omega
   have hs1:IntKind.u64.wrap ((most:Int)-(d':Int))=((most-d':Nat):Int):=by rw[IntKind.wrap_u64];omega
   have hq1:(((most-d':Nat):Int)).tdiv 10=(((most-d')/10:Nat):Int):=by rw[Int.tdiv_eq_ediv_of_nonneg (by omega)];omega
   have hq2:IntKind.u64.wrap (((most-d')/10:Nat):Int)=(((most-d')/10:Nat):Int):=by rw[IntKind.wrap_u64];omega
   have hc1:decide ((((most-d')/10:Nat):Int)<(e:Int))=false:=bY (by omega);have hc2:decide ((most-d')/10<e)=false:=bY (by omega);have hm1:IntKind.u64.wrap ((e:Int)*10)=(e:Int)*10:=by rw[IntKind.wrap_u64];omega
   obtain⟨e',he'⟩:∃e',e'=e*10+d':=⟨_,rfl⟩
   have hm3:IntKind.u64.wrap ((e:Int)*10+(d':Int))=(e':Int):=by rw[IntKind.wrap_u64];omega
   obtain⟨e1,e2⟩:=kD (k:=k) (by have:=HN.out;omega);have HE':=ah (show e'=bC (l.take (k+1))by rw[hst,he']);clear hst hle hb hm2 hdd hd' he' hkl;obtain⟨qq,hqq⟩:∃qq,qq=(most-d')/10:=⟨_,rfl⟩
   obtain⟨ms,hms⟩:∃ms,ms=most-d':=⟨_,rfl⟩
   rw[<-hqq]at hq1 hq2 hc1 hc2;rw[<-hms]at hs1 hq1;clear hqq hms;go_wp2
   go_roundg g
   case measure=>omega
   case rel=>exact⟨rfl,k+1,e',rfl,by go_num,by omega,HE'⟩
theorem qo.afp{x:NT}{n:Int}(h:qo x n):Zv x.dg x.pw n.natAbs:=h.2.2.2.2.2
theorem NT.dgD{x:NT}(h:x.ok):jT x.dg:=by unfold NT.dg;exact h.QY.append h.fpD
theorem Ig{w w1 w3:World}{neg:Bool}{pw:Int}{dg:List Int}{A:Option Addr}{n c:Nat}(ho:OwnB w1 w.heap.size (.slice A n c) dg)(hb:Below w.heap.size w w1)
 (h3:w3=w1.alloc (.cells #[.bool neg,.slice A n c,.int .i64 pw,.bool false] 254)):
 w3.heap[w1.heap.size]? =some (.cells #[.bool neg,.slice A n c,.int .i64 pw,.bool false] 254 (0,0))/\Below w.heap.size w w3/\n=dg.length/\n<=c/\RdB w3 A n dg:=by
 subst h3;have h1:=Kd.kX ho (.cells #[.bool neg,.slice A n c,.int .i64 pw,.bool false] 254);obtain⟨e1,e2,e3⟩:=Kd.iM h1;subst e1;exact⟨aP w1 _,ak hb _,rfl,e2,e3⟩
theorem uf(A:Option Addr)(n c:Nat)(l:List Int)(N:Nat)(most:Int)(w:World)(hr:RdB w A n l)(hd:jT l)(hN:bC l=N)(hm:(N:Int)<=most)(hm2:most<18446744073709551616)(hn:n<=2000000000):
 Calls Tryz.prog 213 #[.slice A n c,.int .u64 most] w fun e w'=>e= .returned (.tuple #[.int .u64 N,.bool true])/\w=w':=by
 obtain⟨m,rfl⟩:=Int.eq_ofNat_of_zero_le (show 0<=most by omega);have:=Ou A n c l m w hr hd (by omega) (by omega) hn
 rwa [hN]at this
theorem WU{n:Int}(h1: -9223372036854775808<=n)(h2:n<18446744073709551616):n.natAbs<10^40:=by
 have:(18446744073709551617:Nat)<=10^40:=by decide
 omega
theorem Fp(x:NT)(n:Int)(hx:qo x n)(s:ByteArray)(hs:bytesOf s=x.bytes)(hn:s.size<900000000000)(bits:Int)(hb:(bits=32/\ -2147483648<=n/\n<2147483648)∨(bits=64/\ -9223372036854775808<=n/\n<9223372036854775808))(w:World):
 Calls Tryz.prog 185 #[.string s,.int .i64 bits] w fun e w'=>e= .returned (.tuple #[.int .i64 n,.int .i64 1])/\Below w.heap.size w w':=by
 have DX:=ah (rD x hx.1 s hs hn w);have h64: -9223372036854775808<=n/\n<9223372036854775808:=by omega
 have HX:=ah hx;have H64:=ah h64;have H40:=ah (WU h64.1 (by omega));obtain⟨sg,hsg⟩:∃sg:Bool,sg=x.neg:=⟨_,rfl⟩
 have hsn:sg=decide (n<0):=hsg.trans hx.2.1
 have HK:=ah (show(bits=32/\sg=false/\0<=n/\n<=2147483647)∨(bits=32/\sg=true/\ -2147483648<=n/\n<0)∨(bits=64/\sg=false/\0<=n/\n<=9223372036854775807)∨(bits=64/\sg=true/\ -9223372036854775808<=n/\n<0)by
  by_cases h:n<0
  ·have:sg=true:=by rw[hsn];exact bZ h
   rcases hb with h1|h1<;>simp[this,h1]<;>omega
  ·have:sg=false:=by rw[hsn];exact bY h
   rcases hb with h1|h1<;>simp[this,h1]<;>omega)
 have Nu:=ah hsg;clear hx hs hn hb h64 hsg hsn;go_enter Tryz.func185,Tryz.ntmps185
 go_upto_region 2 with(go_at_call 215;(with_reducible refine DX.out.mono ?_);rintro e w1⟨vd,rfl,ho,hbe⟩;rw[<-Nu.out];obtain⟨A1,n1,c1,rfl⟩:=fQ ho;have HO:=ah ho;have HB:=ah hbe;clear ho hbe)
 obtain⟨w3,h3⟩:∃w3,w3=w1.alloc (.cells #[.bool sg,.slice A1 n1 c1,.int .i64 x.pw,.bool false] 254):=⟨_,rfl⟩
 rw[<-h3];obtain⟨y3,hb3,hl3,hc3,hr3⟩:=Ig HO.out HB.out h3;obtain⟨⟨k0,k1,k2,k3⟩,_⟩:=box4 y3;obtain⟨hx1,_,hx3,hx4,hx5,_⟩:=HX.out;have HWh:=ah (KQ sg A1 n1 c1 x.pw x.dg w3 n.natAbs hr3 hc3 (NT.dgD hx1) HX.out.afp H40.out (by omega) (by omega));have HB3:=ah hb3;have HY3:=ah y3;clear h3 y3 hb3 hl3 hc3 hr3 hx1 hx3 hx4 hx5
 go_upto_region 7 with(go_at_call 216;(with_reducible refine HWh.out.mono ?_);rintro e w4⟨A4,n4,c4,l,rfl,hr4,hc4,hd4,hn4,hle4,hb4⟩;obtain⟨⟨m0,_,_,_⟩,_⟩:=box4 (aI HY3.out hb4);have HT:=ah (fun most hm hm2=>uf A4 n4 c4 l n.natAbs most w4 hr4 hd4 hn4 hm hm2 hle4);have HB4:=ah (au HB3.out hb4);clear hr4 hc4 hd4 hn4 hle4 hb4 k0 k1 k2 k3)
 have hk:=HK.out;rcases hk with⟨rfl,rfl,h1,h2⟩|⟨rfl,rfl,h1,h2⟩|⟨rfl,rfl,h1,h2⟩|⟨rfl,rfl,h1,h2⟩
 ·have e1:wrap64 (n.natAbs:Int)=n:=by unfold wrap64;omega
  have e2:IntKind.i64.wrap (n.natAbs:Int)=n:=by rw[IntKind.wrap_i64];omega
  have HH:=ah (And.intro h1 h2);clear h1 h2
  go_wp2_with (go_at_call 213;(with_reducible refine(HT.out _ (by have:=HH.out;omega) (by omega)).mono ?_);rintro e w5⟨rfl,rfl⟩)
  go_ret2
  exact⟨rfl,HB4.out⟩
 ·obtain⟨m,hm⟩:∃m,m=IntKind.u64.wrap (-(n.natAbs:Int)):=⟨_,rfl⟩
  have e1:wrap64 m=n:=by rw[hm,IntKind.wrap_u64];unfold wrap64;omega
  have e2:IntKind.i64.wrap m=n:=by rw[hm,IntKind.wrap_u64,IntKind.wrap_i64];omega
  have e3:IntKind.u64.wrap (-(n.natAbs:Int))=m:=hm.symm;have HH:=ah (And.intro h1 h2);clear h1 h2 hm
  go_wp2_with (go_at_call 213;(with_reducible refine(HT.out _ (by have:=HH.out;omega) (by omega)).mono ?_);rintro e w5⟨rfl,rfl⟩)
  go_ret2
  exact⟨rfl,HB4.out⟩
 ·have e1:wrap64 (n.natAbs:Int)=n:=by unfold wrap64;omega
  have e2:IntKind.i64.wrap (n.natAbs:Int)=n:=by rw[IntKind.wrap_i64];omega
  have HH:=ah (And.intro h1 h2);clear h1 h2
  go_wp2_with (go_at_call 213;(with_reducible refine(HT.out _ (by have:=HH.out;omega) (by omega)).mono ?_);rintro e w5⟨rfl,rfl⟩)
  go_ret2
  exact⟨rfl,HB4.out⟩
 ·obtain⟨m,hm⟩:∃m,m=IntKind.u64.wrap (-(n.natAbs:Int)):=⟨_,rfl⟩
  have e1:wrap64 m=n:=by rw[hm,IntKind.wrap_u64];unfold wrap64;omega
  have e2:IntKind.i64.wrap m=n:=by rw[hm,IntKind.wrap_u64,IntKind.wrap_i64];omega
  have e3:IntKind.u64.wrap (-(n.natAbs:Int))=m:=hm.symm;have HH:=ah (And.intro h1 h2);clear h1 h2 hm
  go_wp2_with (go_at_call 213;(with_reducible refine(HT.out _ (by have:=HH.out;omega) (by omega)).mono ?_);rintro e w5⟨rfl,rfl⟩)
  go_ret2
  exact⟨rfl,HB4.out⟩
theorem SL(x:NT)(n:Int)(hx:qo x n)(h0:0<=n):x.neg=false:=by rw[hx.2.1];exact bY (by omega)
theorem Ov(x:NT)(n:Int)(hx:qo x n)(s:ByteArray)(hs:bytesOf s=x.bytes)(hn:s.size<900000000000)(bits:Int)(hb:(bits=32/\0<=n/\n<4294967296)∨(bits=64/\0<=n/\n<18446744073709551616))(w:World):
 Calls Tryz.prog 187 #[.string s,.int .i64 bits] w fun e w'=>e= .returned (.tuple #[.int .u64 n,.int .i64 1])/\Below w.heap.size w w':=by
 have DX:=ah (rD x hx.1 s hs hn w);have h64:0<=n/\n<18446744073709551616:=by omega
 have HX:=ah hx;have H40:=ah (WU (by omega) h64.2);have Nu:=ah (SL x n hx h64.1);have HK:=ah hb;clear hx hs hn hb h64;go_enter Tryz.func187,Tryz.ntmps187
 go_upto_region 2 with(go_at_call 215;(with_reducible refine DX.out.mono ?_);rintro e w1⟨vd,rfl,ho,hbe⟩;rw[Nu.out];obtain⟨A1,n1,c1,rfl⟩:=fQ ho;have HO:=ah ho;have HB:=ah hbe;clear ho hbe)
 obtain⟨w3,h3⟩:∃w3,w3=w1.alloc (.cells #[.bool false,.slice A1 n1 c1,.int .i64 x.pw,.bool false] 254):=⟨_,rfl⟩
 rw[<-h3];obtain⟨y3,hb3,hl3,hc3,hr3⟩:=Ig HO.out HB.out h3;obtain⟨⟨k0,k1,k2,k3⟩,_⟩:=box4 y3;obtain⟨hx1,_,hx3,hx4,hx5,_⟩:=HX.out;have HWh:=ah (KQ false A1 n1 c1 x.pw x.dg w3 n.natAbs hr3 hc3 (NT.dgD hx1) HX.out.afp H40.out (by omega) (by omega));have HB3:=ah hb3;have HY3:=ah y3;clear h3 y3 hb3 hl3 hc3 hr3 hx1 hx3 hx4 hx5
 go_upto_region 7 with(go_at_call 216;(with_reducible refine HWh.out.mono ?_);rintro e w4⟨A4,n4,c4,l,rfl,hr4,hc4,hd4,hn4,hle4,hb4⟩;obtain⟨⟨m0,_,_,_⟩,_⟩:=box4 (aI HY3.out hb4);have HT:=ah (fun most hm hm2=>uf A4 n4 c4 l n.natAbs most w4 hr4 hd4 hn4 hm hm2 hle4);have HB4:=ah (au HB3.out hb4);clear hr4 hc4 hd4 hn4 hle4 hb4 k0 k1 k2 k3)
 have hk:=HK.out;rcases hk with⟨rfl,h1,h2⟩|⟨rfl,h1,h2⟩
 ·obtain⟨m,rfl⟩:=Int.eq_ofNat_of_zero_le h1
  have HH:=ah (And.intro h1 h2);clear h1 h2
  go_wp2_with (go_at_call 213;(with_reducible refine(HT.out _ (by have:=HH.out;omega) (by omega)).mono ?_);rintro e w5⟨rfl,rfl⟩)
  go_ret2
  exact⟨rfl,HB4.out⟩
 ·obtain⟨m,rfl⟩:=Int.eq_ofNat_of_zero_le h1
  have HH:=ah (And.intro h1 h2);clear h1 h2
  go_wp2_with (go_at_call 213;(with_reducible refine(HT.out _ (by have:=HH.out;omega) (by omega)).mono ?_);rintro e w5⟨rfl,rfl⟩)
  go_ret2
  exact⟨rfl,HB4.out⟩
end Go.Proofs.YtapkmjfjikpnlaaGreatDoor
namespace Go.Proofs.YtapkmjfjikpnlaaGreatDoor
open Go.RowKit YtapkmjfjikpnlaaGreatDoorW.aG YtapkmjfjikpnlaaGreatDoorW.aJ
set_option linter.unusedVariables false
set_option linter.unusedSimpArgs false
def Tok.tk(t:Tok):TK:=⟨t.kind,t.raw,t.str,t.boo⟩
theorem WV(X:List Item):∀pos,(jV pos X).map Tok.tk=tks X:=by
 induction X with
 |nil=>intro pos;rfl
 |cons i X ih=>
  intro pos;obtain⟨w,x⟩:=i;cases x with
  |tok t=>
   show _::(jV _ X).map Tok.tk=[t]++tks X;rw[ih];rfl
  |comma=>
   show(jV _ X).map Tok.tk=[]++tks X;rw[ih];rfl
  |colon=>
   show(jV _ X).map Tok.tk=[]++tks X;rw[ih];rfl
def lI(L:List Tok)(a:Nat)(ts:List TK):Prop:=∃r,(L.drop a).map Tok.tk=ts++r
section
variable{L:List Tok}{a:Nat}
theorem lI.left{xs ys:List TK}(h:lI L a (xs++ys)):lI L a xs:=by
 obtain⟨r,h⟩:=h;exact⟨ys++r,by rw[h,List.append_assoc]⟩
theorem lI.right{xs ys:List TK}(h:lI L a (xs++ys)):lI L (a+xs.length) ys:=by
 obtain⟨r,h⟩:=h;refine⟨r,?_⟩;rw[<-List.drop_drop,List.map_drop,h,List.append_assoc,List.drop_left]
theorem lI.head{t:TK}{ts:List TK}(h:lI L a (t::ts)):∃u,aC (L[a]? =some u)/\u.tk=t/\lI L (a+1) ts:=by
 have h2:lI L (a+1) ts:=lI.right (xs:=[t]) h;obtain⟨r,h⟩:=h;have h1:((L.drop a).map Tok.tk)[0]? =some t:=by rw[h];rfl
 rw[List.getElem?_map,List.getElem?_drop]at h1;obtain⟨u,hu,e⟩:=Option.map_eq_some_iff.1 h1;exact⟨u,⟨hu⟩,e,h2⟩
end
theorem Ih{n:Nat}{w:World}{base:Nat}{ok:Nat->Prop}{v:Val}{vm:Value}(h:(jh n).R 68 w base ok vm v.dA):(iU n).M w base ok v [.bool v.B,.int .i64 v.I,.int .u64 v.U,.int .u64 v.F,.string v.S,vm]:=
 ⟨[_],[_,_,_,_,_],rfl,rfl,⟨[_],[_,_,_,_],rfl,rfl,⟨[_],[_,_,_],rfl,rfl,⟨[_],[_,_],rfl,rfl,⟨[_],[_],rfl,rfl,⟨vm,rfl,h⟩⟩⟩⟩⟩⟩
theorem Ox{k:Nat}{w:World}{base:Nat}{ok:Nat->Prop}{f:dD}{vl:Value}(h:(iU k).R 76 w base ok vl f.Values):(jh (k+1)).M w base ok f [.int .i64 f.At,vl]:=
 ⟨[_],[_],rfl,rfl,⟨vl,rfl,h⟩⟩
theorem Fq(n:Nat)(w:World)(base:Nat)(ok:Nat->Prop):(jh n).R 68 w base ok (.slice none 0 0) []:=Kd.mP _ _ _ _ _
theorem ug{n:Nat}{w:World}{base:Nat}{ok:Nat->Prop}(B:Bool)(I U F:Int)(s:ByteArray):(iU n).M w base ok (.mk B I U F s []) [.bool B,.int .i64 I,.int .u64 U,.int .u64 F,.string s,.slice none 0 0]:=Ih (v:=.mk B I U F s []) (Fq n w base ok)
theorem kH(n:Nat):eG n []=[]:=by cases n<;>rfl
theorem Qg{S:fM}{F F':Int->List dD->Prop}{t:FT}{v:Val}(hF:∀{a:Int}{b:List dD},F a b->F' a b)(h:AO S F t v):qF S F' t v:=by
 rcases h.1 with k|k|k|k|k|k|k|⟨k1,k2,k3,k4⟩
 ·exact .inl k
 ·exact .inr (.inl k)
 ·exact .inr (.inr (.inl k))
 ·exact .inr (.inr (.inr (.inl k)))
 ·exact .inr (.inr (.inr (.inr (.inl k))))
 ·exact .inr (.inr (.inr (.inr (.inr (.inl k)))))
 ·exact .inr (.inr (.inr (.inr (.inr (.inr (.inl k))))))
 ·exact .inr (.inr (.inr (.inr (.inr (.inr (.inr ⟨k1,k2,hF k3,k4⟩))))))
theorem oZ.fit{S:fM}:∀(n:Nat){typ:Int}{m:List dD},oZ S n typ m->qG S n typ m
 |0,_,_,h=>h.elim
 |n+1,typ,m,⟨h0,mt,h1,h2,h3⟩=>by
  refine⟨h0,mt,h1,h2,fun f hf=>?_⟩;obtain⟨k1,k2,t,k3,k4,k5⟩:=h3 f hf;exact⟨k1,k2,t,k3,k4,fun v hv=>Qg (fun h=>oZ.fit n h) (k5 v hv)⟩
theorem KR{s:ByteArray}(h:kR s=true):∀c∈bytesOf s,0<=c/\c<128:=by
 unfold kR at h;rw[Bool.and_eq_true,List.all_eq_true]at h;intro c hc;obtain⟨i,hi,rfl⟩:=List.mem_iff_getElem.1 hc;have hi2:=hi;rw[bytesOf_length]at hi2;have h1:=h.1 i (List.mem_range.2 hi2)
 have e:(bytesOf s)[i]=bt s i:=by
  have:=lu s i;rw[<-this];simp[rd,List.getD_eq_getElem?_getD,List.getElem?_eq_getElem hi]
 rw[e];unfold oM tC yP at h1;simp only[Bool.or_eq_true,Bool.and_eq_true,decide_eq_true_eq,beq_iff_eq,bne_iff_ne]at h1;omega
theorem Ii:∀(l:List Int)(p:Bool),(∀c∈l,0<=c/\c<128)->∀c∈mX p l,0<=c/\c<128:=by
 intro l
 induction l with
 |nil=>intro p _ c hc;exact absurd hc List.not_mem_nil
 |cons x l ih=>
  intro p h c hc;have hx:=h x List.mem_cons_self;unfold mX at hc
  split at hc
  ·exact ih _ (fun y hy=>h y (List.mem_cons_of_mem _ hy)) c hc
  ·rcases List.mem_cons.1 hc with rfl|hc
   ·unfold XV Aq
    simp only[Bool.and_eq_true,decide_eq_true_eq]
    split
    ·split<;>omega
    ·omega
   ·exact ih _ (fun y hy=>h y (List.mem_cons_of_mem _ hy)) c hc
theorem zZ{s:ByteArray}(h:kR s=true):dh (bytesOf s)=true/\dh (bytesOf (camel s))=true:=by
 have ha:=KR h;refine⟨gX _ ha,?_⟩;exact qy _ (Ii _ _ ha)
theorem WW{l:List FT}{f:FT}(h:f∈l):f.name.size<=Df l:=by
 induction l with
 |nil=>exact absurd h List.not_mem_nil
 |cons x l ih=>
  unfold Df at*;rw[List.map_cons,List.sum_cons];rcases List.mem_cons.1 h with rfl|h
  ·omega
  ·have:=ih h;omega
def Dy(e:ET):Prop:=∀(i k:Nat)(x y:ByteArray),e.names[i]? =some x->e.names[k]? =some y->i≠k->x≠y
def Oy(mt:MT):Prop:=∀(i k:Nat)(x y:FT),mt.fields[i]? =some x->mt.fields[k]? =some y->i≠k->x.name≠y.name
theorem WX{a b:ByteArray}(h:(!(a.toList==b.toList))=true):a≠b:=by rintro rfl;simp at h
theorem acH{ms:List MT}{f:FT}(h:uF ms f=true):f.rep=true/\f.kind=11/\∃mt kt vt,ms[f.typ.toNat]? =some mt/\mt.fields=[kt,vt]/\kt.rep=false/\vt.rep=false/\tH kt.kind=true:=by
 unfold uF at h;rw[Bool.and_eq_true,Bool.and_eq_true]at h;obtain⟨⟨h1,h2⟩,h3⟩:=h;refine⟨h1,of_decide_eq_true h2,?_⟩
 split at h3
 ·rename_i mt hmt
  unfold lD at h3
  split at h3
  ·rename_i a b hab
   simp only[Bool.and_eq_true,Bool.not_eq_true']at h3;exact⟨mt,a,b,hmt,hab,h3.1.1.2,h3.1.2,h3.2⟩
  ·cases h3
 ·cases h3
theorem WY{ms:List MT}{es:List ET}{f:FT}(h:fG ms es f=true)(hz:f.name.size<=1100000):sG ⟨ms,es⟩ f:=by
 unfold fG at h;simp only[Bool.and_eq_true,Bool.or_eq_true,decide_eq_true_eq,Bool.not_eq_true']at h;obtain⟨⟨⟨⟨⟨⟨⟨h1,h2⟩,h3⟩,h4⟩,h5⟩,h6⟩,h7⟩,h8⟩:=h;have hv:=zZ h1;refine⟨hv.1,hv.2,hz,?_,?_,?_,?_,?_⟩
 ·unfold aT at h5 ⊢
  repeat' split
  all_goals simp_all
 ·intro h;rcases h6 with h6|h6
  ·exact absurd h h6
  ·exact h6
 ·intro h;rcases h7 with h7|h7
  ·exact absurd h h7
  ·exact h7
 ·intro h
  unfold aT at h
  repeat' split at h
  all_goals first|omega|(cases h;done)
 ·intro hm
  rcases h8 with h8|h8
  ·rw[hm]at h8;cases h8
  ·obtain⟨k1,k2,mt,kt,vt,k3,k4,k5,k6,k7⟩:=acH h8
   refine⟨k1,by rw[k2];decide,mt,kt,vt,k3,k4,k5,k6,?_⟩;unfold tH at k7;simp only[Bool.or_eq_true,beq_iff_eq]at k7;omega
theorem Fv{e:ET}(h:qI e=true)(hz:∀x∈e.names,x.size<=1100000)(hn:∀x∈e.nums,-2147483648<=x/\x<=2147483647):GY e/\Dy e:=by
 unfold qI at h;simp only[Bool.and_eq_true,decide_eq_true_eq,List.all_eq_true]at h;obtain⟨⟨⟨h1,h2⟩,h3⟩,h4⟩:=h;refine⟨⟨h2,fun e=>h1 (by rw[e];rfl),h3,hn,fun x hx=>?_⟩,?_⟩
 ·obtain⟨i,hi,rfl⟩:=List.mem_iff_getElem.1 hx
  have:=h4 i (List.mem_range.2 hi);unfold qX at this;rw[Bool.and_eq_true,bT (List.getElem?_eq_getElem hi)]at this;exact⟨(zZ this.1).1,hz _ hx⟩
 ·have key:∀(i k:Nat)(x y:ByteArray),e.names[i]? =some x->e.names[k]? =some y->k<i->x≠y:=by
   intro i k x y hx hy hk;have:=h4 i (List.mem_range.2 (List.getElem?_eq_some_iff.1 hx).1);unfold qX at this;rw[Bool.and_eq_true,List.all_eq_true]at this;have:=this.2 k (List.mem_range.2 hk);unfold xk at this;rw[Bool.and_eq_true,bT hx,bT hy]at this;exact(WX this.1).symm
  intro i k x y hx hy hne;rcases Nat.lt_or_gt_of_ne hne with h|h
  ·exact(key k i y x hy hx h).symm
  ·exact key i k x y hx hy h
theorem KT{ms:List MT}{es:List ET}(h:fV ms es=true)(hz:∀mt∈ms,Df mt.fields<=1100000)(hez:∀e∈es,∀x∈e.names,x.size<=1100000)(hen:∀e∈es,∀x∈e.nums,-2147483648<=x/\x<=2147483647):
 jW ⟨ms,es⟩/\(∀e∈es,Dy e)/\(∀mt∈ms,Oy mt):=by
 unfold fV at h;simp only[Bool.and_eq_true,decide_eq_true_eq,List.all_eq_true]at h;obtain⟨⟨⟨⟨h1,h2⟩,h3⟩,h4⟩,h5⟩:=h
 have acI:∀mt∈ms,mt.fields.length<=50/\(∀f∈mt.fields,fG ms es f=true)/\Oy mt:=by
  intro mt hmt;have:=h5 mt hmt;unfold Ah at this;simp only[Bool.and_eq_true,decide_eq_true_eq,List.all_eq_true]at this;obtain⟨k1,k2⟩:=this;refine⟨k1,fun f hf=>?_,?_⟩
  ·obtain⟨i,hi,rfl⟩:=List.mem_iff_getElem.1 hf
   have:=k2 i (List.mem_range.2 hi);unfold fieldAt at this;rw[Bool.and_eq_true,bT (List.getElem?_eq_getElem hi)]at this;exact this.1
  ·have key:∀(i k:Nat)(x y:FT),mt.fields[i]? =some x->mt.fields[k]? =some y->k<i->x.name≠y.name:=by
    intro i k x y hx hy hk;have:=k2 i (List.mem_range.2 (List.getElem?_eq_some_iff.1 hx).1);unfold fieldAt at this;rw[Bool.and_eq_true,List.all_eq_true]at this;have:=this.2 k (List.mem_range.2 hk);unfold tJ at this;rw[Bool.and_eq_true,bT hx,bT hy]at this;exact(WX this.1).symm
   intro i k x y hx hy hne;rcases Nat.lt_or_gt_of_ne hne with h|h
   ·exact(key k i y x hy hx h).symm
   ·exact key i k x y hx hy h
 refine⟨⟨h2,h3,fun mt hmt=>⟨(acI mt hmt).1,hz mt hmt⟩,fun mt hmt f hf=>?_,fun e he=>?_⟩,fun e he=>?_,fun mt hmt=>(acI mt hmt).2.2⟩
 ·exact WY ((acI mt hmt).2.1 f hf) (Nat.le_trans (WW hf) (hz mt hmt))
 ·exact(Fv (h4 e he) (hez e he) (hen e he)).1
 ·exact(Fv (h4 e he) (hez e he) (hen e he)).2
theorem Oz{mt:MT}(hN:qO mt)(hO:Oy mt){k:Nat}{t:FT}(ht:mt.fields[k]? =some t){name:ByteArray}(hn:camel t.name=name∨t.name=name):∀i f,i<k->mt.fields[i]? =some f->camel f.name≠name/\f.name≠name:=by
 intro i f hi hf;rcases hn with rfl|rfl
 ·exact⟨(hN i k f t hf ht (by omega)).1,fun e=>(hN k i t f ht hf (by omega)).2 e.symm⟩
 ·exact⟨(hN i k f t hf ht (by omega)).2,hO i k f t hf ht (by omega)⟩
theorem OA{e:ET}{n:Int}(h:(dM e n).2=true):∃k:Nat,e.nums[k]? =some n/\(e.names.length=e.nums.length->e.names[k]? =some (dM e n).1):=by
 have key:∀g i:Nat,i+g=e.nums.length->(wP e.nums n g i).isSome=true->∃k:Nat,wP e.nums n g i=some k/\e.nums[k]? =some n:=by
  intro g
  induction g with
  |zero=>intro i _ h;cases h
  |succ g ih=>
   intro i hi h;unfold wP at h ⊢;have hlt:i<e.nums.length:=by omega
   split
   ·rename_i hx
    refine⟨i,rfl,?_⟩;rw[List.getElem?_eq_getElem hlt];rw[bT (List.getElem?_eq_getElem hlt)]at hx;rw[hx]
   ·rename_i hx
    rw[if_neg hx]at h;exact ih (i+1) (by omega) h
 unfold dM at h
 split at h
 ·rename_i i hi
  obtain⟨k,hk,hkn⟩:=key _ _ (Nat.zero_add _) (by unfold oP at hi;rw[hi];rfl);unfold oP at hi;rw[hi]at hk;obtain rfl:=Option.some.inj hk;refine⟨i,hkn,fun hl=>?_⟩;have hlt:i<e.names.length:=by rw[hl];exact(List.getElem?_eq_some_iff.1 hkn).1
  unfold dM oP;rw[hi,List.getElem?_eq_getElem hlt];show some _=some (e.names.getD i ⟨#[]⟩);rw[bT (List.getElem?_eq_getElem hlt)]
 ·cases h
end Go.Proofs.YtapkmjfjikpnlaaGreatDoor
