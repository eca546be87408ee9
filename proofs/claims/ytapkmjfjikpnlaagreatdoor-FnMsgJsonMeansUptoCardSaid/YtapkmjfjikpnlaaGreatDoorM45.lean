/- A part of FnMsgJsonMeans. No conditions. -/
import Derived.Test.YtapkmjfjikpnlaaGreatDoorM44
set_option maxHeartbeats 4000000
set_option maxRecDepth 100000
namespace Go.Proofs.YtapkmjfjikpnlaaGreatDoor
open Go.RowKit YtapkmjfjikpnlaaGreatDoorW.aG YtapkmjfjikpnlaaGreatDoorW.aJ
set_option linter.unusedVariables false
set_option linter.unusedSimpArgs false
def ni(w0:World)(T:List Int)(L:List Tok):Tm:=fun k pos Ar nr cr b s j st=>
 match L with
 |[]=>k=1
 |t::l=>k=t.kind/\(pos:Int)=t.pos/\RdB w0 Ar nr (bytesOf t.raw)/\b=t.boo/\s=t.str/\eH k/\k≠1/\st.length<=j/\∃Y we,fA T j Y we/\jV j Y=l/\Acc st k (Y.map Prod.snd)
theorem nI{w0:World}{T:List Int}{t:Tok}{l:List Tok}{k:Int}{pos:Nat}{Ar:Option Addr}{nr cr:Nat}{b:Bool}{s:ByteArray}{j:Nat}{st:List Int}(h1:k=t.kind)(h2:(pos:Int)=t.pos)(h3:RdB w0 Ar nr (bytesOf t.raw))(h4:b=t.boo)(h5:s=t.str)(h6:eH k)(h7:k≠1)(h8:st.length<=j){Y:List Item}{we:List Int}(h9:fA T j Y we)(ha:jV j Y=l)(hb:Acc st k (Y.map Prod.snd)):ni w0 T (t::l) k pos Ar nr cr b s j st:=⟨h1,h2,h3,h4,h5,h6,h7,h8,Y,we,h9,ha,hb⟩
theorem jS{T:List Int}{i:Nat}{w:List Int}{t:TK}{Y:List Item}{we:List Int}(h:fA T i ((w,.tok t)::Y) we):
 ∃Y' Bl,fA T (i+w.length+(bytesOf t.raw).length+qh (T.drop (i+w.length+(bytesOf t.raw).length))) Y' Bl/\jV (i+w.length+(bytesOf t.raw).length+qh (T.drop (i+w.length+(bytesOf t.raw).length))) Y'=jV (i+w.length+t.raw.size) Y/\Y'.map Prod.snd=Y.map Prod.snd/\(∀j∈Y'.head?,j.1=[])/\Y'.length=Y.length:=by
 obtain⟨Y',Bl,h1,h2,h3,h4,_⟩:=h.next.skip;have h5:=congrArg List.length h3;rw[List.length_map,List.length_map]at h5;refine⟨Y',Bl,h1,?_,h3,h4,h5⟩;rw[show(Lex.tok t).raw=bytesOf t.raw from rfl,bytesOf_length]at h2;rw[bytesOf_length];exact h2
theorem aaU(w0:World)(p:Nat)(T:List Int)(A:Option Addr)(c:Nat)(hp:w0.heap.size<=p)(hT:vK T)(i:Nat)(we:List Int)(last:Int)(W:World)(hX:fA T i [] we)(hL:eH last)(hD:jO w0 W p T i [] last A c):
 Calls Tryz.prog 51 #[.pointer (some ⟨p,0,none⟩)] W (lV (ni w0 T []) w0 W p T A c):=by
 refine lq _ w0 W p T A c i [] last T.length [] 1 false ⟨#[]⟩ hp hD (fun W2 _ _ _ _ _ hd=>adl w0 W2 p T i last _ _ _ _ _ A c we hp hT hd hX) ?_;intro w B1 B2 B4 Ar cr;intros;rename_i hM hR;refine oq (adh w0 W w p B1 B2 B4 T _ last A c T.length Ar _ cr false _ _ _ hL hM ?_ trivial);unfold RK;intros;rename_i w' hM';exact DT _ w0 W w' p B1 B2 B4 T _ [] last A c 1 T.length Ar _ cr false _ hM' (by omega) rfl
theorem ZU(w0:World)(p:Nat)(T:List Int)(A:Option Addr)(c:Nat)(hp:w0.heap.size<=p)(hT:vK T)(i:Nat)(w:List Int)(Y:List Item)(we st:List Int)(last:Int)(W:World)(hX:fA T i ((w,.tok ⟨2,⟨#[110,117,108,108]⟩,⟨#[]⟩,false⟩)::Y) we)(hv:Es st last)(hA:Acc st 2 (Y.map Prod.snd))(hL:eH last)(hS:st.length<=i)(hD:jO w0 W p T i st last A c):
 Calls Tryz.prog 51 #[.pointer (some ⟨p,0,none⟩)] W (lV (ni w0 T (jV i ((w,.tok ⟨2,⟨#[110,117,108,108]⟩,⟨#[]⟩,false⟩)::Y))) w0 W p T A c):=by
 obtain⟨Y',Bl,hX',hE',hm',hh',_⟩:=jS hX;have hlen:=hX.len;refine lq _ w0 W p T A c i st last (i+w.length) (bytesOf ⟨#[110,117,108,108]⟩) 2 false ⟨#[]⟩ hp hD (fun W2 _ _ _ _ _ hd=>Zd w0 W2 p T i last _ _ _ _ _ A c w Y we hp hT hd (Acc.PV (by unfold uH;omega) hA hX.next.ok hX.ws) hX) ?_;intro w9 B1 B2 B4 Ar cr;intros;rename_i hM hR;refine oq (ZN w0 W w9 p B1 B2 B4 T _ st last A c (i+w.length) Ar _ cr _ _ _ _ hv hM ?_ trivial);unfold RK;intros;rename_i w' hM';refine DT _ w0 W w' p B1 B2 B4 T _ st last A c 2 (i+w.length) Ar _ cr _ _ hM' (by omega) (nI rfl rfl hR rfl rfl (by unfold eH;omega) (by omega) (by omega) hX' hE' (by rw[hm'];exact hA))
theorem ZV(w0:World)(p:Nat)(T:List Int)(A:Option Addr)(c:Nat)(hp:w0.heap.size<=p)(hT:vK T)(i:Nat)(w:List Int)(Y:List Item)(we st:List Int)(last:Int)(W:World)(hX:fA T i ((w,.tok ⟨4,⟨#[116,114,117,101]⟩,⟨#[]⟩,true⟩)::Y) we)(hv:Es st last)(hA:Acc st 4 (Y.map Prod.snd))(hL:eH last)(hS:st.length<=i)(hD:jO w0 W p T i st last A c):
 Calls Tryz.prog 51 #[.pointer (some ⟨p,0,none⟩)] W (lV (ni w0 T (jV i ((w,.tok ⟨4,⟨#[116,114,117,101]⟩,⟨#[]⟩,true⟩)::Y))) w0 W p T A c):=by
 obtain⟨Y',Bl,hX',hE',hm',hh',_⟩:=jS hX;have hlen:=hX.len;refine lq _ w0 W p T A c i st last (i+w.length) (bytesOf ⟨#[116,114,117,101]⟩) 4 true ⟨#[]⟩ hp hD (fun W2 _ _ _ _ _ hd=>Ze w0 W2 p T i last _ _ _ _ _ A c w Y we hp hT hd (Acc.PV (by unfold uH;omega) hA hX.next.ok hX.ws) hX) ?_;intro w9 B1 B2 B4 Ar cr;intros;rename_i hM hR;refine oq (Qp w0 W w9 p B1 B2 B4 T _ st last A c (i+w.length) Ar _ cr _ _ _ _ hv hM ?_ trivial);unfold RK;intros;rename_i w' hM';refine DT _ w0 W w' p B1 B2 B4 T _ st last A c 4 (i+w.length) Ar _ cr _ _ hM' (by omega) (nI rfl rfl hR rfl rfl (by unfold eH;omega) (by omega) (by omega) hX' hE' (by rw[hm'];exact hA))
theorem XI(w0:World)(p:Nat)(T:List Int)(A:Option Addr)(c:Nat)(hp:w0.heap.size<=p)(hT:vK T)(i:Nat)(w:List Int)(Y:List Item)(we st:List Int)(last:Int)(W:World)(hX:fA T i ((w,.tok ⟨4,⟨#[102,97,108,115,101]⟩,⟨#[]⟩,false⟩)::Y) we)(hv:Es st last)(hA:Acc st 4 (Y.map Prod.snd))(hL:eH last)(hS:st.length<=i)(hD:jO w0 W p T i st last A c):
 Calls Tryz.prog 51 #[.pointer (some ⟨p,0,none⟩)] W (lV (ni w0 T (jV i ((w,.tok ⟨4,⟨#[102,97,108,115,101]⟩,⟨#[]⟩,false⟩)::Y))) w0 W p T A c):=by
 obtain⟨Y',Bl,hX',hE',hm',hh',_⟩:=jS hX;have hlen:=hX.len;refine lq _ w0 W p T A c i st last (i+w.length) (bytesOf ⟨#[102,97,108,115,101]⟩) 4 false ⟨#[]⟩ hp hD (fun W2 _ _ _ _ _ hd=>VD w0 W2 p T i last _ _ _ _ _ A c w Y we hp hT hd (Acc.PV (by unfold uH;omega) hA hX.next.ok hX.ws) hX) ?_;intro w9 B1 B2 B4 Ar cr;intros;rename_i hM hR;refine oq (Qp w0 W w9 p B1 B2 B4 T _ st last A c (i+w.length) Ar _ cr _ _ _ _ hv hM ?_ trivial);unfold RK;intros;rename_i w' hM';refine DT _ w0 W w' p B1 B2 B4 T _ st last A c 4 (i+w.length) Ar _ cr _ _ hM' (by omega) (nI rfl rfl hR rfl rfl (by unfold eH;omega) (by omega) (by omega) hX' hE' (by rw[hm'];exact hA))
theorem adn(w0:World)(p:Nat)(T:List Int)(A:Option Addr)(c:Nat)(hp:w0.heap.size<=p)(hT:vK T)(i:Nat)(w:List Int)(Y:List Item)(we st:List Int)(last:Int)(W:World)(x:NT)(hx:x.ok)(hX:fA T i ((w,.tok ⟨8,str x.bytes,⟨#[]⟩,false⟩)::Y) we)(hv:Es st last)(hA:Acc st 8 (Y.map Prod.snd))(hL:eH last)(hS:st.length<=i)(hD:jO w0 W p T i st last A c):
 Calls Tryz.prog 51 #[.pointer (some ⟨p,0,none⟩)] W (lV (ni w0 T (jV i ((w,.tok ⟨8,str x.bytes,⟨#[]⟩,false⟩)::Y))) w0 W p T A c):=by
 obtain⟨Y',Bl,hX',hE',hm',hh',_⟩:=jS hX;have hlen:=hX.len;refine lq _ w0 W p T A c i st last (i+w.length) (bytesOf (str x.bytes)) 8 false ⟨#[]⟩ hp hD (fun W2 _ _ _ _ _ hd=>by rw[fO _ (x.pJ hx)];exact abP w0 W2 p T i last _ _ _ _ _ A c w Y we hp hT hd x hx (Acc.PV (by unfold uH;omega) hA hX.next.ok hX.ws) hX) ?_;intro w9 B1 B2 B4 Ar cr;intros;rename_i hM hR;refine oq (ade w0 W w9 p B1 B2 B4 T _ st last A c (i+w.length) Ar _ cr _ _ _ _ hv hM ?_ trivial);unfold RK;intros;rename_i w' hM';refine DT _ w0 W w' p B1 B2 B4 T _ st last A c 8 (i+w.length) Ar _ cr _ _ hM' (by omega) (nI rfl rfl hR rfl rfl (by unfold eH;omega) (by omega) (by omega) hX' hE' (by rw[hm'];exact hA))
theorem ado(w0:World)(p:Nat)(T:List Int)(A:Option Addr)(c:Nat)(hp:w0.heap.size<=p)(hT:vK T)(i:Nat)(w:List Int)(Y:List Item)(we st:List Int)(last:Int)(W:World)(hU:Lib.Utf8Tabs 3 4 w0)(raw s:ByteArray)(hq:GI raw s)(hX:fA T i ((w,.tok ⟨16,raw,s,false⟩)::Y) we)(hv:Es st last)(hA:Acc st 16 (Y.map Prod.snd))(hL:eH last)(hS:st.length<=i)(hD:jO w0 W p T i st last A c):
 Calls Tryz.prog 51 #[.pointer (some ⟨p,0,none⟩)] W (lV (ni w0 T (jV i ((w,.tok ⟨16,raw,s,false⟩)::Y))) w0 W p T A c):=by
 obtain⟨Y',Bl,hX',hE',hm',hh',_⟩:=jS hX;have hlen:=hX.len;refine lq _ w0 W p T A c i st last (i+w.length) (bytesOf raw) 16 false s hp hD (fun W2 _ _ _ _ _ hd=>VE w0 W2 p T i last _ _ _ _ _ A c w Y we hp hT hd hU raw s 16 hq hX) ?_;intro w9 B1 B2 B4 Ar cr;intros;rename_i hM hR;refine oq (adg w0 W w9 p B1 B2 B4 T _ st last A c (i+w.length) Ar _ cr _ _ _ _ hv hM ?_ trivial);unfold RK;intros;rename_i w' hM';refine DT _ w0 W w' p B1 B2 B4 T _ st last A c 16 (i+w.length) Ar _ cr _ _ hM' (by omega) (nI rfl rfl hR rfl rfl (by unfold eH;omega) (by omega) (by omega) hX' hE' (by rw[hm'];exact hA))
theorem ZW(w0:World)(p:Nat)(T:List Int)(A:Option Addr)(c:Nat)(hp:w0.heap.size<=p)(hT:vK T)(i:Nat)(w:List Int)(Y:List Item)(we st:List Int)(last:Int)(W:World)(hU:Lib.Utf8Tabs 3 4 w0)(raw s:ByteArray)(hq:GI raw s)(st0:List Int)(hst:st=64::st0)(hl:last=64∨last=1024)(L':List Lex)(hL':Y.map Prod.snd= .colon::L')(hA:Acc st 32 L')(hX:fA T i ((w,.tok ⟨32,raw,s,false⟩)::Y) we)(hL:eH last)(hS:st.length<=i)(hD:jO w0 W p T i st last A c):
 Calls Tryz.prog 51 #[.pointer (some ⟨p,0,none⟩)] W (lV (ni w0 T (jV i ((w,.tok ⟨32,raw,s,false⟩)::Y))) w0 W p T A c):=by
 obtain⟨Y',Bl,hX',hE',hm',hh',_⟩:=jS hX;have hlen:=hX.len;subst hst;cases Y' with
 |nil=>rw[hL']at hm';cases hm'
 |cons i0 Y2=>
  obtain⟨w2,x2⟩:=i0;obtain rfl:w2=[]:=hh' (w2,x2) rfl;have hm2:=hm'.trans hL';rw[List.map_cons]at hm2;injection hm2 with e1 e2
  have e1':x2= .colon:=e1;subst e1';obtain⟨jj,hjj⟩:∃jj,jj=i+w.length+(bytesOf raw).length+qh (T.drop (i+w.length+(bytesOf raw).length)):=⟨_,rfl⟩
  have akD:jj=i+w.length+(bytesOf raw).length+qh (T.drop (i+w.length+(bytesOf raw).length)):=hjj;have hX2:fA T jj (([],.colon)::Y2) Bl:=by rw[hjj];exact hX'
  have hE2:jV jj (([],.colon)::Y2)=jV (i+w.length+raw.size) Y:=by rw[hjj];exact hE'
  have hc:T.drop jj=58::(lT Y2++Bl):=hX2.eq;obtain⟨Y3,we3,hX3,hE3,hm3,_,_⟩:=hX2.next.skip;have hX3':fA T (jj+1+qh (T.drop (jj+1))) Y3 we3:=hX3;have hE3':jV (jj+1+qh (T.drop (jj+1))) Y3=jV (jj+1) Y2:=hE3;have hlen2:=hX3'.len;refine lq _ w0 W p T A c i (64::st0) last (i+w.length) (bytesOf raw) 16 false s hp hD (fun W2 _ _ _ _ _ hd=>VE w0 W2 p T i last _ _ _ _ _ A c w Y we hp hT hd hU raw s 32 hq hX) ?_;intro w9 B1 B2 B4 Ar cr;intros;rename_i hM hR;rw[<-hjj]at hM;refine oq (ZO w0 W w9 p B1 B2 B4 T jj last A c (i+w.length) Ar _ cr _ _ _ _ st0 (lT Y2++Bl) hl hc hM ?_ trivial);unfold RK;intros;rename_i w' hM';refine DT _ w0 W w' p B1 B2 B4 T _ (64::st0) last A c 32 (i+w.length) Ar _ cr _ _ hM' (by omega) (nI rfl rfl hR rfl rfl (by unfold eH;omega) (by omega) (by simp only[List.length_cons]at hS ⊢;omega) hX3' (hE3'.trans ?_) (by rw[hm3,e2];exact hA));rw[<-hE2]
  rfl
theorem ZX(w0:World)(p:Nat)(T:List Int)(A:Option Addr)(c:Nat)(hp:w0.heap.size<=p)(hT:vK T)(i:Nat)(w:List Int)(Y:List Item)(we st:List Int)(last:Int)(W:World)(hv:Es st last)(hA:Acc (64::st) 64 (Y.map Prod.snd))(hX:fA T i ((w,.tok ⟨64,⟨#[123]⟩,⟨#[]⟩,false⟩)::Y) we)(hL:eH last)(hS:st.length<=i)(hD:jO w0 W p T i st last A c):
 Calls Tryz.prog 51 #[.pointer (some ⟨p,0,none⟩)] W (lV (ni w0 T (jV i ((w,.tok ⟨64,⟨#[123]⟩,⟨#[]⟩,false⟩)::Y))) w0 W p T A c):=by
 obtain⟨Y',Bl,hX',hE',hm',hh',_⟩:=jS hX;have hlen:=hX.len;have hlr:(bytesOf ⟨#[123]⟩).length=1:=rfl;refine lq _ w0 W p T A c i st last (i+w.length) (bytesOf ⟨#[123]⟩) 64 false ⟨#[]⟩ hp hD (fun W2 _ _ _ _ _ hd=>YZ w0 W2 p T i last _ _ _ _ _ A c w Y we hp hT hd hX) ?_;intro w9 B1 B2 B4 Ar cr;intros;rename_i hM hR;refine oq (ZP w0 W w9 p B1 B2 B4 T _ st last A c (i+w.length) Ar _ cr _ _ _ _ hv (by have:=hX.next.le;have:=hT.len;omega) hM ?_ trivial);unfold RK;intros;rename_i w' hM';refine DT _ w0 W w' p B1 B2 B4 T _ (64::st) last A c 64 (i+w.length) Ar _ cr _ _ hM' (by omega) (nI rfl rfl hR rfl rfl (by unfold eH;omega) (by omega) (by simp only[List.length_cons]at*;omega) hX' hE' (by rw[hm'];exact hA))
theorem ZY(w0:World)(p:Nat)(T:List Int)(A:Option Addr)(c:Nat)(hp:w0.heap.size<=p)(hT:vK T)(i:Nat)(w:List Int)(Y:List Item)(we st:List Int)(last:Int)(W:World)(hv:Es st last)(hA:Acc (256::st) 256 (Y.map Prod.snd))(hX:fA T i ((w,.tok ⟨256,⟨#[91]⟩,⟨#[]⟩,false⟩)::Y) we)(hL:eH last)(hS:st.length<=i)(hD:jO w0 W p T i st last A c):
 Calls Tryz.prog 51 #[.pointer (some ⟨p,0,none⟩)] W (lV (ni w0 T (jV i ((w,.tok ⟨256,⟨#[91]⟩,⟨#[]⟩,false⟩)::Y))) w0 W p T A c):=by
 obtain⟨Y',Bl,hX',hE',hm',hh',_⟩:=jS hX;have hlen:=hX.len;have hlr:(bytesOf ⟨#[91]⟩).length=1:=rfl;refine lq _ w0 W p T A c i st last (i+w.length) (bytesOf ⟨#[91]⟩) 256 false ⟨#[]⟩ hp hD (fun W2 _ _ _ _ _ hd=>Zb w0 W2 p T i last _ _ _ _ _ A c w Y we hp hT hd hX) ?_;intro w9 B1 B2 B4 Ar cr;intros;rename_i hM hR;refine oq (ZQ w0 W w9 p B1 B2 B4 T _ st last A c (i+w.length) Ar _ cr _ _ _ _ hv (by have:=hX.next.le;have:=hT.len;omega) hM ?_ trivial);unfold RK;intros;rename_i w' hM';refine DT _ w0 W w' p B1 B2 B4 T _ (256::st) last A c 256 (i+w.length) Ar _ cr _ _ hM' (by omega) (nI rfl rfl hR rfl rfl (by unfold eH;omega) (by omega) (by simp only[List.length_cons]at*;omega) hX' hE' (by rw[hm'];exact hA))
theorem aac(w0:World)(p:Nat)(T:List Int)(A:Option Addr)(c:Nat)(hp:w0.heap.size<=p)(hT:vK T)(i:Nat)(w:List Int)(Y:List Item)(we st:List Int)(last:Int)(W:World)(st0:List Int)(hst:st=64::st0)(hl1:last≠32)(hl2:last≠1024)(hA:Acc st0 128 (Y.map Prod.snd))(hX:fA T i ((w,.tok ⟨128,⟨#[125]⟩,⟨#[]⟩,false⟩)::Y) we)(hL:eH last)(hS:st.length<=i)(hD:jO w0 W p T i st last A c):
 Calls Tryz.prog 51 #[.pointer (some ⟨p,0,none⟩)] W (lV (ni w0 T (jV i ((w,.tok ⟨128,⟨#[125]⟩,⟨#[]⟩,false⟩)::Y))) w0 W p T A c):=by
 obtain⟨Y',Bl,hX',hE',hm',hh',_⟩:=jS hX;have hlen:=hX.len;subst hst;have hlr:(bytesOf ⟨#[125]⟩).length=1:=rfl;refine lq _ w0 W p T A c i (64::st0) last (i+w.length) (bytesOf ⟨#[125]⟩) 128 false ⟨#[]⟩ hp hD (fun W2 _ _ _ _ _ hd=>Za w0 W2 p T i last _ _ _ _ _ A c w Y we hp hT hd hX) ?_;intro w9 B1 B2 B4 Ar cr;intros;rename_i hM hR;refine oq (ZR w0 W w9 p B1 B2 B4 T _ last A c (i+w.length) Ar _ cr _ _ _ _ st0 hl1 hl2 hL hM ?_ trivial);unfold RK;intros;rename_i w' hM';refine DT _ w0 W w' p B1 B2 B4 T _ st0 last A c 128 (i+w.length) Ar _ cr _ _ hM' (by omega) (nI rfl rfl hR rfl rfl (by unfold eH;omega) (by omega) (by simp only[List.length_cons]at*;omega) hX' hE' (by rw[hm'];exact hA))
theorem aad(w0:World)(p:Nat)(T:List Int)(A:Option Addr)(c:Nat)(hp:w0.heap.size<=p)(hT:vK T)(i:Nat)(w:List Int)(Y:List Item)(we st:List Int)(last:Int)(W:World)(st0:List Int)(hst:st=256::st0)(hl2:last≠1024)(hA:Acc st0 512 (Y.map Prod.snd))(hX:fA T i ((w,.tok ⟨512,⟨#[93]⟩,⟨#[]⟩,false⟩)::Y) we)(hL:eH last)(hS:st.length<=i)(hD:jO w0 W p T i st last A c):
 Calls Tryz.prog 51 #[.pointer (some ⟨p,0,none⟩)] W (lV (ni w0 T (jV i ((w,.tok ⟨512,⟨#[93]⟩,⟨#[]⟩,false⟩)::Y))) w0 W p T A c):=by
 obtain⟨Y',Bl,hX',hE',hm',hh',_⟩:=jS hX;have hlen:=hX.len;subst hst;have hlr:(bytesOf ⟨#[93]⟩).length=1:=rfl;refine lq _ w0 W p T A c i (256::st0) last (i+w.length) (bytesOf ⟨#[93]⟩) 512 false ⟨#[]⟩ hp hD (fun W2 _ _ _ _ _ hd=>Zc w0 W2 p T i last _ _ _ _ _ A c w Y we hp hT hd hX) ?_;intro w9 B1 B2 B4 Ar cr;intros;rename_i hM hR;refine oq (ZT w0 W w9 p B1 B2 B4 T _ last A c (i+w.length) Ar _ cr _ _ _ _ st0 hl2 hM ?_ trivial);unfold RK;intros;rename_i w' hM';refine DT _ w0 W w' p B1 B2 B4 T _ st0 last A c 512 (i+w.length) Ar _ cr _ _ hM' (by omega) (nI rfl rfl hR rfl rfl (by unfold eH;omega) (by omega) (by simp only[List.length_cons]at*;omega) hX' hE' (by rw[hm'];exact hA))
theorem adp(w0:World)(p:Nat)(T:List Int)(A:Option Addr)(c:Nat)(hp:w0.heap.size<=p)(hT:vK T)(hU:Lib.Utf8Tabs 3 4 w0):∀(n:Nat)(Y:List Item),Y.length<=n->∀(i:Nat)(we st:List Int)(last:Int)(W:World),fA T i Y we->Acc st last (Y.map Prod.snd)->eH last->st.length<=i->jO w0 W p T i st last A c->
 Calls Tryz.prog 51 #[.pointer (some ⟨p,0,none⟩)] W (lV (ni w0 T (jV i Y)) w0 W p T A c):=by
 intro n
 induction n with
 |zero=>
  intro Y hY i we st last W hX hA hL hS hD;obtain rfl:Y=[]:=List.eq_nil_of_length_eq_zero (by omega);obtain rfl:st=[]:=hA;exact aaU w0 p T A c hp hT i we last W hX hL hD
 |succ n ih=>
  intro Y hY i we st last W hX hA hL hS hD;cases Y with
  |nil=>
   obtain rfl:st=[]:=hA;exact aaU w0 p T A c hp hT i we last W hX hL hD
  |cons i0 Y=>
   obtain⟨w,x⟩:=i0;obtain⟨hw,hx⟩:CV w/\Jw x:=hX.ok _ List.mem_cons_self;cases x with
   |colon=>exact hA.elim
   |comma=>
    obtain⟨hst,hdn,hA'⟩:st≠[]/\xR last/\Acc st 1024 (Y.map Prod.snd):=hA;obtain⟨t,st0,rfl⟩:=List.exists_cons_of_ne_nil hst;obtain⟨Y',Bl,hX',hE',hm',_⟩:=hX.next.skip;have hX2:fA T (i+w.length+1+qh (T.drop (i+w.length+1))) Y' Bl:=hX';have hE2:jV (i+w.length+1+qh (T.drop (i+w.length+1))) Y'=jV i ((w,.comma)::Y):=hE';have hln:=congrArg List.length hm';rw[List.length_map,List.length_map]at hln;simp only[List.length_cons]at hY;refine lq _ w0 W p T A c i (t::st0) last (i+w.length) [44] 1024 false ⟨#[]⟩ hp hD (fun W2 _ _ _ _ _ hd=>VA w0 W2 p T i last _ _ _ _ _ A c w Y we hp hT hd hX) ?_;intro w9 B1 B2 B4 Ar cr;intros;rename_i hM hR;refine oq (XH w0 W w9 p B1 B2 B4 T _ last A c (i+w.length) Ar _ cr _ _ _ _ t st0 hdn hM ?_ trivial);unfold RK;intros;rename_i w' hM';refine afH _ w0 W w' p B1 B2 B4 T _ (t::st0) last A c (i+w.length) Ar _ cr _ _ hM' (fun w6 hd6=>?_);have:=ih Y' (by omega) (i+w.length+1+qh (T.drop (i+w.length+1))) Bl (t::st0) 1024 w6 hX2 (by rw[hm'];exact hA') (by unfold eH;omega) (by omega) hd6;rw[hE2]at this;exact this
   |tok t=>
    have hx':nR t:=hx;have hinv:=Acc.inv (t:=t) hA;cases hx' with
    |null=>
     rcases hinv with h|h|h|h|⟨_,hv,hA'⟩
     ·exact absurd h.1 (by decide)
     ·exact absurd h.1 (by decide)
     ·exact absurd h.1 (by decide)
     ·exact absurd h.1 (by decide)
     ·exact ZU w0 p T A c hp hT i w Y we st last W hX hv hA' hL hS hD
    |UO=>
     rcases hinv with h|h|h|h|⟨_,hv,hA'⟩
     ·exact absurd h.1 (by decide)
     ·exact absurd h.1 (by decide)
     ·exact absurd h.1 (by decide)
     ·exact absurd h.1 (by decide)
     ·exact ZV w0 p T A c hp hT i w Y we st last W hX hv hA' hL hS hD
    |Nc=>
     rcases hinv with h|h|h|h|⟨_,hv,hA'⟩
     ·exact absurd h.1 (by decide)
     ·exact absurd h.1 (by decide)
     ·exact absurd h.1 (by decide)
     ·exact absurd h.1 (by decide)
     ·exact XI w0 p T A c hp hT i w Y we st last W hX hv hA' hL hS hD
    |number x h hl=>
     rcases hinv with h'|h'|h'|h'|⟨_,hv,hA'⟩
     ·exact absurd h'.1 (by simp)
     ·exact absurd h'.1 (by simp)
     ·exact absurd h'.1 (by simp)
     ·exact absurd h'.1 (by simp)
     ·exact adn w0 p T A c hp hT i w Y we st last W x h hX hv hA' hL hS hD
    |string raw s h=>
     rcases hinv with h'|h'|h'|h'|⟨_,hv,hA'⟩
     ·exact absurd h'.1 (by simp)
     ·exact absurd h'.1 (by simp)
     ·exact absurd h'.1 (by simp)
     ·exact absurd h'.1 (by simp)
     ·exact ado w0 p T A c hp hT i w Y we st last W hU raw s h hX hv hA' hL hS hD
    |name raw s h=>
     rcases hinv with⟨_,⟨s',hs'⟩,hl,L',hL',hA'⟩|h'|h'|h'|h'
     ·exact ZW w0 p T A c hp hT i w Y we st last W hU raw s h s' hs' hl L' hL' hA' hX hL hS hD
     ·exact absurd h'.1 (by simp)
     ·exact absurd h'.1 (by simp)
     ·exact absurd h'.1 (by simp)
     ·exact absurd h'.1 (by unfold uH;simp)
    |abr=>
     rcases hinv with h'|⟨_,hv,hA'⟩|h'|h'|h'
     ·exact absurd h'.1 (by decide)
     ·exact ZX w0 p T A c hp hT i w Y we st last W hv hA' hX hL hS hD
     ·exact absurd h'.1 (by decide)
     ·exact absurd h'.1 (by decide)
     ·exact absurd h'.1 (by unfold uH;decide)
    |abt=>
     rcases hinv with h'|⟨_,hv,hA'⟩|h'|h'|h'
     ·exact absurd h'.1 (by decide)
     ·exact ZY w0 p T A c hp hT i w Y we st last W hv hA' hX hL hS hD
     ·exact absurd h'.1 (by decide)
     ·exact absurd h'.1 (by decide)
     ·exact absurd h'.1 (by unfold uH;decide)
    |YK=>
     rcases hinv with h'|h'|⟨_,st0,hst,hl1,hl2,hA'⟩|h'|h'
     ·exact absurd h'.1 (by decide)
     ·exact absurd h'.1 (by decide)
     ·exact aac w0 p T A c hp hT i w Y we st last W st0 hst hl1 hl2 hA' hX hL hS hD
     ·exact absurd h'.1 (by decide)
     ·exact absurd h'.1 (by unfold uH;decide)
    |YL=>
     rcases hinv with h'|h'|h'|⟨_,st0,hst,hl2,hA'⟩|h'
     ·exact absurd h'.1 (by decide)
     ·exact absurd h'.1 (by decide)
     ·exact absurd h'.1 (by decide)
     ·exact aad w0 p T A c hp hT i w Y we st last W st0 hst hl2 hA' hX hL hS hD
     ·exact absurd h'.1 (by unfold uH;decide)
theorem XJ(Ab:Option Addr)(n c:Nat)(w:World):Calls Tryz.prog 23 #[.slice Ab n c] w fun e w'=>e= .returned (.pointer (some ⟨w.heap.size,0,none⟩))/\uI w' w.heap.size 0 0 (.slice none 0 0) false ⟨#[]⟩ (.slice none 0 0) Ab n c (.slice Ab n c)/\Below w.heap.size w w':=by
 go_enter Tryz.func23,Tryz.ntmps23;go_wp2
 go_ret
 exact⟨rfl,aP w _,ak (bg _ _) _⟩
theorem adq(w:World)(A:Option Addr):RdB w A 0 []:=⟨rfl,by omega,fun h=>absurd h (by omega)⟩
theorem XK(Ab:Option Addr)(n c:Nat)(l:List Int)(w:World)(hr:RdB w Ab n l)(hn:0<n)(hl:n<=1000000000000):Calls Tryz.prog 24 #[.slice Ab n c] w fun e w'=>∃v1,e= .returned v1/\iW w w' v1 l/\Below w.heap.size w w':=by
 obtain⟨B,rfl⟩:∃B,Ab=some B:=by obtain⟨ad,e,_⟩:=hr.2.2 hn;exact⟨ad,e⟩
 have HR:=ah (fun(o:Obj)=>Kd.aU hr (ak (bg _ _) o));have HL:=ah (show([]:List Int).length+n<=140737488355328 by simp;omega);have HN:=ah hn;clear hr hn hl;go_enter Tryz.func24,Tryz.ntmps24
 go_wp2_with (at_builtin;refine YS (w0:=w) rfl (.tmp 3) (.tmp 4) rfl (.slice (some ⟨w.heap.size,0,none⟩) 0 0) [] B n c l rfl rfl (.inr ⟨_,0,rfl,adq w _⟩) (ak (bg _ _) _) (HR.out _) HN.out HL.out ?_;intro v1 w1 ho hb;have HO:=ah ho;have HB:=ah hb;clear ho hb)
 go_ret
 exact⟨v1,rfl,HO.out,HB.out⟩
end Go.Proofs.YtapkmjfjikpnlaaGreatDoor
