/- A part of FnMsgJsonMeans. No conditions. -/
import Derived.Test.YtapkmjfjikpnlaaGreatDoorM20
set_option maxHeartbeats 8000000
set_option maxRecDepth 100000
namespace Go.Proofs.YtapkmjfjikpnlaaGreatDoor
open Go.RowKit YtapkmjfjikpnlaaGreatDoorW.aG YtapkmjfjikpnlaaGreatDoorW.aJ
set_option linter.unusedVariables false
set_option linter.unusedSimpArgs false
structure oh(w0 W:World)(p:Nat)(T:List Int)(i:Nat)(last bK:Int)(bM:Value)(bP:Bool)(bQ:ByteArray)(eF:Value)(A:Option Addr)(c:Nat):Prop where
 blk:∃Ai r ci,uI W p last bK bM bP bQ eF A T.length c (.slice Ai r ci)/\oO w0 T i r Ai ci
 be:Below w0.heap.size w0 W
structure vK(T:List Int):Prop where
 rng:∀x∈T,0<=x/\x<=255
 len:T.length<=800000000000
abbrev Eu(k:Int)(pos:Nat)(A:Option Addr)(n c:Nat)(b:Bool)(s:ByteArray):Value:=.agg #[.int .u16 k,.int .i64 pos,.slice A n c,.bool b,.string s]
theorem fA.Ew{T:List Int}{i:Nat}{w:List Int}{x:Lex}{Y:List Item}{we:List Int}(h:fA T i ((w,x)::Y) we):qh (T.drop i)=w.length/\T.drop (i+w.length)=x.raw++(lT Y++we)/\i+w.length+x.raw.length<=T.length:=by
 obtain⟨hw,hx⟩:CV w/\Jw x:=h.ok _ List.mem_cons_self;obtain⟨c,r,ex,hc⟩:=Dj hx;refine⟨?_,?_,h.next.le⟩
 ·rw[h.eq,iF,List.append_assoc,List.append_assoc,GK hw,ex,List.cons_append,Nj hc]
  omega
 ·rw[<-List.drop_drop,h.eq,iF,List.append_assoc,List.append_assoc,List.drop_left]
theorem oO.head2{w0 w1:World}{T:List Int}{j r:Nat}{Aj:Option Addr}{cj:Nat}(h:oO w0 T j r Aj cj)(hb:Below w0.heap.size w0 w1){x:Int}{R:List Int}(hx:T.drop j=x::R):∃ad,Aj=some ad/\w1.cell? ad=some (.int .u8 x)/\((r:Int)==0)=false/\(0:Int)<(r:Int)/\0<r:=by
 have hx0:T[j]? =some x:=by
  have:(T.drop j)[0]? =some x:=by rw[hx];rfl
  rwa [List.getElem?_drop]at this
 obtain⟨ad,e,hc⟩:=h.head hx0;have h1:=(List.getElem?_eq_some_iff.1 hx0).1;have h2:=h.eq;exact⟨ad,e,ay hb hc,eqF (by omega),by omega,by omega⟩
abbrev tok0:Array Value:=#[.int .u16 0,.int .i64 0,.slice none 0 0,.bool false,.string ⟨#[]⟩]
def sJ(w0 W:World)(p:Nat)(T:List Int)(j:Nat)(raw:List Int)(k:Int)(b:Bool)(s:ByteArray)(last bK:Int)(bM:Value)(bP:Bool)(bQ:ByteArray)(eF:Value)(A:Option Addr)(c:Nat)(e:Ending)(w':World):Prop:=
 ∃(Ar:Option Addr)(cr:Nat),e= .returned (.tuple #[Eu k j Ar raw.length cr b s,.nilIface])/\RdB w0 Ar raw.length raw/\oh w0 w' p T (j+raw.length+qh (T.drop (j+raw.length))) last bK bM bP bQ eF A c/\aH W w' p none
theorem kF{w0 W W1 w2:World}{p:Nat}{T:List Int}{j:Nat}{raw:List Int}{k:Int}{b:Bool}{s:ByteArray}{last bK:Int}{bM:Value}{bP:Bool}{bQ:ByteArray}{eF:Value}{A:Option Addr}{c:Nat}{Ar:Option Addr}{cr:Nat}
 (hp:w0.heap.size<=p) (uo:p<W.heap.size) (hB:Below w0.heap.size w0 W) (hW1:W1=W.alloc (.cells tok0 111)) (hk:aH W1 w2 p none) (hr:RdB w0 Ar raw.length raw) (hD:oh w0 w2 p T (j+raw.length+qh (T.drop (j+raw.length))) last bK bM bP bQ eF A c) (W3:World)
 (h3:W3=((((w2.setCell ⟨W.heap.size,0,none⟩ (.int .u16 k)).setCell ⟨W.heap.size,1,none⟩ (.int .i64 j)).setCell ⟨W.heap.size,2,none⟩ (.slice Ar raw.length cr)).setCell ⟨W.heap.size,3,none⟩ (.bool b)).setCell ⟨W.heap.size,4,none⟩ (.string s)):
 W3.heap[W.heap.size]? =some (.cells #[.int .u16 k,.int .i64 j,.slice Ar raw.length cr,.bool b,.string s] 111 (0,0))/\sJ w0 W p T j raw k b s last bK bM bP bQ eF A c (.returned (.tuple #[Eu k j Ar raw.length cr b s,.nilIface])) W3:=by
 have hx1:W1.heap[W.heap.size]? =some (.cells tok0 111 (0,0)):=by rw[hW1];exact aP W _
 have hb1:Below W.heap.size W W1:=by rw[hW1];exact ak (bg _ _) _
 have hx2:=hk.blk hx1 (by omega) (by simp);have hne:p≠W.heap.size:=by omega
 have hpw:=hB.size;have hblk:=aW (aW (aW (aW (aW hx2 0 (.int .u16 k)) 1 (.int .i64 j)) 2 (.slice Ar raw.length cr)) 3 (.bool b)) 4 (.string s);rw[<-h3]at hblk;refine⟨hblk,Ar,cr,rfl,hr,⟨?_,?_⟩,?_⟩
 ·obtain⟨Ai,r,ci,hd,hi⟩:=hD.blk
  have hd3:=bI (p:=⟨W.heap.size,4,none⟩) (bI (p:=⟨W.heap.size,3,none⟩) (bI (p:=⟨W.heap.size,2,none⟩) (bI (p:=⟨W.heap.size,1,none⟩) (bI (p:=⟨W.heap.size,0,none⟩) hd hne (.int .u16 k)) hne (.int .i64 j)) hne (.slice Ar raw.length cr)) hne (.bool b)) hne (.string s);rw[<-h3]at hd3;exact⟨Ai,r,ci,hd3,hi⟩
 ·have:=aV (g:=W.heap.size) (j:=4) (v:=.string s) (aV (g:=W.heap.size) (j:=3) (v:=.bool b) (aV (g:=W.heap.size) (j:=2) (v:=.slice Ar raw.length cr) (aV (g:=W.heap.size) (j:=1) (v:=.int .i64 j) (aV (g:=W.heap.size) (j:=0) (v:=.int .u16 k) hD.be hpw) hpw) hpw) hpw) hpw
  rw[<-h3]at this;exact this
 ·have:=bU (bU (bU (bU (bU ((aH.of_below hb1 p none).trans hk (.inl rfl)) (g:=W.heap.size) (Nat.le_refl _) 0 (.int .u16 k)) (Nat.le_refl _) 1 (.int .i64 j)) (Nat.le_refl _) 2 (.slice Ar raw.length cr)) (Nat.le_refl _) 3 (.bool b)) (Nat.le_refl _) 4 (.string s)
  rw[<-h3]at this;exact this
theorem iL{w2:World}{g:Nat}(hx:w2.heap[g]? =some (.cells tok0 111 (0,0))):(w2.cell? ⟨g,0,none⟩=some (.int .u16 0)/\w2.cell? ⟨g,1,none⟩=some (.int .i64 0)/\w2.cell? ⟨g,2,none⟩=some (.slice none 0 0)/\w2.cell? ⟨g,3,none⟩=some (.bool false)/\w2.cell? ⟨g,4,none⟩=some (.string ⟨#[]⟩))/\(w2.frozen? ⟨g,0,none⟩=false/\w2.frozen? ⟨g,1,none⟩=false/\w2.frozen? ⟨g,2,none⟩=false/\w2.frozen? ⟨g,3,none⟩=false/\w2.frozen? ⟨g,4,none⟩=false):=
 ⟨⟨(aA hx 0).trans rfl,(aA hx 1).trans rfl,(aA hx 2).trans rfl,(aA hx 3).trans rfl,(aA hx 4).trans rfl⟩,aN hx 0,aN hx 1,aN hx 2,aN hx 3,aN hx 4⟩
theorem zy(s:ByteArray):str (bytesOf s)=s:=by
 show strOfNums (bytesOf s)=s;unfold bytesOf strOfNums;rw[List.map_map]
 have:(s.data.toList.map ((fun n:Int=>UInt8.ofNat n.toNat)∘fun b:UInt8=>(b.toNat:Int)))=s.data.toList:=by
  conv=>rhs;rw[<-List.map_id s.data.toList]
  exact List.map_congr_left fun x _=>by simp
 rw[this]
theorem NJ(w0 w1:World)(T:List Int)(j rj:Nat)(Aj:Option Addr)(cj:Nat)(hi:oO w0 T j rj Aj cj)(hb:Below w0.heap.size w0 w1)(word:ByteArray)(R:List Int)(hdr:T.drop j=bytesOf word++R)(hDl:R=[]∨∃c r,R=c::r/\lU c):
 Calls Tryz.prog 141 #[.string word,.slice Aj rj cj] w1 fun e w'=>e= .returned (.int .i64 word.size)/\Below w1.heap.size w1 w':=by
 have hl:(T.drop j).length=rj:=by rw[List.length_drop];have:=hi.eq;omega
 have hl2:=hl;rw[hdr,List.length_append,bytesOf_length]at hl2;refine GN word Aj rj cj (T.drop j) w1 (Kd.aU hi.rd hb) hi.cap (by omega) (by rw[hdr,<-bytesOf_length,List.take_left]) ?_;rcases hDl with rfl|⟨c,r,rfl,hd⟩
 ·left
  rw[List.length_nil]at hl2;omega
 ·right
  refine⟨c,?_,hd⟩;rw[hdr,List.getElem?_append_right (by rw[bytesOf_length];exact Nat.le_refl _),bytesOf_length,Nat.sub_self]
  rfl
section
variable(w0 W:World)(p:Nat)(T:List Int)(i:Nat)(last bK:Int)(bM:Value)(bP:Bool)(bQ:ByteArray)(eF:Value)(A:Option Addr)(c:Nat)(w:List Int)(Y:List Item)(we:List Int)
 (hp:w0.heap.size<=p) (hT:vK T) (hD:oh w0 W p T i last bK bM bP bQ eF A c)
include hp hT hD
theorem YZ(hX:fA T i ((w,.tok ⟨64,⟨#[123]⟩,⟨#[]⟩,false⟩)::Y) we):
 Calls Tryz.prog 105 #[.pointer (some ⟨p,0,none⟩)] W (sJ w0 W p T (i+w.length) ([123]) 64 false ⟨#[]⟩ last bK bM bP bQ eF A c):=by
 obtain⟨⟨Ai,r,ci,hd0,hi0⟩,hB⟩:=hD;obtain⟨hws,hdr,hle⟩:=hX.Ew;have uo:=bJ hd0;obtain⟨j,hj⟩:∃j,j=i+w.length:=⟨_,rfl⟩
 obtain⟨W1,hW1⟩:∃W1,W1=W.alloc (.cells tok0 111):=⟨_,rfl⟩
 have hb1:Below W.heap.size W W1:=by rw[hW1];exact ak (bg _ _) _
 have hx1:W1.heap[W.heap.size]? =some (.cells tok0 111 (0,0)):=by rw[hW1];exact aP W _
 have HC:=ah (gI w0 W1 p T i r 0 last bK bM bP bQ eF A T.length c Ai ci hp (au hB hb1) (aI hd0 hb1) hi0 (Nat.zero_le _));rw[Nat.add_zero,hws,<-hj,show(((0:Nat):Int))=0 from rfl]at HC;rw[<-hj]at hdr hle ⊢;have HP:=ah hp;have HT:=ah hT;have HL:=ah (show T.length<=1000000000000 by have:=hT.len;omega);have wR:=ah uo;have HB:=ah hB;have HW1:=ah hW1;have HX1:=ah hx1;have Aw:=ah hle;have sK:=ah (show T.drop j=123::(lT Y++we)from hdr);have oC:=ah (show(T.drop j).take 1=[123]by rw[sK.out];rfl);have hle1:j+1<=T.length:=hle;have HLe1:=ah hle1;clear hle1;clear hd0 hi0 hws hdr hle uo hj hW1 hb1 hx1 hB hp hT hX;go_enter Tryz.func105,Tryz.ntmps105
 go_upto_region 1 with fail
 rw[<-HW1.out]
 go_wp2_with (first|(go_at_call 110;(with_reducible refine HC.out.mono ?_);rintro e w1⟨rfl,Aj,rj,cj,hd1,hi1,hb1,hk1⟩;obtain⟨ad,rfl,x0,y1,y2,y3⟩:=hi1.head2 hb1 sK.out;have c9:w1.cell? ⟨p,9,none⟩=some (.slice (some ad) rj cj):=(aA hd1 9).trans rfl;have HD1:=ah hd1;have HI1:=ah hi1;have HB1:=ah hb1;have HK1:=ah hk1;clear hd1 hi1 hb1 hk1)|(go_at_call 140;have KK:=ah (aH.refl w1 p none);have HQ:=ah (ig w0 w1 p T j rj 1 64 last bK bM bP bQ eF A c (some ad) cj HP.out HB1.out HL.out HD1.out HI1.out (by have h1:=HI1.out.eq;have h2:=HLe1.out;omega));rw[show(((1:Nat):Int))=1 from rfl]at HQ;(with_reducible refine HQ.out.mono ?_);rintro e w3⟨cr,rfl,hrd,Ak,rk,ck,hd3,hi3,hb3,hk3⟩;obtain⟨⟨k0,k1,k2,k3,k4⟩,f0,f1,f2,f3,f4⟩:=iL ((HK1.out.trans (KK.out.trans hk3 (.inl rfl)) (.inl rfl)).blk HX1.out (Nat.ne_of_gt wR.out) (by simp));have HR3:=ah hrd;have HD3:=ah (show oh w0 w3 p T (j+1+qh (T.drop (j+1))) last bK bM bP bQ eF A c from⟨⟨Ak,rk,ck,hd3,hi3⟩,hb3⟩);have HK3:=ah (HK1.out.trans (KK.out.trans hk3 (.inl rfl)) (.inl rfl));clear hrd hd3 hi3 hb3 hk3))
 rw[oC.out]at HR3;obtain⟨e1,e2⟩:=kF (raw:=[123]) (cr:=cr) (k:=64) (b:=false) (s:=⟨#[]⟩) HP.out wR.out HB.out HW1.out HK3.out HR3.out HD3.out _ rfl;refine bodyPost_ret (dI rfl _ _ W.heap.size _ _ _ _ rfl e1 Tryz.underlying111 rfl (by kernel_rfl)) rfl ?_;exact e2
theorem Za(hX:fA T i ((w,.tok ⟨128,⟨#[125]⟩,⟨#[]⟩,false⟩)::Y) we):
 Calls Tryz.prog 105 #[.pointer (some ⟨p,0,none⟩)] W (sJ w0 W p T (i+w.length) ([125]) 128 false ⟨#[]⟩ last bK bM bP bQ eF A c):=by
 obtain⟨⟨Ai,r,ci,hd0,hi0⟩,hB⟩:=hD;obtain⟨hws,hdr,hle⟩:=hX.Ew;have uo:=bJ hd0;obtain⟨j,hj⟩:∃j,j=i+w.length:=⟨_,rfl⟩
 obtain⟨W1,hW1⟩:∃W1,W1=W.alloc (.cells tok0 111):=⟨_,rfl⟩
 have hb1:Below W.heap.size W W1:=by rw[hW1];exact ak (bg _ _) _
 have hx1:W1.heap[W.heap.size]? =some (.cells tok0 111 (0,0)):=by rw[hW1];exact aP W _
 have HC:=ah (gI w0 W1 p T i r 0 last bK bM bP bQ eF A T.length c Ai ci hp (au hB hb1) (aI hd0 hb1) hi0 (Nat.zero_le _));rw[Nat.add_zero,hws,<-hj,show(((0:Nat):Int))=0 from rfl]at HC;rw[<-hj]at hdr hle ⊢;have HP:=ah hp;have HT:=ah hT;have HL:=ah (show T.length<=1000000000000 by have:=hT.len;omega);have wR:=ah uo;have HB:=ah hB;have HW1:=ah hW1;have HX1:=ah hx1;have Aw:=ah hle;have sK:=ah (show T.drop j=125::(lT Y++we)from hdr);have oC:=ah (show(T.drop j).take 1=[125]by rw[sK.out];rfl);have hle1:j+1<=T.length:=hle;have HLe1:=ah hle1;clear hle1;clear hd0 hi0 hws hdr hle uo hj hW1 hb1 hx1 hB hp hT hX;go_enter Tryz.func105,Tryz.ntmps105
 go_upto_region 1 with fail
 rw[<-HW1.out]
 go_wp2_with (first|(go_at_call 110;(with_reducible refine HC.out.mono ?_);rintro e w1⟨rfl,Aj,rj,cj,hd1,hi1,hb1,hk1⟩;obtain⟨ad,rfl,x0,y1,y2,y3⟩:=hi1.head2 hb1 sK.out;have c9:w1.cell? ⟨p,9,none⟩=some (.slice (some ad) rj cj):=(aA hd1 9).trans rfl;have HD1:=ah hd1;have HI1:=ah hi1;have HB1:=ah hb1;have HK1:=ah hk1;clear hd1 hi1 hb1 hk1)|(go_at_call 140;have KK:=ah (aH.refl w1 p none);have HQ:=ah (ig w0 w1 p T j rj 1 128 last bK bM bP bQ eF A c (some ad) cj HP.out HB1.out HL.out HD1.out HI1.out (by have h1:=HI1.out.eq;have h2:=HLe1.out;omega));rw[show(((1:Nat):Int))=1 from rfl]at HQ;(with_reducible refine HQ.out.mono ?_);rintro e w3⟨cr,rfl,hrd,Ak,rk,ck,hd3,hi3,hb3,hk3⟩;obtain⟨⟨k0,k1,k2,k3,k4⟩,f0,f1,f2,f3,f4⟩:=iL ((HK1.out.trans (KK.out.trans hk3 (.inl rfl)) (.inl rfl)).blk HX1.out (Nat.ne_of_gt wR.out) (by simp));have HR3:=ah hrd;have HD3:=ah (show oh w0 w3 p T (j+1+qh (T.drop (j+1))) last bK bM bP bQ eF A c from⟨⟨Ak,rk,ck,hd3,hi3⟩,hb3⟩);have HK3:=ah (HK1.out.trans (KK.out.trans hk3 (.inl rfl)) (.inl rfl));clear hrd hd3 hi3 hb3 hk3))
 rw[oC.out]at HR3;obtain⟨e1,e2⟩:=kF (raw:=[125]) (cr:=cr) (k:=128) (b:=false) (s:=⟨#[]⟩) HP.out wR.out HB.out HW1.out HK3.out HR3.out HD3.out _ rfl;refine bodyPost_ret (dI rfl _ _ W.heap.size _ _ _ _ rfl e1 Tryz.underlying111 rfl (by kernel_rfl)) rfl ?_;exact e2
theorem Zb(hX:fA T i ((w,.tok ⟨256,⟨#[91]⟩,⟨#[]⟩,false⟩)::Y) we):
 Calls Tryz.prog 105 #[.pointer (some ⟨p,0,none⟩)] W (sJ w0 W p T (i+w.length) ([91]) 256 false ⟨#[]⟩ last bK bM bP bQ eF A c):=by
 obtain⟨⟨Ai,r,ci,hd0,hi0⟩,hB⟩:=hD;obtain⟨hws,hdr,hle⟩:=hX.Ew;have uo:=bJ hd0;obtain⟨j,hj⟩:∃j,j=i+w.length:=⟨_,rfl⟩
 obtain⟨W1,hW1⟩:∃W1,W1=W.alloc (.cells tok0 111):=⟨_,rfl⟩
 have hb1:Below W.heap.size W W1:=by rw[hW1];exact ak (bg _ _) _
 have hx1:W1.heap[W.heap.size]? =some (.cells tok0 111 (0,0)):=by rw[hW1];exact aP W _
 have HC:=ah (gI w0 W1 p T i r 0 last bK bM bP bQ eF A T.length c Ai ci hp (au hB hb1) (aI hd0 hb1) hi0 (Nat.zero_le _));rw[Nat.add_zero,hws,<-hj,show(((0:Nat):Int))=0 from rfl]at HC;rw[<-hj]at hdr hle ⊢;have HP:=ah hp;have HT:=ah hT;have HL:=ah (show T.length<=1000000000000 by have:=hT.len;omega);have wR:=ah uo;have HB:=ah hB;have HW1:=ah hW1;have HX1:=ah hx1;have Aw:=ah hle;have sK:=ah (show T.drop j=91::(lT Y++we)from hdr);have oC:=ah (show(T.drop j).take 1=[91]by rw[sK.out];rfl);have hle1:j+1<=T.length:=hle;have HLe1:=ah hle1;clear hle1;clear hd0 hi0 hws hdr hle uo hj hW1 hb1 hx1 hB hp hT hX;go_enter Tryz.func105,Tryz.ntmps105
 go_upto_region 1 with fail
 rw[<-HW1.out]
 go_wp2_with (first|(go_at_call 110;(with_reducible refine HC.out.mono ?_);rintro e w1⟨rfl,Aj,rj,cj,hd1,hi1,hb1,hk1⟩;obtain⟨ad,rfl,x0,y1,y2,y3⟩:=hi1.head2 hb1 sK.out;have c9:w1.cell? ⟨p,9,none⟩=some (.slice (some ad) rj cj):=(aA hd1 9).trans rfl;have HD1:=ah hd1;have HI1:=ah hi1;have HB1:=ah hb1;have HK1:=ah hk1;clear hd1 hi1 hb1 hk1)|(go_at_call 140;have KK:=ah (aH.refl w1 p none);have HQ:=ah (ig w0 w1 p T j rj 1 256 last bK bM bP bQ eF A c (some ad) cj HP.out HB1.out HL.out HD1.out HI1.out (by have h1:=HI1.out.eq;have h2:=HLe1.out;omega));rw[show(((1:Nat):Int))=1 from rfl]at HQ;(with_reducible refine HQ.out.mono ?_);rintro e w3⟨cr,rfl,hrd,Ak,rk,ck,hd3,hi3,hb3,hk3⟩;obtain⟨⟨k0,k1,k2,k3,k4⟩,f0,f1,f2,f3,f4⟩:=iL ((HK1.out.trans (KK.out.trans hk3 (.inl rfl)) (.inl rfl)).blk HX1.out (Nat.ne_of_gt wR.out) (by simp));have HR3:=ah hrd;have HD3:=ah (show oh w0 w3 p T (j+1+qh (T.drop (j+1))) last bK bM bP bQ eF A c from⟨⟨Ak,rk,ck,hd3,hi3⟩,hb3⟩);have HK3:=ah (HK1.out.trans (KK.out.trans hk3 (.inl rfl)) (.inl rfl));clear hrd hd3 hi3 hb3 hk3))
 rw[oC.out]at HR3;obtain⟨e1,e2⟩:=kF (raw:=[91]) (cr:=cr) (k:=256) (b:=false) (s:=⟨#[]⟩) HP.out wR.out HB.out HW1.out HK3.out HR3.out HD3.out _ rfl;refine bodyPost_ret (dI rfl _ _ W.heap.size _ _ _ _ rfl e1 Tryz.underlying111 rfl (by kernel_rfl)) rfl ?_;exact e2
theorem Zc(hX:fA T i ((w,.tok ⟨512,⟨#[93]⟩,⟨#[]⟩,false⟩)::Y) we):
 Calls Tryz.prog 105 #[.pointer (some ⟨p,0,none⟩)] W (sJ w0 W p T (i+w.length) ([93]) 512 false ⟨#[]⟩ last bK bM bP bQ eF A c):=by
 obtain⟨⟨Ai,r,ci,hd0,hi0⟩,hB⟩:=hD;obtain⟨hws,hdr,hle⟩:=hX.Ew;have uo:=bJ hd0;obtain⟨j,hj⟩:∃j,j=i+w.length:=⟨_,rfl⟩
 obtain⟨W1,hW1⟩:∃W1,W1=W.alloc (.cells tok0 111):=⟨_,rfl⟩
 have hb1:Below W.heap.size W W1:=by rw[hW1];exact ak (bg _ _) _
 have hx1:W1.heap[W.heap.size]? =some (.cells tok0 111 (0,0)):=by rw[hW1];exact aP W _
 have HC:=ah (gI w0 W1 p T i r 0 last bK bM bP bQ eF A T.length c Ai ci hp (au hB hb1) (aI hd0 hb1) hi0 (Nat.zero_le _));rw[Nat.add_zero,hws,<-hj,show(((0:Nat):Int))=0 from rfl]at HC;rw[<-hj]at hdr hle ⊢;have HP:=ah hp;have HT:=ah hT;have HL:=ah (show T.length<=1000000000000 by have:=hT.len;omega);have wR:=ah uo;have HB:=ah hB;have HW1:=ah hW1;have HX1:=ah hx1;have Aw:=ah hle;have sK:=ah (show T.drop j=93::(lT Y++we)from hdr);have oC:=ah (show(T.drop j).take 1=[93]by rw[sK.out];rfl);have hle1:j+1<=T.length:=hle;have HLe1:=ah hle1;clear hle1;clear hd0 hi0 hws hdr hle uo hj hW1 hb1 hx1 hB hp hT hX;go_enter Tryz.func105,Tryz.ntmps105
 go_upto_region 1 with fail
 rw[<-HW1.out]
 go_wp2_with (first|(go_at_call 110;(with_reducible refine HC.out.mono ?_);rintro e w1⟨rfl,Aj,rj,cj,hd1,hi1,hb1,hk1⟩;obtain⟨ad,rfl,x0,y1,y2,y3⟩:=hi1.head2 hb1 sK.out;have c9:w1.cell? ⟨p,9,none⟩=some (.slice (some ad) rj cj):=(aA hd1 9).trans rfl;have HD1:=ah hd1;have HI1:=ah hi1;have HB1:=ah hb1;have HK1:=ah hk1;clear hd1 hi1 hb1 hk1)|(go_at_call 140;have KK:=ah (aH.refl w1 p none);have HQ:=ah (ig w0 w1 p T j rj 1 512 last bK bM bP bQ eF A c (some ad) cj HP.out HB1.out HL.out HD1.out HI1.out (by have h1:=HI1.out.eq;have h2:=HLe1.out;omega));rw[show(((1:Nat):Int))=1 from rfl]at HQ;(with_reducible refine HQ.out.mono ?_);rintro e w3⟨cr,rfl,hrd,Ak,rk,ck,hd3,hi3,hb3,hk3⟩;obtain⟨⟨k0,k1,k2,k3,k4⟩,f0,f1,f2,f3,f4⟩:=iL ((HK1.out.trans (KK.out.trans hk3 (.inl rfl)) (.inl rfl)).blk HX1.out (Nat.ne_of_gt wR.out) (by simp));have HR3:=ah hrd;have HD3:=ah (show oh w0 w3 p T (j+1+qh (T.drop (j+1))) last bK bM bP bQ eF A c from⟨⟨Ak,rk,ck,hd3,hi3⟩,hb3⟩);have HK3:=ah (HK1.out.trans (KK.out.trans hk3 (.inl rfl)) (.inl rfl));clear hrd hd3 hi3 hb3 hk3))
 rw[oC.out]at HR3;obtain⟨e1,e2⟩:=kF (raw:=[93]) (cr:=cr) (k:=512) (b:=false) (s:=⟨#[]⟩) HP.out wR.out HB.out HW1.out HK3.out HR3.out HD3.out _ rfl;refine bodyPost_ret (dI rfl _ _ W.heap.size _ _ _ _ rfl e1 Tryz.underlying111 rfl (by kernel_rfl)) rfl ?_;exact e2
theorem VA(hX:fA T i ((w,.comma)::Y) we):
 Calls Tryz.prog 105 #[.pointer (some ⟨p,0,none⟩)] W (sJ w0 W p T (i+w.length) ([44]) 1024 false ⟨#[]⟩ last bK bM bP bQ eF A c):=by
 obtain⟨⟨Ai,r,ci,hd0,hi0⟩,hB⟩:=hD;obtain⟨hws,hdr,hle⟩:=hX.Ew;have uo:=bJ hd0;obtain⟨j,hj⟩:∃j,j=i+w.length:=⟨_,rfl⟩
 obtain⟨W1,hW1⟩:∃W1,W1=W.alloc (.cells tok0 111):=⟨_,rfl⟩
 have hb1:Below W.heap.size W W1:=by rw[hW1];exact ak (bg _ _) _
 have hx1:W1.heap[W.heap.size]? =some (.cells tok0 111 (0,0)):=by rw[hW1];exact aP W _
 have HC:=ah (gI w0 W1 p T i r 0 last bK bM bP bQ eF A T.length c Ai ci hp (au hB hb1) (aI hd0 hb1) hi0 (Nat.zero_le _));rw[Nat.add_zero,hws,<-hj,show(((0:Nat):Int))=0 from rfl]at HC;rw[<-hj]at hdr hle ⊢;have HP:=ah hp;have HT:=ah hT;have HL:=ah (show T.length<=1000000000000 by have:=hT.len;omega);have wR:=ah uo;have HB:=ah hB;have HW1:=ah hW1;have HX1:=ah hx1;have Aw:=ah hle;have sK:=ah (show T.drop j=44::(lT Y++we)from hdr);have oC:=ah (show(T.drop j).take 1=[44]by rw[sK.out];rfl);have hle1:j+1<=T.length:=hle;have HLe1:=ah hle1;clear hle1;clear hd0 hi0 hws hdr hle uo hj hW1 hb1 hx1 hB hp hT hX;go_enter Tryz.func105,Tryz.ntmps105
 go_upto_region 1 with fail
 rw[<-HW1.out]
 go_wp2_with (first|(go_at_call 110;(with_reducible refine HC.out.mono ?_);rintro e w1⟨rfl,Aj,rj,cj,hd1,hi1,hb1,hk1⟩;obtain⟨ad,rfl,x0,y1,y2,y3⟩:=hi1.head2 hb1 sK.out;have c9:w1.cell? ⟨p,9,none⟩=some (.slice (some ad) rj cj):=(aA hd1 9).trans rfl;have HD1:=ah hd1;have HI1:=ah hi1;have HB1:=ah hb1;have HK1:=ah hk1;clear hd1 hi1 hb1 hk1)|(go_at_call 140;have KK:=ah (aH.refl w1 p none);have HQ:=ah (ig w0 w1 p T j rj 1 1024 last bK bM bP bQ eF A c (some ad) cj HP.out HB1.out HL.out HD1.out HI1.out (by have h1:=HI1.out.eq;have h2:=HLe1.out;omega));rw[show(((1:Nat):Int))=1 from rfl]at HQ;(with_reducible refine HQ.out.mono ?_);rintro e w3⟨cr,rfl,hrd,Ak,rk,ck,hd3,hi3,hb3,hk3⟩;obtain⟨⟨k0,k1,k2,k3,k4⟩,f0,f1,f2,f3,f4⟩:=iL ((HK1.out.trans (KK.out.trans hk3 (.inl rfl)) (.inl rfl)).blk HX1.out (Nat.ne_of_gt wR.out) (by simp));have HR3:=ah hrd;have HD3:=ah (show oh w0 w3 p T (j+1+qh (T.drop (j+1))) last bK bM bP bQ eF A c from⟨⟨Ak,rk,ck,hd3,hi3⟩,hb3⟩);have HK3:=ah (HK1.out.trans (KK.out.trans hk3 (.inl rfl)) (.inl rfl));clear hrd hd3 hi3 hb3 hk3))
 rw[oC.out]at HR3;obtain⟨e1,e2⟩:=kF (raw:=[44]) (cr:=cr) (k:=1024) (b:=false) (s:=⟨#[]⟩) HP.out wR.out HB.out HW1.out HK3.out HR3.out HD3.out _ rfl;refine bodyPost_ret (dI rfl _ _ W.heap.size _ _ _ _ rfl e1 Tryz.underlying111 rfl (by kernel_rfl)) rfl ?_;exact e2
theorem Zd(hDl:lT Y++we=[]∨∃c r,lT Y++we=c::r/\lU c)(hX:fA T i ((w,.tok ⟨2,⟨#[110,117,108,108]⟩,⟨#[]⟩,false⟩)::Y) we):
 Calls Tryz.prog 105 #[.pointer (some ⟨p,0,none⟩)] W (sJ w0 W p T (i+w.length) ([110,117,108,108]) 2 false ⟨#[]⟩ last bK bM bP bQ eF A c):=by
 obtain⟨⟨Ai,r,ci,hd0,hi0⟩,hB⟩:=hD;obtain⟨hws,hdr,hle⟩:=hX.Ew;have uo:=bJ hd0;obtain⟨j,hj⟩:∃j,j=i+w.length:=⟨_,rfl⟩
 obtain⟨W1,hW1⟩:∃W1,W1=W.alloc (.cells tok0 111):=⟨_,rfl⟩
 have hb1:Below W.heap.size W W1:=by rw[hW1];exact ak (bg _ _) _
 have hx1:W1.heap[W.heap.size]? =some (.cells tok0 111 (0,0)):=by rw[hW1];exact aP W _
 have HC:=ah (gI w0 W1 p T i r 0 last bK bM bP bQ eF A T.length c Ai ci hp (au hB hb1) (aI hd0 hb1) hi0 (Nat.zero_le _));rw[Nat.add_zero,hws,<-hj,show(((0:Nat):Int))=0 from rfl]at HC;rw[<-hj]at hdr hle ⊢;have HP:=ah hp;have HT:=ah hT;have HL:=ah (show T.length<=1000000000000 by have:=hT.len;omega);have wR:=ah uo;have HB:=ah hB;have HW1:=ah hW1;have HX1:=ah hx1;have Aw:=ah hle;have sK:=ah (show T.drop j=110::([117,108,108]++(lT Y++we))from hdr);have oC:=ah (show(T.drop j).take 4=[110,117,108,108]by rw[sK.out];rfl);have hle1:j+4<=T.length:=hle;have HLe1:=ah hle1;have VB:=ah (fun(w1:World)(rj:Nat)(Aj:Option Addr)(cj:Nat)(hi:oO w0 T j rj Aj cj)(hb:Below w0.heap.size w0 w1)=>NJ w0 w1 T j rj Aj cj hi hb ⟨#[110,117,108,108]⟩ (lT Y++we) hdr hDl);clear hle1 hDl;clear hd0 hi0 hws hdr hle uo hj hW1 hb1 hx1 hB hp hT hX;go_enter Tryz.func105,Tryz.ntmps105
 go_upto_region 1 with fail
 rw[<-HW1.out]
 go_wp2_with (first|(go_at_call 110;(with_reducible refine HC.out.mono ?_);rintro e w1⟨rfl,Aj,rj,cj,hd1,hi1,hb1,hk1⟩;obtain⟨ad,rfl,x0,y1,y2,y3⟩:=hi1.head2 hb1 sK.out;have c9:w1.cell? ⟨p,9,none⟩=some (.slice (some ad) rj cj):=(aA hd1 9).trans rfl;have HD1:=ah hd1;have HI1:=ah hi1;have HB1:=ah hb1;have HK1:=ah hk1;clear hd1 hi1 hb1 hk1)|(go_at_call 141;have HQ:=ah (VB.out w1 rj (some ad) cj HI1.out HB1.out);rw[show(((⟨#[110,117,108,108]⟩:ByteArray).size:Nat):Int)=4 from rfl]at HQ;(with_reducible refine HQ.out.mono ?_);rintro e w2⟨rfl,hb⟩;have KK:=ah (aH.of_below hb p none);have HD2:=ah (aI HD1.out hb);have HB2:=ah (au HB1.out hb);clear hb HQ)|(go_at_call 140;have HQ:=ah (ig w0 w2 p T j rj 4 2 last bK bM bP bQ eF A c (some ad) cj HP.out HB2.out HL.out HD2.out HI1.out (by have h1:=HI1.out.eq;have h2:=HLe1.out;omega));rw[show(((4:Nat):Int))=4 from rfl]at HQ;(with_reducible refine HQ.out.mono ?_);rintro e w3⟨cr,rfl,hrd,Ak,rk,ck,hd3,hi3,hb3,hk3⟩;obtain⟨⟨k0,k1,k2,k3,k4⟩,f0,f1,f2,f3,f4⟩:=iL ((HK1.out.trans (KK.out.trans hk3 (.inl rfl)) (.inl rfl)).blk HX1.out (Nat.ne_of_gt wR.out) (by simp));have HR3:=ah hrd;have HD3:=ah (show oh w0 w3 p T (j+4+qh (T.drop (j+4))) last bK bM bP bQ eF A c from⟨⟨Ak,rk,ck,hd3,hi3⟩,hb3⟩);have HK3:=ah (HK1.out.trans (KK.out.trans hk3 (.inl rfl)) (.inl rfl));clear hrd hd3 hi3 hb3 hk3))
 rw[oC.out]at HR3;obtain⟨e1,e2⟩:=kF (raw:=[110,117,108,108]) (cr:=cr) (k:=2) (b:=false) (s:=⟨#[]⟩) HP.out wR.out HB.out HW1.out HK3.out HR3.out HD3.out _ rfl;refine bodyPost_ret (dI rfl _ _ W.heap.size _ _ _ _ rfl e1 Tryz.underlying111 rfl (by kernel_rfl)) rfl ?_;exact e2
theorem Ze(hDl:lT Y++we=[]∨∃c r,lT Y++we=c::r/\lU c)(hX:fA T i ((w,.tok ⟨4,⟨#[116,114,117,101]⟩,⟨#[]⟩,true⟩)::Y) we):
 Calls Tryz.prog 105 #[.pointer (some ⟨p,0,none⟩)] W (sJ w0 W p T (i+w.length) ([116,114,117,101]) 4 true ⟨#[]⟩ last bK bM bP bQ eF A c):=by
 obtain⟨⟨Ai,r,ci,hd0,hi0⟩,hB⟩:=hD;obtain⟨hws,hdr,hle⟩:=hX.Ew;have uo:=bJ hd0;obtain⟨j,hj⟩:∃j,j=i+w.length:=⟨_,rfl⟩
 obtain⟨W1,hW1⟩:∃W1,W1=W.alloc (.cells tok0 111):=⟨_,rfl⟩
 have hb1:Below W.heap.size W W1:=by rw[hW1];exact ak (bg _ _) _
 have hx1:W1.heap[W.heap.size]? =some (.cells tok0 111 (0,0)):=by rw[hW1];exact aP W _
 have HC:=ah (gI w0 W1 p T i r 0 last bK bM bP bQ eF A T.length c Ai ci hp (au hB hb1) (aI hd0 hb1) hi0 (Nat.zero_le _));rw[Nat.add_zero,hws,<-hj,show(((0:Nat):Int))=0 from rfl]at HC;rw[<-hj]at hdr hle ⊢;have HP:=ah hp;have HT:=ah hT;have HL:=ah (show T.length<=1000000000000 by have:=hT.len;omega);have wR:=ah uo;have HB:=ah hB;have HW1:=ah hW1;have HX1:=ah hx1;have Aw:=ah hle;have sK:=ah (show T.drop j=116::([114,117,101]++(lT Y++we))from hdr);have oC:=ah (show(T.drop j).take 4=[116,114,117,101]by rw[sK.out];rfl);have hle1:j+4<=T.length:=hle;have HLe1:=ah hle1;have VB:=ah (fun(w1:World)(rj:Nat)(Aj:Option Addr)(cj:Nat)(hi:oO w0 T j rj Aj cj)(hb:Below w0.heap.size w0 w1)=>NJ w0 w1 T j rj Aj cj hi hb ⟨#[116,114,117,101]⟩ (lT Y++we) hdr hDl);clear hle1 hDl;clear hd0 hi0 hws hdr hle uo hj hW1 hb1 hx1 hB hp hT hX;go_enter Tryz.func105,Tryz.ntmps105
 go_upto_region 1 with fail
 rw[<-HW1.out]
 go_wp2_with (first|(go_at_call 110;(with_reducible refine HC.out.mono ?_);rintro e w1⟨rfl,Aj,rj,cj,hd1,hi1,hb1,hk1⟩;obtain⟨ad,rfl,x0,y1,y2,y3⟩:=hi1.head2 hb1 sK.out;have c9:w1.cell? ⟨p,9,none⟩=some (.slice (some ad) rj cj):=(aA hd1 9).trans rfl;have HD1:=ah hd1;have HI1:=ah hi1;have HB1:=ah hb1;have HK1:=ah hk1;clear hd1 hi1 hb1 hk1)|(go_at_call 141;have HQ:=ah (VB.out w1 rj (some ad) cj HI1.out HB1.out);rw[show(((⟨#[116,114,117,101]⟩:ByteArray).size:Nat):Int)=4 from rfl]at HQ;(with_reducible refine HQ.out.mono ?_);rintro e w2⟨rfl,hb⟩;have KK:=ah (aH.of_below hb p none);have HD2:=ah (aI HD1.out hb);have HB2:=ah (au HB1.out hb);clear hb HQ)|(go_at_call 142;have HQ:=ah (qj w0 w2 p T j rj 4 true last bK bM bP bQ eF A c (some ad) cj HP.out HB2.out HL.out HD2.out HI1.out (by have h1:=HI1.out.eq;have h2:=HLe1.out;omega));rw[show(((4:Nat):Int))=4 from rfl]at HQ;(with_reducible refine HQ.out.mono ?_);rintro e w3⟨cr,rfl,hrd,Ak,rk,ck,hd3,hi3,hb3,hk3⟩;obtain⟨⟨k0,k1,k2,k3,k4⟩,f0,f1,f2,f3,f4⟩:=iL ((HK1.out.trans (KK.out.trans hk3 (.inl rfl)) (.inl rfl)).blk HX1.out (Nat.ne_of_gt wR.out) (by simp));have HR3:=ah hrd;have HD3:=ah (show oh w0 w3 p T (j+4+qh (T.drop (j+4))) last bK bM bP bQ eF A c from⟨⟨Ak,rk,ck,hd3,hi3⟩,hb3⟩);have HK3:=ah (HK1.out.trans (KK.out.trans hk3 (.inl rfl)) (.inl rfl));clear hrd hd3 hi3 hb3 hk3))
 rw[oC.out]at HR3;obtain⟨e1,e2⟩:=kF (raw:=[116,114,117,101]) (cr:=cr) (k:=4) (b:=true) (s:=⟨#[]⟩) HP.out wR.out HB.out HW1.out HK3.out HR3.out HD3.out _ rfl;refine bodyPost_ret (dI rfl _ _ W.heap.size _ _ _ _ rfl e1 Tryz.underlying111 rfl (by kernel_rfl)) rfl ?_;exact e2
theorem VD(hDl:lT Y++we=[]∨∃c r,lT Y++we=c::r/\lU c)(hX:fA T i ((w,.tok ⟨4,⟨#[102,97,108,115,101]⟩,⟨#[]⟩,false⟩)::Y) we):
 Calls Tryz.prog 105 #[.pointer (some ⟨p,0,none⟩)] W (sJ w0 W p T (i+w.length) ([102,97,108,115,101]) 4 false ⟨#[]⟩ last bK bM bP bQ eF A c):=by
 obtain⟨⟨Ai,r,ci,hd0,hi0⟩,hB⟩:=hD;obtain⟨hws,hdr,hle⟩:=hX.Ew;have uo:=bJ hd0;obtain⟨j,hj⟩:∃j,j=i+w.length:=⟨_,rfl⟩
 obtain⟨W1,hW1⟩:∃W1,W1=W.alloc (.cells tok0 111):=⟨_,rfl⟩
 have hb1:Below W.heap.size W W1:=by rw[hW1];exact ak (bg _ _) _
 have hx1:W1.heap[W.heap.size]? =some (.cells tok0 111 (0,0)):=by rw[hW1];exact aP W _
 have HC:=ah (gI w0 W1 p T i r 0 last bK bM bP bQ eF A T.length c Ai ci hp (au hB hb1) (aI hd0 hb1) hi0 (Nat.zero_le _));rw[Nat.add_zero,hws,<-hj,show(((0:Nat):Int))=0 from rfl]at HC;rw[<-hj]at hdr hle ⊢;have HP:=ah hp;have HT:=ah hT;have HL:=ah (show T.length<=1000000000000 by have:=hT.len;omega);have wR:=ah uo;have HB:=ah hB;have HW1:=ah hW1;have HX1:=ah hx1;have Aw:=ah hle;have sK:=ah (show T.drop j=102::([97,108,115,101]++(lT Y++we))from hdr);have oC:=ah (show(T.drop j).take 5=[102,97,108,115,101]by rw[sK.out];rfl);have hle1:j+5<=T.length:=hle;have HLe1:=ah hle1;have VB:=ah (fun(w1:World)(rj:Nat)(Aj:Option Addr)(cj:Nat)(hi:oO w0 T j rj Aj cj)(hb:Below w0.heap.size w0 w1)=>NJ w0 w1 T j rj Aj cj hi hb ⟨#[102,97,108,115,101]⟩ (lT Y++we) hdr hDl);clear hle1 hDl;clear hd0 hi0 hws hdr hle uo hj hW1 hb1 hx1 hB hp hT hX;go_enter Tryz.func105,Tryz.ntmps105
 go_upto_region 1 with fail
 rw[<-HW1.out]
 go_wp2_with (first|(go_at_call 110;(with_reducible refine HC.out.mono ?_);rintro e w1⟨rfl,Aj,rj,cj,hd1,hi1,hb1,hk1⟩;obtain⟨ad,rfl,x0,y1,y2,y3⟩:=hi1.head2 hb1 sK.out;have c9:w1.cell? ⟨p,9,none⟩=some (.slice (some ad) rj cj):=(aA hd1 9).trans rfl;have HD1:=ah hd1;have HI1:=ah hi1;have HB1:=ah hb1;have HK1:=ah hk1;clear hd1 hi1 hb1 hk1)|(go_at_call 141;have HQ:=ah (VB.out w1 rj (some ad) cj HI1.out HB1.out);rw[show(((⟨#[102,97,108,115,101]⟩:ByteArray).size:Nat):Int)=5 from rfl]at HQ;(with_reducible refine HQ.out.mono ?_);rintro e w2⟨rfl,hb⟩;have KK:=ah (aH.of_below hb p none);have HD2:=ah (aI HD1.out hb);have HB2:=ah (au HB1.out hb);clear hb HQ)|(go_at_call 142;have HQ:=ah (qj w0 w2 p T j rj 5 false last bK bM bP bQ eF A c (some ad) cj HP.out HB2.out HL.out HD2.out HI1.out (by have h1:=HI1.out.eq;have h2:=HLe1.out;omega));rw[show(((5:Nat):Int))=5 from rfl]at HQ;(with_reducible refine HQ.out.mono ?_);rintro e w3⟨cr,rfl,hrd,Ak,rk,ck,hd3,hi3,hb3,hk3⟩;obtain⟨⟨k0,k1,k2,k3,k4⟩,f0,f1,f2,f3,f4⟩:=iL ((HK1.out.trans (KK.out.trans hk3 (.inl rfl)) (.inl rfl)).blk HX1.out (Nat.ne_of_gt wR.out) (by simp));have HR3:=ah hrd;have HD3:=ah (show oh w0 w3 p T (j+5+qh (T.drop (j+5))) last bK bM bP bQ eF A c from⟨⟨Ak,rk,ck,hd3,hi3⟩,hb3⟩);have HK3:=ah (HK1.out.trans (KK.out.trans hk3 (.inl rfl)) (.inl rfl));clear hrd hd3 hi3 hb3 hk3))
 rw[oC.out]at HR3;obtain⟨e1,e2⟩:=kF (raw:=[102,97,108,115,101]) (cr:=cr) (k:=4) (b:=false) (s:=⟨#[]⟩) HP.out wR.out HB.out HW1.out HK3.out HR3.out HD3.out _ rfl;refine bodyPost_ret (dI rfl _ _ W.heap.size _ _ _ _ rfl e1 Tryz.underlying111 rfl (by kernel_rfl)) rfl ?_;exact e2
theorem abP(x:NT)(hx:x.ok)(hDl:lT Y++we=[]∨∃c r,lT Y++we=c::r/\lU c)(hX:fA T i ((w,.tok ⟨8,str x.bytes,⟨#[]⟩,false⟩)::Y) we):
 Calls Tryz.prog 105 #[.pointer (some ⟨p,0,none⟩)] W (sJ w0 W p T (i+w.length) (x.bytes) 8 false ⟨#[]⟩ last bK bM bP bQ eF A c):=by
 obtain⟨⟨Ai,r,ci,hd0,hi0⟩,hB⟩:=hD;obtain⟨hws,hdr,hle⟩:=hX.Ew;have uo:=bJ hd0;obtain⟨j,hj⟩:∃j,j=i+w.length:=⟨_,rfl⟩
 obtain⟨W1,hW1⟩:∃W1,W1=W.alloc (.cells tok0 111):=⟨_,rfl⟩
 have hb1:Below W.heap.size W W1:=by rw[hW1];exact ak (bg _ _) _
 have hx1:W1.heap[W.heap.size]? =some (.cells tok0 111 (0,0)):=by rw[hW1];exact aP W _
 have HC:=ah (gI w0 W1 p T i r 0 last bK bM bP bQ eF A T.length c Ai ci hp (au hB hb1) (aI hd0 hb1) hi0 (Nat.zero_le _));rw[Nat.add_zero,hws,<-hj,show(((0:Nat):Int))=0 from rfl]at HC;rw[<-hj]at hdr hle ⊢;have HP:=ah hp;have HT:=ah hT;have HL:=ah (show T.length<=1000000000000 by have:=hT.len;omega);have wR:=ah uo;have HB:=ah hB;have HW1:=ah hW1;have HX1:=ah hx1;have Aw:=ah hle;rw[show(Lex.tok ⟨8,str x.bytes,⟨#[]⟩,false⟩).raw=x.bytes from fO _ (x.pJ hx)]at hdr hle;obtain⟨c0,r0,hc0,hcr⟩:=x.qw hx;have sK:=ah (show T.drop j=c0::(r0++(lT Y++we))by rw[hdr,hc0];rfl);obtain⟨n,hn⟩:∃n,n=x.bytes.length:=⟨_,rfl⟩
 have oC:=ah (show(T.drop j).take n=x.bytes by rw[hdr,hn,List.take_left]);have HLe1:=ah (show j+n<=T.length by omega);have yu:=ah hn;have VB:=ah (fun(w1:World)(rj:Nat)(Aj:Option Addr)(cj:Nat)(hi:oO w0 T j rj Aj cj)(hb:Below w0.heap.size w0 w1)=>Nv x hx (lT Y++we) hDl Aj rj cj w1 (by have:=hi.rd;rw[hdr]at this;exact Kd.aU this hb) hi.cap (by have h1:=hi.eq;have h2:=hT.len;omega));rw[<-hn]at VB;have hcs:c0=45∨c0=48∨c0=49∨c0=50∨c0=51∨c0=52∨c0=53∨c0=54∨c0=55∨c0=56∨c0=57:=by omega
 clear hDl hc0 hcr hn;clear hd0 hi0 hws hdr hle uo hj hW1 hb1 hx1 hB hp hT hX;rcases hcs with rfl|rfl|rfl|rfl|rfl|rfl|rfl|rfl|rfl|rfl|rfl
 all_goals
  go_enter Tryz.func105,Tryz.ntmps105
  go_upto_region 1 with fail
  rw[<-HW1.out]
  go_wp2_with (first|(go_at_call 110;(with_reducible refine HC.out.mono ?_);rintro e w1⟨rfl,Aj,rj,cj,hd1,hi1,hb1,hk1⟩;obtain⟨ad,rfl,x0,y1,y2,y3⟩:=hi1.head2 hb1 sK.out;have c9:w1.cell? ⟨p,9,none⟩=some (.slice (some ad) rj cj):=(aA hd1 9).trans rfl;have HD1:=ah hd1;have HI1:=ah hi1;have HB1:=ah hb1;have HK1:=ah hk1;clear hd1 hi1 hb1 hk1)|(go_at_call 143;(with_reducible refine(VB.out w1 rj (some ad) cj HI1.out HB1.out).mono ?_);rintro e w2⟨rfl,rfl⟩)|(go_at_call 140;have KK:=ah (aH.refl w1 p none);(with_reducible refine(ig w0 w1 p T j rj n 8 last bK bM bP bQ eF A c (some ad) cj HP.out HB1.out HL.out HD1.out HI1.out (by have h1:=HI1.out.eq;have h2:=HLe1.out;omega)).mono ?_);rintro e w3⟨cr,rfl,hrd,Ak,rk,ck,hd3,hi3,hb3,hk3⟩;obtain⟨⟨k0,k1,k2,k3,k4⟩,f0,f1,f2,f3,f4⟩:=iL ((HK1.out.trans (KK.out.trans hk3 (.inl rfl)) (.inl rfl)).blk HX1.out (Nat.ne_of_gt wR.out) (by simp));have HR3:=ah hrd;have HD3:=ah (show oh w0 w3 p T (j+n+qh (T.drop (j+n))) last bK bM bP bQ eF A c from⟨⟨Ak,rk,ck,hd3,hi3⟩,hb3⟩);have HK3:=ah (HK1.out.trans (KK.out.trans hk3 (.inl rfl)) (.inl rfl));clear hrd hd3 hi3 hb3 hk3))
  have hn:=yu.out;subst hn;rw[oC.out]at HR3;obtain⟨e1,e2⟩:=kF (raw:=x.bytes) (cr:=cr) (k:=8) (b:=false) (s:=⟨#[]⟩) HP.out wR.out HB.out HW1.out HK3.out HR3.out HD3.out _ rfl;refine bodyPost_ret (dI rfl _ _ W.heap.size _ _ _ _ rfl e1 Tryz.underlying111 rfl (by kernel_rfl)) rfl ?_;exact e2
theorem VE(hU:Lib.Utf8Tabs 3 4 w0)(raw s:ByteArray)(k0:Int)(hq:GI raw s)(hX:fA T i ((w,.tok ⟨k0,raw,s,false⟩)::Y) we):
 Calls Tryz.prog 105 #[.pointer (some ⟨p,0,none⟩)] W (sJ w0 W p T (i+w.length) (bytesOf raw) 16 false s last bK bM bP bQ eF A c):=by
 obtain⟨⟨Ai,r,ci,hd0,hi0⟩,hB⟩:=hD;obtain⟨hws,hdr,hle⟩:=hX.Ew;have uo:=bJ hd0;obtain⟨j,hj⟩:∃j,j=i+w.length:=⟨_,rfl⟩
 obtain⟨W1,hW1⟩:∃W1,W1=W.alloc (.cells tok0 111):=⟨_,rfl⟩
 have hb1:Below W.heap.size W W1:=by rw[hW1];exact ak (bg _ _) _
 have hx1:W1.heap[W.heap.size]? =some (.cells tok0 111 (0,0)):=by rw[hW1];exact aP W _
 have HC:=ah (gI w0 W1 p T i r 0 last bK bM bP bQ eF A T.length c Ai ci hp (au hB hb1) (aI hd0 hb1) hi0 (Nat.zero_le _));rw[Nat.add_zero,hws,<-hj,show(((0:Nat):Int))=0 from rfl]at HC;rw[<-hj]at hdr hle ⊢;have HP:=ah hp;have HT:=ah hT;have HL:=ah (show T.length<=1000000000000 by have:=hT.len;omega);have wR:=ah uo;have HB:=ah hB;have HW1:=ah hW1;have HX1:=ah hx1;have Aw:=ah hle;obtain⟨r0,hraw,hqu⟩:=hq.raw
 have hdr':T.drop j=34::(r0++34::(lT Y++we)):=by
  rw[hdr];show bytesOf raw++_=_;rw[hraw];simp
 have sK:=ah hdr';obtain⟨n,hn⟩:∃n,n=(bytesOf raw).length:=⟨_,rfl⟩
 have oC:=ah (show(T.drop j).take n=bytesOf raw by rw[hdr,hn];exact List.take_left);have HLe1:=ah (show j+n<=T.length by rw[hn];exact hle);have yu:=ah hn;have hn2:r0.length+2=n:=by rw[hn,hraw];simp
 have VB:=ah (fun(w1:World)(rj:Nat)(Aj:Option Addr)(cj:Nat)(hi:oO w0 T j rj Aj cj)(hb:Below w0.heap.size w0 w1)=>NC w1 w1 (.pointer (some ⟨p,0,none⟩)) T hT.rng (by have:=hT.len;omega) j rj Aj cj r0 (bytesOf s) (lT Y++we) ⟨hi.eq,hi.cap,Kd.aU hi.rd hb⟩ hdr' hqu (Utf8Tabs_below hU hb) (bg _ _));rw[hn2,zy]at VB;clear hdr' hn hn2 hraw hqu hq hU;clear hd0 hi0 hws hdr hle uo hj hW1 hb1 hx1 hB hp hT hX;go_enter Tryz.func105,Tryz.ntmps105
 go_upto_region 1 with fail
 rw[<-HW1.out]
 go_wp2_with (first|(go_at_call 110;(with_reducible refine HC.out.mono ?_);rintro e w1⟨rfl,Aj,rj,cj,hd1,hi1,hb1,hk1⟩;obtain⟨ad,rfl,x0,y1,y2,y3⟩:=hi1.head2 hb1 sK.out;have c9:w1.cell? ⟨p,9,none⟩=some (.slice (some ad) rj cj):=(aA hd1 9).trans rfl;have HD1:=ah hd1;have HI1:=ah hi1;have HB1:=ah hb1;have HK1:=ah hk1;clear hd1 hi1 hb1 hk1)|(go_at_call 144;(with_reducible refine(VB.out w1 rj (some ad) cj HI1.out HB1.out).mono ?_);rintro e w2⟨rfl,hb⟩;have KK:=ah (aH.of_below hb p none);have HD2:=ah (aI HD1.out hb);have HB2:=ah (au HB1.out hb);clear hb)|(go_at_call 145;(with_reducible refine(vC w0 w2 p T j rj n s last bK bM bP bQ eF A c (some ad) cj HP.out HB2.out HL.out HD2.out HI1.out (by have h1:=HI1.out.eq;have h2:=HLe1.out;omega)).mono ?_);rintro e w3⟨cr,rfl,hrd,Ak,rk,ck,hd3,hi3,hb3,hk3⟩;obtain⟨⟨k0,k1,k2,k3,k4⟩,f0,f1,f2,f3,f4⟩:=iL ((HK1.out.trans (KK.out.trans hk3 (.inl rfl)) (.inl rfl)).blk HX1.out (Nat.ne_of_gt wR.out) (by simp));have HR3:=ah hrd;have HD3:=ah (show oh w0 w3 p T (j+n+qh (T.drop (j+n))) last bK bM bP bQ eF A c from⟨⟨Ak,rk,ck,hd3,hi3⟩,hb3⟩);have HK3:=ah (HK1.out.trans (KK.out.trans hk3 (.inl rfl)) (.inl rfl));clear hrd hd3 hi3 hb3 hk3))
 have hn:=yu.out;subst hn;rw[oC.out]at HR3;obtain⟨e1,e2⟩:=kF (raw:=bytesOf raw) (cr:=cr) (k:=16) (b:=false) (s:=s) HP.out wR.out HB.out HW1.out HK3.out HR3.out HD3.out _ rfl;refine bodyPost_ret (dI rfl _ _ W.heap.size _ _ _ _ rfl e1 Tryz.underlying111 rfl (by kernel_rfl)) rfl ?_;exact e2
end
end Go.Proofs.YtapkmjfjikpnlaaGreatDoor
