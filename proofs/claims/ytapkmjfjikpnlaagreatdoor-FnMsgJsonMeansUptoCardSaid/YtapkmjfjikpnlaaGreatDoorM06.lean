/- A part of FnMsgJsonMeans. No conditions. -/
import Derived.Test.YtapkmjfjikpnlaaGreatDoorM04
set_option maxHeartbeats 2000000
set_option maxRecDepth 100000
namespace Go.Proofs.YtapkmjfjikpnlaaGreatDoor
open Go.RowKit YtapkmjfjikpnlaaGreatDoorW.aG YtapkmjfjikpnlaaGreatDoorW.aJ
set_option linter.unusedVariables false
set_option linter.unusedSimpArgs false
theorem AX(b:Bool)(w:World):Calls Tryz.prog 94 #[.bool b] w fun e w'=>e= .returned (.int .i64 (if b then 1 else 0))/\w=w':=by
 cases b
 all_goals
  go_enter Tryz.func94,Tryz.ntmps94;go_wp2
  go_ret
  exact⟨rfl,rfl⟩
def dV(c:Int):Bool:=decide (48<=c)&&decide (c<=57)
theorem dZ(c:Int)(w:World):Calls Tryz.prog 137 #[.int .u8 c] w fun e w'=>e= .returned (.bool (dV c))/\w=w':=by
 cases b4:decide (48<=c)<;>cases b5:decide (c<=57)
 all_goals
  have HF:=ah (show dV c=_ by rw[dV,b4,b5]);go_enter Tryz.func137,Tryz.ntmps137;go_wp2
  go_ret
  exact⟨by rw[HF.out];rfl,rfl⟩
def isUpperB(c:Int):Bool:=decide (65<=c)&&decide (c<=90)
theorem vU(c:Int)(w:World):Calls Tryz.prog 214 #[.int .u8 c] w fun e w'=>e= .returned (.bool (isUpperB c))/\w=w':=by
 cases b4:decide (65<=c)<;>cases b5:decide (c<=90)
 all_goals
  have HF:=ah (show isUpperB c=_ by rw[isUpperB,b4,b5]);go_enter Tryz.func214,Tryz.ntmps214;go_wp2
  go_ret
  exact⟨by rw[HF.out];rfl,rfl⟩
def dQ(k:Int):Bool:=decide (k=2∨k=5∨k=7∨k=13∨k=15∨k=17∨k=14)
theorem nM(k:Int)(w:World):Calls Tryz.prog 93 #[.int .i64 k] w fun e w'=>e= .returned (.bool (dQ k))/\w=w':=by
 by_cases h:k=2∨k=5∨k=7∨k=13∨k=15∨k=17∨k=14
 ·rcases h with rfl|rfl|rfl|rfl|rfl|rfl|rfl
  all_goals
   go_enter Tryz.func93,Tryz.ntmps93;go_wp2
   go_ret
   exact⟨rfl,rfl⟩
 ·have HF:=ah (show dQ k=false by rw[dQ,bY h])
  simp only[not_or]at h;obtain⟨a1,a2,a3,a4,a5,a6,a7⟩:=h
  replace a1:=eqF a1;replace a2:=eqF a2;replace a3:=eqF a3;replace a4:=eqF a4;replace a5:=eqF a5;replace a6:=eqF a6;replace a7:=eqF a7
  go_enter Tryz.func93,Tryz.ntmps93;go_wp2
  go_ret
  exact⟨by rw[HF.out];rfl,rfl⟩
def jv(c:Int):Int:=if c=34 then 34 else if c=92 then 92 else if c=47 then 47 else if c=8 then 98 else if c=12 then 102 else if c=10 then 110 else if c=13 then 114 else if c=9 then 116 else 0
theorem kU(k:Int)(w:World):Calls Tryz.prog 200 #[.int .i64 k] w fun e w'=>e= .returned (.int .u8 (jv k))/\w=w':=by
 by_cases h:k=34∨k=92∨k=47∨k=8∨k=12∨k=10∨k=13∨k=9
 ·rcases h with rfl|rfl|rfl|rfl|rfl|rfl|rfl|rfl
  all_goals
   go_enter Tryz.func200,Tryz.ntmps200;go_wp2
   go_ret
   exact⟨rfl,rfl⟩
 ·simp only[not_or]at h
  obtain⟨a1,a2,a3,a4,a5,a6,a7,a8⟩:=h;have HF:=ah (show jv k=0 by simp[jv, *])
  replace a1:=eqF a1;replace a2:=eqF a2;replace a3:=eqF a3;replace a4:=eqF a4;replace a5:=eqF a5;replace a6:=eqF a6;replace a7:=eqF a7;replace a8:=eqF a8
  go_enter Tryz.func200,Tryz.ntmps200;go_wp2
  go_ret
  exact⟨by rw[HF.out];rfl,rfl⟩
theorem zN{w:World}{A:Option Addr}{n:Nat}{l:List Int}(h:Kd.C (Kd.int .u8) w A n l)(hp:l≠[]):∃ad,A=some ad/\(∀x,l[0]? =some x->w.cell? ad=some (.int .u8 x))/\∀k x,0<k->l[k]? =some x->w.cell? ⟨ad.block,ad.off+k,none⟩=some (.int .u8 x):=by
 obtain⟨x0,t,rfl⟩:=List.exists_cons_of_ne_nil hp;obtain⟨ad,rfl,h0⟩:=iD h (i:=0) rfl;refine⟨ad,rfl,fun x hx=>?_,fun k x hk hx=>?_⟩
 ·cases hx
  simpa [Addr.add]using h0
 ·obtain⟨ad1,e1,h1⟩:=iD h hx
  cases e1
  rwa [Md _ _ hk]at h1
theorem w64{n:Int}(h0:0<=n)(h1:n<9223372036854775808):wrap64 n=n:=by unfold wrap64;omega
theorem kL{n:Int}(h0:0<=n)(h1:n<9223372036854775808):IntKind.i64.wrap n=n:=by rw[IntKind.wrap_i64];omega
theorem ER(n:Int)(h₀:0<=n)(h₁:n<2^62):IntKind.i64.wrap n=n:=by rw[IntKind.wrap_i64];omega
theorem or64(i:Nat)(hi:i<=62){x y:Int}(h0:0<=x)(h1:x<2^62)(hm:x%2^i=0)(h2:0<=y)(h3:y<2^i):bits .or .i64 x y=x+y:=
 bits_join .i64 62 (by decide) ER i x y h0 hm h1 h2 h3 (Int.lt_of_lt_of_le h3 (by exact_mod_cast Nat.pow_le_pow_right (by decide) hi))
theorem and64(i:Nat)(hi:i<=62){x:Int}(h0:0<=x)(h1:x<2^62):bits .and .i64 x (2^i-1)=x%2^i:=bits_mask .i64 62 (by decide) ER i hi x h0 h1
def cO(l:List Int):Int:=
 match l with
 |[x]=>x
 |[x,y]=>x%32*64+y%64
 |[x,y,z]=>x%16*4096+y%64*64+z%64
 |[x,y,z,u]=>x%8*262144+y%64*4096+z%64*64+u%64
 |_=>0
theorem QI(A:Option Addr)(c:Nat)(x y z u:Int)(w:World)(hr:Kd.C (Kd.int .u8) w A 4 [x,y,z,u])(hx:0<=x/\x<=255)(hy:0<=y/\y<=255)(hz:0<=z/\z<=255)(hu:0<=u/\u<=255):Calls Tryz.prog 199 #[.slice A 4 c] w fun e w'=>e= .returned (.int .i64 (cO [x,y,z,u]))/\∃m,w'=w.drewN m:=by
 obtain⟨ad,rfl,g0,g1⟩:=zN hr (by simp);have h0:=g0 _ rfl;have h1:=g1 1 _ (by omega) rfl;have h2:=g1 2 _ (by omega) rfl;have h3:=g1 3 _ (by omega) rfl;have e1:bits .and .u8 x 7=x%8:=u8_and7 _ hx.1 (by omega);have e2:bits .and .u8 y 63=y%64:=u8_and63 _ hy.1 (by omega);have e3:bits .and .u8 z 63=z%64:=u8_and63 _ hz.1 (by omega);have e4:bits .and .u8 u 63=u%64:=u8_and63 _ hu.1 (by omega);have f1:wrap64 (x%8)=x%8:=w64 (by omega) (by omega);have f2:wrap64 (y%64)=y%64:=w64 (by omega) (by omega);have f3:wrap64 (z%64)=z%64:=w64 (by omega) (by omega);have f4:wrap64 (u%64)=u%64:=w64 (by omega) (by omega);have k1:wrap64 (x%8*262144)=x%8*262144:=w64 (by omega) (by omega);have k2:wrap64 (y%64*4096)=y%64*4096:=w64 (by omega) (by omega);have k3:wrap64 (z%64*64)=z%64*64:=w64 (by omega) (by omega);have o1:bits .or .i64 (x%8*262144) (y%64*4096)=x%8*262144+y%64*4096:=or64 18 (by omega) (by omega) (by omega) (by omega) (by omega) (by omega);have o2:bits .or .i64 (x%8*262144+y%64*4096) (z%64*64)=x%8*262144+y%64*4096+z%64*64:=or64 12 (by omega) (by omega) (by omega) (by omega) (by omega) (by omega);have o3:bits .or .i64 (x%8*262144+y%64*4096+z%64*64) (u%64)=x%8*262144+y%64*4096+z%64*64+u%64:=or64 6 (by omega) (by omega) (by omega) (by omega) (by omega) (by omega);clear g0 g1 hr hx hy hz hu;go_enter Tryz.func199,Tryz.ntmps199;go_wp2
 go_quiet (fail)
 go_wp2
 go_ret
 exact⟨rfl,_,rfl⟩
theorem QJ(A:Option Addr)(c:Nat)(x y z:Int)(w:World)(hr:Kd.C (Kd.int .u8) w A 3 [x,y,z])(hx:0<=x/\x<=255)(hy:0<=y/\y<=255)(hz:0<=z/\z<=255):Calls Tryz.prog 199 #[.slice A 3 c] w fun e w'=>e= .returned (.int .i64 (cO [x,y,z]))/\∃m,w'=w.drewN m:=by
 obtain⟨ad,rfl,g0,g1⟩:=zN hr (by simp);have h0:=g0 _ rfl;have h1:=g1 1 _ (by omega) rfl;have h2:=g1 2 _ (by omega) rfl;have e1:bits .and .u8 x 15=x%16:=u8_and15 _ hx.1 (by omega);have e2:bits .and .u8 y 63=y%64:=u8_and63 _ hy.1 (by omega);have e3:bits .and .u8 z 63=z%64:=u8_and63 _ hz.1 (by omega);have f1:wrap64 (x%16)=x%16:=w64 (by omega) (by omega);have f2:wrap64 (y%64)=y%64:=w64 (by omega) (by omega);have f3:wrap64 (z%64)=z%64:=w64 (by omega) (by omega);have k2:wrap64 (x%16*4096)=x%16*4096:=w64 (by omega) (by omega);have k3:wrap64 (y%64*64)=y%64*64:=w64 (by omega) (by omega);have o2:bits .or .i64 (x%16*4096) (y%64*64)=x%16*4096+y%64*64:=or64 12 (by omega) (by omega) (by omega) (by omega) (by omega) (by omega);have o3:bits .or .i64 (x%16*4096+y%64*64) (z%64)=x%16*4096+y%64*64+z%64:=or64 6 (by omega) (by omega) (by omega) (by omega) (by omega) (by omega);clear g0 g1 hr hx hy hz;go_enter Tryz.func199,Tryz.ntmps199;go_wp2
 go_quiet (fail)
 go_wp2
 go_ret
 exact⟨rfl,_,rfl⟩
theorem QK(A:Option Addr)(c:Nat)(x y:Int)(w:World)(hr:Kd.C (Kd.int .u8) w A 2 [x,y])(hx:0<=x/\x<=255)(hy:0<=y/\y<=255):Calls Tryz.prog 199 #[.slice A 2 c] w fun e w'=>e= .returned (.int .i64 (cO [x,y]))/\∃m,w'=w.drewN m:=by
 obtain⟨ad,rfl,g0,g1⟩:=zN hr (by simp);have h0:=g0 _ rfl;have h1:=g1 1 _ (by omega) rfl;have e1:bits .and .u8 x 31=x%32:=u8_and31 _ hx.1 (by omega);have e2:bits .and .u8 y 63=y%64:=u8_and63 _ hy.1 (by omega);have f1:wrap64 (x%32)=x%32:=w64 (by omega) (by omega);have f2:wrap64 (y%64)=y%64:=w64 (by omega) (by omega);have k3:wrap64 (x%32*64)=x%32*64:=w64 (by omega) (by omega);have o3:bits .or .i64 (x%32*64) (y%64)=x%32*64+y%64:=or64 6 (by omega) (by omega) (by omega) (by omega) (by omega) (by omega);clear g0 g1 hr hx hy;go_enter Tryz.func199,Tryz.ntmps199;go_wp2
 go_quiet (fail)
 go_wp2
 go_ret
 exact⟨rfl,_,rfl⟩
theorem QL(A:Option Addr)(c:Nat)(x:Int)(w:World)(hr:Kd.C (Kd.int .u8) w A 1 [x])(hx:0<=x/\x<=255):Calls Tryz.prog 199 #[.slice A 1 c] w fun e w'=>e= .returned (.int .i64 (cO [x]))/\∃m,w'=w.drewN m:=by
 obtain⟨ad,rfl,g0,g1⟩:=zN hr (by simp);have h0:=g0 _ rfl;have f1:IntKind.i64.wrap x=x:=kL (by omega) (by omega);clear g0 g1 hr hx;go_enter Tryz.func199,Tryz.ntmps199;go_wp2
 go_ret
 exact⟨rfl,0,rfl⟩
theorem Uo(A:Option Addr)(c:Nat)(l:List Int)(w:World)(hr:Kd.C (Kd.int .u8) w A l.length l)(hb:∀x∈l,0<=x/\x<=255)(h1:1<=l.length)(h4:l.length<=4):Calls Tryz.prog 199 #[.slice A l.length c] w fun e w'=>e= .returned (.int .i64 (cO l))/\∃m,w'=w.drewN m:=by
 match l,h1,h4 with
 |[x],_,_=>exact QL A c x w hr (hb x (by simp))
 |[x,y],_,_=>exact QK A c x y w hr (hb x (by simp)) (hb y (by simp))
 |[x,y,z],_,_=>exact QJ A c x y z w hr (hb x (by simp)) (hb y (by simp)) (hb z (by simp))
 |[x,y,z,u],_,_=>exact QI A c x y z u w hr (hb x (by simp)) (hb y (by simp)) (hb z (by simp)) (hb u (by simp))
 |[],h,_=>simp at h
 |_::_::_::_::_::_,_,h=>simp at h
theorem mF(W:World)(base:Nat)(xs:List Int)(hb:base<=W.heap.size)(hm:xs.length<=9223372036854775807):OwnB (W.alloc (.cells (xs.map fun x=>Value.int .u8 x).toArray 5)) base (.slice (some ⟨W.heap.size,0,none⟩) xs.length xs.length) xs:=
 Kd.fZ (FW W base 5 .u8 xs hb hm) (fun _ _=>trivial)
def eU(c:Int):List Int:=
 if c<128 then[c]else if c<2048 then[192+c/64,128+c%64]else if c<65536 then[224+c/4096,128+c/64%64,128+c%64]
 else[240+c/262144,128+c/4096%64,128+c/64%64,128+c%64]
theorem Cm{x:Int}(h0:0<=x)(h1:x<2^62):bits .and .i64 x 63=x%64:=and64 6 (by omega) h0 h1
theorem ML(c:Int)(w:World)(h0:0<=c)(h1:c<=1114111):Calls Tryz.prog 198 #[.int .i64 c] w fun e w'=>∃v,e= .returned v/\OwnB w' w.heap.size v (eU c)/\Below w.heap.size w w':=by
 by_cases a1:c<128
 ·have HF:=ah (show eU c=[c]by rw[eU,if_pos a1])
  have d1:decide (c<128)=true:=bZ a1;have e0:IntKind.u8.wrap c=c:=by rw[IntKind.wrap_u8];omega
  have e1:c%256=c:=by omega
  clear h0 h1;go_enter Tryz.func198,Tryz.ntmps198;go_wp2
  go_ret
  exact⟨_,rfl,by rw[HF.out];exact mF w _ [c] (Nat.le_refl _) (by simp),ak (bg _ _) _⟩
 have d1:decide (c<128)=false:=bY a1;have t1:bits .and .i64 c 63=c%64:=Cm h0 (by omega);have t2:bits .and .i64 (c/64) 63=c/64%64:=Cm (by omega) (by omega);have t3:bits .and .i64 (c/4096) 63=c/4096%64:=Cm (by omega) (by omega);have p1:bits .or .i64 128 (c%64)=128+c%64:=or64 6 (by omega) (by omega) (by omega) (by omega) (by omega) (by omega);have p2:bits .or .i64 128 (c/64%64)=128+c/64%64:=or64 6 (by omega) (by omega) (by omega) (by omega) (by omega) (by omega);have p3:bits .or .i64 128 (c/4096%64)=128+c/4096%64:=or64 6 (by omega) (by omega) (by omega) (by omega) (by omega) (by omega);have q1:IntKind.u8.wrap (128+c%64)=128+c%64:=by rw[IntKind.wrap_u8];omega
 have q2:IntKind.u8.wrap (128+c/64%64)=128+c/64%64:=by rw[IntKind.wrap_u8];omega
 have q3:IntKind.u8.wrap (128+c/4096%64)=128+c/4096%64:=by rw[IntKind.wrap_u8];omega
 by_cases a2:c<2048
 ·have HF:=ah (show eU c=[192+c/64,128+c%64]by rw[eU,if_neg a1,if_pos a2])
  have d2:decide (c<2048)=true:=bZ a2;have o1:bits .or .i64 192 (c/64)=192+c/64:=or64 5 (by omega) (by omega) (by omega) (by omega) (by omega) (by omega);have o2:IntKind.u8.wrap (192+c/64)=192+c/64:=by rw[IntKind.wrap_u8];omega
  clear h0 h1;go_enter Tryz.func198,Tryz.ntmps198;go_wp2
  go_ret
  exact⟨_,rfl,by rw[HF.out];exact mF w _ [192+c/64,128+c%64] (Nat.le_refl _) (by simp),ak (bg _ _) _⟩
 have d2:decide (c<2048)=false:=bY a2
 by_cases a3:c<65536
 ·have HF:=ah (show eU c=[224+c/4096,128+c/64%64,128+c%64]by rw[eU,if_neg a1,if_neg a2,if_pos a3])
  have d3:decide (c<65536)=true:=bZ a3;have o1:bits .or .i64 224 (c/4096)=224+c/4096:=or64 4 (by omega) (by omega) (by omega) (by omega) (by omega) (by omega);have o2:IntKind.u8.wrap (224+c/4096)=224+c/4096:=by rw[IntKind.wrap_u8];omega
  clear h0 h1;go_enter Tryz.func198,Tryz.ntmps198;go_wp2
  go_ret
  exact⟨_,rfl,by rw[HF.out];exact mF w _ [224+c/4096,128+c/64%64,128+c%64] (Nat.le_refl _) (by simp),ak (bg _ _) _⟩
 ·have HF:=ah (show eU c=[240+c/262144,128+c/4096%64,128+c/64%64,128+c%64]by rw[eU,if_neg a1,if_neg a2,if_neg a3])
  have d3:decide (c<65536)=false:=bY a3;have o1:bits .or .i64 240 (c/262144)=240+c/262144:=or64 4 (by omega) (by omega) (by omega) (by omega) (by omega) (by omega);have o2:IntKind.u8.wrap (240+c/262144)=240+c/262144:=by rw[IntKind.wrap_u8];omega
  clear h0 h1;go_enter Tryz.func198,Tryz.ntmps198;go_wp2
  go_ret
  exact⟨_,rfl,by rw[HF.out];exact mF w _ [240+c/262144,128+c/4096%64,128+c/64%64,128+c%64] (Nat.le_refl _) (by simp),ak (bg _ _) _⟩
def iO(b:Int):Bool:=decide (b/64=2)
def jy(c:Int)(l:List Int):Int:=l.foldl (fun c b=>c*64+b%64) c
theorem vV(c:Int)(l:List Int)(x:Int):jy c (l++[x])=jy c l*64+x%64:=by simp[jy]
theorem xu(c:Int)(h0:0<=c)(h1:c<32)(l:List Int)(k:Nat)(hk:l.length<=k):0<=jy c l/\jy c l<32*64^k:=by
 induction k generalizing l with
 |zero=>obtain rfl:l=[]:=List.eq_nil_of_length_eq_zero (by omega);simp[jy];omega
 |succ k ih=>
  rcases List.eq_nil_or_concat l with rfl|⟨t,x,rfl⟩
  ·have:(0:Int)<64^(k+1):=Int.pow_pos (by omega)
   constructor
   ·simpa [jy]using h0
   ·simp only[jy,List.foldl_nil];omega
  ·rw[List.concat_eq_append]at hk ⊢
   rw[vV];have:=ih t (by simpa using hk);rw[Int.pow_succ];omega
def dw(b:Int):Nat:=if b<128 then 1 else if 192<=b/\b<224 then 2 else if 224<=b/\b<240 then 3 else if 240<=b/\b<248 then 4 else 0
def lQ(b:Int):Int:=if 192<=b/\b<224 then b%32 else if 224<=b/\b<240 then b%16 else b%8
def dW(l:List Int)(i:Nat):List Int:=(l.take i).drop 1
theorem yU(l:List Int):dW l 1=[]:=by simp[dW]
theorem CB(l:List Int)(i:Nat):(dW l i).length<=i-1:=by simp[dW];omega
theorem CG{l:List Int}{i j:Nat}{x:Int}(h:x∈dW l i)(hij:i<=j):x∈dW l j:=by
 have e:l.take i=(l.take j).take i:=by rw[List.take_take,Nat.min_eq_left hij]
 rw[dW,e,List.drop_take]at h;exact List.mem_of_mem_take h
def fE(n:Nat)(c:Int):Bool:=decide (c<=1114111)&& !(decide (55296<=c)&&decide (c<57344))&&decide ((eU c).length=n)
def aZ(l:List Int):Nat:=
 if l.getD 0 0<128 then 1 else if dw (l.getD 0 0)=0 then 0 else if l.length<dw (l.getD 0 0)then 0
 else if(dW l (dw (l.getD 0 0))).all iO&&fE (dw (l.getD 0 0)) (jy (lQ (l.getD 0 0)) (dW l (dw (l.getD 0 0))))then dw (l.getD 0 0)else 0
theorem gU{l:List Int}{i:Nat}{x:Int}(hx:l[i]? =some x)(hi:1<=i):dW l (i+1)=dW l i++[x]:=by
 unfold dW;obtain⟨hl,rfl⟩:=List.getElem?_eq_some_iff.1 hx;rw[List.take_succ_eq_append_getElem hl,List.drop_append_of_le_length (by simp;omega)]
theorem Jc(A:Option Addr)(c:Nat)(b:Int)(t:List Int)(w:World)(hr:Kd.C (Kd.int .u8) w A (b::t).length (b::t))(hb:∀x∈b::t,0<=x/\x<=255)(h1:192<=b/\b<224)(hlen:(b::t).length<=140737488355328):
 Calls Tryz.prog 171 #[.slice A (b::t).length c] w fun e w'=>e= .returned (.int .i64 (aZ (b::t)))/\Below w.heap.size w w':=by
 obtain⟨ad,rfl,g0,g1⟩:=zN hr (by simp);have q0:=g0 _ rfl;clear g0 g1;have HR:=ah hr;have XU:=ah hb;have hN:dw b=2:=by unfold dw;repeat(first|rw[if_pos (by omega)]|rw[if_neg (by omega)])
 have hC:lQ b=b%32:=by unfold lQ;repeat(first|rw[if_pos (by omega)]|rw[if_neg (by omega)])
 have hS:aZ (b::t)=if(b::t).length<2 then 0 else if(dW (b::t) 2).all iO&&fE 2 (jy (b%32) (dW (b::t) 2))then 2 else 0:=by
  unfold aZ;rw[show(b::t).getD 0 0=b from rfl,if_neg (by omega),hN,if_neg (by omega),hC]
 have HS:=ah hS;have c0:0<=b%32/\b%32<32:=by omega
 have e1:bits .and .i64 b 31=b%32:=and64 5 (by omega) (by omega) (by omega);have e2:IntKind.i64.wrap b=b:=kL (by omega) (by omega);have e3:wrap64 b=b:=w64 (by omega) (by omega);obtain⟨L,hL⟩:∃L,L=b::t:=⟨_,rfl⟩
 have d0:decide (b<128)=false:=bY (by omega);have d1:decide (192<=b)=true:=bZ (by omega);have d2:decide (b<224)=true:=bZ (by omega);have hLp:0<L.length:=by rw[hL];simp
 have hLi:(0:Int)<(L.length:Int):=by omega
 rw[<-hL]at HR XU HS hlen ⊢;clear hr hb hN hC hS h1 hL
 by_cases hl:L.length<2
 ·have HF:=ah (show aZ L=0 by rw[HS.out,if_pos hl])
  have l1:decide (((L.length:Nat):Int)<2)=true:=bZ (by omega);clear hl;go_enter Tryz.func171,Tryz.ntmps171;go_wp2
  go_quiet (fail)
  go_wp2
  go_ret
  exact⟨by rw[HF.out];rfl,aS (bg _ _) _⟩
 have HL:=ah hl;have l1:decide (((L.length:Nat):Int)<2)=false:=bY (by omega);have HM:=ah (show aZ L=if(dW L 2).all iO&&fE 2 (jy (b%32) (dW L 2))then 2 else 0 by rw[HS.out,if_neg hl]);clear hl HS;go_enter Tryz.func171,Tryz.ntmps171;go_wp2
 go_quiet (fail)
 go_wp2
 go_loopg [4,5] 1 (fun g v4 v5 w'=>∃i:Nat,v5= .int .i64 i/\i+g=2/\1<=i/\v4= .int .i64 (jy (b%32) (dW L i))/\aC ((dW L i).all iO=true)/\aC (∃m,w'=w.drewN m))
 case atStart=>exact⟨1,rfl,by omega,by omega,by rw[yU];rfl,⟨by rw[yU];rfl⟩,⟨⟨_,rfl⟩⟩⟩
 case round=>
  obtain⟨i,rfl,hg,hi1,rfl,HA,HW⟩:=hrel;obtain⟨m,hm⟩:=HW.out;have tK:=ah (show Below w.heap.size w wr by rw[hm];exact aS (bg _ _) _);have hacc:=xu (b%32) c0.1 c0.2 (dW L i) 3 (by have:=CB L i;omega)
  by_cases hlt:i<2
  ·have hil:i<L.length:=by have:=HL.out;omega
   obtain⟨x,hx⟩:=bF hil;have hxr:=XU.out x (List.mem_of_getElem? hx.out);obtain⟨ad2,e0,q1⟩:=iD (Kd.aU HR.out tK.out) hx.out;cases e0;clear hm;obtain⟨a,ha⟩:∃a,a=jy (b%32) (dW L i):=⟨_,rfl⟩
   rw[<-ha]at hacc ⊢;have HAa:=ah ha;clear ha;have k1:bits .and .u8 x 63=x%64:=u8_and63 _ hxr.1 (by omega);have k2:wrap64 (a*64)=a*64:=w64 (by omega) (by omega);have k2':IntKind.i64.wrap (a*64)=a*64:=kL (by omega) (by omega);have k3:IntKind.i64.wrap (x%64)=x%64:=kL (by omega) (by omega);have k4:bits .or .i64 (a*64) (x%64)=a*64+x%64:=or64 6 (by omega) (by omega) (by omega) (by omega) (by omega) (by omega);have k5:IntKind.i64.wrap ((i:Int)+1)=(i:Int)+1:=kL (by omega) (by omega);have i0:(0:Int)<=(i:Int):=by omega
   have i1:(i:Int)<(L.length:Int):=by omega
   have HAc:=ah (show jy (b%32) (dW L (i+1))=a*64+x%64 by rw[gU hx.out hi1,vV,HAa.out])
   by_cases hx2:x/64=2
   ·have x2:(x/64 !=2)=false:=Ef hx2
    have x3:(x/64==2)=true:=kZ hx2;have HA2:=ah (show(dW L (i+1)).all iO=true by rw[gU hx.out hi1,List.all_append,HA.out];simp[iO,hx2]);go_wp2;obtain⟨g',rfl⟩:∃g',gk=g'+1:=⟨gk-1,by omega⟩
    go_roundg g'
    case measure=>omega
    case rel=>exact⟨i+1,by go_num,by omega,by omega,by rw[HAc.out],HA2,HW⟩
   ·have x2:(x/64 !=2)=true:=Ci hx2
    have x3:(x/64==2)=false:=eqF hx2
    have HF:=ah (show aZ L=0 by
     rw[HM.out,if_neg];rw[List.all_eq_false.2 ⟨x,CG (i:=i+1) (by rw[gU hx.out hi1];simp) (by omega),by simp[iO,hx2]⟩];simp)
    go_wp2
    go_ret
    exact⟨by rw[HF.out];rfl,tK.out⟩
  ·obtain rfl:i=2:=by omega
   obtain⟨a,ha⟩:∃a,a=jy (b%32) (dW L 2):=⟨_,rfl⟩
   rw[<-ha]at hacc ⊢;have HK:=ah (show aZ L=if fE 2 a then 2 else 0 by rw[HM.out,HA.out,ha,Bool.true_and]);clear ha HM hm
   by_cases r1:a<=1114111
   ·have r2:decide (1114111<a)=false:=bY (by omega)
    have Jd:=fun W=>ML a W hacc.1 r1
    have HU:=ah Jd;clear Jd;cases r6:decide (55296<=a)<;>cases r7:decide (a<57344)
    case true.true=>
     have HF:=ah (show aZ L=0 by rw[HK.out,if_neg (by simp[fE,r6,r7])]);go_wp2
     go_ret
     exact⟨by rw[HF.out];rfl,tK.out⟩
    all_goals
     by_cases r5:(eU a).length=2
     ·have HF:=ah (show aZ L=2 by rw[HK.out,if_pos (by simp[fE,r1,r6,r7,r5])])
      go_wp2_with (go_at_call 198;(with_reducible refine(HU.out _).mono ?_);rintro e w1⟨v,rfl,ho,hb⟩;obtain⟨A1,c1,rfl⟩:=Kd.fC ho;rw[r5];have Hb1:=ah hb;clear hb)
      go_ret
      exact⟨by rw[HF.out];rfl,au tK.out Hb1.out⟩
     ·have HF:=ah (show aZ L=0 by rw[HK.out,if_neg (by simp[fE,r5])])
      have r8:(((eU a).length:Nat):Int)≠2:=by omega
      have r9:((((eU a).length:Nat):Int)!=2)=true:=Ci r8;have r10:((((eU a).length:Nat):Int)==2)=false:=eqF r8
      go_wp2_with (go_at_call 198;(with_reducible refine(HU.out _).mono ?_);rintro e w1⟨v,rfl,ho,hb⟩;obtain⟨A1,c1,rfl⟩:=Kd.fC ho;have Hb1:=ah hb;clear hb)
      go_ret
      exact⟨by rw[HF.out];rfl,au tK.out Hb1.out⟩
   ·have r2:decide (1114111<a)=true:=bZ (by omega)
    have HF:=ah (show aZ L=0 by rw[HK.out,if_neg (by simp[fE,r1])]);go_wp2
    go_ret
    exact⟨by rw[HF.out];rfl,tK.out⟩
theorem Je(A:Option Addr)(c:Nat)(b:Int)(t:List Int)(w:World)(hr:Kd.C (Kd.int .u8) w A (b::t).length (b::t))(hb:∀x∈b::t,0<=x/\x<=255)(h1:224<=b/\b<240)(hlen:(b::t).length<=140737488355328):
 Calls Tryz.prog 171 #[.slice A (b::t).length c] w fun e w'=>e= .returned (.int .i64 (aZ (b::t)))/\Below w.heap.size w w':=by
 obtain⟨ad,rfl,g0,g1⟩:=zN hr (by simp);have q0:=g0 _ rfl;clear g0 g1;have HR:=ah hr;have XU:=ah hb;have hN:dw b=3:=by unfold dw;repeat(first|rw[if_pos (by omega)]|rw[if_neg (by omega)])
 have hC:lQ b=b%16:=by unfold lQ;repeat(first|rw[if_pos (by omega)]|rw[if_neg (by omega)])
 have hS:aZ (b::t)=if(b::t).length<3 then 0 else if(dW (b::t) 3).all iO&&fE 3 (jy (b%16) (dW (b::t) 3))then 3 else 0:=by
  unfold aZ;rw[show(b::t).getD 0 0=b from rfl,if_neg (by omega),hN,if_neg (by omega),hC]
 have HS:=ah hS;have c0:0<=b%16/\b%16<32:=by omega
 have e1:bits .and .i64 b 15=b%16:=and64 4 (by omega) (by omega) (by omega);have e2:IntKind.i64.wrap b=b:=kL (by omega) (by omega);have e3:wrap64 b=b:=w64 (by omega) (by omega);obtain⟨L,hL⟩:∃L,L=b::t:=⟨_,rfl⟩
 have d0:decide (b<128)=false:=bY (by omega);have d1:decide (192<=b)=true:=bZ (by omega);have d2:decide (b<224)=false:=bY (by omega);have d3:decide (224<=b)=true:=bZ (by omega);have d4:decide (b<240)=true:=bZ (by omega);have hLp:0<L.length:=by rw[hL];simp
 have hLi:(0:Int)<(L.length:Int):=by omega
 rw[<-hL]at HR XU HS hlen ⊢;clear hr hb hN hC hS h1 hL
 by_cases hl:L.length<3
 ·have HF:=ah (show aZ L=0 by rw[HS.out,if_pos hl])
  have l1:decide (((L.length:Nat):Int)<3)=true:=bZ (by omega);clear hl;go_enter Tryz.func171,Tryz.ntmps171;go_wp2
  go_quiet (fail)
  go_wp2
  go_ret
  exact⟨by rw[HF.out];rfl,aS (bg _ _) _⟩
 have HL:=ah hl;have l1:decide (((L.length:Nat):Int)<3)=false:=bY (by omega);have HM:=ah (show aZ L=if(dW L 3).all iO&&fE 3 (jy (b%16) (dW L 3))then 3 else 0 by rw[HS.out,if_neg hl]);clear hl HS;go_enter Tryz.func171,Tryz.ntmps171;go_wp2
 go_quiet (fail)
 go_wp2
 go_loopg [4,5] 2 (fun g v4 v5 w'=>∃i:Nat,v5= .int .i64 i/\i+g=3/\1<=i/\v4= .int .i64 (jy (b%16) (dW L i))/\aC ((dW L i).all iO=true)/\aC (∃m,w'=w.drewN m))
 case atStart=>exact⟨1,rfl,by omega,by omega,by rw[yU];rfl,⟨by rw[yU];rfl⟩,⟨⟨_,rfl⟩⟩⟩
 case round=>
  obtain⟨i,rfl,hg,hi1,rfl,HA,HW⟩:=hrel;obtain⟨m,hm⟩:=HW.out;have tK:=ah (show Below w.heap.size w wr by rw[hm];exact aS (bg _ _) _);have hacc:=xu (b%16) c0.1 c0.2 (dW L i) 3 (by have:=CB L i;omega)
  by_cases hlt:i<3
  ·have hil:i<L.length:=by have:=HL.out;omega
   obtain⟨x,hx⟩:=bF hil;have hxr:=XU.out x (List.mem_of_getElem? hx.out);obtain⟨ad2,e0,q1⟩:=iD (Kd.aU HR.out tK.out) hx.out;cases e0;clear hm;obtain⟨a,ha⟩:∃a,a=jy (b%16) (dW L i):=⟨_,rfl⟩
   rw[<-ha]at hacc ⊢;have HAa:=ah ha;clear ha;have k1:bits .and .u8 x 63=x%64:=u8_and63 _ hxr.1 (by omega);have k2:wrap64 (a*64)=a*64:=w64 (by omega) (by omega);have k2':IntKind.i64.wrap (a*64)=a*64:=kL (by omega) (by omega);have k3:IntKind.i64.wrap (x%64)=x%64:=kL (by omega) (by omega);have k4:bits .or .i64 (a*64) (x%64)=a*64+x%64:=or64 6 (by omega) (by omega) (by omega) (by omega) (by omega) (by omega);have k5:IntKind.i64.wrap ((i:Int)+1)=(i:Int)+1:=kL (by omega) (by omega);have i0:(0:Int)<=(i:Int):=by omega
   have i1:(i:Int)<(L.length:Int):=by omega
   have HAc:=ah (show jy (b%16) (dW L (i+1))=a*64+x%64 by rw[gU hx.out hi1,vV,HAa.out])
   by_cases hx2:x/64=2
   ·have x2:(x/64 !=2)=false:=Ef hx2
    have x3:(x/64==2)=true:=kZ hx2;have HA2:=ah (show(dW L (i+1)).all iO=true by rw[gU hx.out hi1,List.all_append,HA.out];simp[iO,hx2]);go_wp2;obtain⟨g',rfl⟩:∃g',gk=g'+1:=⟨gk-1,by omega⟩
    go_roundg g'
    case measure=>omega
    case rel=>exact⟨i+1,by go_num,by omega,by omega,by rw[HAc.out],HA2,HW⟩
   ·have x2:(x/64 !=2)=true:=Ci hx2
    have x3:(x/64==2)=false:=eqF hx2
    have HF:=ah (show aZ L=0 by
     rw[HM.out,if_neg];rw[List.all_eq_false.2 ⟨x,CG (i:=i+1) (by rw[gU hx.out hi1];simp) (by omega),by simp[iO,hx2]⟩];simp)
    go_wp2
    go_ret
    exact⟨by rw[HF.out];rfl,tK.out⟩
  ·obtain rfl:i=3:=by omega
   obtain⟨a,ha⟩:∃a,a=jy (b%16) (dW L 3):=⟨_,rfl⟩
   rw[<-ha]at hacc ⊢;have HK:=ah (show aZ L=if fE 3 a then 3 else 0 by rw[HM.out,HA.out,ha,Bool.true_and]);clear ha HM hm
   by_cases r1:a<=1114111
   ·have r2:decide (1114111<a)=false:=bY (by omega)
    have Jd:=fun W=>ML a W hacc.1 r1
    have HU:=ah Jd;clear Jd;cases r6:decide (55296<=a)<;>cases r7:decide (a<57344)
    case true.true=>
     have HF:=ah (show aZ L=0 by rw[HK.out,if_neg (by simp[fE,r6,r7])]);go_wp2
     go_ret
     exact⟨by rw[HF.out];rfl,tK.out⟩
    all_goals
     by_cases r5:(eU a).length=3
     ·have HF:=ah (show aZ L=3 by rw[HK.out,if_pos (by simp[fE,r1,r6,r7,r5])])
      go_wp2_with (go_at_call 198;(with_reducible refine(HU.out _).mono ?_);rintro e w1⟨v,rfl,ho,hb⟩;obtain⟨A1,c1,rfl⟩:=Kd.fC ho;rw[r5];have Hb1:=ah hb;clear hb)
      go_ret
      exact⟨by rw[HF.out];rfl,au tK.out Hb1.out⟩
     ·have HF:=ah (show aZ L=0 by rw[HK.out,if_neg (by simp[fE,r5])])
      have r8:(((eU a).length:Nat):Int)≠3:=by omega
      have r9:((((eU a).length:Nat):Int)!=3)=true:=Ci r8;have r10:((((eU a).length:Nat):Int)==3)=false:=eqF r8
      go_wp2_with (go_at_call 198;(with_reducible refine(HU.out _).mono ?_);rintro e w1⟨v,rfl,ho,hb⟩;obtain⟨A1,c1,rfl⟩:=Kd.fC ho;have Hb1:=ah hb;clear hb)
      go_ret
      exact⟨by rw[HF.out];rfl,au tK.out Hb1.out⟩
   ·have r2:decide (1114111<a)=true:=bZ (by omega)
    have HF:=ah (show aZ L=0 by rw[HK.out,if_neg (by simp[fE,r1])]);go_wp2
    go_ret
    exact⟨by rw[HF.out];rfl,tK.out⟩
theorem Jf(A:Option Addr)(c:Nat)(b:Int)(t:List Int)(w:World)(hr:Kd.C (Kd.int .u8) w A (b::t).length (b::t))(hb:∀x∈b::t,0<=x/\x<=255)(h1:240<=b/\b<248)(hlen:(b::t).length<=140737488355328):
 Calls Tryz.prog 171 #[.slice A (b::t).length c] w fun e w'=>e= .returned (.int .i64 (aZ (b::t)))/\Below w.heap.size w w':=by
 obtain⟨ad,rfl,g0,g1⟩:=zN hr (by simp);have q0:=g0 _ rfl;clear g0 g1;have HR:=ah hr;have XU:=ah hb;have hN:dw b=4:=by unfold dw;repeat(first|rw[if_pos (by omega)]|rw[if_neg (by omega)])
 have hC:lQ b=b%8:=by unfold lQ;repeat(first|rw[if_pos (by omega)]|rw[if_neg (by omega)])
 have hS:aZ (b::t)=if(b::t).length<4 then 0 else if(dW (b::t) 4).all iO&&fE 4 (jy (b%8) (dW (b::t) 4))then 4 else 0:=by
  unfold aZ;rw[show(b::t).getD 0 0=b from rfl,if_neg (by omega),hN,if_neg (by omega),hC]
 have HS:=ah hS;have c0:0<=b%8/\b%8<32:=by omega
 have e1:bits .and .i64 b 7=b%8:=and64 3 (by omega) (by omega) (by omega);have e2:IntKind.i64.wrap b=b:=kL (by omega) (by omega);have e3:wrap64 b=b:=w64 (by omega) (by omega);obtain⟨L,hL⟩:∃L,L=b::t:=⟨_,rfl⟩
 have d0:decide (b<128)=false:=bY (by omega);have d1:decide (192<=b)=true:=bZ (by omega);have d2:decide (b<224)=false:=bY (by omega);have d3:decide (224<=b)=true:=bZ (by omega);have d4:decide (b<240)=false:=bY (by omega);have d5:decide (240<=b)=true:=bZ (by omega);have d6:decide (b<248)=true:=bZ (by omega);have hLp:0<L.length:=by rw[hL];simp
 have hLi:(0:Int)<(L.length:Int):=by omega
 rw[<-hL]at HR XU HS hlen ⊢;clear hr hb hN hC hS h1 hL
 by_cases hl:L.length<4
 ·have HF:=ah (show aZ L=0 by rw[HS.out,if_pos hl])
  have l1:decide (((L.length:Nat):Int)<4)=true:=bZ (by omega);clear hl;go_enter Tryz.func171,Tryz.ntmps171;go_wp2
  go_quiet (fail)
  go_wp2
  go_ret
  exact⟨by rw[HF.out];rfl,aS (bg _ _) _⟩
 have HL:=ah hl;have l1:decide (((L.length:Nat):Int)<4)=false:=bY (by omega);have HM:=ah (show aZ L=if(dW L 4).all iO&&fE 4 (jy (b%8) (dW L 4))then 4 else 0 by rw[HS.out,if_neg hl]);clear hl HS;go_enter Tryz.func171,Tryz.ntmps171;go_wp2
 go_quiet (fail)
 go_wp2
 go_loopg [4,5] 3 (fun g v4 v5 w'=>∃i:Nat,v5= .int .i64 i/\i+g=4/\1<=i/\v4= .int .i64 (jy (b%8) (dW L i))/\aC ((dW L i).all iO=true)/\aC (∃m,w'=w.drewN m))
 case atStart=>exact⟨1,rfl,by omega,by omega,by rw[yU];rfl,⟨by rw[yU];rfl⟩,⟨⟨_,rfl⟩⟩⟩
 case round=>
  obtain⟨i,rfl,hg,hi1,rfl,HA,HW⟩:=hrel;obtain⟨m,hm⟩:=HW.out;have tK:=ah (show Below w.heap.size w wr by rw[hm];exact aS (bg _ _) _);have hacc:=xu (b%8) c0.1 c0.2 (dW L i) 3 (by have:=CB L i;omega)
  by_cases hlt:i<4
  ·have hil:i<L.length:=by have:=HL.out;omega
   obtain⟨x,hx⟩:=bF hil;have hxr:=XU.out x (List.mem_of_getElem? hx.out);obtain⟨ad2,e0,q1⟩:=iD (Kd.aU HR.out tK.out) hx.out;cases e0;clear hm;obtain⟨a,ha⟩:∃a,a=jy (b%8) (dW L i):=⟨_,rfl⟩
   rw[<-ha]at hacc ⊢;have HAa:=ah ha;clear ha;have k1:bits .and .u8 x 63=x%64:=u8_and63 _ hxr.1 (by omega);have k2:wrap64 (a*64)=a*64:=w64 (by omega) (by omega);have k2':IntKind.i64.wrap (a*64)=a*64:=kL (by omega) (by omega);have k3:IntKind.i64.wrap (x%64)=x%64:=kL (by omega) (by omega);have k4:bits .or .i64 (a*64) (x%64)=a*64+x%64:=or64 6 (by omega) (by omega) (by omega) (by omega) (by omega) (by omega);have k5:IntKind.i64.wrap ((i:Int)+1)=(i:Int)+1:=kL (by omega) (by omega);have i0:(0:Int)<=(i:Int):=by omega
   have i1:(i:Int)<(L.length:Int):=by omega
   have HAc:=ah (show jy (b%8) (dW L (i+1))=a*64+x%64 by rw[gU hx.out hi1,vV,HAa.out])
   by_cases hx2:x/64=2
   ·have x2:(x/64 !=2)=false:=Ef hx2
    have x3:(x/64==2)=true:=kZ hx2;have HA2:=ah (show(dW L (i+1)).all iO=true by rw[gU hx.out hi1,List.all_append,HA.out];simp[iO,hx2]);go_wp2;obtain⟨g',rfl⟩:∃g',gk=g'+1:=⟨gk-1,by omega⟩
    go_roundg g'
    case measure=>omega
    case rel=>exact⟨i+1,by go_num,by omega,by omega,by rw[HAc.out],HA2,HW⟩
   ·have x2:(x/64 !=2)=true:=Ci hx2
    have x3:(x/64==2)=false:=eqF hx2
    have HF:=ah (show aZ L=0 by
     rw[HM.out,if_neg];rw[List.all_eq_false.2 ⟨x,CG (i:=i+1) (by rw[gU hx.out hi1];simp) (by omega),by simp[iO,hx2]⟩];simp)
    go_wp2
    go_ret
    exact⟨by rw[HF.out];rfl,tK.out⟩
  ·obtain rfl:i=4:=by omega
   obtain⟨a,ha⟩:∃a,a=jy (b%8) (dW L 4):=⟨_,rfl⟩
   rw[<-ha]at hacc ⊢;have HK:=ah (show aZ L=if fE 4 a then 4 else 0 by rw[HM.out,HA.out,ha,Bool.true_and]);clear ha HM hm
   by_cases r1:a<=1114111
   ·have r2:decide (1114111<a)=false:=bY (by omega)
    have Jd:=fun W=>ML a W hacc.1 r1
    have HU:=ah Jd;clear Jd;cases r6:decide (55296<=a)<;>cases r7:decide (a<57344)
    case true.true=>
     have HF:=ah (show aZ L=0 by rw[HK.out,if_neg (by simp[fE,r6,r7])]);go_wp2
     go_ret
     exact⟨by rw[HF.out];rfl,tK.out⟩
    all_goals
     by_cases r5:(eU a).length=4
     ·have HF:=ah (show aZ L=4 by rw[HK.out,if_pos (by simp[fE,r1,r6,r7,r5])])
      go_wp2_with (go_at_call 198;(with_reducible refine(HU.out _).mono ?_);rintro e w1⟨v,rfl,ho,hb⟩;obtain⟨A1,c1,rfl⟩:=Kd.fC ho;rw[r5];have Hb1:=ah hb;clear hb)
      go_ret
      exact⟨by rw[HF.out];rfl,au tK.out Hb1.out⟩
     ·have HF:=ah (show aZ L=0 by rw[HK.out,if_neg (by simp[fE,r5])])
      have r8:(((eU a).length:Nat):Int)≠4:=by omega
      have r9:((((eU a).length:Nat):Int)!=4)=true:=Ci r8;have r10:((((eU a).length:Nat):Int)==4)=false:=eqF r8
      go_wp2_with (go_at_call 198;(with_reducible refine(HU.out _).mono ?_);rintro e w1⟨v,rfl,ho,hb⟩;obtain⟨A1,c1,rfl⟩:=Kd.fC ho;have Hb1:=ah hb;clear hb)
      go_ret
      exact⟨by rw[HF.out];rfl,au tK.out Hb1.out⟩
   ·have r2:decide (1114111<a)=true:=bZ (by omega)
    have HF:=ah (show aZ L=0 by rw[HK.out,if_neg (by simp[fE,r1])]);go_wp2
    go_ret
    exact⟨by rw[HF.out];rfl,tK.out⟩
theorem zO(A:Option Addr)(c:Nat)(b:Int)(t:List Int)(w:World)(hr:Kd.C (Kd.int .u8) w A (b::t).length (b::t))(hb:0<=b/\b<=255)(h1:b<192∨248<=b):
 Calls Tryz.prog 171 #[.slice A (b::t).length c] w fun e w'=>e= .returned (.int .i64 (aZ (b::t)))/\Below w.heap.size w w':=by
 obtain⟨ad,rfl,g0,g1⟩:=zN hr (by simp);have q0:=g0 _ rfl;clear g0 g1;have hLi:(0:Int)<((b::t).length:Int):=by simp
 have e2:IntKind.i64.wrap b=b:=kL (by omega) (by omega);have e3:wrap64 b=b:=w64 (by omega) (by omega);obtain⟨n,hn⟩:∃n,n=(b::t).length:=⟨_,rfl⟩
 by_cases h128:b<128
 ·have HF:=ah (show aZ (b::t)=1 by unfold aZ;rw[show(b::t).getD 0 0=b from rfl,if_pos h128])
  have d0:decide (b<128)=true:=bZ h128;rw[<-hn]at hLi ⊢;clear hr hb h1 hn;go_enter Tryz.func171,Tryz.ntmps171;go_wp2
  go_quiet (fail)
  go_wp2
  go_ret
  exact⟨by rw[HF.out];rfl,aS (bg _ _) _⟩
 ·have hN:dw b=0:=by unfold dw;repeat(first|rw[if_pos (by omega)]|rw[if_neg (by omega)])
  have HF:=ah (show aZ (b::t)=0 by unfold aZ;rw[show(b::t).getD 0 0=b from rfl,if_neg h128,hN,if_pos rfl]);have d0:decide (b<128)=false:=bY h128;rw[<-hn]at hLi ⊢;clear hn
  by_cases h192:b<192
  ·have d1:decide (192<=b)=false:=bY (by omega)
   have d3:decide (224<=b)=false:=bY (by omega);have d5:decide (240<=b)=false:=bY (by omega);clear hr hb h1 hN;go_enter Tryz.func171,Tryz.ntmps171;go_wp2
   go_quiet (fail)
   go_wp2
   go_ret
   exact⟨by rw[HF.out];rfl,aS (bg _ _) _⟩
  ·have d1:decide (192<=b)=true:=bZ (by omega)
   have d2:decide (b<224)=false:=bY (by omega);have d3:decide (224<=b)=true:=bZ (by omega);have d4:decide (b<240)=false:=bY (by omega);have d5:decide (240<=b)=true:=bZ (by omega);have d6:decide (b<248)=false:=bY (by omega);clear hr hb h1 hN;go_enter Tryz.func171,Tryz.ntmps171;go_wp2
   go_quiet (fail)
   go_wp2
   go_ret
   exact⟨by rw[HF.out];rfl,aS (bg _ _) _⟩
theorem MN(A:Option Addr)(c:Nat)(l:List Int)(w:World)(hr:Kd.C (Kd.int .u8) w A l.length l)(hb:∀x∈l,0<=x/\x<=255)(hp:l≠[])(hlen:l.length<=140737488355328):
 Calls Tryz.prog 171 #[.slice A l.length c] w fun e w'=>e= .returned (.int .i64 (aZ l))/\Below w.heap.size w w':=by
 obtain⟨b,t,rfl⟩:=List.exists_cons_of_ne_nil hp;have h0:=hb b (by simp)
 by_cases h1:b<192
 ·exact zO A c b t w hr h0 (.inl h1)
 by_cases h2:b<224
 ·exact Jc A c b t w hr hb ⟨by omega,h2⟩ hlen
 by_cases h3:b<240
 ·exact Je A c b t w hr hb ⟨by omega,h3⟩ hlen
 by_cases h4:b<248
 ·exact Jf A c b t w hr hb ⟨by omega,h4⟩ hlen
 ·exact zO A c b t w hr h0 (.inr (by omega))
abbrev RdB(w:World)(A:Option Addr)(n:Nat)(l:List Int):Prop:=Kd.C (Kd.int .u8) w A n l
theorem Gx:∃i,Tryz.prog.info? 5=some i/\i.size=1:=by
 obtain⟨i0,hi,hzz⟩:=Option.map_eq_some_iff.1 uS;simp only[Prod.mk.injEq]at hzz;exact⟨i0,hi,hzz.2.1⟩
theorem jF(A:Option Addr)(n c m:Nat)(hm:m<=n)(hc:n<=c):
 ∃A',(∀W:World,(Instr.slice 27 (.slice A n c) (some (.int .i64 (m:Int))) none none).run Tryz.prog W= .ok (.slice A' (n-m) (c-m)) W)/\∀w l,RdB w A n l->RdB w A' (n-m) (l.drop m):=by
 obtain⟨i,hi,hs⟩:=Gx;refine⟨_,fun W=>TY (P:=Tryz.prog) 27 5 .i64 Tryz.underlying27 hi 1 hs A n c (m:Int) (by omega) (by omega) W,fun w l h=>?_⟩;have hl:=Kd.dG h;subst hl;have:=Kd.Gi h hm hc;rw[List.length_drop]at this;have e:(Kd.int .u8).sz=1:=rfl
 simpa [e]using this
theorem jZ(A:Option Addr)(n c m:Nat)(hm:m<=n)(hc:n<=c):
 (∀W:World,(Instr.slice 27 (.slice A n c) none (some (.int .i64 (m:Int))) none).run Tryz.prog W= .ok (.slice A m c) W)/\∀w l,RdB w A n l->RdB w A m (l.take m):=by
 obtain⟨i,hi,hs⟩:=Gx;refine⟨fun W=>?_,fun w l h=>?_⟩
 ·have:=Gg (P:=Tryz.prog) 27 5 .i64 Tryz.underlying27 hi A n c (m:Int) (by omega) (by omega) hc W
  simpa using this
 ·have hl:=Kd.dG h
  subst hl;have:=Kd.BP h hm;rw[List.length_take,Nat.min_eq_left hm]at this;exact this
theorem CJ(A:Option Addr)(c n:Nat)(l:List Int)(w:World)(hr:RdB w A n l)(hb:∀x∈l,0<=x/\x<=255)(hp:0<n)(hlen:n<=140737488355328):
 Calls Tryz.prog 171 #[.slice A n c] w fun e w'=>e= .returned (.int .i64 (aZ l))/\Below w.heap.size w w':=by
 obtain rfl:=Kd.dG hr;exact MN A c l w hr hb (by rintro rfl;simp at hp) hlen
theorem CO(l:List Int)(hp:l≠[]):aZ l<=l.length/\aZ l<=4:=by
 have h1:0<l.length:=List.length_pos_iff.2 hp;have h4:dw (l.getD 0 0)<=4:=by unfold dw;split<;>(try split)<;>(try split)<;>(try split)<;>omega
 unfold aZ
 split
 ·omega
 ·split
  ·omega
  ·split
   ·omega
   ·split<;>omega
def dh(l:List Int):Bool:=if h:l=[]then true else if h2:aZ l=0 then false else dh (l.drop (aZ l))
termination_by l.length
decreasing_by have:0<l.length:=List.length_pos_iff.2 h;simp;omega
theorem yV{l:List Int}(h:l≠[])(h0:aZ l=0):dh l=false:=by rw[dh,dif_neg h,dif_pos h0]
theorem uU{l:List Int}(h:l≠[])(h0:¬aZ l=0):dh l=dh (l.drop (aZ l)):=by rw[dh,dif_neg h,dif_neg h0]
theorem Jg(A:Option Addr)(c n:Nat)(l:List Int)(w:World)(hr:RdB w A n l)(hb:∀x∈l,0<=x/\x<=255)(hc:n<=c)(hlen:n<=140737488355328):
 Calls Tryz.prog 170 #[.slice A n c] w fun e w'=>e= .returned (.bool (dh l))/\Below w.heap.size w w':=by
 have HL:=ah (Kd.dG hr);have HR:=ah hr;have XU:=ah hb;clear hr hb;go_enter Tryz.func170,Tryz.ntmps170;go_wp2
 go_loopg [3] n (fun g v3 w'=>∃i:Nat,v3= .int .i64 i/\i<=n/\n-i<=g/\aC (dh l=dh (l.drop i))/\aC (Below w.heap.size w w'))
 case atStart=>exact⟨0,rfl,by omega,by omega,⟨by simp⟩,⟨bg _ _⟩⟩
 case round=>
  obtain⟨i,rfl,hi,hg,HV,HB⟩:=hrel
  by_cases hlt:i<n
  ·obtain⟨A',hcut,hA'⟩:=jF A n c i hi hc
   have HR2:=ah (hA' _ _ (Kd.aU HR.out HB.out));clear hA'
   have hne:l.drop i≠[]:=by
    intro h;have:=congrArg List.length h;rw[List.length_drop,HL.out]at this;simp at this;omega
   have hsz:=CO (l.drop i) hne;rw[List.length_drop,HL.out]at hsz;have HC:=ah (CJ A' (c-i) (n-i) (l.drop i) wr HR2.out (fun x hx=>XU.out x (List.mem_of_mem_drop hx)) (by omega) (by omega));obtain⟨s,hs⟩:∃s,s=aZ (l.drop i):=⟨_,rfl⟩
   rw[<-hs]at HC hsz
   by_cases h0:s=0
   ·have HF:=ah (show dh l=false by rw[HV.out,yV hne (by omega)])
    subst h0;clear hs hne
    go_wp2_with (go_at_call 171;(with_reducible refine HC.out.mono ?_);rintro e w1⟨rfl,hb⟩;have Hb1:=ah hb;clear hb)
    go_ret
    exact⟨by rw[HF.out];rfl,au HB.out Hb1.out⟩
   ·have HV2:=ah (show dh l=dh (l.drop (i+s))by rw[HV.out,uU hne (by omega),List.drop_drop,<-hs])
    have s0:((s:Int)==0)=false:=eqF (by omega);have w1:IntKind.i64.wrap ((i:Int)+(s:Int))=(i:Int)+(s:Int):=kL (by omega) (by omega);clear hs hne
    go_wp2_with (go_at_call 171;(with_reducible refine HC.out.mono ?_);rintro e w1⟨rfl,hb⟩;have Hb1:=ah hb;clear hb)
    obtain⟨g',rfl⟩:∃g',gk=g'+1:=⟨gk-1,by omega⟩
    go_roundg g'
    case measure=>omega
    case rel=>exact⟨i+s,by go_num,by omega,by omega,HV2,⟨au HB.out Hb1.out⟩⟩
  ·have HF:=ah (show dh l=true by rw[HV.out,List.drop_eq_nil_of_le (by rw[HL.out];omega),dh,dif_pos rfl])
   go_wp2
   go_ret
   exact⟨by rw[HF.out];rfl,HB.out⟩
end Go.Proofs.YtapkmjfjikpnlaaGreatDoor
