/- A part of FnMsgJsonMeans. No conditions. -/
import Derived.Test.YtapkmjfjikpnlaaGreatDoorM18
set_option maxHeartbeats 8000000
set_option maxRecDepth 100000
namespace Go.Proofs.YtapkmjfjikpnlaaGreatDoor
open Go.RowKit YtapkmjfjikpnlaaGreatDoorW.aG YtapkmjfjikpnlaaGreatDoorW.aJ
set_option linter.unusedVariables false
set_option linter.unusedSimpArgs false
theorem Vp(t e:TypeId)(k:IntKind){i:TypeInfo}(ht:Tryz.prog.underlying t=some (.slice e))(hi:Tryz.prog.info? e=some i)(A:Option Addr)(n c:Nat)(j:Int)(h0:0<=j)(hm:j<=c)(W:World):
 (Instr.slice t (.slice A n c) none (some (.int k j)) (some (.int k j))).run Tryz.prog W= .ok (.slice A j.toNat j.toNat) W:=by
 have hel:Tryz.prog.elem t=e:=by simp[Program.elem,ht]
 have hu:Tryz.prog.underlying t=some (.slice (Tryz.prog.elem t)):=by rw[hel];exact ht
 have ha:(A.map fun x=>x.add 0)=A:=by cases A<;>simp[Addr.add]
 have ej:(j.toNat:Int)=j:=Int.toNat_of_nonneg h0
 have hb:(Instr.sliceBounds true n c none (some (.int k j)) (some (.int k j))).run Tryz.prog W= .ok (0,j.toNat,j.toNat) W:=by
  simp[Instr.sliceBounds,run_sliceBound, *]
 rw[run_slice_any W t A n c hu,hb,hel];simp[sizeOf,typeInfo,hi,sliced,Result.andThen,ha]
theorem JH.len{a b:List Int}(h:JH a b):b.length<=a.length:=by
 have hu:∀c:Int,(eU c).length<=4:=fun c=>by
  unfold eU
  repeat' split
  all_goals simp
 cases h with
 |plain _ _=>omega
 |short _=>simp
 |esc _ _ _ _=>have:=hu ‹_›;simp only[List.length_cons];rename_i h4;have:=h4.1;omega
 |pair _ _ _ _=>have:=hu ‹_›;simp only[List.length_append,List.length_cons];omega
theorem yK.len{r m:List Int}(h:yK r m):m.length<=r.length:=by
 induction h with
 |nil=>exact Nat.le_refl _
 |cons u _ ih=>have:=u.len;rw[List.length_append,List.length_append];omega
theorem YW(w0 w:World)(m rest:List Int)(n0 k:Nat)(hP:PsC w0 m rest n0 k)(g:Nat)(A0:Option Addr)(c0:Nat)(dv v1 v9:Value)(hR:PsR w0 w m rest v1 v9 g){u2 u3 u4 u5 u6 u8 u10 u11 u12 u13 u14 u15 u16 u17 u18 u19 u20 u21 u22 u23 u24 u25 u26 u27 u28 u29 u30 u31 u32 u33 u34 u35 u36 u37 u38 u39 u40 u41 u42 u43 u44 u45 u46 u47 u48 u49 u50 u51 u52 u53 u54 u55 u56 u57 u58 u59 u60 u61 u62 u63 u64 u65 u66 u67 u68 u69 u70 u71 u72 u73 u74 u75 u76 u77 u78 u79 u80 u81 u82 u83 u84 u85 u86 u87 u88 u89 u90 u91 u92 u93 u94 u95 u96 u97 u98 u99 u100 u101 u102 u103 u104 u105 u106 u107 u108 u109 u110 u111 u112 u113 u114 u115 u116 u117 u118 u119 u120 u121 u122 u123 u124 u125 u126 u127 u128 u129 u130 u131 u132 u133 u134 u135 u136 u137 u138 u139 u140 u141 u142 u143 u144 u145 u146 u147 u148 u149 u150 u151 u152 u153 u154 u155 u156 u157 u158 u159 u160 u161 u162 u163 u164 u165 u166 u167 u168 u169 u170 u171 u172 u173 u174 u175 u176 u177 u178 u179 u180 u181 u182 u183 u184 u185 u186 u187 u188 u189 u190 u191 u192 u193 u194 u195 u196 u197 u198 u199 u200 u201 u202 u203 u204 u205 u206 u207 u208 u209 u210 u211 u212 u213 u214 u215 u216 u217 u218 u219 u220 u221 u222 u223 u224 u225 u226 u227 u228 u229 u230 u231 u232 u233 u234 u235 u236 u237 u238 u239 u240 u241 u242 u243 u244 u245 u246 u247:Value}:
 Nz.wp Tryz.prog (bodyPost Tryz.prog Tryz.f144 (fun e w'=>e= .returned (.tuple #[.string (str m),.int .i64 k,.nilIface])/\Below w0.heap.size w0 w')) {tmps:=List.toArray ((dv)::(v1)::u2::u3::u4::u5::u6::(.slice A0 n0 c0)::u8::(v9)::u10::u11::u12::u13::u14::u15::u16::u17::u18::u19::u20::u21::u22::u23::u24::u25::u26::u27::u28::u29::u30::u31::u32::u33::u34::u35::u36::u37::u38::u39::u40::u41::u42::u43::u44::u45::u46::u47::u48::u49::u50::u51::u52::u53::u54::u55::u56::u57::u58::u59::u60::u61::u62::u63::u64::u65::u66::u67::u68::u69::u70::u71::u72::u73::u74::u75::u76::u77::u78::u79::u80::u81::u82::u83::u84::u85::u86::u87::u88::u89::u90::u91::u92::u93::u94::u95::u96::u97::u98::u99::u100::u101::u102::u103::u104::u105::u106::u107::u108::u109::u110::u111::u112::u113::u114::u115::u116::u117::u118::u119::u120::u121::u122::u123::u124::u125::u126::u127::u128::u129::u130::u131::u132::u133::u134::u135::u136::u137::u138::u139::u140::u141::u142::u143::u144::u145::u146::u147::u148::u149::u150::u151::u152::u153::u154::u155::u156::u157::u158::u159::u160::u161::u162::u163::u164::u165::u166::u167::u168::u169::u170::u171::u172::u173::u174::u175::u176::u177::u178::u179::u180::u181::u182::u183::u184::u185::u186::u187::u188::u189::u190::u191::u192::u193::u194::u195::u196::u197::u198::u199::u200::u201::u202::u203::u204::u205::u206::u207::u208::u209::u210::u211::u212::u213::u214::u215::u216::u217::u218::u219::u220::u221::u222::u223::u224::u225::u226::u227::u228::u229::u230::u231::u232::u233::u234::u235::u236::u237::u238::u239::u240::u241::u242::u243::u244::u245::u246::u247::[]),defers:=[]} w:=by
 have HP:=ah hP;have HR:=ah hR;clear hP hR;generalize hQ:bodyPost Tryz.prog Tryz.f144 (fun e w'=>e= .returned (.tuple #[.string (str m),.int .i64 k,.nilIface])/\Below w0.heap.size w0 w')=Q;dsimp only[Nz,dF,sq2,Tryz.f144];subst hQ;go_wp2
 go_loopg [1,9] g (fun g v1 v9 w'=>aC (PsR w0 w' m rest v1 v9 g))
 case atStart=>exact HR
 case round=>
  rename_i J K hJ hK;obtain⟨r',m',d,A,c,rfl,hcp,hrd,hq,hd,ho,hB⟩:=hrel.out;clear hrel HR;cases hq with
  |nil=>
   refine wp_mono (Vm w0 wr m rest n0 k HP.out A gk c A0 c0 dv u9 d hcp ho hB K hrd (by rw[List.append_nil]at hd;exact hd) trivial) ?_;intro e a' w' h;cases e
   all_goals(first|exact h|exact absurd h (by simp[Exit.then,bodyPost]))
  | @cons a b r m2 u hq=>
    cases u with
    |plain hch hnp=>
     refine wp_mono (Vo w0 wr m rest n0 k HP.out A gk c A0 c0 dv u9 m2 d hcp ho hB K (fun v1' v9' g' w' hlt hR=>by refine hK _ _ ?_;go_roundg g';(case measure=>exact hlt);(case rel=>exact⟨hR⟩)) _ r hrd hch hnp hq hd trivial) ?_;intro e a' w' h;cases e
     all_goals(first|exact h|exact absurd h (by simp[Exit.then,bodyPost]))
    | @esc x h h0 h1 h2 hh=>
      have uJ:RdB w0 A gk (92::117::(h++(r++34::rest))):=by simpa using hrd
      refine wp_mono (abI w0 wr m rest n0 k HP.out A gk c A0 c0 dv u9 m2 d hcp ho hB K (fun v1' v9' g' w' hlt hR=>by refine hK _ _ ?_;go_roundg g';(case measure=>exact hlt);(case rel=>exact⟨hR⟩)) h r x uJ h0 h1 h2 hh hq hd trivial) ?_;intro e a' w' h;cases e
      all_goals(first|exact h|exact absurd h (by simp[Exit.then,bodyPost]))
    | @pair x h h' h0 h1 hh hh'=>
      have uJ:RdB w0 A gk (92::117::(h++(92::117::(h'++(r++34::rest))))):=by simpa using hrd
      refine wp_mono (YV w0 wr m rest n0 k HP.out A gk c A0 c0 dv u9 m2 d hcp ho hB K (fun v1' v9' g' w' hlt hR=>by refine hK _ _ ?_;go_roundg g';(case measure=>exact hlt);(case rel=>exact⟨hR⟩)) h h' r x uJ h0 h1 hh hh' hq hd trivial) ?_;intro e a' w' h;cases e
      all_goals(first|exact h|exact absurd h (by simp[Exit.then,bodyPost]))
    | @short x hx=>
      have hcase:x=34∨x=92∨x=47∨x=8∨x=12∨x=10∨x=13∨x=9:=by
       by_cases h:x=34∨x=92∨x=47∨x=8∨x=12∨x=10∨x=13∨x=9
       ·exact h
       ·exact absurd (vY h) hx
      rcases hcase with rfl|rfl|rfl|rfl|rfl|rfl|rfl|rfl
      ·refine wp_mono (abB w0 wr m rest n0 k HP.out A gk c A0 c0 dv u9 m2 d hcp ho hB K (fun v1' v9' g' w' hlt hR=>by refine hK _ _ ?_;go_roundg g';(case measure=>exact hlt);(case rel=>exact⟨hR⟩)) r hrd hq hd trivial) ?_
       intro e a' w' h;cases e
       all_goals(first|exact h|exact absurd h (by simp[Exit.then,bodyPost]))
      ·refine wp_mono (abC w0 wr m rest n0 k HP.out A gk c A0 c0 dv u9 m2 d hcp ho hB K (fun v1' v9' g' w' hlt hR=>by refine hK _ _ ?_;go_roundg g';(case measure=>exact hlt);(case rel=>exact⟨hR⟩)) r hrd hq hd trivial) ?_
       intro e a' w' h;cases e
       all_goals(first|exact h|exact absurd h (by simp[Exit.then,bodyPost]))
      ·refine wp_mono (abD w0 wr m rest n0 k HP.out A gk c A0 c0 dv u9 m2 d hcp ho hB K (fun v1' v9' g' w' hlt hR=>by refine hK _ _ ?_;go_roundg g';(case measure=>exact hlt);(case rel=>exact⟨hR⟩)) r hrd hq hd trivial) ?_
       intro e a' w' h;cases e
       all_goals(first|exact h|exact absurd h (by simp[Exit.then,bodyPost]))
      ·refine wp_mono (aeG w0 wr m rest n0 k HP.out A gk c A0 c0 dv u9 m2 d hcp ho hB K (fun v1' v9' g' w' hlt hR=>by refine hK _ _ ?_;go_roundg g';(case measure=>exact hlt);(case rel=>exact⟨hR⟩)) r hrd hq hd trivial) ?_
       intro e a' w' h;cases e
       all_goals(first|exact h|exact absurd h (by simp[Exit.then,bodyPost]))
      ·refine wp_mono (abE w0 wr m rest n0 k HP.out A gk c A0 c0 dv u9 m2 d hcp ho hB K (fun v1' v9' g' w' hlt hR=>by refine hK _ _ ?_;go_roundg g';(case measure=>exact hlt);(case rel=>exact⟨hR⟩)) r hrd hq hd trivial) ?_
       intro e a' w' h;cases e
       all_goals(first|exact h|exact absurd h (by simp[Exit.then,bodyPost]))
      ·refine wp_mono (abG w0 wr m rest n0 k HP.out A gk c A0 c0 dv u9 m2 d hcp ho hB K (fun v1' v9' g' w' hlt hR=>by refine hK _ _ ?_;go_roundg g';(case measure=>exact hlt);(case rel=>exact⟨hR⟩)) r hrd hq hd trivial) ?_
       intro e a' w' h;cases e
       all_goals(first|exact h|exact absurd h (by simp[Exit.then,bodyPost]))
      ·refine wp_mono (abH w0 wr m rest n0 k HP.out A gk c A0 c0 dv u9 m2 d hcp ho hB K (fun v1' v9' g' w' hlt hR=>by refine hK _ _ ?_;go_roundg g';(case measure=>exact hlt);(case rel=>exact⟨hR⟩)) r hrd hq hd trivial) ?_
       intro e a' w' h;cases e
       all_goals(first|exact h|exact absurd h (by simp[Exit.then,bodyPost]))
      ·refine wp_mono (aeH w0 wr m rest n0 k HP.out A gk c A0 c0 dv u9 m2 d hcp ho hB K (fun v1' v9' g' w' hlt hR=>by refine hK _ _ ?_;go_roundg g';(case measure=>exact hlt);(case rel=>exact⟨hR⟩)) r hrd hq hd trivial) ?_
       intro e a' w' h;cases e
       all_goals(first|exact h|exact absurd h (by simp[Exit.then,bodyPost]))
theorem NC(w0 w:World)(dv:Value)(T:List Int)(hT:∀x∈T,0<=x/\x<=255)(hTl:T.length<=1000000000000)(i n:Nat)(A:Option Addr)(c:Nat)(r m rest:List Int)(hI:oO w0 T i n A c)(ht:T.drop i=34::(r++34::rest))(hq:yK r m)(hU:Lib.Utf8Tabs 3 4 w0)(hB:Below w0.heap.size w0 w):
 Calls Tryz.prog 144 #[dv,.slice A n c] w fun e w'=>e= .returned (.tuple #[.string (str m),.int .i64 ((r.length+2:Nat):Int),.nilIface])/\Below w0.heap.size w0 w':=by
 have hx:T[i]? =some 34:=by
  have:(T.drop i)[0]? =some 34:=by rw[ht];rfl
  rwa [List.getElem?_drop]at this
 obtain⟨ad,rfl,hc⟩:=hI.head hx;have c0:=ay hB hc;have h2:(T.drop i).length=n:=by rw[List.length_drop];have:=hI.eq;omega
 rw[ht]at h2;simp only[List.length_cons,List.length_append]at h2;obtain⟨A1,n1,c1,hs1,hI1⟩:=hI.drop (m:=1) (by omega);have mZ:∀x∈rest,0<=x/\x<=255:=fun x hx=>hT x (List.mem_of_mem_drop (i:=i) (by rw[ht];simp[hx]))
 have ht1:T.drop (i+1)=r++34::rest:=by rw[<-List.drop_drop,ht];rfl
 obtain⟨y,r2,m2,e1,e2,hq2,he,hX⟩:=Ve rest mZ hq;have hX0:=hX [] (by simp);simp only[List.nil_append,List.length_nil,Nat.zero_add]at hX0;have hrd1:=hI1.rd;have hcap1:=hI1.cap;rw[ht1]at hrd1;have hlen1:(r++34::rest).length=n1:=by rw[<-ht1,List.length_drop];have:=hI1.eq;omega
 have HN:=ah (fun W(hW:Below w0.heap.size w0 W)=>PO A1 n1 c1 (r++34::rest) W (Kd.aU hrd1 hW) y.length hX0 (by rw[bV,e1];simp;omega) (by rw[Bf _ (fun x hx=>hT x (List.mem_of_mem_drop (i:=i+1) (by rw[ht1];exact hx))),e1,List.append_assoc,List.drop_left];exact he));have hyn:y.length<=n1:=by rw[<-hlen1,e1];simp only[List.length_append,List.length_cons];omega
 obtain⟨A2,n2,c2,hs2,hI2⟩:=hI1.drop (m:=y.length) hyn;have HB:=ah hB;have hcap2:=hI2.cap;have hdr:T.drop (i+1+y.length)=r2++34::rest:=by rw[<-List.drop_drop,ht1,e1,List.append_assoc,List.drop_left]
 have hr2:=hI2.rd;rw[hdr]at hr2;have hml:=hq.len;have HPc:=ah (show PsC w0 m rest n (r.length+2)from⟨hU,mZ,by omega,by have:=hI.eq;omega,by omega⟩)
 have HR:=ah (fun(w':World)(hb:Below w0.heap.size w0 w')=>show PsR w0 w' m rest (.slice A2 n2 c2) (.slice A1 y.length y.length) n2 from⟨r2,m2,y,A2,c2,rfl,hcap2,hr2,hq2,e2.symm,.inr ⟨A1,y.length,rfl,by
  have:=(jZ A1 n1 c1 y.length hyn hcap1).2 w0 _ hrd1
  rwa [e1,List.append_assoc,List.take_left]at this⟩,hb⟩)
 have d1:((n:Int)==0)=false:=eqF (by omega);have d2:(0:Int)<(n:Int):=by omega
 have d3:0<n:=by omega
 obtain⟨ib,hib,hib2⟩:=Gx
 have hs3:∀W:World,(Instr.slice 27 (.slice A1 n1 c1) none (some (.int .i64 (y.length:Int))) (some (.int .i64 (y.length:Int)))).run Tryz.prog W= .ok (.slice A1 y.length y.length) W:=fun W=>by
  have:=Vp 27 5 .i64 Tryz.underlying27 hib A1 n1 c1 (y.length:Int) (by omega) (by omega) W
  simpa using this
 have hs1':∀W:World,(Instr.slice 27 (.slice (some ad) n c) (some (.int .i64 1)) none none).run Tryz.prog W= .ok (.slice A1 n1 c1) W:=hs1
 obtain⟨K,hK⟩:∃K:Nat,K=r.length+2:=⟨_,rfl⟩
 rw[<-hK]at HPc ⊢;clear hib hib2 hs1 hI hI1 hI2 hrd1 hr2 hml hdr hX hX0 he e1 e2 hq hq2 hT hTl ht ht1 h2 hx hc hlen1 hyn hcap1 hcap2 hU hB mZ hK;go_enter Tryz.func144,Tryz.ntmps144
 go_wp2_with (go_at_call 176;(with_reducible refine(HN.out _ HB.out).mono ?_);rintro e w1⟨rfl,hb⟩;have HB1:=ah (au HB.out hb);clear hb)
 go_quiet (fail)
 go_step
 go_step
 refine YW w0 _ m rest n K HPc.out n2 (some ad) c _ _ _ (HR.out _ ?_);exact au HB1.out (aS (bg _ _) _)
def fU(alt:Bool)(v:Int):Int:=if v<26 then 65+v else if v<52 then 71+v else if v<62 then v-4 else if v=62 then(if alt then 45 else 43)else(if alt then 95 else 47)
def b64(alt:Bool):List Int->List Int
 |[]=>[]
 |[x]=>[fU alt (x/4),fU alt (x%4*16)]
 |[x,y]=>[fU alt (x/4),fU alt (x%4*16+y/16),fU alt (y%16*4)]
 |x::y::z::l=>fU alt (x/4)::fU alt (x%4*16+y/16)::fU alt (y%16*4+z/64)::fU alt (z%64)::b64 alt l
def Dc(alt:Bool):ByteArray:=if alt then⟨#[65,66,67,68,69,70,71,72,73,74,75,76,77,78,79,80,81,82,83,84,85,86,87,88,89,90,97,98,99,100,101,102,103,104,105,106,107,108,109,110,111,112,113,114,115,116,117,118,119,120,121,122,48,49,50,51,52,53,54,55,56,57,45,95]⟩else⟨#[65,66,67,68,69,70,71,72,73,74,75,76,77,78,79,80,81,82,83,84,85,86,87,88,89,90,97,98,99,100,101,102,103,104,105,106,107,108,109,110,111,112,113,114,115,116,117,118,119,120,121,122,48,49,50,51,52,53,54,55,56,57,43,47]⟩
theorem JO(alt:Bool):(Dc alt).size=64:=by cases alt<;>rfl
theorem wC(alt:Bool){d:Int}(h0:0<=d)(h1:d<64):bt (Dc alt) d=fU alt d:=by
 obtain⟨n,rfl⟩:=Int.eq_ofNat_of_zero_le h0;have hn:n<64:=by omega
 have:∀a:Bool,∀k:Fin 64,bt (Dc a) ((k.val:Nat):Int)=fU a ((k.val:Nat):Int):=by decide
 exact this alt ⟨n,hn⟩
theorem Bj(alt:Bool):∀l:List Int,(b64 alt l).length<=2*l.length/\(b64 alt l).length=l.length+(l.length+2)/3
 |[]=>by simp[b64]
 |[x]=>by simp[b64]
 |[x,y]=>by simp[b64]
 |x::y::z::l=>by
  have:=Bj alt l;simp only[b64,List.length_cons];omega
def cv(l:List Int)(k:Nat):Int:=match k with
 |0=>0
 |1=>l.getD 0 0
 |2=>l.getD 0 0*256+l.getD 1 0
 |_=>(l.getD 0 0*256+l.getD 1 0)*256+l.getD 2 0
def ch4(alt:Bool)(l:List Int)(k:Nat):Int:=fU alt (cv l 3/2^(18-6*k)%64)
theorem Vq(alt:Bool)(l:List Int)(h:l≠[])(hb:∀x∈l,0<=x/\x<=255):b64 alt l=(List.range (min 3 l.length+1)).map (ch4 alt l)++b64 alt (l.drop 3):=by
 match l,h with
 |[x],_=>
  have hx:=hb x (by simp);have e0:ch4 alt [x] 0=fU alt (x/4):=by unfold ch4 cv;congr 1;simp;omega
  have e1:ch4 alt [x] 1=fU alt (x%4*16):=by unfold ch4 cv;congr 1;simp;omega
  show _=[ch4 alt [x] 0,ch4 alt [x] 1]++b64 alt [];rw[e0,e1];rfl
 |[x,y],_=>
  have hx:=hb x (by simp);have hy:=hb y (by simp);have e0:ch4 alt [x,y] 0=fU alt (x/4):=by unfold ch4 cv;congr 1;simp;omega
  have e1:ch4 alt [x,y] 1=fU alt (x%4*16+y/16):=by unfold ch4 cv;congr 1;simp;omega
  have e2:ch4 alt [x,y] 2=fU alt (y%16*4):=by unfold ch4 cv;congr 1;simp;omega
  show _=[ch4 alt [x,y] 0,ch4 alt [x,y] 1,ch4 alt [x,y] 2]++b64 alt [];rw[e0,e1,e2];rfl
 |x::y::z::l,_=>
  have hx:=hb x (by simp);have hy:=hb y (by simp);have hz:=hb z (by simp);have e0:ch4 alt (x::y::z::l) 0=fU alt (x/4):=by unfold ch4 cv;congr 1;simp;omega
  have e1:ch4 alt (x::y::z::l) 1=fU alt (x%4*16+y/16):=by unfold ch4 cv;congr 1;simp;omega
  have e2:ch4 alt (x::y::z::l) 2=fU alt (y%16*4+z/64):=by unfold ch4 cv;congr 1;simp;omega
  have e3:ch4 alt (x::y::z::l) 3=fU alt (z%64):=by unfold ch4 cv;congr 1;simp;omega
  have em:min 3 (x::y::z::l).length+1=4:=by simp
  rw[em];show _=[ch4 alt (x::y::z::l) 0,ch4 alt (x::y::z::l) 1,ch4 alt (x::y::z::l) 2,ch4 alt (x::y::z::l) 3]++b64 alt l;rw[e0,e1,e2,e3];rfl
def zV(x s:ByteArray):Prop:=∃alt,x=str (b64 alt (bytesOf s))∨x=str (b64 alt (bytesOf s)++List.replicate ((4-(b64 alt (bytesOf s)).length%4)%4) 61)
theorem jQ(alt:Bool){v:Int}(h0:0<=v)(h1:v<64):fU alt v≠61:=by
 unfold fU;cases alt<;>simp<;>(repeat' split)<;>omega
theorem JQ(alt:Bool):∀l:List Int,(∀x∈l,0<=x/\x<=255)->∀c∈b64 alt l,c≠61
 |[],_,c,hc=>absurd hc List.not_mem_nil
 |[x],h,c,hc=>by
  have hx:=h x (by simp);rcases List.mem_cons.1 hc with rfl|hc
  ·exact jQ alt (by omega) (by omega)
  ·rw[List.mem_singleton.1 hc];exact jQ alt (by omega) (by omega)
 |[x,y],h,c,hc=>by
  have hx:=h x (by simp);have hy:=h y (by simp);rcases List.mem_cons.1 hc with rfl|hc
  ·exact jQ alt (by omega) (by omega)
  rcases List.mem_cons.1 hc with rfl|hc
  ·exact jQ alt (by omega) (by omega)
  ·rw[List.mem_singleton.1 hc];exact jQ alt (by omega) (by omega)
 |x::y::z::l,h,c,hc=>by
  have hx:=h x (by simp);have hy:=h y (by simp);have hz:=h z (by simp);rcases List.mem_cons.1 hc with rfl|hc
  ·exact jQ alt (by omega) (by omega)
  rcases List.mem_cons.1 hc with rfl|hc
  ·exact jQ alt (by omega) (by omega)
  rcases List.mem_cons.1 hc with rfl|hc
  ·exact jQ alt (by omega) (by omega)
  rcases List.mem_cons.1 hc with rfl|hc
  ·exact jQ alt (by omega) (by omega)
  ·exact JQ alt l (fun x hx=>h x (by simp[hx])) c hc
theorem yt{l:List Int}(hl:∀x∈l,0<=x/\x<=255):∀i,0<=l.getD i 0/\l.getD i 0<=255:=by
 intro i;rw[List.getD_eq_getElem?_getD];cases h:l[i]? with
 |none=>simp
 |some x=>exact hl x (List.mem_of_getElem? h)
theorem aau{l:List Int}(hl:∀x∈l,0<=x/\x<=255)(k:Nat):0<=cv l k/\cv l k<16777216:=by
 have h0:=yt hl 0;have h1:=yt hl 1;have h2:=yt hl 2;unfold cv
 split<;>omega
theorem YX(l:List Int){k:Nat}(h:k<3):cv l (k+1)=cv l k*256+l.getD k 0:=by
 match k,h with
 |0,_=>show l.getD 0 0=0*256+l.getD 0 0;omega
 |1,_=>rfl
 |2,_=>rfl
theorem getD_drop(s:ByteArray)(i k:Nat):((bytesOf s).drop i).getD k 0=bt s ((i+k:Nat):Int):=by
 rw[<-lu s ((i+k:Nat):Int)];simp only[rd,Int.toNat_natCast,List.getD_eq_getElem?_getD,List.getElem?_drop]
theorem min3(m:Int)(h:0<=m)(ats:Array TypeId)(ty:TypeId):Builtin.min_ ats ty #[.int .i64 3,.int .i64 m]=pure (.int .i64 ((min 3 m.toNat:Nat):Int)):=by
 rw[Pn,IU]
 by_cases h2:m<3
 ·rw[if_pos h2,show((min 3 m.toNat:Nat):Int)=m by omega];rfl
 ·rw[if_neg h2,show((min 3 m.toNat:Nat):Int)=3 by omega];rfl
theorem and63{x:Int}(h0:0<=x)(h1:x<2^62):bits .and .i64 x 63=x%64:=and64 6 (by omega) h0 h1
theorem Vr(w0 W:World)(p:Nat)(P:List Int)(a:Nat)(vb vl:Value)(s:ByteArray)(hs:s.size<=1000000)(hP:qE P)(ha:a+8<=281474976710656)(hj:JW w0 W p P a vb vl)(hB:Below w0.heap.size w0 W):
 Calls Tryz.prog 96 #[.pointer (some ⟨p,0,none⟩),.string s] W fun e w'=>∃x,e= .returned (.string x)/\(zV x s/\x.size<=2*s.size+4)/\WK w0 W w' p P a 2 vb vl:=by
 have HK0:=ah (WK.mk0 hj hB);have HW0:=ah hB.size;have LV:=ah (fun(k:Nat)(wx:World)(m:Int)(hm:0<m)(hk:k<=7)(h:WK w0 W wx p P a k vb vl)=>MZ w0 W wx p P a k vb vl m hm hP (by omega) h);have IY:=ah (gV s);have ND:=ah (bytesOf_length s);clear hj hB hP ha;go_enter Tryz.func96,Tryz.ntmps96
 go_upto_if 14 with(go_at_call 43;(with_reducible refine(LV.out 0 _ 2 (by decide) (by omega) HK0.out).mono ?_);rintro e w1⟨v,rfl,hv,hk,hr,hb⟩;have HK1:=ah hk;clear hk hr hb)
 go_cut [5] (fun s5 wx=>∃alt:Bool,s5= .string (Dc alt)/\aC (WK w0 W wx p P a 1 vb vl))
 case first=>
  rcases two hv with rfl|rfl
  ·go_wp2
   go_meet
   exact⟨false,rfl,HK1⟩
  ·go_wp2
   go_meet
   exact⟨true,rfl,HK1⟩
 case rest=>
  obtain⟨alt,rfl,HK2⟩:=hcut;obtain⟨Bs,hBs⟩:∃Bs,Bs=bytesOf s:=⟨_,rfl⟩
  have wH:=ah hBs;obtain⟨SB,hSB⟩:∃SB,SB=Dc alt:=⟨_,rfl⟩
  have ajE:SB.size=64:=by rw[hSB];exact JO alt
  have HSB:=ah hSB;rw[<-hSB];clear hBs hSB;go_wp2
  go_loopg [6,7,8,9,10,11] s.size (fun g v6 v7 v8 v9 v10 v11 w'=>∃(i:Nat)(out:List Int),v7= .int .i64 i/\g=s.size-i/\i<=s.size+2/\aC (out++b64 alt (Bs.drop i)=b64 alt Bs)/\aC (OwnB w' W.heap.size v6 out)/\aC (WK w0 W w' p P a 1 vb vl))
  case atStart=>exact⟨0,[],rfl,rfl,by omega,⟨rfl⟩,⟨Kd.mP _ _ _ _ _⟩,HK2⟩
  case round=>
   obtain⟨i,out,rfl,hg,hi,HE,HO,HK⟩:=hrel
   by_cases hlt:i<s.size
   ·obtain⟨wo,rfl⟩:∃wo:World,wo=wr:=⟨_,rfl⟩
    obtain⟨go,rfl⟩:∃go:Nat,go=gk:=⟨_,rfl⟩
    obtain⟨l,hl⟩:∃l,l=Bs.drop i:=⟨_,rfl⟩
    have hll:l.length=s.size-i:=by rw[hl,wH.out,List.length_drop,ND.out]
    have hlr:∀x∈l,0<=x/\x<=255:=fun x hx=>IY.out x (by rw[hl,wH.out]at hx;exact List.mem_of_mem_drop hx)
    have HLr:=ah hlr;have HLb:=ah (show∀k,l.getD k 0=bt s ((i+k:Nat):Int)by intro k;rw[hl,wH.out];exact getD_drop s i k)
    have wQ:=ah (show b64 alt (Bs.drop i)=(List.range (min 3 l.length+1)).map (ch4 alt l)++b64 alt (Bs.drop (i+3))by
     rw[<-hl,Vq alt l (by intro e;rw[e]at hll;simp at hll;omega) hlr,hl,List.drop_drop])
    obtain⟨n,hn⟩:∃n,n=min 3 l.length:=⟨_,rfl⟩
    rw[<-hn]at wQ;have hn3:n<=3:=by omega
    have hin:i+n<=s.size:=by omega
    have wsub:IntKind.i64.wrap ((s.size:Int)-i)=((s.size-i:Nat):Int):=by rw[IntKind.wrap_i64];omega
    have hmin:=min3 ((s.size-i:Nat):Int) (by omega);rw[Int.toNat_natCast,show min 3 (s.size-i)=n by omega]at hmin;have d0:decide ((i:Int)<(s.size:Int))=true:=bZ (by omega);have w3:IntKind.i64.wrap ((i:Int)+3)=(i:Int)+3:=by rw[IntKind.wrap_i64];omega
    have hol:=ah (show out.length<=3000000 by
     have h1:=congrArg List.length HE.out;have h2:=(Bj alt Bs).1;rw[List.length_append]at h1;have h3:Bs.length=s.size:=by rw[wH.out];exact ND.out
     omega)
    have yu:=ah hn;clear hl hn hlr;go_wp2
    go_loopg [9,10] 3 (fun g v9 v10 w'=>∃k:Nat,v10= .int .i64 k/\k+g=3/\v9= .int .i64 (cv l k)/\wo=w')
    case atStart=>exact⟨0,rfl,rfl,rfl,rfl⟩
    case round=>
     obtain⟨k,rfl,hk,rfl,rfl⟩:=hrel
     by_cases hk3:k<3
     ·have hcl:=aau HLr.out k
      have hst:=YX l hk3;have hgd:=yt HLr.out k;obtain⟨X,hX⟩:∃X,X=cv l k:=⟨_,rfl⟩
      obtain⟨y,hy⟩:∃y,y=l.getD k 0:=⟨_,rfl⟩
      rw[<-hX]at hcl hst ⊢;rw[<-hy]at hst hgd;have HX1:=ah hst;have d1:decide ((k:Int)<3)=true:=bZ (by omega);have s1:shl .i64 X 8=X*256:=by show IntKind.i64.wrap (X*256)=_;rw[IntKind.wrap_i64];omega
      have s2:wrap64 (X*256)=X*256:=by unfold wrap64;omega
      have s3:IntKind.i64.wrap (X*256)=X*256:=by rw[IntKind.wrap_i64];omega
      have w4:IntKind.i64.wrap ((k:Int)+1)=(k:Int)+1:=by rw[IntKind.wrap_i64];omega
      obtain⟨g',rfl⟩:∃g',gk=g'+1:=⟨gk-1,by omega⟩
      by_cases hkn:k<n
      ·have d2:decide ((k:Int)<(n:Int))=true:=bZ (by omega)
       have hb:=jX s ((i+k:Nat):Int);rw[Int.toNat_natCast,<-HLb.out k,<-hy]at hb;have w5:IntKind.i64.wrap ((i:Int)+(k:Int))=((i+k:Nat):Int):=by rw[IntKind.wrap_i64];omega
       have w6:IntKind.i64.wrap y=y:=by rw[IntKind.wrap_i64];omega
       have i0:(0:Int)<=((i+k:Nat):Int):=by omega
       have i1:((i+k:Nat):Int)<(s.size:Int):=by omega
       have i2:i+k<s.size:=by omega
       have o1:bits .or .i64 (X*256) y=X*256+y:=or64 8 (by omega) (by omega) (by omega) (by omega) (by omega) (by omega);clear hX hy hst hcl hgd;go_wp2
       go_roundg g'
       case measure=>omega
       case rel=>exact⟨k+1,by go_num,by omega,by rw[HX1.out],rfl⟩
      ·have d2:decide ((k:Int)<(n:Int))=false:=bY (by omega)
       have HX2:=ah (show cv l (k+1)=X*256 by
        have:y=0:=by rw[hy,List.getD_eq_getElem?_getD,List.getElem?_eq_none (by have:=yu.out;omega)];rfl
        rw[HX1.out,this,Int.add_zero])
       clear hX hy hst hcl hgd;go_wp2
       go_roundg g'
       case measure=>omega
       case rel=>exact⟨k+1,by go_num,by omega,by rw[HX2.out],rfl⟩
     ·obtain rfl:k=3:=by omega
      have hcl:=aau HLr.out 3;obtain⟨X,hX⟩:∃X,X=cv l 3:=⟨_,rfl⟩
      have HX:=ah hX;rw[<-hX]at hcl ⊢;clear hX;go_wp2
      go_loopg [6,11] (n+1) (fun g v6 v11 w'=>∃(k:Nat),v11= .int .i64 k/\k+g=n+1/\aC (OwnB w' W.heap.size v6 (out++(List.range k).map (ch4 alt l)))/\aC (WK w0 W w' p P a 1 vb vl))
      case atStart=>exact⟨0,rfl,by omega,⟨by simpa using HO.out⟩,HK⟩
      case round=>
       obtain⟨k,rfl,hk,HO2,HK3⟩:=hrel
       by_cases hkn:k<=n
       ·have HCh:=ah (show ch4 alt l k=fU alt (X/2^(18-6*k)%64)by rw[HX.out];rfl)
        obtain⟨g',rfl⟩:∃g',gk=g'+1:=⟨gk-1,by omega⟩
        have hk3:k=0∨k=1∨k=2∨k=3:=by omega
        have HLen:=ah (show(out++(List.range k).map (ch4 alt l)).length+1<=140737488355328 by rw[List.length_append,List.length_map,List.length_range];have:=hol.out;omega);rcases hk3 with rfl|rfl|rfl|rfl
        ·have xE:=ah (show ch4 alt l 0=fU alt (X/262144%64)from HCh.out)
         obtain⟨q,hq⟩:∃q:Int,q=X/262144:=⟨_,rfl⟩
         have hq0:0<=q/\q<16777216:=by omega
         have hq64:=and63 hq0.1 (by omega);obtain⟨r,hr⟩:∃r:Int,r=q%64:=⟨_,rfl⟩
         rw[<-hr]at hq64;have r0:0<=r:=by omega
         have r1:r<64:=by omega
         have r2:r<(SB.size:Int):=by omega
         have hb:=jX SB r;rw[HSB.out,wC alt r0 r1,<-HSB.out]at hb;rw[<-hq,<-hr]at xE;obtain⟨y,hy⟩:∃y,y=fU alt r:=⟨_,rfl⟩
         rw[<-hy]at hb xE;have d1:decide ((0:Int)<=(n:Int))=true:=bZ (by omega);have yL:=ah (show(List.range (0+1)).map (ch4 alt l)=(List.range 0).map (ch4 alt l)++[y]by rw[List.range_succ,List.map_append,List.map_singleton,xE.out]);have hsr:shr .i64 X 18=q:=by rw[hq];rfl
         have hsr2:X/262144=q:=hq.symm;clear hq hr hy hq0 hcl
         go_wp2_with (at_builtin;refine gG W.heap.size rfl (.tmp 48) (.tmp 57) rfl y rfl rfl ?aO ?aB HLen.out ?_;(case aO=>exact HO2.out);(case aB=>exact HK3.out.wle);intro v7 w7 ho7 hg7;have HO7:=ah ho7;have HK7:=ah (HK3.out.grown HW0.out HO2.out hg7);clear ho7 hg7)
         go_roundg g'
         case measure=>omega
         case rel=>exact⟨0+1,by go_num,by omega,⟨by rw[yL.out,<-List.append_assoc];exact HO7.out⟩,HK7⟩
        ·have xE:=ah (show ch4 alt l 1=fU alt (X/4096%64)from HCh.out)
         obtain⟨q,hq⟩:∃q:Int,q=X/4096:=⟨_,rfl⟩
         have hq0:0<=q/\q<16777216:=by omega
         have hq64:=and63 hq0.1 (by omega);obtain⟨r,hr⟩:∃r:Int,r=q%64:=⟨_,rfl⟩
         rw[<-hr]at hq64;have r0:0<=r:=by omega
         have r1:r<64:=by omega
         have r2:r<(SB.size:Int):=by omega
         have hb:=jX SB r;rw[HSB.out,wC alt r0 r1,<-HSB.out]at hb;rw[<-hq,<-hr]at xE;obtain⟨y,hy⟩:∃y,y=fU alt r:=⟨_,rfl⟩
         rw[<-hy]at hb xE;have d1:decide ((1:Int)<=(n:Int))=true:=bZ (by omega);have yL:=ah (show(List.range (1+1)).map (ch4 alt l)=(List.range 1).map (ch4 alt l)++[y]by rw[List.range_succ,List.map_append,List.map_singleton,xE.out]);have hsr:shr .i64 X 12=q:=by rw[hq];rfl
         have hsr2:X/4096=q:=hq.symm;clear hq hr hy hq0 hcl
         go_wp2_with (at_builtin;refine gG W.heap.size rfl (.tmp 48) (.tmp 57) rfl y rfl rfl ?aO ?aB HLen.out ?_;(case aO=>exact HO2.out);(case aB=>exact HK3.out.wle);intro v7 w7 ho7 hg7;have HO7:=ah ho7;have HK7:=ah (HK3.out.grown HW0.out HO2.out hg7);clear ho7 hg7)
         go_roundg g'
         case measure=>omega
         case rel=>exact⟨1+1,by go_num,by omega,⟨by rw[yL.out,<-List.append_assoc];exact HO7.out⟩,HK7⟩
        ·have xE:=ah (show ch4 alt l 2=fU alt (X/64%64)from HCh.out)
         obtain⟨q,hq⟩:∃q:Int,q=X/64:=⟨_,rfl⟩
         have hq0:0<=q/\q<16777216:=by omega
         have hq64:=and63 hq0.1 (by omega);obtain⟨r,hr⟩:∃r:Int,r=q%64:=⟨_,rfl⟩
         rw[<-hr]at hq64;have r0:0<=r:=by omega
         have r1:r<64:=by omega
         have r2:r<(SB.size:Int):=by omega
         have hb:=jX SB r;rw[HSB.out,wC alt r0 r1,<-HSB.out]at hb;rw[<-hq,<-hr]at xE;obtain⟨y,hy⟩:∃y,y=fU alt r:=⟨_,rfl⟩
         rw[<-hy]at hb xE;have d1:decide ((2:Int)<=(n:Int))=true:=bZ (by omega);have yL:=ah (show(List.range (2+1)).map (ch4 alt l)=(List.range 2).map (ch4 alt l)++[y]by rw[List.range_succ,List.map_append,List.map_singleton,xE.out]);have hsr:shr .i64 X 6=q:=by rw[hq];rfl
         have hsr2:X/64=q:=hq.symm;clear hq hr hy hq0 hcl
         go_wp2_with (at_builtin;refine gG W.heap.size rfl (.tmp 48) (.tmp 57) rfl y rfl rfl ?aO ?aB HLen.out ?_;(case aO=>exact HO2.out);(case aB=>exact HK3.out.wle);intro v7 w7 ho7 hg7;have HO7:=ah ho7;have HK7:=ah (HK3.out.grown HW0.out HO2.out hg7);clear ho7 hg7)
         go_roundg g'
         case measure=>omega
         case rel=>exact⟨2+1,by go_num,by omega,⟨by rw[yL.out,<-List.append_assoc];exact HO7.out⟩,HK7⟩
        ·have xE:=ah (show ch4 alt l 3=fU alt (X/1%64)from HCh.out)
         obtain⟨q,hq⟩:∃q:Int,q=X/1:=⟨_,rfl⟩
         have hq0:0<=q/\q<16777216:=by omega
         have hq64:=and63 hq0.1 (by omega);obtain⟨r,hr⟩:∃r:Int,r=q%64:=⟨_,rfl⟩
         rw[<-hr]at hq64;have r0:0<=r:=by omega
         have r1:r<64:=by omega
         have r2:r<(SB.size:Int):=by omega
         have hb:=jX SB r;rw[HSB.out,wC alt r0 r1,<-HSB.out]at hb;rw[<-hq,<-hr]at xE;obtain⟨y,hy⟩:∃y,y=fU alt r:=⟨_,rfl⟩
         rw[<-hy]at hb xE;have d1:decide ((3:Int)<=(n:Int))=true:=bZ (by omega);have yL:=ah (show(List.range (3+1)).map (ch4 alt l)=(List.range 3).map (ch4 alt l)++[y]by rw[List.range_succ,List.map_append,List.map_singleton,xE.out]);have hsr:shr .i64 X 0=q:=by rw[hq];rfl
         have hsr2:X/1=q:=hq.symm;clear hq hr hy hq0 hcl
         go_wp2_with (at_builtin;refine gG W.heap.size rfl (.tmp 48) (.tmp 57) rfl y rfl rfl ?aO ?aB HLen.out ?_;(case aO=>exact HO2.out);(case aB=>exact HK3.out.wle);intro v7 w7 ho7 hg7;have HO7:=ah ho7;have HK7:=ah (HK3.out.grown HW0.out HO2.out hg7);clear ho7 hg7)
         go_roundg g'
         case measure=>omega
         case rel=>exact⟨3+1,by go_num,by omega,⟨by rw[yL.out,<-List.append_assoc];exact HO7.out⟩,HK7⟩
       ·obtain rfl:k=n+1:=by omega
        have Yb:=ah (show(out++(List.range (n+1)).map (ch4 alt l))++b64 alt (Bs.drop (i+3))=b64 alt Bs by rw[List.append_assoc,<-wQ.out];exact HE.out);have d1:decide (((n+1:Nat):Int)<=(n:Int))=false:=bY (by omega);have d2:decide ((n:Int)+1<=(n:Int))=false:=bY (by omega);go_wp2
        go_roundg (s.size-(i+3))
        case measure=>omega
        case rel=>exact⟨i+3,_,by go_num,rfl,by omega,Yb,HO2,HK3⟩
   ·have HE2:=ah (show out=b64 alt Bs by
     have h1:=HE.out;rw[List.drop_eq_nil_of_le (by rw[wH.out,ND.out];omega)]at h1
     simpa [b64]using h1)
    have d0:decide ((i:Int)<(s.size:Int))=false:=bY (by omega);have d0':¬i<s.size:=hlt;obtain⟨L,hL⟩:∃L,L=b64 alt Bs:=⟨_,rfl⟩
    have HL:=ah hL
    have HLn:=ah (show L.length<=2*s.size by
     have h2:=(Bj alt Bs).1;rw[<-hL]at h2;have h3:Bs.length=s.size:=by rw[wH.out];exact ND.out
     omega)
    obtain⟨pd,hpd⟩:∃pd,pd=(4-L.length%4)%4:=⟨_,rfl⟩
    have HPd:=ah hpd;have hpd4:pd<4:=by omega
    have HO':aC (OwnB wr W.heap.size u6 L):=⟨by rw[hL,<-HE2.out];exact HO.out⟩;clear hL hpd;go_wp2
    go_loopg [6] pd (fun g v6 w'=>∃j:Nat,j+g=pd/\aC (OwnB w' W.heap.size v6 (L++List.replicate j 61))/\aC (WK w0 W w' p P a 1 vb vl))
    case atStart=>exact⟨0,by omega,⟨by simpa using HO'.out⟩,HK⟩
    case round=>
     obtain⟨j,hj,HO3,HK3⟩:=hrel;obtain⟨A3,c3,rfl⟩:=Kd.fC HO3.out;obtain⟨m,hm⟩:∃m,m=(L++List.replicate j 61).length:=⟨_,rfl⟩
     have hml:m=L.length+j:=by rw[hm,List.length_append,List.length_replicate]
     rw[<-hm]at HO3 ⊢;have HM:=ah hm;have HMl:=ah hml;have hm4:((m:Int)).tmod 4=((m%4:Nat):Int):=by rw[Int.tmod_eq_emod_of_nonneg (by omega)];rfl
     by_cases hjp:j<pd
     ·have hr:m%4≠0:=by have:=HPd.out;omega
      have d1:(((m%4:Nat):Int)!=0)=true:=Ci (by omega);have d2:((m:Int)%4 !=0)=true:=Ci (by omega);have HLen:=ah (show(L++List.replicate j 61).length+1<=140737488355328 by rw[<-HM.out];have:=HLn.out;omega);obtain⟨g',rfl⟩:∃g',gk=g'+1:=⟨gk-1,by omega⟩
      have HRp:=ah (show L++List.replicate (j+1) 61=L++List.replicate j 61++[61]by rw[List.replicate_succ',List.append_assoc]);clear hm hml
      go_wp2_with (at_builtin;refine gG W.heap.size rfl (.tmp 63) (.tmp 64) rfl 61 rfl rfl ?aO ?aB HLen.out ?_;(case aO=>exact HO3.out);(case aB=>exact HK3.out.wle);intro v7 w7 ho7 hg7;have HO7:=ah ho7;have HK7:=ah (HK3.out.grown HW0.out HO3.out hg7);clear ho7 hg7)
      go_roundg g'
      case measure=>omega
      case rel=>exact⟨j+1,by omega,⟨by rw[HRp.out];exact HO7.out⟩,HK7⟩
     obtain rfl:j=pd:=by omega
     have hr:m%4=0:=by have:=HPd.out;omega
     have d1:(((m%4:Nat):Int)!=0)=false:=Ef (by omega);have d2:((m:Int)%4 !=0)=false:=Ef (by omega);have aeN:=ah (show zV (str (L++List.replicate j 61)) s/\(str (L++List.replicate j 61)).size<=2*s.size+4 from⟨⟨alt,.inr (by rw[<-wH.out,<-HL.out,<-HPd.out])⟩,by rw[bV,<-HM.out];have:=HLn.out;omega⟩);have aax:=ah (show zV (str L) s/\(str L).size<=2*s.size+4 from⟨⟨alt,.inl (by rw[<-wH.out,<-HL.out])⟩,by rw[bV];have:=HLn.out;omega⟩);clear hm hml
     go_upto_if 68 with(go_at_call 43;(with_reducible refine(LV.out 1 _ 2 (by decide) (by omega) HK3.out).mono ?_);rintro e w8⟨v,rfl,hv,hk,hr,hb⟩;have HK8:=ah hk;have HO8:=ah (hr _ _ _ HO3.out);clear hk hr hb)
     rcases two hv with rfl|rfl
     ·have hcv:=kY HO8.out
      go_wp2
      go_ret
      exact⟨_,rfl,aeN.out,HK8.out⟩
     ·go_wp2
      go_loopg [6] j (fun g v6 w'=>g<=3/\aC (OwnB w' W.heap.size v6 (L++List.replicate g 61))/\aC (WK w0 W w' p P a 2 vb vl))
      case atStart=>exact⟨by omega,HO8,HK8⟩
      case round=>
       obtain⟨hg3,HO9,HK9⟩:=hrel;cases gk with
       |zero=>
        have HO10:aC (OwnB wr W.heap.size u6 L):=⟨by simpa using HO9.out⟩
        by_cases hL0:L=[]
        ·obtain⟨A3,c3,rfl⟩:=Kd.fC HO10.out
         subst hL0;have hcv:(convert 27 9 (.slice A3 0 c3)).run Tryz.prog wr= .ok (.string ⟨#[]⟩) wr:=kY HO10.out;go_wp2
         go_ret
         exact⟨_,rfl,aax.out,HK9.out⟩
        ·obtain⟨gb,cap,rfl,hgb⟩:=rY HO10.out hL0
         have hcv:=kY HO10.out;have hpos:0<L.length:=List.length_pos_iff.2 hL0;obtain⟨k,hk⟩:∃k,L.length=k+1:=⟨L.length-1,by omega⟩
         obtain⟨x,hx⟩:=bF (show k<L.length by omega);have hcell:=Kd.yN (0:Int) HO10.out (k:Int) (by omega) (by omega);rw[Int.toNat_natCast,wG,Int.toNat_natCast,bT hx.out]at hcell;obtain⟨ho1,ho2⟩:=hcell;have hx61:x≠61:=JQ alt Bs (by rw[wH.out];exact IY.out) x (by rw[<-HL.out];exact List.mem_of_getElem? hx.out);have d:=eqF hx61;rw[hk]at hcv ⊢;have e1:IntKind.i64.wrap (((k+1:Nat):Int)-1)=(k:Int):=by rw[IntKind.wrap_i64];have:=HLn.out;omega
         have e2:IntKind.i64.wrap ((k:Int)+1-1)=(k:Int):=by rw[IntKind.wrap_i64];have:=HLn.out;omega
         have e3:IntKind.i64.wrap (k:Int)=(k:Int):=by rw[IntKind.wrap_i64];have:=HLn.out;omega
         clear hx61 hk hpos;go_wp2
         go_ret
         exact⟨_,rfl,aax.out,HK9.out⟩
       |succ g=>
        have hne:L++List.replicate (g+1) 61≠[]:=by simp
        obtain⟨gb,cap,rfl,hgb⟩:=rY HO9.out hne;obtain⟨k,hk⟩:∃k,k=L.length+g:=⟨_,rfl⟩
        have hlen:(L++List.replicate (g+1) 61).length=k+1:=by rw[List.length_append,List.length_replicate,hk];omega
        have hcell:=Kd.yN (0:Int) HO9.out (k:Int) (by omega) (by omega)
        have hx:(L++List.replicate (g+1) 61)[k]? =some 61:=by
         rw[List.getElem?_append_right (by omega),hk,Nat.add_sub_cancel_left,List.getElem?_replicate,if_pos (by omega)]
        rw[Int.toNat_natCast,wG,Int.toNat_natCast,bT hx]at hcell;obtain⟨ho1,ho2⟩:=hcell;obtain⟨Ar,cr,er,hcr,EW⟩:=Kd.jo HO9.out;injection er with er1 er2 er3
        subst er1;subst er3
        have HT:=ah (show OwnB wr W.heap.size (.slice (some ⟨gb,0,none⟩) k cap) (L++List.replicate g 61)by
         have h1:=Kd.Gh HO9.out (m:=k) (by omega);have h2:(L++List.replicate (g+1) (61:Int)).take k=L++List.replicate g 61:=by rw[hk,List.take_length_add_append,List.take_replicate,Nat.min_eq_left (by omega)]
         rw[h2]at h1;exact h1)
        have hkb:k<=3000000:=by have:=HLn.out;have:=HPd.out;omega
        rw[hlen]at hcr ⊢;have e1:IntKind.i64.wrap (((k+1:Nat):Int)-1)=(k:Int):=by rw[IntKind.wrap_i64];omega
        have e2:IntKind.i64.wrap ((k:Int)+1-1)=(k:Int):=by rw[IntKind.wrap_i64];omega
        have e3:IntKind.i64.wrap (k:Int)=(k:Int):=by rw[IntKind.wrap_i64];omega
        have hkc2:k<=cap:=by omega
        have hkc3:¬cap=0:=by omega
        have hcut:=zk (some ⟨gb,0,none⟩) (k+1) cap k (by omega) hcr;clear hk hlen hx EW hne;go_wp2
        go_roundg g
        case measure=>omega
        case rel=>exact⟨by omega,HT,HK9⟩
end Go.Proofs.YtapkmjfjikpnlaaGreatDoor
