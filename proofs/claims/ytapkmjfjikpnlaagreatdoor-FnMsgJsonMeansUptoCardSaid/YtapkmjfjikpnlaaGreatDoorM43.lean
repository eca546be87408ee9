/- A part of FnMsgJsonMeans. No conditions. -/
import Derived.Test.YtapkmjfjikpnlaaGreatDoorM22
set_option maxHeartbeats 8000000
set_option maxRecDepth 100000
namespace Go.Proofs.YtapkmjfjikpnlaaGreatDoor
open Go.RowKit YtapkmjfjikpnlaaGreatDoorW.aG YtapkmjfjikpnlaaGreatDoorW.aJ
set_option linter.unusedVariables false
set_option linter.unusedSimpArgs false
noncomputable def IC:Code:=sq2 (sq2 (sq2 (sq2 (sq2 (dF Tryz.f51)))))
noncomputable def Qo:Code:=sq1 IC
noncomputable def rdE:Code:=sq2 IC
def jO(w0 W:World)(p:Nat)(T:List Int)(i:Nat)(st:List Int)(last:Int)(A:Option Addr)(c:Nat):Prop:=
 ∃bK bM bP bQ eF,oh w0 W p T i last bK bM bP bQ eF A c/\JV W w0.heap.size eF st.reverse
structure AU(w0 W w:World)(p B1 B2 B4:Nat)(T:List Int)(j:Nat)(st:List Int)(last:Int)(A:Option Addr)(c:Nat)(k:Int)(pos:Nat)(Ar:Option Addr)(nr cr:Nat)(b:Bool)(s:ByteArray):Prop where
 b1:w.heap[B1]? =some (.cells #[.pointer (some ⟨p,0,none⟩)] 58 (0,0))
 b2:w.heap[B2]? =some (.cells tok0 111 (0,0))
 b4:w.heap[B4]? =some (.cells #[.int .u16 k,.int .i64 pos,.slice Ar nr cr,.bool b,.string s] 111 (0,0))
 dec:jO w0 w p T j st last A c
 ge:w0.heap.size<=p
 lt:p<B1/\B1<B2/\B2<B4
 new:W.heap.size<=B1
 keep:iw W w
theorem oh.below{w0 w w1:World}{p:Nat}{T:List Int}{i:Nat}{last bK:Int}{bM:Value}{bP:Bool}{bQ:ByteArray}{eF:Value}{A:Option Addr}{c:Nat}(h:oh w0 w p T i last bK bM bP bQ eF A c)(hb:Below w.heap.size w w1):oh w0 w1 p T i last bK bM bP bQ eF A c:=by
 obtain⟨⟨Ai,r,ci,hd,hi⟩,h2⟩:=h;exact⟨⟨Ai,r,ci,aI hd hb,hi⟩,au h2 hb⟩
theorem jO.below{w0 w w1:World}{p:Nat}{T:List Int}{i:Nat}{st:List Int}{last:Int}{A:Option Addr}{c:Nat}(h:jO w0 w p T i st last A c)(hb:Below w.heap.size w w1):jO w0 w1 p T i st last A c:=by
 obtain⟨bK,bM,bP,bQ,eF,hd,ho⟩:=h;exact⟨bK,bM,bP,bQ,eF,hd.below hb,Kd.dY ho hb⟩
theorem AU.below{w0 W w w1:World}{p B1 B2 B4:Nat}{T:List Int}{j:Nat}{st:List Int}{last:Int}{A:Option Addr}{c:Nat}{k:Int}{pos:Nat}{Ar:Option Addr}{nr cr:Nat}{b:Bool}{s:ByteArray}(h:AU w0 W w p B1 B2 B4 T j st last A c k pos Ar nr cr b s)(hb:Below w.heap.size w w1):AU w0 W w1 p B1 B2 B4 T j st last A c k pos Ar nr cr b s:=
 ⟨aI h.b1 hb,aI h.b2 hb,aI h.b4 hb,h.dec.below hb,h.ge,h.lt,h.new,h.keep.trans (iw.below hb)⟩
theorem oh.stack{w0 w:World}{p:Nat}{T:List Int}{i:Nat}{last bK:Int}{bM:Value}{bP:Bool}{bQ:ByteArray}{eF:Value}{A:Option Addr}{c:Nat}(h:oh w0 w p T i last bK bM bP bQ eF A c)(hp:w0.heap.size<=p)(v:Value):oh w0 (w.setCell ⟨p,7,none⟩ v) p T i last bK bM bP bQ v A c:=by
 obtain⟨⟨Ai,r,ci,hd,hi⟩,h2⟩:=h;exact⟨⟨Ai,r,ci,(aW hd 7 v).trans rfl,hi⟩,aV h2 hp⟩
theorem jO.far{w0 w:World}{p:Nat}{T:List Int}{i:Nat}{st:List Int}{last:Int}{A:Option Addr}{c:Nat}(h:jO w0 w p T i st last A c){g:Nat}{cs:Array Value}{t:TypeId}(hg:w.heap[g]? =some (.cells cs t (0,0)))(h0:w0.heap.size<=g)(hp:p≠g)(ht:109≠t)(q:Nat)(v:Value):jO w0 (w.setCell ⟨g,q,none⟩ v) p T i st last A c:=by
 obtain⟨bK,bM,bP,bQ,eF,⟨⟨Ai,r,ci,hd,hi⟩,h2⟩,ho⟩:=h;refine⟨bK,bM,bP,bQ,eF,⟨⟨Ai,r,ci,bI (p:=⟨g,q,none⟩) hd hp v,hi⟩,aV h2 h0⟩,Kd.jY ho hg (fun q0 hq=>?_) q v⟩;have:q0=109:=by simpa [Kd.int,Kd.scalar]using hq
 rw[this];exact ht
theorem jO.last{w0 w:World}{p:Nat}{T:List Int}{i:Nat}{st:List Int}{last:Int}{A:Option Addr}{c:Nat}(h:jO w0 w p T i st last A c)(hp:w0.heap.size<=p)(k:Int)(pos:Int)(lr:Value)(b:Bool)(s:ByteArray):
 jO w0 (((((w.setCell ⟨p,1,none⟩ (.int .u16 k)).setCell ⟨p,2,none⟩ (.int .i64 pos)).setCell ⟨p,3,none⟩ lr).setCell ⟨p,4,none⟩ (.bool b)).setCell ⟨p,5,none⟩ (.string s)) p T i st k A c:=by
 obtain⟨bK,bM,bP,bQ,eF,⟨⟨Ai,r,ci,hd,hi⟩,h2⟩,ho⟩:=h
 have hk:∀q,q∈109::(Kd.int .u16).E->q≠119:=fun q hq=>by
  have:q=109:=by simpa [Kd.int,Kd.scalar]using hq
  rw[this];decide
 have d1:=aW hd 1 (.int .u16 k);have d2:=aW d1 2 (.int .i64 pos);have d3:=aW d2 3 lr;have d4:=aW d3 4 (.bool b);have d5:=aW d4 5 (.string s)
 exact⟨pos,lr,b,s,eF,⟨⟨Ai,r,ci,d5.trans rfl,hi⟩,aV (aV (aV (aV (aV h2 hp) hp) hp) hp) hp⟩,
  Kd.jY (Kd.jY (Kd.jY (Kd.jY (Kd.jY ho hd hk 1 _) d1 hk 2 _) d2 hk 3 _) d3 hk 4 _) d4 hk 5 _⟩
theorem jO.zero{w0 w:World}{p:Nat}{T:List Int}{i:Nat}{st:List Int}{last:Int}{A:Option Addr}{c:Nat}(h:jO w0 w p T i st last A c)(hp:w0.heap.size<=p):jO w0 (w.setCell ⟨p,0,none⟩ (.int .u8 0)) p T i st last A c:=by
 obtain⟨bK,bM,bP,bQ,eF,⟨⟨Ai,r,ci,hd,hi⟩,h2⟩,ho⟩:=h;refine⟨bK,bM,bP,bQ,eF,⟨⟨Ai,r,ci,(aW hd 0 (.int .u8 0)).trans rfl,hi⟩,aV h2 hp⟩,Kd.jY ho hd (fun q hq=>?_) 0 _⟩;have:q=109:=by simpa [Kd.int,Kd.scalar]using hq
 rw[this];decide
theorem jO.blk{w0 w:World}{p:Nat}{T:List Int}{i:Nat}{st:List Int}{last:Int}{A:Option Addr}{c:Nat}(h:jO w0 w p T i st last A c):∃cs,w.heap[p]? =some (.cells cs 119 (0,0))/\cs[0]? =some (.int .u8 0)/\cs[1]? =some (.int .u16 last):=by
 obtain⟨bK,bM,bP,bQ,eF,⟨⟨Ai,r,ci,hd,hi⟩,h2⟩,ho⟩:=h;exact⟨_,hd,rfl,rfl⟩
theorem box1{w:World}{g:Nat}{v:Value}{t:TypeId}(h:w.heap[g]? =some (.cells #[v] t (0,0))):w.cell? ⟨g,0,none⟩=some v:=(aA h 0).trans rfl
theorem box5{w:World}{g:Nat}{v0 v1 v2 v3 v4:Value}{t:TypeId}(h:w.heap[g]? =some (.cells #[v0,v1,v2,v3,v4] t (0,0))):w.cell? ⟨g,0,none⟩=some v0/\w.cell? ⟨g,1,none⟩=some v1/\w.cell? ⟨g,2,none⟩=some v2/\w.cell? ⟨g,3,none⟩=some v3/\w.cell? ⟨g,4,none⟩=some v4:=
 ⟨(aA h 0).trans rfl,(aA h 1).trans rfl,(aA h 2).trans rfl,(aA h 3).trans rfl,(aA h 4).trans rfl⟩
def eH(k:Int):Prop:=k=0∨k=2∨k=4∨k=8∨k=16∨k=32∨k=64∨k=128∨k=256∨k=512∨k=1024
theorem OV{k:Int}(h:eH k)(h1:k≠32)(h2:k≠1024):(bits .and .u16 k 1056 !=0)=false:=by
 rcases h with rfl|rfl|rfl|rfl|rfl|rfl|rfl|rfl|rfl|rfl|rfl<;>first|decide|exact absurd rfl h1|exact absurd rfl h2
theorem OW{k:Int}(h:xR k):(bits .and .u16 k 670==0)=false:=by
 unfold xR uH at h;rcases h with(rfl|rfl|rfl|rfl)|rfl|rfl<;>decide
theorem XG{k:Int}(h:eH k):(bits .or .u16 (bits .or .u16 (bits .and .u16 k 30) 128) 512==0)=false:=by
 rcases h with rfl|rfl|rfl|rfl|rfl|rfl|rfl|rfl|rfl|rfl|rfl<;>decide
theorem aaT:(Tryz.prog.info? 109).map (fun i=>(i.zero,i.size,i.bytes))=some (some (.int .u16 0),1,2):=by kernel_rfl
section
variable{ops:Array Oper}{o:Oper}{a:Act}{Q:Exit->Act->World->Prop}{Kc:Act->World->Prop}
theorem wV{W:World}{base:Nat}(hw:Region.wanted o (yielded ops a.tmps)=true)(s x:Operand)
 (ho:o.op= .call {callee:=.builtin .append,args:=#[s,x],argTypes:=#[117,117]}) (v:Value) (xs:List Int) (y:Int) (hs:a.eval s=v) (hx:a.eval x= .slice (some ⟨W.heap.size,0,none⟩) 1 1)
 (HO:JV W base v xs) (hbase:base<=W.heap.size) (hl:(xs.length+1)*2<=140737488355328)
 (h:∀v1 w1,JV w1 base v1 (xs++[y])->W.grownBy w1 v.ownBlock->Kc (a.put o.dst v1) w1):
 if Region.wanted o (yielded ops a.tmps)=true then Oper.wp Tryz.prog o a (W.alloc (.cells #[.int .u16 y] 109)).drew Kc Q
 else Kc (a.put o.dst undef) (W.alloc (.cells #[.int .u16 y] 109)).drew:=
 Kd.qQ (Kd.int .u16) (w0:=W.drew) (W:=W.drew) base hw s x 117 109 (.int .u16 0) 2 ho Tryz.underlying117 aaT rfl (by decide) (by omega) v xs y
  [.int .u16 y] (fun _=>True) (fun _=>False) hs hx rfl (fun _ h=>h.elim) (fun _ _=>trivial) (Kd.nY HO) (bg _ _) hbase hl (fun v1 w1 ho _ hg _=>h v1 w1 ho ⟨hg.os,hg.tape,hg.output,hg.size,hg.block⟩)
end
theorem FN(A:Option Addr)(n c m:Nat)(hm:m<=n)(hc:n<=c)(W:World):(Instr.slice 117 (.slice A n c) none (some (.int .i64 (m:Int))) none).run Tryz.prog W= .ok (.slice A m c) W:=by
 obtain⟨i0,hi,hzz⟩:=Option.map_eq_some_iff.1 aaT;have:=Gg (P:=Tryz.prog) 117 109 .i64 Tryz.underlying117 hi A n c (m:Int) (by omega) (by omega) hc W
 simpa using this
theorem BA{t:TypeId}(h:109≠t):∀q,q∈109::(Kd.int .u16).E->q≠t:=fun q hq=>by
 have:q=109:=by simpa [Kd.int,Kd.scalar]using hq
 rw[this];exact h
theorem AU.stack{w0 W w w1:World}{p B1 B2 B4:Nat}{T:List Int}{j:Nat}{st st1:List Int}{last:Int}{A:Option Addr}{c:Nat}{k:Int}{pos:Nat}{Ar:Option Addr}{nr cr:Nat}{b:Bool}{s:ByteArray}(h:AU w0 W w p B1 B2 B4 T j st last A c k pos Ar nr cr b s)
 {bK:Int} {bM:Value} {bP:Bool} {bQ:ByteArray} {eF v:Value} (hd:oh w0 w p T j last bK bM bP bQ eF A c) (ho:JV w w0.heap.size eF st.reverse) (hg:w.grownBy w1 eF.ownBlock) (ho1:JV w1 w0.heap.size v st1.reverse):AU w0 W (w1.setCell ⟨p,7,none⟩ v) p B1 B2 B4 T j st1 last A c k pos Ar nr cr b s:=by
 obtain⟨⟨Ai,r,ci,hdb,hin⟩,hbe⟩:=hd;have hne:∀{g:Nat}{cs:Array Value}{t:TypeId},w.heap[g]? =some (.cells cs t (0,0))->109≠t->w1.heap[g]? =some (.cells cs t (0,0)):=fun hb ht=>(hg.block _ (bJ hb) (Kd.xP ho hb ht)).trans hb
 have hlt:=h.lt;have hdb1:uI w1 p last bK bM bP bQ eF A T.length c (.slice Ai r ci):=hne hdb (by decide);have hf:∀{g:Nat}{cs:Array Value}{t:TypeId},w1.heap[g]? =some (.cells cs t (0,0))->g≠p->(w1.setCell ⟨p,7,none⟩ v).heap[g]? =some (.cells cs t (0,0)):=fun hb UG=>bI (p:=⟨p,7,none⟩) hb UG v
 have hbe1:Below w0.heap.size w0 w1:=hbe.grown hg hbe.size (Kd.lC ho)
 exact⟨hf (hne h.b1 (by decide)) (by omega),hf (hne h.b2 (by decide)) (by omega),hf (hne h.b4 (by decide)) (by omega),
  ⟨bK,bM,bP,bQ,v,oh.stack ⟨⟨Ai,r,ci,hdb1,hin⟩,hbe1⟩ h.ge v,Kd.jY ho1 hdb1 (BA (by decide)) 7 v⟩,h.ge,h.lt,h.new,(h.keep.trans (iw.grown hg ho)).trans (iw.set hdb1 7 v)⟩
abbrev RK(w0 W:World)(p B1 B2 B4:Nat)(T:List Int)(last:Int)(A:Option Addr)(c pos:Nat)(Ar:Option Addr)(nr cr:Nat)(b:Bool)(s:ByteArray)(D:List Deferred)(K:Act->World->Prop)(j:Nat)(st:List Int)(k:Int):Prop:=∀{x6 x7 x8 x9 x10 x11 x12 x13 x14 x15 x16 x17 x18 x19 x20 x21 x22 x23 x24 x25 x26 x27 x28 x29 x30 x31 x32 x33 x34 x35 x36 x37 x38 x39 x40 x41 x42 x43 x44 x45 x46 x47 x48 x49 x50 x51 x52 x53 x54 x55 x56 x57 x58 x59 x60 x61 x62 x63 x64 x65 x66 x67 x68 x69 x70 x71 x72 x73 x74 x75 x76 x77 x78 x79 x80 x81 x82 x83 x84 x85 x86 x87 x88 x89 x90 x91 x92 x93 x94 x95 x96 x97 x98 x99 x100 x101 x102 x103 x104 x105 x106 x107 x108 x109 x110 x111 x112 x113 x114 x115 x116 x117 x118 x119 x120 x121 x122 x123 x124 x125 x126 x127 x128 x129 x130 x131 x132 x133 x134 x135 x136 x137 x138 x139 x140 x141 x142 x143 x144 x145 x146 x147 x148 x149 x150 x151 x152 x153 x154 x155 x156 x157 x158 x159 x160 x161 x162 x163 x164 x165 x166 x167 x168 x169 x170 x171 x172 x173 x174 x175 x176 x177 x178 x179 x180 x181 x182 x183 x184 x185 x186 x187 x188 x189 x190 x191 x192 x193 x194 x195 x196 x197 x198 x199 x200 x201 x202 x203 x204 x205 x206 x207 x208 x209 x210 x211 x212 x213 x214 x215 x216 x217 x218 x219 x220 x221 x222 x223 x224 x225 x226 x227 x228 x229 x230 x231 x232 x233 x234 x235 x236 x237 x238 x239 x240 x241 x242 x243 x244 x245 x246 x247 x248 x249 x250 x251 x252 x253 x254 x255 x256 x257 x258 x259 x260 x261 x262 x263 x264 x265 x266 x267 x268 x269 x270 x271 x272 x273 x274 x275 x276 x277 x278 x279 x280 x281 x282 x283 x284 x285 x286 x287 x288 x289 x290 x291 x292 x293 x294 x295 x296 x297 x298 x299 x300 x301 x302 x303 x304 x305:Value}(w':World),AU w0 W w' p B1 B2 B4 T j st last A c k pos Ar nr cr b s->K {tmps:=List.toArray ((.pointer (some ⟨p,0,none⟩))::(.pointer (some ⟨B1,0,none⟩))::(.pointer (some ⟨B2,0,none⟩))::(.nilIface)::(.pointer (some ⟨B4,0,none⟩))::(.nilIface)::x6::x7::x8::x9::x10::x11::x12::x13::x14::x15::x16::x17::x18::x19::x20::x21::x22::x23::x24::x25::x26::x27::x28::x29::x30::x31::x32::x33::x34::x35::x36::x37::x38::x39::x40::x41::x42::x43::x44::x45::x46::x47::x48::x49::x50::x51::x52::x53::x54::x55::x56::x57::x58::x59::x60::x61::x62::x63::x64::x65::x66::x67::x68::x69::x70::x71::x72::x73::x74::x75::x76::x77::x78::x79::x80::x81::x82::x83::x84::x85::x86::x87::x88::x89::x90::x91::x92::x93::x94::x95::x96::x97::x98::x99::x100::x101::x102::x103::x104::x105::x106::x107::x108::x109::x110::x111::x112::x113::x114::x115::x116::x117::x118::x119::x120::x121::x122::x123::x124::x125::x126::x127::x128::x129::x130::x131::x132::x133::x134::x135::x136::x137::x138::x139::x140::x141::x142::x143::x144::x145::x146::x147::x148::x149::x150::x151::x152::x153::x154::x155::x156::x157::x158::x159::x160::x161::x162::x163::x164::x165::x166::x167::x168::x169::x170::x171::x172::x173::x174::x175::x176::x177::x178::x179::x180::x181::x182::x183::x184::x185::x186::x187::x188::x189::x190::x191::x192::x193::x194::x195::x196::x197::x198::x199::x200::x201::x202::x203::x204::x205::x206::x207::x208::x209::x210::x211::x212::x213::x214::x215::x216::x217::x218::x219::x220::x221::x222::x223::x224::x225::x226::x227::x228::x229::x230::x231::x232::x233::x234::x235::x236::x237::x238::x239::x240::x241::x242::x243::x244::x245::x246::x247::x248::x249::x250::x251::x252::x253::x254::x255::x256::x257::x258::x259::x260::x261::x262::x263::x264::x265::x266::x267::x268::x269::x270::x271::x272::x273::x274::x275::x276::x277::x278::x279::x280::x281::x282::x283::x284::x285::x286::x287::x288::x289::x290::x291::x292::x293::x294::x295::x296::x297::x298::x299::x300::x301::x302::x303::x304::x305::[]),defers:=D} w'
abbrev RG(w:World)(p B1 B2 B4:Nat)(D:List Deferred)(K:Act->World->Prop):Prop:=∀{u6 u7 u8 u9 u10 u11 u12 u13 u14 u15 u16 u17 u18 u19 u20 u21 u22 u23 u24 u25 u26 u27 u28 u29 u30 u31 u32 u33 u34 u35 u36 u37 u38 u39 u40 u41 u42 u43 u44 u45 u46 u47 u48 u49 u50 u51 u52 u53 u54 u55 u56 u57 u58 u59 u60 u61 u62 u63 u64 u65 u66 u67 u68 u69 u70 u71 u72 u73 u74 u75 u76 u77 u78 u79 u80 u81 u82 u83 u84 u85 u86 u87 u88 u89 u90 u91 u92 u93 u94 u95 u96 u97 u98 u99 u100 u101 u102 u103 u104 u105 u106 u107 u108 u109 u110 u111 u112 u113 u114 u115 u116 u117 u118 u119 u120 u121 u122 u123 u124 u125 u126 u127 u128 u129 u130 u131 u132 u133 u134 u135 u136 u137 u138 u139 u140 u141 u142 u143 u144 u145 u146 u147 u148 u149 u150 u151 u152 u153 u154 u155 u156 u157 u158 u159 u160 u161 u162 u163 u164 u165 u166 u167 u168 u169 u170 u171 u172 u173 u174 u175 u176 u177 u178 u179 u180 u181 u182 u183 u184 u185 u186 u187 u188 u189 u190 u191 u192 u193 u194 u195 u196 u197 u198 u199 u200 u201 u202 u203 u204 u205 u206 u207 u208 u209 u210 u211 u212 u213 u214 u215 u216 u217 u218 u219 u220 u221 u222 u223 u224 u225 u226 u227 u228 u229 u230 u231 u232 u233 u234 u235 u236 u237 u238 u239 u240 u241 u242 u243 u244 u245 u246 u247 u248 u249 u250 u251 u252 u253 u254 u255 u256 u257 u258 u259 u260 u261 u262 u263 u264 u265 u266 u267 u268 u269 u270 u271 u272 u273 u274 u275 u276 u277 u278 u279 u280 u281 u282 u283 u284 u285 u286 u287 u288 u289 u290 u291 u292 u293 u294 u295 u296 u297 u298 u299 u300 u301 u302 u303 u304 u305:Value},True->Qo.wp Tryz.prog (Exit.then K (fun _ _ _=>False)) {tmps:=List.toArray ((.pointer (some ⟨p,0,none⟩))::(.pointer (some ⟨B1,0,none⟩))::(.pointer (some ⟨B2,0,none⟩))::(.nilIface)::(.pointer (some ⟨B4,0,none⟩))::(.nilIface)::u6::u7::u8::u9::u10::u11::u12::u13::u14::u15::u16::u17::u18::u19::u20::u21::u22::u23::u24::u25::u26::u27::u28::u29::u30::u31::u32::u33::u34::u35::u36::u37::u38::u39::u40::u41::u42::u43::u44::u45::u46::u47::u48::u49::u50::u51::u52::u53::u54::u55::u56::u57::u58::u59::u60::u61::u62::u63::u64::u65::u66::u67::u68::u69::u70::u71::u72::u73::u74::u75::u76::u77::u78::u79::u80::u81::u82::u83::u84::u85::u86::u87::u88::u89::u90::u91::u92::u93::u94::u95::u96::u97::u98::u99::u100::u101::u102::u103::u104::u105::u106::u107::u108::u109::u110::u111::u112::u113::u114::u115::u116::u117::u118::u119::u120::u121::u122::u123::u124::u125::u126::u127::u128::u129::u130::u131::u132::u133::u134::u135::u136::u137::u138::u139::u140::u141::u142::u143::u144::u145::u146::u147::u148::u149::u150::u151::u152::u153::u154::u155::u156::u157::u158::u159::u160::u161::u162::u163::u164::u165::u166::u167::u168::u169::u170::u171::u172::u173::u174::u175::u176::u177::u178::u179::u180::u181::u182::u183::u184::u185::u186::u187::u188::u189::u190::u191::u192::u193::u194::u195::u196::u197::u198::u199::u200::u201::u202::u203::u204::u205::u206::u207::u208::u209::u210::u211::u212::u213::u214::u215::u216::u217::u218::u219::u220::u221::u222::u223::u224::u225::u226::u227::u228::u229::u230::u231::u232::u233::u234::u235::u236::u237::u238::u239::u240::u241::u242::u243::u244::u245::u246::u247::u248::u249::u250::u251::u252::u253::u254::u255::u256::u257::u258::u259::u260::u261::u262::u263::u264::u265::u266::u267::u268::u269::u270::u271::u272::u273::u274::u275::u276::u277::u278::u279::u280::u281::u282::u283::u284::u285::u286::u287::u288::u289::u290::u291::u292::u293::u294::u295::u296::u297::u298::u299::u300::u301::u302::u303::u304::u305::[]),defers:=D} w
section
variable(w0 W w:World)(p B1 B2 B4:Nat)(T:List Int)(j:Nat)(st:List Int)(last:Int)(A:Option Addr)(c:Nat)(pos:Nat)(Ar:Option Addr)(nr cr:Nat)(b:Bool)(s:ByteArray)(D:List Deferred)(K:Act->World->Prop)
theorem ZN(hv:Es st last)(hM:AU w0 W w p B1 B2 B4 T j (st) last A c 2 pos Ar nr cr b s)
 (hK:RK w0 W p B1 B2 B4 T last A c pos Ar nr cr b s D K (j) (st) 2):RG w p B1 B2 B4 D K:=by
 unfold RG;intros;have HK:=ah @hK;clear hK;have m1:=box1 hM.b1;obtain⟨t0,t1,t2,t3,t4⟩:=box5 hM.b4;obtain⟨bK,bM,bP,bQ,eF,hd,ho⟩:=hM.dec;obtain⟨Ai,r,ci,hdb,hin⟩:=hd.blk;have HV:=ah (pK w p last bK bM bP bQ eF A T.length c (.slice Ai r ci) hdb w0.heap.size st ho hv);have HM:=ah hM;clear hM t1 t2 t3 t4 hd ho hdb hin hv;dsimp only[Qo,IC,sq1,dF,sq2,Tryz.f51]
 go_wp2_with (go_at_call 106;(with_reducible refine HV.out.mono ?_);rintro e w1⟨rfl,hb⟩;have HB:=ah hb;clear hb)
 exact HK.out _ (HM.out.below HB.out)
theorem Qp(hv:Es st last)(hM:AU w0 W w p B1 B2 B4 T j (st) last A c 4 pos Ar nr cr b s)
 (hK:RK w0 W p B1 B2 B4 T last A c pos Ar nr cr b s D K (j) (st) 4):RG w p B1 B2 B4 D K:=by
 unfold RG;intros;have HK:=ah @hK;clear hK;have m1:=box1 hM.b1;obtain⟨t0,t1,t2,t3,t4⟩:=box5 hM.b4;obtain⟨bK,bM,bP,bQ,eF,hd,ho⟩:=hM.dec;obtain⟨Ai,r,ci,hdb,hin⟩:=hd.blk;have HV:=ah (pK w p last bK bM bP bQ eF A T.length c (.slice Ai r ci) hdb w0.heap.size st ho hv);have HM:=ah hM;clear hM t1 t2 t3 t4 hd ho hdb hin hv;dsimp only[Qo,IC,sq1,dF,sq2,Tryz.f51]
 go_wp2_with (go_at_call 106;(with_reducible refine HV.out.mono ?_);rintro e w1⟨rfl,hb⟩;have HB:=ah hb;clear hb)
 exact HK.out _ (HM.out.below HB.out)
theorem ade(hv:Es st last)(hM:AU w0 W w p B1 B2 B4 T j (st) last A c 8 pos Ar nr cr b s)
 (hK:RK w0 W p B1 B2 B4 T last A c pos Ar nr cr b s D K (j) (st) 8):RG w p B1 B2 B4 D K:=by
 unfold RG;intros;have HK:=ah @hK;clear hK;have m1:=box1 hM.b1;obtain⟨t0,t1,t2,t3,t4⟩:=box5 hM.b4;obtain⟨bK,bM,bP,bQ,eF,hd,ho⟩:=hM.dec;obtain⟨Ai,r,ci,hdb,hin⟩:=hd.blk;have HV:=ah (pK w p last bK bM bP bQ eF A T.length c (.slice Ai r ci) hdb w0.heap.size st ho hv);have HM:=ah hM;clear hM t1 t2 t3 t4 hd ho hdb hin hv;dsimp only[Qo,IC,sq1,dF,sq2,Tryz.f51]
 go_wp2_with (go_at_call 106;(with_reducible refine HV.out.mono ?_);rintro e w1⟨rfl,hb⟩;have HB:=ah hb;clear hb)
 exact HK.out _ (HM.out.below HB.out)
theorem adg(hv:Es st last)(hM:AU w0 W w p B1 B2 B4 T j (st) last A c 16 pos Ar nr cr b s)
 (hK:RK w0 W p B1 B2 B4 T last A c pos Ar nr cr b s D K (j) (st) 16):RG w p B1 B2 B4 D K:=by
 unfold RG;intros;have HK:=ah @hK;clear hK;have m1:=box1 hM.b1;obtain⟨t0,t1,t2,t3,t4⟩:=box5 hM.b4;obtain⟨bK,bM,bP,bQ,eF,hd,ho⟩:=hM.dec;obtain⟨Ai,r,ci,hdb,hin⟩:=hd.blk;have HV:=ah (pK w p last bK bM bP bQ eF A T.length c (.slice Ai r ci) hdb w0.heap.size st ho hv);have HM:=ah hM;clear hM t1 t2 t3 t4 hd ho hdb hin hv;dsimp only[Qo,IC,sq1,dF,sq2,Tryz.f51]
 go_wp2_with (go_at_call 106;(with_reducible refine HV.out.mono ?_);rintro e w1⟨rfl,hb⟩;have HB:=ah hb;clear hb)
 exact HK.out _ (HM.out.below HB.out)
theorem ZO(st0:List Int)(R:List Int)(hl:last=64∨last=1024)(hc:T.drop j=58::R)(hM:AU w0 W w p B1 B2 B4 T j (64::st0) last A c 16 pos Ar nr cr b s)
 (hK:RK w0 W p B1 B2 B4 T last A c pos Ar nr cr b s D K (j+1+qh (T.drop (j+1))) (64::st0) 32):RG w p B1 B2 B4 D K:=by
 unfold RG;intros;have HK:=ah @hK;clear hK;have m1:=box1 hM.b1;obtain⟨t0,t1,t2,t3,t4⟩:=box5 hM.b4;obtain⟨bK,bM,bP,bQ,eF,hd,ho⟩:=hM.dec;obtain⟨Ai,r,ci,hdb,hin⟩:=hd.blk;have HV:=ah (VF w p last bK bM bP bQ eF A T.length c (.slice Ai r ci) hdb w0.heap.size st0 ho hl);obtain⟨ad,rfl,x0,y1,y2,y3⟩:=hin.head2 hd.be hc;have hle:1<=r:=by omega
 have HW:=ah (fun(w1:World)(hb:Below w.heap.size w w1)=>And.intro (box1 (aI hM.b1 hb)) (And.intro (ay hb x0) (And.intro (show w1.cell? ⟨p,1,none⟩=some (.int .u16 last)from(gK (aI hdb hb)).2.1) (And.intro (show w1.cell? ⟨p,9,none⟩=some (.slice (some ad) r ci)from(gK (aI hdb hb)).2.2.2) (And.intro (box5 (aI hM.b4 hb)).1 (aN (aI hM.b4 hb) 0))))));have hp4:p≠B4:=by have:=hM.lt;omega
 have h04:w0.heap.size<=B4:=by have:=hM.lt;have:=hM.ge;omega
 have HC:=ah (fun(w1:World)(hb:Below w.heap.size w w1)=>gI w0 (w1.setCell ⟨B4,0,none⟩ (.int .u16 32)) p T j r 1 last bK bM bP bQ eF A T.length c (some ad) ci hM.ge (aV (au hd.be hb) h04) (bI (p:=⟨B4,0,none⟩) (aI hdb hb) hp4 _) hin hle);rw[show(((1:Nat):Int))=1 from rfl]at HC;have HM:=ah hM;have HO:=ah ho;have UM:=ah hdb;have hlc:(bits .and .u16 last 1088==0)=false:=by rcases hl with rfl|rfl<;>decide
 clear hM t1 t2 t3 t4 hd ho hdb hin hl hc x0 hle hp4 h04;dsimp only[Qo,IC,sq1,dF,sq2,Tryz.f51]
 go_wp2_with (first|(go_at_call 106;(with_reducible refine HV.out.mono ?_);rintro e w1⟨rfl,hb⟩;clear m1 t0;obtain⟨m1,x0,c1,c9,t0,f0⟩:=HW.out w1 hb;have m1':=(World.cell?_setCell_other w1 ⟨B4,0,none⟩ ⟨B1,0,none⟩ (.int .u16 32) (by have h9:=HM.out.lt;first|(simp;done)|(simp;omega))).trans m1;have HB:=ah hb;clear hb)|(go_at_call 110;(with_reducible refine(HC.out w1 HB.out).mono ?_);rintro e w3⟨rfl,Aj,rj,cj,hd3,hi3,hb3,hk3⟩;have HD3:=ah hd3;have HI3:=ah hi3;have HB3:=ah hb3;have HK3:=ah hk3;clear hd3 hi3 hb3 hk3))
 have hm1:=HM.out.below HB.out;have hlt:=hm1.lt;have hk:=HK3.out;have hdb1:=aI UM.out HB.out;have hp4:p≠B4:=by omega
 have hdb2:=bI (p:=⟨B4,0,none⟩) hdb1 hp4 (.int .u16 32);have ho2:=Kd.jY (Kd.dY HO.out HB.out) hm1.b4 (BA (by decide)) 0 (.int .u16 32);have hb1:=bI (p:=⟨B4,0,none⟩) hm1.b1 (show B1≠B4 by omega) (.int .u16 32);have hb2:=bI (p:=⟨B4,0,none⟩) hm1.b2 (show B2≠B4 by omega) (.int .u16 32);have hb4:=aW hm1.b4 0 (.int .u16 32);refine HK.out _ ⟨hk.blk hb1 (by omega) (by simp),hk.blk hb2 (by omega) (by simp),(hk.blk hb4 (by omega) (by simp)).trans rfl,⟨bK,bM,bP,bQ,eF,⟨⟨Aj,rj,cj,HD3.out,HI3.out⟩,HB3.out⟩,Kd.gB (Kd.sV (Kd.vP ho2 hdb2 (BA (by decide))) hk (fun _ hk=>hk.2)) (fun _ _=>trivial)⟩,hm1.ge,hm1.lt,hm1.new,(hm1.keep.new (by have:=hm1.new;omega) 0 _).trans (iw.but hk hdb2)⟩
theorem ZP(hv:Es st last)(hl:st.length<=1000000000000)(hM:AU w0 W w p B1 B2 B4 T j (st) last A c 64 pos Ar nr cr b s)
 (hK:RK w0 W p B1 B2 B4 T last A c pos Ar nr cr b s D K (j) (64::st) 64):RG w p B1 B2 B4 D K:=by
 unfold RG;intros;have HK:=ah @hK;clear hK;have m1:=box1 hM.b1;obtain⟨t0,t1,t2,t3,t4⟩:=box5 hM.b4;obtain⟨bK,bM,bP,bQ,eF,hd,ho⟩:=hM.dec;obtain⟨Ai,r,ci,hdb,hin⟩:=hd.blk;have HV:=ah (pK w p last bK bM bP bQ eF A T.length c (.slice Ai r ci) hdb w0.heap.size st ho hv);have HL:=ah (show(st.reverse.length+1)*2<=140737488355328 by rw[List.length_reverse];omega);obtain⟨A3,n3,c3,rfl⟩:=fQ ho;have HD:=ah hd;have HO:=ah ho;have UM:=ah hdb;have HM:=ah hM;have HW:=ah (fun(w1:World)(hb:Below w.heap.size w w1)=>And.intro (fun(o:Obj)=>box1 (bn (aI hM.b1 hb) o)) (And.intro (fun(o:Obj)=>show(w1.alloc o).cell? ⟨p,7,none⟩=some (.slice A3 n3 c3)from(gK (bn (aI hdb hb) o)).2.2.1) (fun(o:Obj)=>(box5 (bn (aI hM.b4 hb) o)).1)));have HW0:=ah (fun(w1:World)(hb:Below w.heap.size w w1)=>And.intro (box1 (aI hM.b1 hb)) (And.intro (show w1.cell? ⟨p,7,none⟩=some (.slice A3 n3 c3)from(gK (aI hdb hb)).2.2.1) (box5 (aI hM.b4 hb)).1));clear hM t1 t2 t3 t4 hd ho hdb hin hv hl;dsimp only[Qo,IC,sq1,dF,sq2,Tryz.f51]
 go_wp2_with (go_at_call 106;(with_reducible refine HV.out.mono ?_);rintro e w1⟨rfl,hb⟩;have HB:=ah hb;clear hb)
 obtain⟨z1,z2,z3⟩:=HW.out w1 HB.out;obtain⟨q1,q2,q3⟩:=HW0.out w1 HB.out;have HM1:=ah (HM.out.below HB.out);have HD1:=ah (HD.out.below HB.out);have HO1:=ah (Kd.dY HO.out HB.out);have HDb1:=ah (aI UM.out HB.out);have wH:=ah (show w0.heap.size<=w1.heap.size from HD1.out.be.size)
 go_region_law (first|(refine wV (W:=w1) (base:=w0.heap.size) (by kernel_rfl) (.tmp 149) (.tmp 152) rfl (v:=.slice A3 n3 c3) (xs:=st.reverse) (y:=64) (by kernel_rfl) (by kernel_rfl) HO1.out wH.out HL.out ?_;intro v5 w5 ho5 hg5;have HG5:=ah hg5;have HO5:=ah ho5;have hdb5:=(hg5.block _ (bJ HDb1.out) (Kd.xP HO1.out HDb1.out (by decide))).trans HDb1.out;have u0:=(gK hdb5).2.2.1;have u1:=aN hdb5 7;have u2:=box1 ((hg5.block _ (bJ HM1.out.b1) (Kd.xP HO1.out HM1.out.b1 (by decide))).trans HM1.out.b1);obtain⟨A5,n5,c5,rfl⟩:=fQ ho5;clear hg5 ho5 hdb5))
 all_goals
  go_wp2;exact HK.out _ (HM1.out.stack HD1.out HO1.out HG5.out (by rw[List.reverse_cons];exact HO5.out))
theorem ZQ(hv:Es st last)(hl:st.length<=1000000000000)(hM:AU w0 W w p B1 B2 B4 T j (st) last A c 256 pos Ar nr cr b s)
 (hK:RK w0 W p B1 B2 B4 T last A c pos Ar nr cr b s D K (j) (256::st) 256):RG w p B1 B2 B4 D K:=by
 unfold RG;intros;have HK:=ah @hK;clear hK;have m1:=box1 hM.b1;obtain⟨t0,t1,t2,t3,t4⟩:=box5 hM.b4;obtain⟨bK,bM,bP,bQ,eF,hd,ho⟩:=hM.dec;obtain⟨Ai,r,ci,hdb,hin⟩:=hd.blk;have HV:=ah (pK w p last bK bM bP bQ eF A T.length c (.slice Ai r ci) hdb w0.heap.size st ho hv);have HL:=ah (show(st.reverse.length+1)*2<=140737488355328 by rw[List.length_reverse];omega);obtain⟨A3,n3,c3,rfl⟩:=fQ ho;have HD:=ah hd;have HO:=ah ho;have UM:=ah hdb;have HM:=ah hM;have HW:=ah (fun(w1:World)(hb:Below w.heap.size w w1)=>And.intro (fun(o:Obj)=>box1 (bn (aI hM.b1 hb) o)) (And.intro (fun(o:Obj)=>show(w1.alloc o).cell? ⟨p,7,none⟩=some (.slice A3 n3 c3)from(gK (bn (aI hdb hb) o)).2.2.1) (fun(o:Obj)=>(box5 (bn (aI hM.b4 hb) o)).1)));have HW0:=ah (fun(w1:World)(hb:Below w.heap.size w w1)=>And.intro (box1 (aI hM.b1 hb)) (And.intro (show w1.cell? ⟨p,7,none⟩=some (.slice A3 n3 c3)from(gK (aI hdb hb)).2.2.1) (box5 (aI hM.b4 hb)).1));clear hM t1 t2 t3 t4 hd ho hdb hin hv hl;dsimp only[Qo,IC,sq1,dF,sq2,Tryz.f51]
 go_wp2_with (go_at_call 106;(with_reducible refine HV.out.mono ?_);rintro e w1⟨rfl,hb⟩;have HB:=ah hb;clear hb)
 obtain⟨z1,z2,z3⟩:=HW.out w1 HB.out;obtain⟨q1,q2,q3⟩:=HW0.out w1 HB.out;have HM1:=ah (HM.out.below HB.out);have HD1:=ah (HD.out.below HB.out);have HO1:=ah (Kd.dY HO.out HB.out);have HDb1:=ah (aI UM.out HB.out);have wH:=ah (show w0.heap.size<=w1.heap.size from HD1.out.be.size)
 go_region_law (first|(refine wV (W:=w1) (base:=w0.heap.size) (by kernel_rfl) (.tmp 149) (.tmp 152) rfl (v:=.slice A3 n3 c3) (xs:=st.reverse) (y:=256) (by kernel_rfl) (by kernel_rfl) HO1.out wH.out HL.out ?_;intro v5 w5 ho5 hg5;have HG5:=ah hg5;have HO5:=ah ho5;have hdb5:=(hg5.block _ (bJ HDb1.out) (Kd.xP HO1.out HDb1.out (by decide))).trans HDb1.out;have u0:=(gK hdb5).2.2.1;have u1:=aN hdb5 7;have u2:=box1 ((hg5.block _ (bJ HM1.out.b1) (Kd.xP HO1.out HM1.out.b1 (by decide))).trans HM1.out.b1);obtain⟨A5,n5,c5,rfl⟩:=fQ ho5;clear hg5 ho5 hdb5))
 all_goals
  go_wp2;exact HK.out _ (HM1.out.stack HD1.out HO1.out HG5.out (by rw[List.reverse_cons];exact HO5.out))
theorem ZR(st0:List Int)(hl1:last≠32)(hl2:last≠1024)(hlo:eH last)(hM:AU w0 W w p B1 B2 B4 T j (64::st0) last A c 128 pos Ar nr cr b s)
 (hK:RK w0 W p B1 B2 B4 T last A c pos Ar nr cr b s D K (j) (st0) 128):RG w p B1 B2 B4 D K:=by
 unfold RG;intros;have HK:=ah @hK;clear hK;have m1:=box1 hM.b1;obtain⟨t0,t1,t2,t3,t4⟩:=box5 hM.b4;obtain⟨bK,bM,bP,bQ,eF,hd,ho⟩:=hM.dec;obtain⟨Ai,r,ci,hdb,hin⟩:=hd.blk;obtain⟨gs,cap,rfl,ct,hm⟩:=sO ho
 have hcap:st0.length+1<=cap:=by
  obtain⟨A',c',e,hle,_⟩:=Kd.jo ho;injection e with _ e2 e3
  rw[<-e3]at hle;simp only[List.reverse_cons,List.length_append,List.length_reverse,List.length_singleton]at hle;exact hle
 have HT:=ah (Kd.Gh (m:=st0.length) ho (by simp));rw[show(64::st0).reverse.take st0.length=st0.reverse by rw[List.reverse_cons,<-List.length_reverse,List.take_left]]at HT;have hs:=FN (some ⟨gs,0,none⟩) (st0.length+1) cap st0.length (by omega) hcap;obtain⟨_,c1,c7,_⟩:=gK hdb;have f7:=aN hdb 7;obtain⟨N,hN⟩:∃N,N=st0.length+1:=⟨_,rfl⟩
 obtain⟨n,hn⟩:∃n,n=st0.length:=⟨_,rfl⟩
 rw[<-hN,<-hn]at hs;rw[<-hN]at c7 hd ho;rw[<-hn]at HT ct;have e1:((N:Int)==0)=false:=eqF (by omega);have e2:IntKind.i64.wrap ((N:Int)-1)=(n:Int):=by rw[IntKind.wrap_i64];omega
 have e3:wrap64 ((N:Int)-1)=(n:Int):=by unfold wrap64;omega
 have i0:(0:Int)<=(n:Int):=by omega
 have i1:(n:Int)<(N:Int):=by omega
 have hb0:=OV hlo hl1 hl2;have HM:=ah hM;have HD:=ah hd;have HO:=ah ho;clear hM t1 t2 t3 t4 hd ho hdb hin hm hcap hl2 hl1 hlo hN hn;dsimp only[Qo,IC,sq1,dF,sq2,Tryz.f51];go_wp2
 go_quiet (fail)
 go_wp2
 go_region
 all_goals
  go_wp2;exact HK.out _ (HM.out.stack (st1:=st0) HD.out HO.out ⟨rfl,rfl,rfl,Nat.le_refl _,fun _ _ _=>rfl⟩ HT.out)
theorem ZT(st0:List Int)(hl2:last≠1024)(hM:AU w0 W w p B1 B2 B4 T j (256::st0) last A c 512 pos Ar nr cr b s)
 (hK:RK w0 W p B1 B2 B4 T last A c pos Ar nr cr b s D K (j) (st0) 512):RG w p B1 B2 B4 D K:=by
 unfold RG;intros;have HK:=ah @hK;clear hK;have m1:=box1 hM.b1;obtain⟨t0,t1,t2,t3,t4⟩:=box5 hM.b4;obtain⟨bK,bM,bP,bQ,eF,hd,ho⟩:=hM.dec;obtain⟨Ai,r,ci,hdb,hin⟩:=hd.blk;obtain⟨gs,cap,rfl,ct,hm⟩:=sO ho
 have hcap:st0.length+1<=cap:=by
  obtain⟨A',c',e,hle,_⟩:=Kd.jo ho;injection e with _ e2 e3
  rw[<-e3]at hle;simp only[List.reverse_cons,List.length_append,List.length_reverse,List.length_singleton]at hle;exact hle
 have HT:=ah (Kd.Gh (m:=st0.length) ho (by simp));rw[show(256::st0).reverse.take st0.length=st0.reverse by rw[List.reverse_cons,<-List.length_reverse,List.take_left]]at HT;have hs:=FN (some ⟨gs,0,none⟩) (st0.length+1) cap st0.length (by omega) hcap;obtain⟨_,c1,c7,_⟩:=gK hdb;have f7:=aN hdb 7;obtain⟨N,hN⟩:∃N,N=st0.length+1:=⟨_,rfl⟩
 obtain⟨n,hn⟩:∃n,n=st0.length:=⟨_,rfl⟩
 rw[<-hN,<-hn]at hs;rw[<-hN]at c7 hd ho;rw[<-hn]at HT ct;have e1:((N:Int)==0)=false:=eqF (by omega);have e2:IntKind.i64.wrap ((N:Int)-1)=(n:Int):=by rw[IntKind.wrap_i64];omega
 have e3:wrap64 ((N:Int)-1)=(n:Int):=by unfold wrap64;omega
 have i0:(0:Int)<=(n:Int):=by omega
 have i1:(n:Int)<(N:Int):=by omega
 have hb0:(last==1024)=false:=eqF hl2;have HM:=ah hM;have HD:=ah hd;have HO:=ah ho;clear hM t1 t2 t3 t4 hd ho hdb hin hm hcap hl2 hN hn;dsimp only[Qo,IC,sq1,dF,sq2,Tryz.f51];go_wp2
 go_quiet (fail)
 go_wp2
 go_region
 all_goals
  go_wp2;exact HK.out _ (HM.out.stack (st1:=st0) HD.out HO.out ⟨rfl,rfl,rfl,Nat.le_refl _,fun _ _ _=>rfl⟩ HT.out)
theorem XH(t:Int)(st0:List Int)(hl:xR last)(hM:AU w0 W w p B1 B2 B4 T j (t::st0) last A c 1024 pos Ar nr cr b s)
 (hK:RK w0 W p B1 B2 B4 T last A c pos Ar nr cr b s D K (j) (t::st0) 1024):RG w p B1 B2 B4 D K:=by
 unfold RG;intros;have HK:=ah @hK;clear hK;have m1:=box1 hM.b1;obtain⟨t0,t1,t2,t3,t4⟩:=box5 hM.b4;obtain⟨bK,bM,bP,bQ,eF,hd,ho⟩:=hM.dec;obtain⟨Ai,r,ci,hdb,hin⟩:=hd.blk;obtain⟨gs,cap,rfl,ct,hm⟩:=sO ho;obtain⟨_,c1,c7,_⟩:=gK hdb;obtain⟨N,hN⟩:∃N,N=st0.length+1:=⟨_,rfl⟩
 rw[<-hN]at c7;have e1:((N:Int)==0)=false:=eqF (by omega);have hb0:=OW hl;have HM:=ah hM;clear hM t1 t2 t3 t4 hd ho hdb hin hm hl hN ct;dsimp only[Qo,IC,sq1,dF,sq2,Tryz.f51];go_wp2;exact HK.out _ HM.out
theorem adh(hlo:eH last)(hM:AU w0 W w p B1 B2 B4 T j ([]) last A c 1 pos Ar nr cr b s)
 (hK:RK w0 W p B1 B2 B4 T last A c pos Ar nr cr b s D K (j) ([]) 1):RG w p B1 B2 B4 D K:=by
 unfold RG;intros;have HK:=ah @hK;clear hK;have m1:=box1 hM.b1;obtain⟨t0,t1,t2,t3,t4⟩:=box5 hM.b4;obtain⟨bK,bM,bP,bQ,eF,hd,ho⟩:=hM.dec;obtain⟨Ai,r,ci,hdb,hin⟩:=hd.blk;obtain⟨A3,c3,rfl⟩:=Kd.fC ho;obtain⟨_,c1,c7,_⟩:=gK hdb;have c7':w.cell? ⟨p,7,none⟩=some (.slice A3 0 c3):=c7;have hb0:=XG hlo;have HM:=ah hM;clear hM t1 t2 t3 t4 hd ho hdb hin hlo c7;dsimp only[Qo,IC,sq1,dF,sq2,Tryz.f51];go_wp2;exact HK.out _ HM.out
end
end Go.Proofs.YtapkmjfjikpnlaaGreatDoor
