/- Part 24 of the proof of FnEvolved; no condition. -/
import Derived.Test.YtcfblkkpclfmaaaGreatEb21
import Derived.Test.YtcfblkkpclfmaaaGreatEb14
import Derived.Deep.RegionHeld3
import Derived.BigQuiet
import Derived.Test.YtcfblkkpclfmaaaGreatEb23
import Derived.Test.YtcfblkkpclfmaaaGreatEb04
import Derived.Test.YtcfblkkpclfmaaaGreatEb01
import Derived.RegionDies
set_option linter.unusedVariables false
set_option linter.unusedSimpArgs false
set_option maxRecDepth 100000
set_option maxHeartbeats 16000000
namespace Go.Proofs.YtcfblkkpclfmaaaGreat
open Go.RowKit
theorem root0Init(a : Addr)(w : World) : (method 397 116 (.pointer (some a)) "Init").run Tryz.prog w = .ok (263, .pointer (some a)) w := by kernel_rfl
theorem Init0_calls(R:Nat)(x0 x1:Value)(b:Addr)(len cap:Nat)(i:Int)(w:World)(hb:w.heap[R]?=some (.cells #[x0,x1] 117)):
  Calls Tryz.prog 263 #[.pointer (some ⟨R,0,none⟩),.slice (some b) len cap,.int .u32 i] w λe w'=>e=.returned (.tuple #[])/\(w.setCell ⟨R,0,none⟩ (.slice (some b) len cap)).setCell ⟨R,1,none⟩ (.int .u32 i)=w':=by
 have c0:w.cell? ⟨R,0,none⟩=some x0:=by rw[cell_of hb];rfl
 have c1:w.cell? ⟨R,1,none⟩=some x1:=by rw[cell_of hb];rfl
 have f0:=frozen_of hb 0;have f1:=frozen_of hb 1;clear hb;go_enter Tryz.func263,Tryz.ntmps263;go_wp2
 go_end0
 exact⟨rfl,rfl⟩
theorem GetRootAs0_ok(R b len cap off:Nat)(l:List UInt8)(x0 x1:Value)(w:World)(hb:w.heap[R]?=some (.cells #[x0,x1] 117))(hm:Mem w b 0 l)(hlen:l.length=len)(hcap:len<=cap)(h:off+4<=len):
  Calls Tryz.prog 49 #[.slice (some ⟨b,0,none⟩) len cap,.int .u32 off,.iface 116 (.pointer (some ⟨R,0,none⟩))] w λe w'=>e=.returned (.tuple #[]) /\
   (w.setCell ⟨R,0,none⟩ (.slice (some ⟨b,0,none⟩) len cap)).setCell ⟨R,1,none⟩ (.int .u32 (IntKind.u32.wrap ((le ((l.drop off).take 4):Nat)+off)))=w':=by
 obtain⟨i0,hi,hz0,hz1,hz2⟩:=info_parts infoU8;have hsl:=run_slice_from (P:=Tryz.prog) Tryz.underlying81 (by rw[hi];simp[hz1]) b 0 len cap .u32 off off rfl (by omega);have HG:=Hd (GetUOffsetT_ok b (sOff 0 off cap) (len-off) (cap-off) (l.drop off) w (hm.cut (by omega)) (by rw[List.length_drop,hlen]) (by omega));have HI:=Hd (λi=>Init0_calls R x0 x1 ⟨b,0,none⟩ len cap i w hb);have h2:=root0Init;clear hb hm hlen h hcap hi hz0 hz1 hz2;go_enter Tryz.func49,Tryz.ntmps49;go_wp2_with (first|(go_at_call 90;refine HG.out.mono ?_;rintro e w' ⟨rfl,rfl⟩)|(go_at_call 263;refine (HI.out _).mono ?_;rintro e w' ⟨rfl,rfl⟩));go_end0
 refine⟨rfl,?_⟩;rw[IntKind.wrap_u32]
structure Buf(al:Bool)(l:List UInt8)(v:Val):Prop where
 small:l.length<=1000000000
 ref:RefOk al l l.length
 tab:LTab al l v (refE l l.length)
theorem Buf.at0{al:Bool}{l:List UInt8}{v:Val}(h:Buf al l v):4<=l.length/\IntKind.u32.wrap (((le ((l.drop 0).take 4):Nat):Int)+(0:Nat))=((l.length-refE l l.length:Nat):Int):=by
 have h1:=h.ref.low;have h2:=h.ref.lt;have h3:=h.small;have e:le ((l.drop 0).take 4)=at4 l l.length:=by unfold at4 fromEnd;rw[Nat.sub_self]
 refine⟨h1,?_⟩;rw[e,IntKind.wrap_u32];unfold refE;omega
theorem Read1_of(v:Val)(hRT:RdT v)(al:Bool)(l:List UInt8)(sv:Val)(hb:Buf al l v)(hpu:Pure v)(hk:v.kind=15)(hsh:ShOk v sv)(w:World)(D S O:Nat)(cs:List Value)(hD:w.heap[D]?=some (.cells #[.string (strOf l)] 9))(hS:w.heap[S]?=some (.cells cs.toArray 46))
  (hO:w.heap[O]?=some (.cells #[.int .u8 0,.int .u8 0,.int .u64 0,.string ⟨#[]⟩,.slice none 0 0,.slice none 0 0,.slice none 0 0] 46)) (hv:VIs (λ_=>True) w cs sv):
  Calls Tryz.prog 55 #[.pointer (some ⟨D,0,none⟩),.pointer (some ⟨S,0,none⟩),.pointer (some ⟨O,0,none⟩)] w λe w'=>e=.returned (.tuple #[])/\Fr (λk=>k=O) w w'/\∃cs',w'.heap[O]?=some (.cells cs'.toArray 46)/\VIs (λb=>w.heap.size<=b) w' cs' (read0 v):=by
 obtain⟨h4,h0⟩:=hb.at0;obtain⟨q,hq⟩:=exA (l.length-refE l l.length);rw[<-hq] at h0;have hq9:q<4294967296:=by have:=hb.small;omega
 obtain⟨L,hL⟩:=exA (l.length);obtain⟨SS,hSS⟩:=exA (strOf l);have hsz:SS.size=L:=by rw[hSS,strOf_size,hL]
 rw[<-hSS] at hD;have hDl:=lt_of_block hD;have hSl:=lt_of_block hS;have hOl:=lt_of_block hO;have hsl:SS.data.toList=l:=by rw[hSS];rfl
 obtain⟨wA,hwA⟩:=exA (w.alloc (.cells #[.slice none 0 0,.int .u32 0] 117));have hsA:wA.heap.size=w.heap.size+1:=by rw[hwA];simp
 have hfA:Fr0 w wA:=by rw[hwA];exact (Fr.refl _ w).alloc _
 have hRA:wA.heap[w.heap.size]?=some (.cells #[.slice none 0 0,.int .u32 0] 117):=by rw[hwA];exact heap_alloc_new _ _
 have hslc:=slice_calls SS wA (by rw[hsz,hL];exact hb.small);rw[hsz,hsl] at hslc;obtain⟨wB,hwB⟩:=exA (wA.alloc (.cells (cellsOf l).toArray 5));have hfB:Fr0 wA wB:=by rw[hwB];exact (Fr.refl _ wA).alloc _
 have hsB:wB.heap.size=wA.heap.size+1:=by rw[hwB];simp
 have hBB:wB.heap[wA.heap.size]?=some (.cells (cellsOf l).toArray 5):=by rw[hwB];exact heap_alloc_new _ _
 have hRB:=(hfB.block w.heap.size (by omega) (λx=>x)).trans hRA;have hgr:=GetRootAs0_ok w.heap.size wA.heap.size L L 0 l (.slice none 0 0) (.int .u32 0) wB hRB (Mem.of_block hBB) hL.symm (Nat.le_refl _) (by omega);rw[h0] at hgr;obtain⟨wC,hwC⟩:=exA ((wB.setCell ⟨w.heap.size,0,none⟩ (.slice (some ⟨wA.heap.size,0,none⟩) L L)).setCell ⟨w.heap.size,1,none⟩ (.int .u32 q));have hfC:Fr (λb=>b=w.heap.size) wB wC:=by rw[hwC];exact (Fr.set1 wB _ 0 _).trans (Fr.set1 _ _ 1 _)
 have hRC:wC.heap[w.heap.size]?=some (.cells #[.slice (some ⟨wA.heap.size,0,none⟩) L L,.int .u32 q] 117):=by
  rw[hwC,heap_setCell_same (heap_setCell_same hRB 0 _) 1 _];rfl
 have hBC:=(hfC.block wA.heap.size (by omega) (by omega)).trans hBB;have hTab:Tab wC w.heap.size wA.heap.size l q:=⟨by rw[cell_of hRC,<-hL];rfl,by rw[cell_of hRC];rfl,hBC,by have:=hb.small;omega,hq9⟩;have hfwC:Fr0 w wC:=(hfA.trans hfB).trans2 hfC (λb hb e=>by omega);have hsC:w.heap.size+2<=wC.heap.size:=by have:=hfC.size;omega
 have hrt:=λ(w':World) (h:Fr0 wC w')=>hRT hpu hk sv al w.heap.size wA.heap.size (refE l l.length) l w' cs hsh (by rw[<-hq];exact hTab.keep0 h (by omega)) (by have:=h.size;omega) hb.tab ((hv.fr0 hfwC (λ_ _ h=>h)).fr0 h (λ_ _ h=>h));rw[<-hwB] at hslc;rw[<-hwC] at hgr;obtain⟨na,nl,nc,ka,nk,kc,sa,nss,sc,rfl⟩:=hv.lit;obtain⟨rv,hrv⟩:=exA (read0 v);rw[<-hrv] at hrt ⊢;obtain⟨k,hkk⟩:=exA (sv.kind);obtain⟨e,hee⟩:=exA (sv.elem);obtain⟨n,hn⟩:=exA (sv.num);obtain⟨tt,htt⟩:=exA (strOf sv.text);rw[<-hkk,<-hee,<-hn,<-htt] at hrt hS;have d0:wA.cell? ⟨D,0,none⟩=some (.string SS):=by rw[cell_of ((hfA.block D hDl (λx=>x)).trans hD)];rfl
 have hSC:=(hfwC.block S hSl (λx=>x)).trans hS;have hOC:=(hfwC.block O hOl (λx=>x)).trans hO;have v0:wC.cell? ⟨S,0,none⟩=some (.int .u8 k):=by rw[cell_of hSC];rfl
 have v1:wC.cell? ⟨S,1,none⟩=some (.int .u8 e):=by rw[cell_of hSC];rfl
 have v2:wC.cell? ⟨S,2,none⟩=some (.int .u64 n):=by rw[cell_of hSC];rfl
 have v3:wC.cell? ⟨S,3,none⟩=some (.string tt):=by rw[cell_of hSC];rfl
 have v4:wC.cell? ⟨S,4,none⟩=some (.slice na nl nc):=by rw[cell_of hSC];rfl
 have v5:wC.cell? ⟨S,5,none⟩=some (.slice ka nk kc):=by rw[cell_of hSC];rfl
 have v6:wC.cell? ⟨S,6,none⟩=some (.slice sa nss sc):=by rw[cell_of hSC];rfl
 rw[hsA] at hslc hgr;rw[hwA] at hslc d0;rw[show (((0:Nat):Int))=0 from rfl] at hgr;have HSLC:=Hd hslc;have HGR:=Hd hgr;have HRT:=Hd hrt;have HOC:=Hd hOC;have HFC:=Hd hfwC;have HW:=Hd hwA;have HSCC:=Hd hsC;clear hwA hslc hgr hrt hOC hfwC hRA hRB hRC hBB hBC hTab hfA hfB hfC hwB hwC hSC hD hS hO hb hv hpu hk hsh hrv hkk hee hn htt hsB hSS hsz hsl hL h0 hq h4;go_enter Tryz.func55,Tryz.ntmps55;clear hsA;go_wp2_with fail;refine HSLC.out.mono ?_;rintro e2 w2 ⟨rfl,rfl⟩;go_wp2_with fail;refine HGR.out.mono ?_;rintro e2 w2 ⟨rfl,rfl⟩;go_wp2_with fail;refine wp_region_tail_held 5 (S:=(λw'=>Fr0 wC w')) _ kr kr kr ((Fr.refl _ wC).drew) (λhHeld=>?_);simp only[zD,zE,zF,zG,List.length_cons,List.length_nil,Nat.zero_add,Nat.reduceAdd];refine tk 0 (.pointer (some ⟨w.heap.size,0,none⟩)) rfl ?_ ?_
 ·intro w' hc;clear hc;go_simp
 simp only[Act.put,zA,zB,zC];refine tk 1 (.pointer (some ⟨w.heap.size,0,none⟩)) rfl ?_ ?_
 ·intro w' hc;clear hc;go_simp
 simp only[Act.put,zA,zB,zC];refine tk 2 (.pointer (some ⟨w.heap.size,0,none⟩)) rfl ?_ ?_
 ·intro w' hc;clear hc;go_simp
 simp only[Act.put,zA,zB,zC];refine tk 3 (.agg #[.int .u8 k,.int .u8 e,.int .u64 n,.string tt,.slice na nl nc,.slice ka nk kc,.slice sa nss sc]) rfl ?_ ?_
 ·intro w' hc;obtain⟨a0,a1,a2,a3,a4,a5,a6⟩:=kf7 hc v0 v1 v2 v3 v4 v5 v6 (λx=>x);clear hc;go_simp
 simp only[Act.put,zA,zB,zC];refine rd 4 rfl λK hK=>?_;go_simp;refine (HRT.out _ ((Fr.refl _ wC).drew)).mono ?_;rintro e7 w7 ⟨cs7,rfl,hv7,hf7⟩;obtain⟨na6,nl6,nc6,ka6,nk6,kc6,sa6,ns6,sc6,rfl⟩:=hv7.lit;have hS7:Fr0 wC w7:=((Fr.refl _ wC).drew).trans hf7;refine hK.out _ _ hS7 (λ_=>?_);try simp only[Act.put,zA,zB,zC]
 have hO7:=(hS7.block O (by omega) (λx=>x)).trans HOC.out;have qx:=λj u (hu:(#[.int .u8 0,.int .u8 0,.int .u64 0,.string ⟨#[]⟩,.slice none 0 0,.slice none 0 0,.slice none 0 0]:Array Value)[j]?=some u)=>(cell_of hO7 j).trans hu;have q0:=qx 0 _ rfl;have q1:=qx 1 _ rfl;have q2:=qx 2 _ rfl;have q3:=qx 3 _ rfl;have q4:=qx 4 _ rfl;have q5:=qx 5 _ rfl;have q6:=qx 6 _ rfl;have f0:=frozen_of hO7 0;have f1:=frozen_of hO7 1;have f2:=frozen_of hO7 2;have f3:=frozen_of hO7 3;have f4:=frozen_of hO7 4;have f5:=frozen_of hO7 5;have f6:=frozen_of hO7 6;have HO7:=Hd hO7;have HV7:=Hd hv7;have HS7:=Hd hS7;have HF7:=Hd hf7;clear hO7 qx hv7 hf7 hS7 v0 v1 v2 v3 v4 v5 v6;refine wpAnyH_done kr ?_ _;show wpTail _ _ _ _ _ _ _;refine wpTail_step (by rfl) (λK hK=>?_);go_simp;refine hK _ _ ?_;refine wpTail_nil ?_;clear hK K;go_wp2_with fail;go_end0
 have h7:=fr_set7 w7 O (.int .u8 rv.kind) (.int .u8 rv.elem) (.int .u64 rv.num) (.string (strOf rv.text)) (.slice na6 nl6 nc6) (.slice ka6 nk6 kc6) (.slice sa6 ns6 sc6);have hcs:=heap_setCell_same (heap_setCell_same (heap_setCell_same (heap_setCell_same (heap_setCell_same (heap_setCell_same (heap_setCell_same HO7.out 0 (.int .u8 rv.kind)) 1 (.int .u8 rv.elem)) 2 (.int .u64 rv.num)) 3 (.string (strOf rv.text))) 4 (.slice na6 nl6 nc6)) 5 (.slice ka6 nk6 kc6)) 6 (.slice sa6 ns6 sc6);rw[set7_all] at hcs;refine⟨rfl,((HFC.out.trans HS7.out).mono (S':=λb=>b=O) (λ_ _ x=>x.elim)).trans h7,[.int .u8 rv.kind,.int .u8 rv.elem,.int .u64 rv.num,.string (strOf rv.text),.slice na6 nl6 nc6,.slice ka6 nk6 kc6,.slice sa6 ns6 sc6],hcs,?_⟩;refine HV7.out.fr h7 (λb hb hbb=>?_);have h1:wC.heap.size<=b:=by
  rcases hbb with h|h
  ·exact h.elim
  ·exact h
 have h2:=HSCC.out;exact⟨by omega,λe=>by omega⟩
theorem enterRead1(caps:Array Value)(w:World):(callFunc 55 caps).run Tryz.prog w=.ok (.enter 55 caps) w:=by kernel_rfl
theorem results_cell_tmp7{P:Program}{fn:Func}{p q:Tmp}{ty:TypeId}(h:fn.results=#[.cell p ty,.tmp q])(tmps:Array Value)(w:World)(g:Nat)(t:TypeId)(c:Array Value)(d:TypeDesc)(x0 x1 x2 x3 x4 x5 x6:Value)
  (hp:tmps.getD p undef=.pointer (some ⟨g,0,none⟩)) (hc:c.size=7) (hg:w.heap[g]?=some (.cells c t)) (hu:P.underlying ty=some d) (hd:(match d with|.struct _|.array _ _=>true|_=>false)=true) (hi:(P.info? ty).map (·.size)=some 7):
  (results fn tmps).run P (((((((w.setCell ⟨g,0,none⟩ x0).setCell ⟨g,1,none⟩ x1).setCell ⟨g,2,none⟩ x2).setCell ⟨g,3,none⟩ x3).setCell ⟨g,4,none⟩ x4).setCell ⟨g,5,none⟩ x5).setCell ⟨g,6,none⟩ x6)=.ok (.tuple #[.agg #[x0,x1,x2,x3,x4,x5,x6],tmps.getD q undef]) (((((((w.setCell ⟨g,0,none⟩ x0).setCell ⟨g,1,none⟩ x1).setCell ⟨g,2,none⟩ x2).setCell ⟨g,3,none⟩ x3).setCell ⟨g,4,none⟩ x4).setCell ⟨g,5,none⟩ x5).setCell ⟨g,6,none⟩ x6):=by
 obtain⟨a0,a1,a2,a3,a4,a5,a6,rfl⟩:=arr7 hc;have h7:=heap_setCell_same (heap_setCell_same (heap_setCell_same (heap_setCell_same (heap_setCell_same (heap_setCell_same (heap_setCell_same hg 0 x0) 1 x1) 2 x2) 3 x3) 4 x4) 5 x5) 6 x6;rw[set7_all] at h7;exact results_cell_tmp h tmps _ ⟨g,0,none⟩ _ hp (run_loadVar_row _ g t ty _ (0,0) d h7 hu hd hi)
theorem Read_of(v:Val)(hRT:RdT v)(al:Bool)(l:List UInt8)(sv:Val)(hb:Buf al l v)(hpu:Pure v)(hk:v.kind=15)(hsh:ShOk v sv)(w:World)(cs:List Value)(hv:VIs (λ_=>True) w cs sv):
  Calls Tryz.prog 29 #[.string (strOf l),.agg cs.toArray] w λe w'=>∃cs',e=.returned (.tuple #[.agg cs'.toArray,.bool true])/\VIs (λb=>w.heap.size<=b) w' cs' (read0 v)/\Fr0 w w':=by
 obtain⟨w1,hw1⟩:=exA (((w.alloc (.cells #[.string (strOf l)] 9)).alloc (.cells cs.toArray 46)).alloc (.cells #[.int .u8 0,.int .u8 0,.int .u64 0,.string ⟨#[]⟩,.slice none 0 0,.slice none 0 0,.slice none 0 0] 46));have hf1:Fr0 w w1:=by rw[hw1];exact (((Fr.refl _ w).alloc _).alloc _).alloc _
 have hs1:w1.heap.size=w.heap.size+3:=by rw[hw1];simp
 have hD1:w1.heap[w.heap.size]?=some (.cells #[.string (strOf l)] 9):=by
  rw[hw1];simp only[heap_alloc_get,size_alloc];rw[if_neg (by omega),if_neg (by omega),if_pos trivial]
 have hS1:w1.heap[w.heap.size+1]?=some (.cells cs.toArray 46):=by
  rw[hw1];simp only[heap_alloc_get,size_alloc];rw[if_neg (by omega),if_pos trivial]
 have hO1:w1.heap[w.heap.size+1+1]?=some (.cells #[.int .u8 0,.int .u8 0,.int .u64 0,.string ⟨#[]⟩,.slice none 0 0,.slice none 0 0,.slice none 0 0] 46):=by
  rw[hw1];simp only[heap_alloc_get,size_alloc];rw[if_pos trivial]
 have hal:Fr0 w1 (w1.alloc thrownVar):=(Fr.refl _ w1).alloc _;have h1:=Read1_of v hRT al l sv hb hpu hk hsh (w1.alloc thrownVar) w.heap.size (w.heap.size+1) (w.heap.size+1+1) cs (by rw[heap_alloc_old _ _ _ (by omega)];exact hD1) (by rw[heap_alloc_old _ _ _ (by omega)];exact hS1) (by rw[heap_alloc_old _ _ _ (by omega)];exact hO1) ((hv.fr0 hf1 (λ_ _ h=>h)).fr0 hal (λ_ _ h=>h));have hth:=thrown_ok (S:=λx=>x=w.heap.size+1+1) (R:=λw'=>Fr (λx=>x=w.heap.size+1+1) (w1.alloc thrownVar) w'/\∃cs',w'.heap[w.heap.size+1+1]?=some (.cells cs'.toArray 46)/\VIs (λb=>(w1.alloc thrownVar).heap.size<=b) w' cs' (read0 v)) (λw=>enterRead1 _ w) h1 (λ_ h=>h.1) (by omega);obtain⟨SS,hSS⟩:=exA (strOf l);obtain⟨rv,hrv⟩:=exA (read0 v);rw[<-hrv] at hth ⊢;rw[<-hSS] at hw1 ⊢;obtain⟨na,nl,nc,ka,nk,kc,sa,nss,sc,rfl⟩:=hv.lit;obtain⟨k,hkk⟩:=exA (sv.kind);obtain⟨e,hee⟩:=exA (sv.elem);obtain⟨n,hn⟩:=exA (sv.num);obtain⟨tt,htt⟩:=exA (strOf sv.text);rw[<-hkk,<-hee,<-hn,<-htt] at hw1 ⊢;rw[hw1] at hth;have HTH:=Hd hth;have HW1:=Hd hw1;have HF1:=Hd hf1;have HS1:=Hd hs1;clear hth hw1 hf1 hs1 hD1 hS1 hO1 hal h1 hv hrv hSS hkk hee hn htt hb hpu hk hsh;have hmf:∀(fn:Fn) (first cap:Array Value) (w:World),(Instr.makeFunc fn first cap).run Tryz.prog w=.ok (.func fn first cap) w:=λ_ _ _ _=>rfl;go_enter Tryz.func29,Tryz.ntmps29;go_wp2_with fail;refine HTH.out.mono ?_;rintro e2 w2 ⟨rfl,w3,⟨hf3,cs',hb3,hv3⟩,hf4⟩;rw[<-HW1.out] at hf3 hf4 hv3;have hb4:=(hf4.block (w.heap.size+1+1) (lt_of_block hb3) (by have:=HS1.out;omega)).trans hb3;obtain⟨na6,nl6,nc6,ka6,nk6,kc6,sa6,ns6,sc6,rfl⟩:=hv3.lit;have hv4:VIs (λb=>w.heap.size+4<=b) w2 _ rv:=hv3.fr hf4 (λb hb hbb=>⟨by rw[size_alloc] at hbb;have:=HS1.out;omega,λe=>by rw[size_alloc] at hbb;omega⟩);have hf5:Fr0 w w2:=by
  have h0:Fr0 w (w1.alloc thrownVar):=HF1.out.trans ((Fr.refl _ w1).alloc _);have hs:=HS1.out;exact (h0.trans2 hf3 (λq hq hm=>by omega)).trans2 hf4 (λq hq hm=>by omega)
 have qx:=λj u (hu:(#[.int .u8 rv.kind,.int .u8 rv.elem,.int .u64 rv.num,.string (strOf rv.text),.slice na6 nl6 nc6,.slice ka6 nk6 kc6,.slice sa6 ns6 sc6]:Array Value)[j]?=some u)=>(cell_of hb4 j).trans hu;have q0:=qx 0 _ rfl;have q1:=qx 1 _ rfl;have q2:=qx 2 _ rfl;have q3:=qx 3 _ rfl;have q4:=qx 4 _ rfl;have q5:=qx 5 _ rfl;have q6:=qx 6 _ rfl;have f0:=frozen_of hb4 0;have f1:=frozen_of hb4 1;have f2:=frozen_of hb4 2;have f3:=frozen_of hb4 3;have f4:=frozen_of hb4 4;have f5:=frozen_of hb4 5;have f6:=frozen_of hb4 6;have HF5:=Hd hf5;have HB4:=Hd hb4;have HV4:=Hd hv4;clear hf3 hb3 hf4 hb4 hf5 hv3 hv4 qx;go_wp2_with fail;refine bodyPost_ret (results_cell_tmp7 (P:=Tryz.prog) rfl _ _ (w.heap.size+1+1) 46 _ _ _ _ _ _ _ _ _ rfl rfl HB4.out Tryz.underlying46 rfl infoIVs) rfl ?_;have h7:=fr_set7 w2 (w.heap.size+1+1) (.int .u8 rv.kind) (.int .u8 rv.elem) (.int .u64 rv.num) (.string (strOf rv.text)) (.slice na6 nl6 nc6) (.slice ka6 nk6 kc6) (.slice sa6 ns6 sc6);exact⟨[.int .u8 rv.kind,.int .u8 rv.elem,.int .u64 rv.num,.string (strOf rv.text),.slice na6 nl6 nc6,.slice ka6 nk6 kc6,.slice sa6 ns6 sc6],rfl,HV4.out.fr h7 (λb hb hbb=>⟨by omega,λe=>by omega⟩),HF5.out.trans2 h7 (λb hb e=>by omega)⟩
end Go.Proofs.YtcfblkkpclfmaaaGreat
