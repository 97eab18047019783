/- Part 41 of the proof of FnEvolved; no condition. -/
import Derived.Test.YtcfblkkpclfmaaaGreatEb40
import Derived.Test.YtcfblkkpclfmaaaGreatEb24
import Derived.Test.YtcfblkkpclfmaaaGreatEb21
import Derived.Test.YtcfblkkpclfmaaaGreatEb03
set_option linter.unusedVariables false
set_option linter.unusedSimpArgs false
set_option maxRecDepth 100000
set_option maxHeartbeats 16000000
namespace Go.Proofs.YtcfblkkpclfmaaaGreat
open Go.RowKit
theorem Read_calls(al:Bool)(l:List UInt8)(v sv:Val)(hb:Buf al l v)(hpu:Pure v)(hk:v.kind=15)(hsh:ShOk v sv)(w:World)(cs:List Value)(hv:VIs (λ_=>True) w cs sv):
  Calls Tryz.prog 29 #[.string (strOf l),.agg cs.toArray] w λe w'=>∃cs',e=.returned (.tuple #[.agg cs'.toArray,.bool true])/\VIs (λb=>w.heap.size<=b) w' cs' (read0 v)/\Fr0 w w':=Read_of v (read_val v).2 al l sv hb hpu hk hsh w cs hv
theorem wrap_mul(a M:Nat):IntKind.u64.wrap ((a:Int)*(M:Int))=((a*M%18446744073709551616:Nat):Int):=by
 have e:(a:Int)*(M:Int)=((a*M:Nat):Int):=by simp
 rw[e];simp[IntKind.wrap,IntKind.bits,IntKind.signed]
theorem shl9(a:Nat):IntKind.u64.wrap ((a:Int)*8589934592)=0 ↔ a%2^31=0:=by
 rw[show (8589934592:Int)=((8589934592:Nat):Int) from rfl,wrap_mul,show (18446744073709551616:Nat)=2^31*8589934592 from rfl,Nat.mul_mod_mul_right];omega
theorem shl10(a:Nat):IntKind.u64.wrap ((a:Int)*2)=0 ↔ a%2^63=0:=by
 rw[show (2:Int)=((2:Nat):Int) from rfl,wrap_mul,show (18446744073709551616:Nat)=2^63*2 from rfl,Nat.mul_mod_mul_right];omega
theorem specEqual_9(a b:Nat)(w:World):Calls Tryz.prog 53 #[.int .u8 (9:Nat),.int .u64 a,.int .u64 b] w λe w'=>e=.returned (.bool (eqK 9 a b))/\w=w':=by
 obtain⟨x,hx⟩:∃x,IntKind.u64.wrap ((a:Int)*8589934592)=x:=⟨_,rfl⟩;obtain⟨y,hy⟩:∃y,IntKind.u64.wrap ((b:Int)*8589934592)=y:=⟨_,rfl⟩;have ea:x=0 ↔ a%2^31=0:=by rw[<-hx];exact shl9 a
 have eb:y=0 ↔ b%2^31=0:=by rw[<-hy];exact shl9 b
 have HA:=Hd ea;have HB:=Hd eb;clear ea eb;by_cases hab:a=b
 ·have hE:eqK 9 a b=true:=decide_eq_true (.inl hab);have e1:((a:Int)==b)=true:=by simp;omega
  clear hab;go_enter Tryz.func53,Tryz.ntmps53;go_wp2_with fail;go_ret;exact⟨congrArg Ending.returned (congrArg Value.bool hE.symm),rfl⟩
 have HAB:=Hd hab;have e1:((a:Int)==b)=false:=by simp;omega
 clear hab;by_cases hx0:x=0
 ·have g1:(x==0)=true:=by simp[hx0]
  have hx1:=HA.out.1 hx0;have HX:=Hd hx1;clear hx0 hx1;by_cases hy0:y=0
  ·have g2:(y==0)=true:=by simp[hy0]
   have hE:eqK 9 a b=true:=decide_eq_true (.inr ⟨HX.out,HB.out.1 hy0⟩);clear hy0;go_enter Tryz.func53,Tryz.ntmps53;go_wp2_with fail;go_ret;exact⟨congrArg Ending.returned (congrArg Value.bool hE.symm),rfl⟩
  ·have g2:(y==0)=false:=by simp[hy0]
   have hE:eqK 9 a b=false:=decide_eq_false (λh=>h.elim HAB.out (λh=>hy0 (HB.out.2 h.2)));clear hy0;go_enter Tryz.func53,Tryz.ntmps53;go_wp2_with fail;go_ret;exact⟨congrArg Ending.returned (congrArg Value.bool hE.symm),rfl⟩
 ·have g1:(x==0)=false:=by simp[hx0]
  have hE:eqK 9 a b=false:=decide_eq_false (λh=>h.elim HAB.out (λh=>hx0 (HA.out.2 h.1)));clear hx0;go_enter Tryz.func53,Tryz.ntmps53;go_wp2_with fail;go_ret;exact⟨congrArg Ending.returned (congrArg Value.bool hE.symm),rfl⟩
theorem specEqual_10(a b:Nat)(w:World):Calls Tryz.prog 53 #[.int .u8 (10:Nat),.int .u64 a,.int .u64 b] w λe w'=>e=.returned (.bool (eqK 10 a b))/\w=w':=by
 obtain⟨x,hx⟩:∃x,IntKind.u64.wrap ((a:Int)*2)=x:=⟨_,rfl⟩;obtain⟨y,hy⟩:∃y,IntKind.u64.wrap ((b:Int)*2)=y:=⟨_,rfl⟩;have ea:x=0 ↔ a%2^63=0:=by rw[<-hx];exact shl10 a
 have eb:y=0 ↔ b%2^63=0:=by rw[<-hy];exact shl10 b
 have HA:=Hd ea;have HB:=Hd eb;clear ea eb;by_cases hab:a=b
 ·have hE:eqK 10 a b=true:=decide_eq_true (.inl hab);have e1:((a:Int)==b)=true:=by simp;omega
  clear hab;go_enter Tryz.func53,Tryz.ntmps53;go_wp2_with fail;go_ret;exact⟨congrArg Ending.returned (congrArg Value.bool hE.symm),rfl⟩
 have HAB:=Hd hab;have e1:((a:Int)==b)=false:=by simp;omega
 clear hab;by_cases hx0:x=0
 ·have g1:(x==0)=true:=by simp[hx0]
  have hx1:=HA.out.1 hx0;have HX:=Hd hx1;clear hx0 hx1;by_cases hy0:y=0
  ·have g2:(y==0)=true:=by simp[hy0]
   have hE:eqK 10 a b=true:=decide_eq_true (.inr ⟨HX.out,HB.out.1 hy0⟩);clear hy0;go_enter Tryz.func53,Tryz.ntmps53;go_wp2_with fail;go_ret;exact⟨congrArg Ending.returned (congrArg Value.bool hE.symm),rfl⟩
  ·have g2:(y==0)=false:=by simp[hy0]
   have hE:eqK 10 a b=false:=decide_eq_false (λh=>h.elim HAB.out (λh=>hy0 (HB.out.2 h.2)));clear hy0;go_enter Tryz.func53,Tryz.ntmps53;go_wp2_with fail;go_ret;exact⟨congrArg Ending.returned (congrArg Value.bool hE.symm),rfl⟩
 ·have g1:(x==0)=false:=by simp[hx0]
  have hE:eqK 10 a b=false:=decide_eq_false (λh=>h.elim HAB.out (λh=>hx0 (HA.out.2 h.1)));clear hx0;go_enter Tryz.func53,Tryz.ntmps53;go_wp2_with fail;go_ret;exact⟨congrArg Ending.returned (congrArg Value.bool hE.symm),rfl⟩
theorem specEqual_calls(k a b:Nat)(hk:k<=10)(w:World):Calls Tryz.prog 53 #[.int .u8 k,.int .u64 a,.int .u64 b] w λe w'=>e=.returned (.bool (eqK k a b))/\w=w':=by
 by_cases h9:k=9
 ·subst h9;exact specEqual_9 a b w
 by_cases h10:k=10
 ·subst h10;exact specEqual_10 a b w
 have g1:((k:Int)==9)=false:=by simp;omega
 have g2:((k:Int)==10)=false:=by simp;omega
 have h:eqK k a b=decide (a=b):=by unfold eqK;rw[if_neg h9,if_neg h10]
 clear hk h9 h10;by_cases hab:a=b
 ·have hE:eqK k a b=true:=by rw[h];exact decide_eq_true hab
  have e1:((a:Int)==b)=true:=by simp;omega
  clear hab h;go_enter Tryz.func53,Tryz.ntmps53;go_wp2_with fail;go_ret;exact⟨congrArg Ending.returned (congrArg Value.bool hE.symm),rfl⟩
 ·have hE:eqK k a b=false:=by rw[h];exact decide_eq_false hab
  have e1:((a:Int)==b)=false:=by simp;omega
  clear hab h;go_enter Tryz.func53,Tryz.ntmps53;go_wp2_with fail;go_ret;exact⟨congrArg Ending.returned (congrArg Value.bool hE.symm),rfl⟩
def SameC(v:Val):Prop:=∀(B:Nat->Prop) (ca cb:List Value) (w:World),VIs B w ca v->VIs B w cb v->Calls Tryz.prog 31 #[.agg ca.toArray,.agg cb.toArray] w λe w'=>e=.returned (.bool true)/\Fr0 w w'
structure SF(w:World)(b1 b2:List Value)(wx:World):Prop where
 fr:Fr0 w wx
 size:w.heap.size+2<=wx.heap.size
 h1:wx.heap[w.heap.size]?=some (.cells b1.toArray 27)
 h2:wx.heap[w.heap.size+1]?=some (.cells b2.toArray 27)
theorem SF.start(w:World)(b1 b2:List Value):SF w b1 b2 ((w.alloc (.cells b1.toArray 27)).alloc (.cells b2.toArray 27)):=by
 refine⟨((Fr.refl _ w).alloc _).alloc _,by simp,?_,?_⟩
 ·simp only[heap_alloc_get,size_alloc];rw[if_neg (by omega),if_pos trivial]
 ·simp only[heap_alloc_get,size_alloc];rw[if_pos trivial]
theorem SF.next{w:World}{b1 b2:List Value}{wx w6:World}(h:SF w b1 b2 wx)(hf:Fr0 wx w6):SF w b1 b2 w6:=by
 have hs:=h.size;have hs6:=hf.size;exact⟨h.fr.trans hf,by omega,(hf.block _ (by omega) (λx=>x)).trans h.h1,(hf.block _ (by omega) (λx=>x)).trans h.h2⟩
theorem SF.c1{w:World}{b0 b1 b2 b3 b4 b5 b6:Value}{bo:List Value}{wx:World}(h:SF w [b0,b1,b2,b3,b4,b5,b6] bo wx):wx.cell? ⟨w.heap.size,0,none⟩=some b0/\wx.cell? ⟨w.heap.size,1,none⟩=some b1/\wx.cell? ⟨w.heap.size,2,none⟩=some b2/\wx.cell? ⟨w.heap.size,3,none⟩=some b3/\wx.cell? ⟨w.heap.size,4,none⟩=some b4/\wx.cell? ⟨w.heap.size,5,none⟩=some b5/\wx.cell? ⟨w.heap.size,6,none⟩=some b6:=by
 have hb:=h.h1;exact⟨by rw[cell_of hb];rfl,by rw[cell_of hb];rfl,by rw[cell_of hb];rfl,by rw[cell_of hb];rfl,by rw[cell_of hb];rfl,by rw[cell_of hb];rfl,by rw[cell_of hb];rfl⟩
theorem SF.c2{w:World}{b0 b1 b2 b3 b4 b5 b6:Value}{bo:List Value}{wx:World}(h:SF w bo [b0,b1,b2,b3,b4,b5,b6] wx):wx.cell? ⟨w.heap.size+1,0,none⟩=some b0/\wx.cell? ⟨w.heap.size+1,1,none⟩=some b1/\wx.cell? ⟨w.heap.size+1,2,none⟩=some b2/\wx.cell? ⟨w.heap.size+1,3,none⟩=some b3/\wx.cell? ⟨w.heap.size+1,4,none⟩=some b4/\wx.cell? ⟨w.heap.size+1,5,none⟩=some b5/\wx.cell? ⟨w.heap.size+1,6,none⟩=some b6:=by
 have hb:=h.h2;exact⟨by rw[cell_of hb];rfl,by rw[cell_of hb];rfl,by rw[cell_of hb];rfl,by rw[cell_of hb];rfl,by rw[cell_of hb];rfl,by rw[cell_of hb];rfl,by rw[cell_of hb];rfl⟩
theorem wp_region_heldL{P:Program}{Q:Exit->Act->World->Prop}{S:World->Prop}{id:Nat}{a:Act}{w:World}(ops:List Oper)(hm:P.follows .mixedOrders=true)(hS:S w.drew)
  (h:S w.drew->wpAnyH P .any ops.toArray Q S ops.length (Array.replicate ops.length false) a w.drew):(Code.region id ops.toArray true).wp P Q a w :=
 wp_region_held_drew (ops:=ops.toArray) hm hS (λx=>by have:=h x;simpa using this)
theorem same_calls:∀v,Small v->SameC v:=by
 intro v;induction v using Val.ind with
 | h k e n t ns ks ss ihk ihs =>
  intro hsm B ca cb w ha hb;cases hsm with
  | mk _ _ _ _ _ _ _ hks0 hss0 hsk hsss =>
  cases ha with
  | mk _ _ _ _ _ _ _ nv ka kc kg ko sa sc sg so hk he hn ht hnv hka hkc hks hsa hsc hsd hss =>
  cases hb with
  | mk _ _ _ _ _ _ _ nv2 kb kd kh kp sb sd sh sp hk2 he2 hn2 ht2 hnv2 hkb hkd hks2 hsb hsd2 hsd3 hss2 =>
  obtain⟨na,nc,rfl,hn1,hn2,hn3,hn4⟩:=hnv.ok;obtain⟨nb,mc,rfl,hm1,hm2,hm3,hm4⟩:=hnv2.ok;obtain⟨tt,htt⟩:=exA (strOf t);obtain⟨nl,hnl⟩:=exA (ns.length);obtain⟨nk,hnk⟩:=exA (ks.length);obtain⟨nss,hnss⟩:=exA (ss.length);rw[<-htt,<-hnl,<-hnk,<-hnss];have hlm:nl<=nc/\nc<=maxLen:=⟨by rw[hnl];exact hn1,hn2⟩;unfold maxLen at hlm;obtain⟨hlm1,hlm2⟩:=hlm;have HST:=Hd (show SF w [.int .u8 k,.int .u8 e,.int .u64 n,.string tt,.slice na nl nc,.slice ka nk kc,.slice sa nss sc] [.int .u8 k,.int .u8 e,.int .u64 n,.string tt,.slice nb nl mc,.slice kb nk kd,.slice sb nss sd] ((w.alloc (.cells #[.int .u8 k,.int .u8 e,.int .u64 n,.string tt,.slice na nl nc,.slice ka nk kc,.slice sa nss sc] 27)).alloc (.cells #[.int .u8 k,.int .u8 e,.int .u64 n,.string tt,.slice nb nl mc,.slice kb nk kd,.slice sb nss sd] 27)) from SF.start w _ _);have HNUM:=Hd (And.intro hn3 hm3);have HKA:=Hd (And.intro hka hkb);have HKS:=Hd (And.intro hks hks2);have HSA:=Hd (And.intro hsa hsb);have HSD:=Hd (And.intro hsd hsd3);have HSS:=Hd (And.intro hss hss2);have HN:=Hd (And.intro hnl (And.intro hnk hnss));have IHK:=Hd ihk;have IHS:=Hd ihs;have HSK:=Hd hsk;have HSL:=Hd hsss;rw[<-hnk] at hks0;rw[<-hnss] at hss0;clear ihk ihs hsk hsss hk he hn ht hnv hka hkc hks hsa hsc hsd hss hk2 he2 hn2 ht2 hnv2 hkb hkd hks2 hsb hsd2 hsd3 hss2 hn1 hn3 hn4 hm1 hm2 hm3 hm4 htt hnl hnk hnss;go_enter Tryz.func31,Tryz.ntmps31;go_upto_region 1 with fail;generalize hw2:((w.alloc (.cells #[.int .u8 k,.int .u8 e,.int .u64 n,.string tt,.slice na nl nc,.slice ka nk kc,.slice sa nss sc] 27)).alloc (.cells #[.int .u8 k,.int .u8 e,.int .u64 n,.string tt,.slice nb nl mc,.slice kb nk kd,.slice sb nss sd] 27))=w2 at *;clear hw2;obtain⟨a0,a1,a2,a3,a4,a5,a6⟩:=HST.out.c1;obtain⟨b0,b1,b2,b3,b4,b5,b6⟩:=HST.out.c2;iterate 15 (first|go_values|go_skip|go_guarded|go_step|go_upon|go_back)
  try simp only[List.append_eq,List.cons_append,List.nil_append]
  go_wp2_with fail;go_loopw [67] (λiv wr=>∃i:Nat,i<=nl/\iv=.int .i64 i/\SF w [.int .u8 k,.int .u8 e,.int .u64 n,.string tt,.slice na nl nc,.slice ka nk kc,.slice sa nss sc] [.int .u8 k,.int .u8 e,.int .u64 n,.string tt,.slice nb nl mc,.slice kb nk kd,.slice sb nss sd] wr) (λiv _=>nl-(intOf iv).toNat)
  case atStart=>exact⟨0,Nat.zero_le _,rfl,HST.out⟩
  case round =>
   obtain⟨i,hi,rfl,hc⟩:=hrel;have H67:=Hd hc;have hwr:=hc.size;clear hc;clear a0 a1 a2 a3 a4 a5 a6 b0 b1 b2 b3 b4 b5 b6;obtain⟨a0,a1,a2,a3,a4,a5,a6⟩:=H67.out.c1;obtain⟨b0,b1,b2,b3,b4,b5,b6⟩:=H67.out.c2;by_cases hlt:i<nl
   ·have hin:i<ns.length:=(by have:=HN.out.1;omega);obtain⟨g1,o1,rfl,hg1,hBg1,hcl1⟩:=HNUM.out.1 (by intro h0;rw[h0] at hin;simp at hin);obtain⟨g2,o2,rfl,hg2,hBg2,hcl2⟩:=HNUM.out.2 (by intro h0;rw[h0] at hin;simp at hin);obtain⟨x,hx⟩:=exA (ns[i]);have cx:wr.cell? ⟨g1,o1+i,none⟩=some (.int .u64 x):=(keep_fr H67.out.fr (hcl1 i hin) (λx=>x)).trans (by rw[hx]);have cy:wr.cell? ⟨g2,o2+i,none⟩=some (.int .u64 x):=(keep_fr H67.out.fr (hcl2 i hin) (λx=>x)).trans (by rw[hx]);clear hx hcl1 hcl2;go_wp2_with fail;go_roundw
    case rel=>exact⟨i+1,by omega,by go_num,H67.out⟩
    case measure=>simp[intOf];omega
   ·go_wp2_with fail;go_loopw [83] (λiv wr=>∃i:Nat,i<=nk/\iv=.int .i64 i/\SF w [.int .u8 k,.int .u8 e,.int .u64 n,.string tt,.slice na nl nc,.slice ka nk kc,.slice sa nss sc] [.int .u8 k,.int .u8 e,.int .u64 n,.string tt,.slice nb nl mc,.slice kb nk kd,.slice sb nss sd] wr) (λiv _=>nk-(intOf iv).toNat)
    case atStart=>exact⟨0,Nat.zero_le _,rfl,H67.out⟩
    case round =>
     obtain⟨i,hi,rfl,hc⟩:=hrel;have H83:=Hd hc;have hwr:=hc.size;clear hc;clear a0 a1 a2 a3 a4 a5 a6 b0 b1 b2 b3 b4 b5 b6;obtain⟨a0,a1,a2,a3,a4,a5,a6⟩:=H83.out.c1;obtain⟨b0,b1,b2,b3,b4,b5,b6⟩:=H83.out.c2;by_cases hlt:i<nk
     ·have hik:i<ks.length:=(by have:=HN.out.2.1;omega);obtain⟨rfl,hkg5,hBg5⟩:=HKA.out.1 (by intro h0;rw[h0] at hik;simp at hik);obtain⟨rfl,hkg6,hBg6⟩:=HKA.out.2 (by intro h0;rw[h0] at hik;simp at hik);obtain⟨kid,hkid⟩:=exA (ks[i]);have hkv5:VIs (λb=>B b/\b<w.heap.size) wr (cellsAt wr kg (ko+i*7) 7) kid:=by
       rw[cellsAt_mono (H83.out.fr.block kg hkg5 (λx=>x)),hkid];exact (HKS.out.1 i hik).fr0 H83.out.fr (λb hb hbb=>⟨hbb,hb⟩)
      have hkv6:VIs (λb=>B b/\b<w.heap.size) wr (cellsAt wr kh (kp+i*7) 7) kid:=by
       rw[cellsAt_mono (H83.out.fr.block kh hkg6 (λx=>x)),hkid];exact (HKS.out.2 i hik).fr0 H83.out.fr (λb hb hbb=>⟨hbb,hb⟩)
      obtain⟨na5,nl5,nc5,ka5,nk5,kc5,sa5,ns5,sc5,hlit5,c0,c1,c2,c3,c4,c5,c6⟩:=hkv5.at
      obtain⟨na6,nl6,nc6,ka6,nk6,kc6,sa6,ns6,sc6,hlit6,d0,d1,d2,d3,d4,d5,d6⟩:=hkv6.at
      have HMEM:=Hd (show kid∈ks by rw[hkid];exact List.getElem_mem hik);have hy5:(wr.alloc (.cells #[.int .u8 kid.kind,.int .u8 kid.elem,.int .u64 kid.num,.string (strOf kid.text),.slice na5 nl5 nc5,.slice ka5 nk5 kc5,.slice sa5 ns5 sc5] 27)).heap[wr.heap.size]?=some (.cells #[.int .u8 kid.kind,.int .u8 kid.elem,.int .u64 kid.num,.string (strOf kid.text),.slice na5 nl5 nc5,.slice ka5 nk5 kc5,.slice sa5 ns5 sc5] 27):=heap_alloc_new _ _;have hF5:Fr0 wr (wr.alloc (.cells #[.int .u8 kid.kind,.int .u8 kid.elem,.int .u64 kid.num,.string (strOf kid.text),.slice na5 nl5 nc5,.slice ka5 nk5 kc5,.slice sa5 ns5 sc5] 27)):=(Fr.refl (λ_=>False) wr).alloc _;have HV5:=Hd (hlit5.fr0 hF5 (λ_ _ h=>h));have HV6:=Hd (hlit6.fr0 hF5 (λ_ _ h=>h));have HY5:=Hd hy5;have HF5:=Hd hF5;clear hkid hkv5 hkv6 hlit5 hlit6 hy5 hF5;go_upto_region 12 with fail;generalize hw5:(wr.alloc (.cells #[.int .u8 kid.kind,.int .u8 kid.elem,.int .u64 kid.num,.string (strOf kid.text),.slice na5 nl5 nc5,.slice ka5 nk5 kc5,.slice sa5 ns5 sc5] 27))=w5 at *;clear hw5;have yy:=λj u (hu:(#[.int .u8 kid.kind,.int .u8 kid.elem,.int .u64 kid.num,.string (strOf kid.text),.slice na5 nl5 nc5,.slice ka5 nk5 kc5,.slice sa5 ns5 sc5]:Array Value)[j]?=some u)=>(cell_of HY5.out j).trans hu;have y0:=yy 0 _ rfl;have y1:=yy 1 _ rfl;have y2:=yy 2 _ rfl;have y3:=yy 3 _ rfl;have y4:=yy 4 _ rfl;have y5:=yy 5 _ rfl;have y6:=yy 6 _ rfl;have x0:=keep_fr HF5.out d0 (λx=>x);have x1:=keep_fr HF5.out d1 (λx=>x);have x2:=keep_fr HF5.out d2 (λx=>x);have x3:=keep_fr HF5.out d3 (λx=>x);have x4:=keep_fr HF5.out d4 (λx=>x);have x5:=keep_fr HF5.out d5 (λx=>x);have x6:=keep_fr HF5.out d6 (λx=>x);have z5:=keep_fr HF5.out b5 (λx=>x);clear yy c0 c1 c2 c3 c4 c5 c6 d0 d1 d2 d3 d4 d5 d6 a0 a1 a2 a3 a4 a5 a6 b0 b1 b2 b3 b4 b5 b6;refine wp_region_tail_held 8 (S:=(λw'=>Fr0 w5 w')) _ kr kr kr ((Fr.refl _ w5).drew) (λhHeld=>?_);simp only[zD,zE,zF,zG,List.length_cons,List.length_nil,Nat.zero_add,Nat.reduceAdd];refine tk 0 (.agg #[.int .u8 kid.kind,.int .u8 kid.elem,.int .u64 kid.num,.string (strOf kid.text),.slice na5 nl5 nc5,.slice ka5 nk5 kc5,.slice sa5 ns5 sc5]) rfl ?_ ?_
      ·intro w' hc;obtain⟨q0,q1,q2,q3,q4,q5,q6⟩:=kf7 hc y0 y1 y2 y3 y4 y5 y6 (λx=>x);clear hc;go_simp
      simp only[Act.put,zA,zB,zC];refine tk 1 (.pointer (some ⟨w.heap.size+1,5,none⟩)) rfl ?_ ?_
      ·intro w' hc;clear hc;go_simp
      simp only[Act.put,zA,zB,zC];refine tk 2 (.slice (some ⟨kh,kp,none⟩) nk kd) rfl ?_ ?_
      ·intro w' hc;have q5:=keep_fr hc z5 (λx=>x);clear hc;go_simp
      simp only[Act.put,zA,zB,zC];refine tk 3 (.int .i64 i) rfl ?_ ?_
      ·intro w' hc;clear hc;go_simp
      simp only[Act.put,zA,zB,zC];refine tk 4 (.pointer (some ⟨kh,kp+i*7,none⟩)) rfl ?_ ?_
      ·intro w' hc;clear hc;go_simp
      simp only[Act.put,zA,zB,zC];refine tk 5 (.agg #[.int .u8 kid.kind,.int .u8 kid.elem,.int .u64 kid.num,.string (strOf kid.text),.slice na6 nl6 nc6,.slice ka6 nk6 kc6,.slice sa6 ns6 sc6]) rfl ?_ ?_
      ·intro w' hc;obtain⟨q0,q1,q2,q3,q4,q5,q6⟩:=kf7 hc x0 x1 x2 x3 x4 x5 x6 (λx=>x);clear hc;go_simp
      simp only[Act.put,zA,zB,zC];refine rd 6 rfl λK hK=>?_;go_simp;refine (IHK.out kid HMEM.out (HSK.out kid HMEM.out) (λb=>B b/\b<w.heap.size) _ _ _ (HV5.out.fr0 ((Fr.refl _ w5).drew) (λ_ _ h=>h)) (HV6.out.fr0 ((Fr.refl _ w5).drew) (λ_ _ h=>h))).mono ?_;rintro e6 w6 ⟨rfl,hf6⟩;have hf6:Fr0 w5 w6:=hf6.fromDrew;refine hK.out _ _ hf6 (λ_=>?_);try simp only[Act.put,zA,zB,zC]
      refine tk 7 (.bool false) rfl ?_ ?_
      ·intro w' hc;clear hc;go_simp
      simp only[Act.put,zA,zB,zC];have HN6:=Hd (H83.out.next (HF5.out.trans hf6));clear hf6 y0 y1 y2 y3 y4 y5 y6 x0 x1 x2 x3 x4 x5 x6 z5;refine wpAnyH_done kr ?_ _;show wpTail _ _ _ _ _ _ _;refine wpTail_nil ?_;go_wp2_with fail;go_roundw
      case rel=>exact⟨i+1,by omega,by go_num,HN6.out⟩
      case measure=>simp[intOf];omega
     ·go_wp2_with fail;go_loopw [100] (λiv wr=>∃i:Nat,i<=nss/\iv=.int .i64 i/\SF w [.int .u8 k,.int .u8 e,.int .u64 n,.string tt,.slice na nl nc,.slice ka nk kc,.slice sa nss sc] [.int .u8 k,.int .u8 e,.int .u64 n,.string tt,.slice nb nl mc,.slice kb nk kd,.slice sb nss sd] wr) (λiv _=>nss-(intOf iv).toNat)
      case atStart=>exact⟨0,Nat.zero_le _,rfl,H83.out⟩
      case round =>
       obtain⟨i,hi,rfl,hc⟩:=hrel;have H100:=Hd hc;have hwr:=hc.size;clear hc;clear a0 a1 a2 a3 a4 a5 a6 b0 b1 b2 b3 b4 b5 b6;obtain⟨a0,a1,a2,a3,a4,a5,a6⟩:=H100.out.c1;obtain⟨b0,b1,b2,b3,b4,b5,b6⟩:=H100.out.c2;by_cases hlt:i<nss
       ·have hik:i<ss.length:=(by have:=HN.out.2.2;omega);obtain⟨rfl,hkg5,hBg5⟩:=HSA.out.1 (by intro h0;rw[h0] at hik;simp at hik);obtain⟨rfl,hkg6,hBg6⟩:=HSA.out.2 (by intro h0;rw[h0] at hik;simp at hik);obtain⟨sl,hsl⟩:=exA (ss[i]);obtain⟨kid,hkid⟩:=exA (sl.val);have hkv5:VIs (λb=>B b/\b<w.heap.size) wr (cellsAt wr sg (so+i*9+1) 7) kid:=by
         rw[cellsAt_mono (H100.out.fr.block sg hkg5 (λx=>x)),hkid,hsl];exact (HSS.out.1 i hik).fr0 H100.out.fr (λb hb hbb=>⟨hbb,hb⟩)
        have hkv6:VIs (λb=>B b/\b<w.heap.size) wr (cellsAt wr sh (sp+i*9+1) 7) kid:=by
         rw[cellsAt_mono (H100.out.fr.block sh hkg6 (λx=>x)),hkid,hsl];exact (HSS.out.2 i hik).fr0 H100.out.fr (λb hb hbb=>⟨hbb,hb⟩)
        obtain⟨na5,nl5,nc5,ka5,nk5,kc5,sa5,ns5,sc5,hlit5,c1,c2,c3,c4,c5,c6,c7⟩:=hkv5.at
        obtain⟨na6,nl6,nc6,ka6,nk6,kc6,sa6,ns6,sc6,hlit6,d1,d2,d3,d4,d5,d6,d7⟩:=hkv6.at
        have c0:wr.cell? ⟨sg,so+i*9,none⟩=some (.bool sl.has):=(keep_fr H100.out.fr (HSD.out.1 i hik).1 (λx=>x)).trans (by rw[hsl]);have c8:wr.cell? ⟨sg,so+i*9+8,none⟩=some (.int .u64 sl.dflt):=(keep_fr H100.out.fr (HSD.out.1 i hik).2.1 (λx=>x)).trans (by rw[hsl]);have c2:wr.cell? ⟨sg,so+i*9+2,none⟩=some (.int .u8 kid.elem):=c2;have c3:wr.cell? ⟨sg,so+i*9+3,none⟩=some (.int .u64 kid.num):=c3;have c4:wr.cell? ⟨sg,so+i*9+4,none⟩=some (.string (strOf kid.text)):=c4;have c5:wr.cell? ⟨sg,so+i*9+5,none⟩=some (.slice na5 nl5 nc5):=c5;have c6:wr.cell? ⟨sg,so+i*9+6,none⟩=some (.slice ka5 nk5 kc5):=c6;have c7:wr.cell? ⟨sg,so+i*9+7,none⟩=some (.slice sa5 ns5 sc5):=c7;have d0:wr.cell? ⟨sh,sp+i*9,none⟩=some (.bool sl.has):=(keep_fr H100.out.fr (HSD.out.2 i hik).1 (λx=>x)).trans (by rw[hsl]);have d8:wr.cell? ⟨sh,sp+i*9+8,none⟩=some (.int .u64 sl.dflt):=(keep_fr H100.out.fr (HSD.out.2 i hik).2.1 (λx=>x)).trans (by rw[hsl]);have d2:wr.cell? ⟨sh,sp+i*9+2,none⟩=some (.int .u8 kid.elem):=d2;have d3:wr.cell? ⟨sh,sp+i*9+3,none⟩=some (.int .u64 kid.num):=d3;have d4:wr.cell? ⟨sh,sp+i*9+4,none⟩=some (.string (strOf kid.text)):=d4;have d5:wr.cell? ⟨sh,sp+i*9+5,none⟩=some (.slice na6 nl6 nc6):=d5;have d6:wr.cell? ⟨sh,sp+i*9+6,none⟩=some (.slice ka6 nk6 kc6):=d6;have d7:wr.cell? ⟨sh,sp+i*9+7,none⟩=some (.slice sa6 ns6 sc6):=d7;have HMEM:=Hd (show sl∈ss by rw[hsl];exact List.getElem_mem hik);have hy5:(wr.alloc (.cells #[.bool sl.has,.int .u8 kid.kind,.int .u8 kid.elem,.int .u64 kid.num,.string (strOf kid.text),.slice na5 nl5 nc5,.slice ka5 nk5 kc5,.slice sa5 ns5 sc5,.int .u64 sl.dflt] 54)).heap[wr.heap.size]?=some (.cells #[.bool sl.has,.int .u8 kid.kind,.int .u8 kid.elem,.int .u64 kid.num,.string (strOf kid.text),.slice na5 nl5 nc5,.slice ka5 nk5 kc5,.slice sa5 ns5 sc5,.int .u64 sl.dflt] 54):=heap_alloc_new _ _;have hF5:Fr0 wr (wr.alloc (.cells #[.bool sl.has,.int .u8 kid.kind,.int .u8 kid.elem,.int .u64 kid.num,.string (strOf kid.text),.slice na5 nl5 nc5,.slice ka5 nk5 kc5,.slice sa5 ns5 sc5,.int .u64 sl.dflt] 54)):=(Fr.refl (λ_=>False) wr).alloc _;have hih:∀(ca cb:List Value) (w':World),VIs (λb=>B b/\b<w.heap.size) w' ca kid->VIs (λb=>B b/\b<w.heap.size) w' cb kid->Calls Tryz.prog 31 #[.agg ca.toArray,.agg cb.toArray] w' λe w''=>e=.returned (.bool true)/\Fr0 w' w'':=by
         intro ca cb w' h1 h2;rw[hkid] at h1 h2;exact IHS.out sl HMEM.out (HSL.out sl HMEM.out) _ ca cb w' h1 h2
        have HIH:=Hd hih;have HV5:=Hd (hlit5.fr0 hF5 (λ_ _ h=>h));have HV6:=Hd (hlit6.fr0 hF5 (λ_ _ h=>h));have HY5:=Hd hy5;have HF5:=Hd hF5;clear hsl hkid hkv5 hkv6 hlit5 hlit6 hy5 hF5 hih;go_upto_region 18 with fail;generalize hw5:(wr.alloc (.cells #[.bool sl.has,.int .u8 kid.kind,.int .u8 kid.elem,.int .u64 kid.num,.string (strOf kid.text),.slice na5 nl5 nc5,.slice ka5 nk5 kc5,.slice sa5 ns5 sc5,.int .u64 sl.dflt] 54))=w5 at *;clear hw5;have yy:=λj u (hu:(#[.bool sl.has,.int .u8 kid.kind,.int .u8 kid.elem,.int .u64 kid.num,.string (strOf kid.text),.slice na5 nl5 nc5,.slice ka5 nk5 kc5,.slice sa5 ns5 sc5,.int .u64 sl.dflt]:Array Value)[j]?=some u)=>(cell_of HY5.out j).trans hu;have y0:=yy 0 _ rfl;have y1:=yy 1 _ rfl;have y2:=yy 2 _ rfl;have y3:=yy 3 _ rfl;have y4:=yy 4 _ rfl;have y5:=yy 5 _ rfl;have y6:=yy 6 _ rfl;have y7:=yy 7 _ rfl;have y8:=yy 8 _ rfl;have x0:=keep_fr HF5.out d0 (λx=>x);have x1:=keep_fr HF5.out d1 (λx=>x);have x2:=keep_fr HF5.out d2 (λx=>x);have x3:=keep_fr HF5.out d3 (λx=>x);have x4:=keep_fr HF5.out d4 (λx=>x);have x5:=keep_fr HF5.out d5 (λx=>x);have x6:=keep_fr HF5.out d6 (λx=>x);have x7:=keep_fr HF5.out d7 (λx=>x);have x8:=keep_fr HF5.out d8 (λx=>x);have z6:=keep_fr HF5.out b6 (λx=>x);clear yy c0 c1 c2 c3 c4 c5 c6 c7 c8 d0 d1 d2 d3 d4 d5 d6 d7 d8 a0 a1 a2 a3 a4 a5 a6 b0 b1 b2 b3 b4 b5 b6;refine wp_region_heldL (S:=(λw'=>Fr0 w5 w')) _ kr ((Fr.refl _ w5).drew) (λhHeld=>?_);simp only[List.length_cons,List.length_nil,Nat.zero_add,Nat.reduceAdd];refine tk 0 (.pointer (some ⟨wr.heap.size,0,none⟩)) rfl ?_ ?_
        ·intro w' hc;clear hc;go_simp
        simp only[Act.put,zA,zB,zC];refine tk 1 (.bool sl.has) rfl ?_ ?_
        ·intro w' hc;have q0:=keep_fr hc y0 (λx=>x);clear hc;go_simp
        simp only[Act.put,zA,zB,zC];refine tk 2 (.pointer (some ⟨w.heap.size+1,6,none⟩)) rfl ?_ ?_
        ·intro w' hc;clear hc;go_simp
        simp only[Act.put,zA,zB,zC];refine tk 3 (.slice (some ⟨sh,sp,none⟩) nss sd) rfl ?_ ?_
        ·intro w' hc;have q0:=keep_fr hc z6 (λx=>x);clear hc;go_simp
        simp only[Act.put,zA,zB,zC];refine tk 4 (.int .i64 i) rfl ?_ ?_
        ·intro w' hc;clear hc;go_simp
        simp only[Act.put,zA,zB,zC];refine tk 5 (.pointer (some ⟨sh,sp+i*9,none⟩)) rfl ?_ ?_
        ·intro w' hc;clear hc;go_simp
        simp only[Act.put,zA,zB,zC];refine tk 6 (.pointer (some ⟨sh,sp+i*9,none⟩)) rfl ?_ ?_
        ·intro w' hc;clear hc;go_simp
        simp only[Act.put,zA,zB,zC];refine tk 7 (.bool sl.has) rfl ?_ ?_
        ·intro w' hc;have q0:=keep_fr hc x0 (λx=>x);clear hc;go_simp
        simp only[Act.put,zA,zB,zC];refine tk 8 (.bool false) rfl ?_ ?_
        ·intro w' hc;clear hc;go_simp
        simp only[Act.put,zA,zB,zC];refine tk 9 (.bool false) rfl ?_ ?_
        ·intro w' hc;clear hc;go_simp
        simp only[Act.put,zA,zB,zC];refine tk 10 (.pointer (some ⟨wr.heap.size,8,none⟩)) rfl ?_ ?_
        ·intro w' hc;clear hc;go_simp
        simp only[Act.put,zA,zB,zC];refine tk 11 (.int .u64 sl.dflt) rfl ?_ ?_
        ·intro w' hc;have q0:=keep_fr hc y8 (λx=>x);clear hc;go_simp
        simp only[Act.put,zA,zB,zC];refine tk 12 (.pointer (some ⟨w.heap.size+1,6,none⟩)) rfl ?_ ?_
        ·intro w' hc;clear hc;go_simp
        simp only[Act.put,zA,zB,zC];refine tk 13 (.slice (some ⟨sh,sp,none⟩) nss sd) rfl ?_ ?_
        ·intro w' hc;have q0:=keep_fr hc z6 (λx=>x);clear hc;go_simp
        simp only[Act.put,zA,zB,zC];refine tk 14 (.int .i64 i) rfl ?_ ?_
        ·intro w' hc;clear hc;go_simp
        simp only[Act.put,zA,zB,zC];refine tk 15 (.pointer (some ⟨sh,sp+i*9,none⟩)) rfl ?_ ?_
        ·intro w' hc;clear hc;go_simp
        simp only[Act.put,zA,zB,zC];refine tk 16 (.pointer (some ⟨sh,sp+i*9+8,none⟩)) rfl ?_ ?_
        ·intro w' hc;clear hc;go_simp
        simp only[Act.put,zA,zB,zC];refine tk 17 (.int .u64 sl.dflt) rfl ?_ ?_
        ·intro w' hc;have q0:=keep_fr hc x8 (λx=>x);clear hc;go_simp
        simp only[Act.put,zA,zB,zC];refine tk 18 (.bool false) rfl ?_ ?_
        ·intro w' hc;clear hc;go_simp
        simp only[Act.put,zA,zB,zC];refine tk 19 (.bool false) rfl ?_ ?_
        ·intro w' hc;clear hc;go_simp
        simp only[Act.put,zA,zB,zC];refine tk 20 (.bool false) rfl ?_ ?_
        ·intro w' hc;clear hc;go_simp
        simp only[Act.put,zA,zB,zC];refine tk 21 (.pointer (some ⟨wr.heap.size,1,none⟩)) rfl ?_ ?_
        ·intro w' hc;clear hc;go_simp
        simp only[Act.put,zA,zB,zC];refine tk 22 (.agg #[.int .u8 kid.kind,.int .u8 kid.elem,.int .u64 kid.num,.string (strOf kid.text),.slice na5 nl5 nc5,.slice ka5 nk5 kc5,.slice sa5 ns5 sc5]) rfl ?_ ?_
        ·intro w' hc;have q0:=keep_fr hc y1 (λx=>x);have q1:=keep_fr hc y2 (λx=>x);have q2:=keep_fr hc y3 (λx=>x);have q3:=keep_fr hc y4 (λx=>x);have q4:=keep_fr hc y5 (λx=>x);have q5:=keep_fr hc y6 (λx=>x);have q6:=keep_fr hc y7 (λx=>x);clear hc;go_simp
        simp only[Act.put,zA,zB,zC];refine tk 23 (.pointer (some ⟨w.heap.size+1,6,none⟩)) rfl ?_ ?_
        ·intro w' hc;clear hc;go_simp
        simp only[Act.put,zA,zB,zC];refine tk 24 (.slice (some ⟨sh,sp,none⟩) nss sd) rfl ?_ ?_
        ·intro w' hc;have q0:=keep_fr hc z6 (λx=>x);clear hc;go_simp
        simp only[Act.put,zA,zB,zC];refine tk 25 (.int .i64 i) rfl ?_ ?_
        ·intro w' hc;clear hc;go_simp
        simp only[Act.put,zA,zB,zC];refine tk 26 (.pointer (some ⟨sh,sp+i*9,none⟩)) rfl ?_ ?_
        ·intro w' hc;clear hc;go_simp
        simp only[Act.put,zA,zB,zC];refine tk 27 (.pointer (some ⟨sh,sp+i*9+1,none⟩)) rfl ?_ ?_
        ·intro w' hc;clear hc;go_simp
        simp only[Act.put,zA,zB,zC];refine tk 28 (.agg #[.int .u8 kid.kind,.int .u8 kid.elem,.int .u64 kid.num,.string (strOf kid.text),.slice na6 nl6 nc6,.slice ka6 nk6 kc6,.slice sa6 ns6 sc6]) rfl ?_ ?_
        ·intro w' hc;have q0:=keep_fr hc x1 (λx=>x);have q1:=keep_fr hc x2 (λx=>x);have q2:=keep_fr hc x3 (λx=>x);have q3:=keep_fr hc x4 (λx=>x);have q4:=keep_fr hc x5 (λx=>x);have q5:=keep_fr hc x6 (λx=>x);have q6:=keep_fr hc x7 (λx=>x);clear hc;go_simp
        simp only[Act.put,zA,zB,zC];refine rd 29 rfl λK hK=>?_;go_simp;refine (HIH.out _ _ _ (HV5.out.fr0 ((Fr.refl _ w5).drew) (λ_ _ h=>h)) (HV6.out.fr0 ((Fr.refl _ w5).drew) (λ_ _ h=>h))).mono ?_;rintro e6 w6 ⟨rfl,hf6⟩;have hf6:Fr0 w5 w6:=hf6.fromDrew;refine hK.out _ _ hf6 (λ_=>?_);try simp only[Act.put,zA,zB,zC]
        refine tk 30 (.bool false) rfl ?_ ?_
        ·intro w' hc;clear hc;go_simp
        simp only[Act.put,zA,zB,zC];refine tk 31 (.bool false) rfl ?_ ?_
        ·intro w' hc;clear hc;go_simp
        simp only[Act.put,zA,zB,zC];have HN6:=Hd (H100.out.next (HF5.out.trans hf6));clear hf6 z6 y0 x0 y1 x1 y2 x2 y3 x3 y4 x4 y5 x5 y6 x6 y7 x7 y8 x8;refine wpAnyH_done kr ?_ _;go_wp2_with fail;go_roundw
        case rel=>exact⟨i+1,by omega,by go_num,HN6.out⟩
        case measure=>simp[intOf];omega
       ·go_wp2_with fail;go_ret;exact⟨rfl,H100.out.fr⟩
end Go.Proofs.YtcfblkkpclfmaaaGreat
