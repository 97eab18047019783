/- Part 38 of the proof of FnEvolved; no condition. -/
import Derived.Test.YtcfblkkpclfmaaaGreatEb14
import Derived.Test.YtcfblkkpclfmaaaGreatEb01
import Derived.Test.YtcfblkkpclfmaaaGreatEb15
import Derived.Test.YtcfblkkpclfmaaaGreatEb16
import Derived.Test.YtcfblkkpclfmaaaGreatEb22
import Derived.Test.YtcfblkkpclfmaaaGreatEb33
import Derived.Test.YtcfblkkpclfmaaaGreatEb34
import Derived.Test.YtcfblkkpclfmaaaGreatEb35
import Derived.Test.YtcfblkkpclfmaaaGreatEb36
import Derived.Test.YtcfblkkpclfmaaaGreatEb37
import Derived.Test.YtcfblkkpclfmaaaGreatEb24
import Derived.Test.YtcfblkkpclfmaaaGreatEb21
import Derived.Test.YtcfblkkpclfmaaaGreatEb12
set_option linter.unusedVariables false
set_option linter.unusedSimpArgs false
set_option maxRecDepth 100000
set_option maxHeartbeats 16000000
namespace Go.Proofs.YtcfblkkpclfmaaaGreat
open Go.RowKit
theorem clean_h(k:Nat)(hk18:17<k)(e n:Nat)(t:List UInt8)(ns:List Nat)(ks:List Val)(ss:List (Slt Val)):CleanC (.mk k e n t ns ks ss):=by
 intro B cs L left deep w hv hBL hL hl0 hl1 hd0 hd1;cases hv with
 | mk _ _ _ _ _ _ _ nv ka kc kg ko sa sc sg so hk he hn ht hnv hka hkc hks hsa hsc hsd hss =>
  obtain⟨tt,htt⟩:=exA (strOf t);have hszt:tt.size=t.length:=by rw[htt];exact strOf_size t
  obtain⟨na,nc,rfl,hnc1,hnc2,hnc3,hnc4⟩:=hnv.ok;obtain⟨nl,hnl⟩:=exA (ns.length);obtain⟨nk,hnk⟩:=exA (ks.length);obtain⟨nss,hnss⟩:=exA (ss.length);rw[<-htt,<-hnl,<-hnk,<-hnss];have hLs:=lt_of_block hL;have cL:w.cell? ⟨L,0,none⟩=some (.int .i64 left):=by rw[cell_of hL];rfl
  have fL:=frozen_of hL 0;have cL1:∀o,(w.alloc o).cell? ⟨L,0,none⟩=some (.int .i64 left):=λo=>keep_alloc o cL;have fL1:∀o,(w.alloc o).frozen? ⟨L,0,none⟩=false:=λo=>keep_allocF o cL fL;have hL1:(w.setCell ⟨L,0,none⟩ (.int .i64 (left-1))).heap[L]?=some (.cells #[.int .i64 (left-1)] 3):=heap_setCell_same hL 0 _;have cL2:∀o,((w.setCell ⟨L,0,none⟩ (.int .i64 (left-1))).alloc o).cell? ⟨L,0,none⟩=some (.int .i64 (left-1)):=λo=>keep_alloc o (by rw[cell_of hL1];rfl);have hCF:CF w [.int .u8 k,.int .u8 e,.int .u64 n,.string tt,.slice na nl nc,.slice ka nk kc,.slice sa nss sc] L (left-1) ((w.setCell ⟨L,0,none⟩ (.int .i64 (left-1))).alloc (.cells (([.int .u8 k,.int .u8 e,.int .u64 n,.string tt,.slice na nl nc,.slice ka nk kc,.slice sa nss sc]:List Value)).toArray 27)):=CF.start hL;have HCF:=Hd hCF;have HV:=Hd (And.intro hk (And.intro he (And.intro hn (And.intro ht (And.intro hnv hBL)))));have HK:=Hd (And.intro hka (And.intro hkc hks));have HS:=Hd (And.intro hsa (And.intro hsc (And.intro hsd hss)));have HN:=Hd (And.intro htt (And.intro hnl (And.intro hnk (And.intro hnss hszt))));have HL:=Hd hL;have HNUM:=Hd (And.intro hnc3 hnc4);have HT:=Hd (show tt.toList.isEmpty=decide (tt.size=0) by rw[hszt,htt];exact strE);clear hCF hL1 hk he hn ht hnv hka hkc hks hsa hsc hsd hss htt hnl hnk hnss cL fL hL hnc1 hnc2 hnc3 hnc4 hBL hszt;go_enter Tryz.func25,Tryz.ntmps25;by_cases h1:left-1<0
  ·go_upto_region 3 with fail;go_wp2_with fail;go_ret;exact HCF.out.bad
  by_cases h2:deep<0
  ·go_upto_region 3 with fail;go_wp2_with fail;go_ret;exact HCF.out.bad
  go_upto_region 3 with fail;go_wp2_with fail;go_ret;exact HCF.out.bad
theorem clean_calls:∀v,CleanC v:=by
 intro v;induction v using Val.ind with
 | h k e n t ns ks ss ihk ihs =>
  by_cases h10:k<=10
  ·exact clean_N k h10 e n t ns ks ss
  by_cases h17:17<k
  ·exact clean_h k h17 e n t ns ks ss
  have hk:k=11\/k=12\/k=13\/k=14\/k=15\/k=16\/k=17:=by omega
  rcases hk with rfl|rfl|rfl|rfl|rfl|rfl|rfl
  ·exact clean_11 e n t ns ks ss
  ·exact clean_12 e n t ns ks ss
  ·exact clean_13 e n t ns ks ss
  ·exact clean_14 e n t ns ks ss ihk
  ·exact clean_15 e n t ns ks ss ihs
  ·exact clean_16 e n t ns ks ss ihk
  ·exact clean_17 e n t ns ks ss
theorem valueFits_calls(v:Val)(cs:List Value)(sz:Int)(id:List UInt8)(sh:Bool)(w:World)(hv:VIs (λ_=>True) w cs v):
  Calls Tryz.prog 18 #[.agg cs.toArray,.agg #[.int .i64 sz,.string (strOf id),.bool sh]] w λe w'=>(∃r,e=.returned (.bool r)/\(r=true->Good v/\v.kind=15/\nodes v<=150/\1<=sz/\sz<=2000/\(id=[]\/id.length=4)))/\Fr0 w w':=by
 obtain⟨na,nl,nc,ka,nk,kc,sa,ns,sc,rfl⟩:=hv.lit;obtain⟨ii,hii⟩:=exA (strOf id);have HSZ:=Hd (show ii.size=id.length by rw[hii];exact strOf_size id);have HI:=Hd (show ii.toList.isEmpty=decide (id.length=0) by rw[hii];exact strE);rw[<-hii];have hf3:Fr0 w (((w.alloc (.cells #[.int .u8 v.kind,.int .u8 v.elem,.int .u64 v.num,.string (strOf v.text),.slice na nl nc,.slice ka nk kc,.slice sa ns sc] 27)).alloc (.cells #[.int .i64 sz,.string ii,.bool sh] 29)).alloc (.cells #[.int .i64 150] 3)):=(((Fr.refl _ w).alloc _).alloc _).alloc _;have hs3:(((w.alloc (.cells #[.int .u8 v.kind,.int .u8 v.elem,.int .u64 v.num,.string (strOf v.text),.slice na nl nc,.slice ka nk kc,.slice sa ns sc] 27)).alloc (.cells #[.int .i64 sz,.string ii,.bool sh] 29)).alloc (.cells #[.int .i64 150] 3)).heap.size=w.heap.size+3:=by simp
 have hV3:(((w.alloc (.cells #[.int .u8 v.kind,.int .u8 v.elem,.int .u64 v.num,.string (strOf v.text),.slice na nl nc,.slice ka nk kc,.slice sa ns sc] 27)).alloc (.cells #[.int .i64 sz,.string ii,.bool sh] 29)).alloc (.cells #[.int .i64 150] 3)).heap[w.heap.size]?=some (.cells #[.int .u8 v.kind,.int .u8 v.elem,.int .u64 v.num,.string (strOf v.text),.slice na nl nc,.slice ka nk kc,.slice sa ns sc] 27):=by
  simp only[heap_alloc_get,size_alloc];rw[if_neg (by omega),if_neg (by omega),if_pos trivial]
 have hO3:(((w.alloc (.cells #[.int .u8 v.kind,.int .u8 v.elem,.int .u64 v.num,.string (strOf v.text),.slice na nl nc,.slice ka nk kc,.slice sa ns sc] 27)).alloc (.cells #[.int .i64 sz,.string ii,.bool sh] 29)).alloc (.cells #[.int .i64 150] 3)).heap[w.heap.size+1]?=some (.cells #[.int .i64 sz,.string ii,.bool sh] 29):=by
  simp only[heap_alloc_get,size_alloc];rw[if_neg (by omega),if_pos trivial]
 have hL3:(((w.alloc (.cells #[.int .u8 v.kind,.int .u8 v.elem,.int .u64 v.num,.string (strOf v.text),.slice na nl nc,.slice ka nk kc,.slice sa ns sc] 27)).alloc (.cells #[.int .i64 sz,.string ii,.bool sh] 29)).alloc (.cells #[.int .i64 150] 3)).heap[w.heap.size+1+1]?=some (.cells #[.int .i64 150] 3):=by
  simp only[heap_alloc_get,size_alloc];rw[if_pos trivial]
 have hv3:VIs (λb=>b<w.heap.size) (((w.alloc (.cells #[.int .u8 v.kind,.int .u8 v.elem,.int .u64 v.num,.string (strOf v.text),.slice na nl nc,.slice ka nk kc,.slice sa ns sc] 27)).alloc (.cells #[.int .i64 sz,.string ii,.bool sh] 29)).alloc (.cells #[.int .i64 150] 3)) [.int .u8 v.kind,.int .u8 v.elem,.int .u64 v.num,.string (strOf v.text),.slice na nl nc,.slice ka nk kc,.slice sa ns sc] v:=hv.fr0 hf3 (λb hb _=>hb);have HC:=Hd (λ(y:Unit)=>clean_calls v (λb=>b<w.heap.size) [.int .u8 v.kind,.int .u8 v.elem,.int .u64 v.num,.string (strOf v.text),.slice na nl nc,.slice ka nk kc,.slice sa ns sc] (w.heap.size+1+1) 150 8 (((w.alloc (.cells #[.int .u8 v.kind,.int .u8 v.elem,.int .u64 v.num,.string (strOf v.text),.slice na nl nc,.slice ka nk kc,.slice sa ns sc] 27)).alloc (.cells #[.int .i64 sz,.string ii,.bool sh] 29)).alloc (.cells #[.int .i64 150] 3)) hv3 (by omega) hL3 (by omega) (by omega) (by omega) (by omega));have HF3:=Hd hf3;have HV3:=Hd hV3;have HO3:=Hd hO3;have HS3:=Hd hs3;clear hf3 hs3 hV3 hO3 hL3 hv3 hv hii;by_cases hk:v.kind=15
 ·have gk:((v.kind:Int)==15)=true:=by simp;omega
  have HK:=Hd hk;clear hk;go_enter Tryz.func18,Tryz.ntmps18;go_upto_region 2 with fail;generalize hw3:(((w.alloc (.cells #[.int .u8 v.kind,.int .u8 v.elem,.int .u64 v.num,.string (strOf v.text),.slice na nl nc,.slice ka nk kc,.slice sa ns sc] 27)).alloc (.cells #[.int .i64 sz,.string ii,.bool sh] 29)).alloc (.cells #[.int .i64 150] 3))=w3 at *;clear hw3;have v0:w3.cell? ⟨w.heap.size,0,none⟩=some (.int .u8 v.kind):=(cell_of HV3.out 0).trans rfl;have v1:w3.cell? ⟨w.heap.size,1,none⟩=some (.int .u8 v.elem):=(cell_of HV3.out 1).trans rfl;have v2:w3.cell? ⟨w.heap.size,2,none⟩=some (.int .u64 v.num):=(cell_of HV3.out 2).trans rfl;have v3:w3.cell? ⟨w.heap.size,3,none⟩=some (.string (strOf v.text)):=(cell_of HV3.out 3).trans rfl;have v4:w3.cell? ⟨w.heap.size,4,none⟩=some (.slice na nl nc):=(cell_of HV3.out 4).trans rfl;have v5:w3.cell? ⟨w.heap.size,5,none⟩=some (.slice ka nk kc):=(cell_of HV3.out 5).trans rfl;have v6:w3.cell? ⟨w.heap.size,6,none⟩=some (.slice sa ns sc):=(cell_of HV3.out 6).trans rfl;go_wp2_with fail;refine (HC.out ()).mono ?_;rintro e4 w4 ⟨r,rfl,hf4,left',hl',hr⟩;have o0:w4.cell? ⟨w.heap.size+1,0,none⟩=some (.int .i64 sz):=keep_fr hf4 ((cell_of HO3.out 0).trans rfl) (by omega);have o1:w4.cell? ⟨w.heap.size+1,1,none⟩=some (.string ii):=keep_fr hf4 ((cell_of HO3.out 1).trans rfl) (by omega);have HF4:=Hd (HF3.out.trans2 hf4 (λb hb e=>by omega));have HR:=Hd (show r=true->Good v/\nodes v<=150 from λh=>⟨(hr h).1,by have:=(hr h).2;omega⟩);clear hf4 hl' hr v0 v1 v2 v3 v4 v5 v6;cases r with
  | false =>
   go_wp2_with fail;go_ret;exact⟨⟨_,rfl,λh=>by cases h⟩,HF4.out⟩
  | true =>
   by_cases h1:1<=sz
   ·have g1:decide (sz >= 1)=true:=(by simp;omega);by_cases h2:sz<=2000
    ·have g2:decide (sz<=2000)=true:=(by simp;omega);by_cases h3:id.length=0
     ·have g3:ii.toList.isEmpty=true:=(by rw[HI.out];exact decide_eq_true h3);go_wp2_with fail;go_ret;exact⟨⟨_,rfl,λ_=>⟨(HR.out (by simp)).1,HK.out,(HR.out (by simp)).2,h1,h2,.inl (List.eq_nil_of_length_eq_zero h3)⟩⟩,HF4.out⟩
     ·have g3:ii.toList.isEmpty=false:=(by rw[HI.out];exact decide_eq_false h3);by_cases h4:id.length=4
      ·have g4:((ii.size:Int)==4)=true:=(by rw[HSZ.out];simp;omega);go_wp2_with fail;go_ret;exact⟨⟨_,rfl,λ_=>⟨(HR.out (by simp)).1,HK.out,(HR.out (by simp)).2,h1,h2,.inr h4⟩⟩,HF4.out⟩
      ·have g4:((ii.size:Int)==4)=false:=(by rw[HSZ.out];simp;omega);go_wp2_with fail;go_ret;exact⟨⟨_,rfl,λh=>by cases h⟩,HF4.out⟩
    ·have g2:decide (sz<=2000)=false:=(by simp;omega);go_wp2_with fail;go_ret;exact⟨⟨_,rfl,λh=>by cases h⟩,HF4.out⟩
   ·have g1:decide (sz >= 1)=false:=(by simp;omega);go_wp2_with fail;go_ret;exact⟨⟨_,rfl,λh=>by cases h⟩,HF4.out⟩
 ·have gk:((v.kind:Int)==15)=false:=by simp;omega
  go_enter Tryz.func18,Tryz.ntmps18;go_wp2_with fail;go_ret;exact⟨⟨_,rfl,λh=>by cases h⟩,HF3.out⟩
def vA:Val:=.mk 15 0 0 [] [] [] [⟨false,.mk 1 0 0 [] [] [] [],0⟩,⟨true,.mk 6 0 5 [] [] [] [],0⟩]
theorem vA_good:Good vA:=by
 refine good_tab (λs hs=>?_) (by simp);simp only[List.mem_cons,List.not_mem_nil,or_false] at hs;rcases hs with rfl|rfl
 ·have h:OkNum 1 0:=⟨by omega,by decide,λ_=>by omega,λh=>by omega,λh=>by omega⟩;exact⟨good_num h,λ_=>rfl,λ_=>h⟩
 ·have h:OkNum 6 5:=⟨by omega,by decide,λh=>by omega,λh=>by omega,λh=>by omega⟩;have h':OkNum 6 0:=⟨by omega,by decide,λh=>by omega,λh=>by omega,λh=>by omega⟩;exact⟨good_num h,λ_=>rfl,λ_=>h'⟩
theorem vA_sh:ShOk vA vA:=by
 refine .mk 15 0 0 [] [] [] _ vA rfl rfl (λh=>by omega) (λh=>by omega) (λ_ _ h=>by omega) rfl (λi h h2=>rfl) (λi h h2=>?_);have hi:i=0\/i=1:=by simp at h;omega
 rcases hi with rfl|rfl
 ·exact .mk 1 0 0 [] [] [] [] _ rfl rfl (λh=>by omega) (λh=>by omega) (λ_ _ h=>by omega) rfl (λi h h2=>by simp at h) (λi h h2=>by simp at h)
 ·exact .mk 6 0 5 [] [] [] [] _ rfl rfl (λh=>by omega) (λh=>by omega) (λ_ _ h=>by omega) rfl (λi h h2=>by simp at h) (λi h h2=>by simp at h)
theorem vA_read:read0 vA=vA:=by simp[vA,read0,read0L,read0S,read0T,Val.kind,Val.num,eqK]
theorem vA_rdt:RdT vA:=readTable_of 15 0 0 [] [] [] _ (λs hs=>by
 simp only[List.mem_cons,List.not_mem_nil,or_false] at hs;rcases hs with rfl|rfl
 ·intro _ sv al T B o f l w cs _ hk;exact absurd hk (by decide)
 ·intro _ sv al T B o f l w cs _ hk;exact absurd hk (by decide))
theorem vis_num{B:Nat->Prop}{w:World}{k n:Nat}(hk:k<256)(hn:n<2^64):VIs B w [.int .u8 k,.int .u8 (0:Nat),.int .u64 n,.string (strOf []),.slice none 0 0,.slice none 0 0,.slice none 0 0] (.mk k 0 n [] [] [] []) :=
 .mk k 0 n [] [] [] [] (.slice none 0 0) none 0 0 0 none 0 0 0 hk (by omega) hn (by simp) ⟨⟨none,0,rfl,Nat.le_refl _,Nat.zero_le _,λh=>absurd rfl h,λx hx=>by cases hx⟩⟩ (λh=>absurd rfl h) ⟨Nat.le_refl _,Nat.zero_le _⟩ (λi h=>by simp at h) (λh=>absurd rfl h) ⟨Nat.le_refl _,Nat.zero_le _⟩ (λi h=>by simp at h) (λi h=>by simp at h)
theorem vA_is{w:World}{g:Nat}{T:TypeId}(hg:w.heap[g]?=some (.cells #[.bool false,.int .u8 1,.int .u8 0,.int .u64 0,.string ⟨#[]⟩,.slice none 0 0,.slice none 0 0,.slice none 0 0,.int .u64 0,.bool true,.int .u8 6,.int .u8 0,.int .u64 5,.string ⟨#[]⟩,.slice none 0 0,.slice none 0 0,.slice none 0 0,.int .u64 0] T)):VIs (λ_=>True) w [.int .u8 15,.int .u8 0,.int .u64 0,.string ⟨#[]⟩,.slice none 0 0,.slice none 0 0,.slice (some ⟨g,0,none⟩) 2 2] vA:=by
 have hc:∀j u,[.bool false,.int .u8 1,.int .u8 0,.int .u64 0,.string ⟨#[]⟩,.slice none 0 0,.slice none 0 0,.slice none 0 0,.int .u64 0,.bool true,.int .u8 6,.int .u8 0,.int .u64 5,.string ⟨#[]⟩,.slice none 0 0,.slice none 0 0,.slice none 0 0,.int .u64 0][j]?=some u->w.cell? ⟨g,j,none⟩=some u:=λj u hu=>(cell_of hg j).trans (by simpa using hu);have hs:=lt_of_block hg;refine .mk 15 0 0 [] [] [] [⟨false,.mk 1 0 0 [] [] [] [],0⟩,⟨true,.mk 6 0 5 [] [] [] [],0⟩] (.slice none 0 0) none 0 0 0 (some ⟨g,0,none⟩) 2 g 0 (by omega) (by omega) (by omega) (by simp) ⟨⟨none,0,rfl,Nat.le_refl _,Nat.zero_le _,λh=>absurd rfl h,λx hx=>by cases hx⟩⟩ (λh=>absurd rfl h) ⟨Nat.le_refl _,Nat.zero_le _⟩ (λi h=>by simp at h) (λ_=>⟨rfl,hs,trivial⟩) ⟨Nat.le_refl _,by unfold maxLen;omega⟩ (λi h=>?_) (λi h=>?_)
 ·have hi:i=0\/i=1:=by simp at h;omega
  rcases hi with rfl|rfl
  ·exact⟨hc 0 _ rfl,hc 8 _ rfl,show (0:Nat)<2^64 by decide⟩
  ·exact⟨hc 9 _ rfl,hc 17 _ rfl,show (0:Nat)<2^64 by decide⟩
 ·have hi:i=0\/i=1:=by simp at h;omega
  rcases hi with rfl|rfl
  ·have e:cellsAt w g (0+0*9+1) 7=[.int .u8 1,.int .u8 0,.int .u64 0,.string ⟨#[]⟩,.slice none 0 0,.slice none 0 0,.slice none 0 0]:=cellsAt_of rfl (λj u hu=>by
    have hj:j<7:=(by have:=(List.getElem?_eq_some_iff.1 hu).1;simpa using this);refine hc (0+0*9+1+j) u ?_;rw[<-hu];have:j=0\/j=1\/j=2\/j=3\/j=4\/j=5\/j=6:=by omega
    rcases this with rfl|rfl|rfl|rfl|rfl|rfl|rfl<;>rfl)
   rw[e];exact vis_num (k:=1) (n:=0) (by omega) (by omega)
  ·have e:cellsAt w g (0+1*9+1) 7=[.int .u8 6,.int .u8 0,.int .u64 5,.string ⟨#[]⟩,.slice none 0 0,.slice none 0 0,.slice none 0 0]:=cellsAt_of rfl (λj u hu=>by
    have hj:j<7:=(by have:=(List.getElem?_eq_some_iff.1 hu).1;simpa using this);refine hc (0+1*9+1+j) u ?_;rw[<-hu];have:j=0\/j=1\/j=2\/j=3\/j=4\/j=5\/j=6:=by omega
    rcases this with rfl|rfl|rfl|rfl|rfl|rfl|rfl<;>rfl)
   rw[e];exact vis_num (k:=6) (n:=5) (by omega) (by omega)
theorem valueAwake_calls(w:World):Calls Tryz.prog 19 #[] w λe w'=>e=.returned (.bool true)/\Fr0 w w':=by
 have hf1:Fr0 w ((w.alloc (.cells #[.bool false,.int .u8 1,.int .u8 0,.int .u64 0,.string ⟨#[]⟩,.slice none 0 0,.slice none 0 0,.slice none 0 0,.int .u64 0,.bool true,.int .u8 6,.int .u8 0,.int .u64 5,.string ⟨#[]⟩,.slice none 0 0,.slice none 0 0,.slice none 0 0,.int .u64 0] 84)).alloc (.cells #[.int .u8 15,.int .u8 0,.int .u64 0,.string ⟨#[]⟩,.slice none 0 0,.slice none 0 0,.slice (some ⟨w.heap.size,0,none⟩) 2 2] 46)):=((Fr.refl _ w).alloc _).alloc _;have hR1:((w.alloc (.cells #[.bool false,.int .u8 1,.int .u8 0,.int .u64 0,.string ⟨#[]⟩,.slice none 0 0,.slice none 0 0,.slice none 0 0,.int .u64 0,.bool true,.int .u8 6,.int .u8 0,.int .u64 5,.string ⟨#[]⟩,.slice none 0 0,.slice none 0 0,.slice none 0 0,.int .u64 0] 84)).alloc (.cells #[.int .u8 15,.int .u8 0,.int .u64 0,.string ⟨#[]⟩,.slice none 0 0,.slice none 0 0,.slice (some ⟨w.heap.size,0,none⟩) 2 2] 46)).heap[w.heap.size]?=some (.cells #[.bool false,.int .u8 1,.int .u8 0,.int .u64 0,.string ⟨#[]⟩,.slice none 0 0,.slice none 0 0,.slice none 0 0,.int .u64 0,.bool true,.int .u8 6,.int .u8 0,.int .u64 5,.string ⟨#[]⟩,.slice none 0 0,.slice none 0 0,.slice none 0 0,.int .u64 0] 84):=by
  simp only[heap_alloc_get,size_alloc];rw[if_neg (by omega),if_pos trivial]
 have hX1:((w.alloc (.cells #[.bool false,.int .u8 1,.int .u8 0,.int .u64 0,.string ⟨#[]⟩,.slice none 0 0,.slice none 0 0,.slice none 0 0,.int .u64 0,.bool true,.int .u8 6,.int .u8 0,.int .u64 5,.string ⟨#[]⟩,.slice none 0 0,.slice none 0 0,.slice none 0 0,.int .u64 0] 84)).alloc (.cells #[.int .u8 15,.int .u8 0,.int .u64 0,.string ⟨#[]⟩,.slice none 0 0,.slice none 0 0,.slice (some ⟨w.heap.size,0,none⟩) 2 2] 46)).heap[w.heap.size+1]?=some (.cells #[.int .u8 15,.int .u8 0,.int .u64 0,.string ⟨#[]⟩,.slice none 0 0,.slice none 0 0,.slice (some ⟨w.heap.size,0,none⟩) 2 2] 46):=by
  simp only[heap_alloc_get,size_alloc];rw[if_pos trivial]
 have HB:=Hd (λ(_:Unit)=>Build_calls false [] vA vA_good.bld rfl (by decide) (.inl rfl) 1 (by omega) ((w.alloc (.cells #[.bool false,.int .u8 1,.int .u8 0,.int .u64 0,.string ⟨#[]⟩,.slice none 0 0,.slice none 0 0,.slice none 0 0,.int .u64 0,.bool true,.int .u8 6,.int .u8 0,.int .u64 5,.string ⟨#[]⟩,.slice none 0 0,.slice none 0 0,.slice none 0 0,.int .u64 0] 84)).alloc (.cells #[.int .u8 15,.int .u8 0,.int .u64 0,.string ⟨#[]⟩,.slice none 0 0,.slice none 0 0,.slice (some ⟨w.heap.size,0,none⟩) 2 2] 46)) _ (vA_is hR1));have HF1:=Hd hf1;have HR1:=Hd hR1;have HX1:=Hd hX1;clear hf1 hR1 hX1;go_enter Tryz.func19,Tryz.ntmps19;go_wp2_with fail;refine (HB.out ()).mono ?_;rintro e2 w2 ⟨st',hb,hok,rfl,hf2⟩;have hR2:=(hf2.block w.heap.size (lt_of_block HR1.out) (λx=>x)).trans HR1.out;have hX2:=(hf2.block (w.heap.size+1) (lt_of_block HX1.out) (λx=>x)).trans HX1.out;have hbuf:Buf true st'.m.bytes vA:=⟨by have:=hok.len;omega,hok.ref,hok.tab⟩;obtain⟨S,hS⟩:=exA (strOf st'.m.bytes);rw[<-hS];have HD:=Hd (λ(_:Unit)=>hS▸Read_of vA vA_rdt true st'.m.bytes vA hbuf vA_good.pure rfl vA_sh w2 _ (vA_is hR2));have HF2:=Hd (HF1.out.trans hf2);have x0:w2.cell? ⟨w.heap.size+1,0,none⟩=some (.int .u8 15):=(cell_of hX2 0).trans rfl;have x1:w2.cell? ⟨w.heap.size+1,1,none⟩=some (.int .u8 0):=(cell_of hX2 1).trans rfl;have x2:w2.cell? ⟨w.heap.size+1,2,none⟩=some (.int .u64 0):=(cell_of hX2 2).trans rfl;have x3:w2.cell? ⟨w.heap.size+1,3,none⟩=some (.string ⟨#[]⟩):=(cell_of hX2 3).trans rfl;have x4:w2.cell? ⟨w.heap.size+1,4,none⟩=some (.slice none 0 0):=(cell_of hX2 4).trans rfl;have x5:w2.cell? ⟨w.heap.size+1,5,none⟩=some (.slice none 0 0):=(cell_of hX2 5).trans rfl;have x6:w2.cell? ⟨w.heap.size+1,6,none⟩=some (.slice (some ⟨w.heap.size,0,none⟩) 2 2):=(cell_of hX2 6).trans rfl;clear hb hok hbuf hS hf2 hR2 hX2;go_wp2_with fail;refine (HD.out ()).mono ?_;rintro e3 w3 ⟨cs',rfl,hv',hf3⟩;rw[vA_read] at hv';have HF3:=Hd (HF2.out.trans hf3);clear hf3 x0 x1 x2 x3 x4 x5 x6;cases hv' with
 | mk _ _ _ _ _ _ _ nv ka kc kg ko sa sc sg so hk he hn ht hnv hka hkc hks hsa hsc hsd hss =>
  obtain⟨na,nc,rfl,_⟩:=hnv.ok;obtain⟨rfl,hsg,_⟩:=hsa (by simp);have hd0:=(hsd 0 (by simp)).1;have hd1:=(hsd 1 (by simp)).1;obtain⟨_,_,_,_,_,_,_,_,_,_,_,_,c2,_,_,_,_⟩:=(hss 1 (by simp)).at
  have e0:w3.cell? ⟨sg,so,none⟩=some (.bool false):=by simpa using hd0
  have e1:w3.cell? ⟨sg,so+9,none⟩=some (.bool true):=by simpa using hd1
  have e2:w3.cell? ⟨sg,so+9+1+2,none⟩=some (.int .u64 5):=c2;have f0:=λo=>keep_alloc o e0;have f1:=λo=>keep_alloc o e1;have f2:∀o,(w3.alloc o).cell? ⟨sg,so+12,none⟩=some (.int .u64 5):=λo=>keep_alloc o e2;clear hd0 hd1 c2 e0 e1 e2 hk he hn ht hnv hka hkc hks hsa hsc hsd hss;go_wp2_with fail;go_ret;exact⟨rfl,HF3.out.alloc _⟩
structure LF(w:World)(bv bo:List Value)(wx:World):Prop where
 fr:Fr0 w wx
 size:w.heap.size+2<=wx.heap.size
 hv:wx.heap[w.heap.size]?=some (.cells bv.toArray 27)
 ho:wx.heap[w.heap.size+1]?=some (.cells bo.toArray 29)
theorem LF.start(w:World)(bv bo:List Value):LF w bv bo ((w.alloc (.cells bv.toArray 27)).alloc (.cells bo.toArray 29)):=by
 refine⟨((Fr.refl _ w).alloc _).alloc _,by simp,?_,?_⟩
 ·simp only[heap_alloc_get,size_alloc];rw[if_neg (by omega),if_pos trivial]
 ·simp only[heap_alloc_get,size_alloc];rw[if_pos trivial]
theorem LF.next{w:World}{bv bo:List Value}{wx w6:World}(h:LF w bv bo wx)(hf:Fr0 wx w6):LF w bv bo w6:=by
 have hs:=h.size;have hs6:=hf.size;exact⟨h.fr.trans hf,by omega,(hf.block _ (by omega) (λx=>x)).trans h.hv,(hf.block _ (by omega) (λx=>x)).trans h.ho⟩
theorem LF.v7{w:World}{b0 b1 b2 b3 b4 b5 b6:Value}{bo:List Value}{wx:World}(h:LF w [b0,b1,b2,b3,b4,b5,b6] bo wx):wx.cell? ⟨w.heap.size,0,none⟩=some b0/\wx.cell? ⟨w.heap.size,1,none⟩=some b1/\wx.cell? ⟨w.heap.size,2,none⟩=some b2/\wx.cell? ⟨w.heap.size,3,none⟩=some b3/\wx.cell? ⟨w.heap.size,4,none⟩=some b4/\wx.cell? ⟨w.heap.size,5,none⟩=some b5/\wx.cell? ⟨w.heap.size,6,none⟩=some b6:=by
 have hb:=h.hv;exact⟨by rw[cell_of hb];rfl,by rw[cell_of hb];rfl,by rw[cell_of hb];rfl,by rw[cell_of hb];rfl,by rw[cell_of hb];rfl,by rw[cell_of hb];rfl,by rw[cell_of hb];rfl⟩
theorem LF.o3{w:World}{b0 b1 b2:Value}{bv:List Value}{wx:World}(h:LF w bv [b0,b1,b2] wx):wx.cell? ⟨w.heap.size+1,0,none⟩=some b0/\wx.cell? ⟨w.heap.size+1,1,none⟩=some b1/\wx.cell? ⟨w.heap.size+1,2,none⟩=some b2:=by
 have hb:=h.ho;exact⟨by rw[cell_of hb];rfl,by rw[cell_of hb];rfl,by rw[cell_of hb];rfl⟩
end Go.Proofs.YtcfblkkpclfmaaaGreat
