/- Part 45 of the proof of FnBuiltSize (CleanH, CleanC, VFits, VAwake, BSize, LawK). No condition is laid on the statement. -/
import Derived.Test.YtcfblkkpclfmaaaGreatSz20
import Derived.Test.YtcfblkkpclfmaaaGreatSz02
import Derived.Test.YtcfblkkpclfmaaaGreatSz21
import Derived.Test.YtcfblkkpclfmaaaGreatSz22
import Derived.Test.YtcfblkkpclfmaaaGreatSz28
import Derived.Test.YtcfblkkpclfmaaaGreatSz40
import Derived.Test.YtcfblkkpclfmaaaGreatSz41
import Derived.Test.YtcfblkkpclfmaaaGreatSz42
import Derived.Test.YtcfblkkpclfmaaaGreatSz43
import Derived.Test.YtcfblkkpclfmaaaGreatSz44
import Derived.Test.YtcfblkkpclfmaaaGreatSz31
import Derived.Test.YtcfblkkpclfmaaaGreatSz16
import Derived.Test.YtcfblkkpclfmaaaGreatSz27
set_option linter.unusedVariables false
set_option linter.unusedSimpArgs false
namespace Go.Proofs.YtcfblkkpclfmaaaGreat
open Go.RowKit
set_option maxRecDepth 100000 in
set_option maxHeartbeats 8000000 in
theorem clean_h (k:Nat) (hk18:17<k) (e n:Nat) (t:List UInt8) (ns:List Nat) (ks:List Val) (ss:List (Slt Val)):CleanC (.mk k e n t ns ks ss):=by
 intro B cs L left deep w hv hBL hL hl0 hl1 hd0 hd1
 cases hv with
 | mk _ _ _ _ _ _ _ nv ka kc kg ko sa sc sg so hk he hn ht hnv hka hkc hks hsa hsc hsd hss =>
  obtain ⟨tt,htt⟩:∃ tt,tt=strOf t:=⟨_,rfl⟩
  have hszt:tt.size=t.length:=by rw [htt];exact strOf_size t
  obtain ⟨na,nc,rfl,hnc1,hnc2,hnc3,hnc4⟩:=hnv.ok
  obtain ⟨nl,hnl⟩:∃ nl,nl=ns.length:=⟨_,rfl⟩
  obtain ⟨nk,hnk⟩:∃ nk,nk=ks.length:=⟨_,rfl⟩
  obtain ⟨nss,hnss⟩:∃ nss,nss=ss.length:=⟨_,rfl⟩
  rw [← htt,← hnl,← hnk,← hnss]
  have hLs:=lt_of_block hL
  have cL:w.cell? ⟨L,0,none⟩=some (.int .i64 left):=by rw [cell_of hL];rfl
  have fL:=frozen_of hL 0
  have cL1:∀ o,(w.alloc o).cell? ⟨L,0,none⟩=some (.int .i64 left):=fun o=>keep_alloc o cL
  have fL1:∀ o,(w.alloc o).frozen? ⟨L,0,none⟩=false:=fun o=>keep_allocF o cL fL
  have hL1:(w.setCell ⟨L,0,none⟩ (.int .i64 (left-1))).heap[L]?=some (.cells #[.int .i64 (left-1)] 3):=heap_setCell_same hL 0 _
  have cL2:∀ o,((w.setCell ⟨L,0,none⟩ (.int .i64 (left-1))).alloc o).cell? ⟨L,0,none⟩=some (.int .i64 (left-1)):=fun o=>keep_alloc o (by rw [cell_of hL1];rfl)
  have hCF:CF w [.int .u8 k,.int .u8 e,.int .u64 n,.string tt,.slice na nl nc,.slice ka nk kc,.slice sa nss sc] L (left-1) ((w.setCell ⟨L,0,none⟩ (.int .i64 (left-1))).alloc (.cells (([.int .u8 k,.int .u8 e,.int .u64 n,.string tt,.slice na nl nc,.slice ka nk kc,.slice sa nss sc]:List Value)).toArray 27)):=CF.start hL
  have HCF:=Hd hCF
  have HV:=Hd (And.intro hk (And.intro he (And.intro hn (And.intro ht (And.intro hnv hBL)))))
  have HK:=Hd (And.intro hka (And.intro hkc hks))
  have HS:=Hd (And.intro hsa (And.intro hsc (And.intro hsd hss)))
  have HN:=Hd (And.intro htt (And.intro hnl (And.intro hnk (And.intro hnss hszt))))
  have HL:=Hd hL
  have HNUM:=Hd (And.intro hnc3 hnc4)
  have HT:=Hd (show tt.toList.isEmpty=decide (tt.size=0) by rw [hszt,htt];exact strE)
  clear hCF hL1 hk he hn ht hnv hka hkc hks hsa hsc hsd hss htt hnl hnk hnss cL fL hL hnc1 hnc2 hnc3 hnc4 hBL hszt
  go_enter Tryz.func25,Tryz.ntmps25
  by_cases h1:left-1<0
  ·go_upto_region 3 with fail
   go_wp2_with fail
   go_ret
   exact HCF.out.bad
  by_cases h2:deep<0
  ·go_upto_region 3 with fail
   go_wp2_with fail
   go_ret
   exact HCF.out.bad
  go_upto_region 3 with fail
  go_wp2_with fail
  go_ret
  exact HCF.out.bad
end Go.Proofs.YtcfblkkpclfmaaaGreat
namespace Go.Proofs.YtcfblkkpclfmaaaGreat
open Go.RowKit
theorem clean_calls:∀ v,CleanC v:=by
 intro v
 induction v using Val.ind with
 | h k e n t ns ks ss ihk ihs =>
  by_cases h10:k≤10
  ·exact clean_N k h10 e n t ns ks ss
  by_cases h17:17<k
  ·exact clean_h k h17 e n t ns ks ss
  have hk:k=11∨k=12∨k=13∨k=14∨k=15∨k=16∨k=17:=by omega
  rcases hk with rfl | rfl | rfl | rfl | rfl | rfl | rfl
  ·exact clean_11 e n t ns ks ss
  ·exact clean_12 e n t ns ks ss
  ·exact clean_13 e n t ns ks ss
  ·exact clean_14 e n t ns ks ss ihk
  ·exact clean_15 e n t ns ks ss ihs
  ·exact clean_16 e n t ns ks ss ihk
  ·exact clean_17 e n t ns ks ss
end Go.Proofs.YtcfblkkpclfmaaaGreat
namespace Go.Proofs.YtcfblkkpclfmaaaGreat
open Go.RowKit
set_option maxRecDepth 100000 in
set_option maxHeartbeats 8000000 in
theorem valueFits_calls (v:Val) (cs:List Value) (sz:Int) (id:List UInt8) (sh:Bool) (w:World) (hv:VIs (fun _=>True) w cs v) :
  Calls Tryz.prog 18 #[.agg cs.toArray,.agg #[.int .i64 sz,.string (strOf id),.bool sh]] w fun e w'=>(∃ r,e=.returned (.bool r)∧(r=true→Good v∧v.kind=15∧nodes v≤150∧1≤sz∧sz≤2000∧(id=[]∨id.length=4)))∧Fr0 w w':=by
 obtain ⟨na,nl,nc,ka,nk,kc,sa,ns,sc,rfl⟩:=hv.lit
 obtain ⟨ii,hii⟩:∃ ii,ii=strOf id:=⟨_,rfl⟩
 have HSZ:=Hd (show ii.size=id.length by rw [hii];exact strOf_size id)
 have HI:=Hd (show ii.toList.isEmpty=decide (id.length=0) by rw [hii];exact strE)
 rw [← hii]
 have hf3:Fr0 w (((w.alloc (.cells #[.int .u8 v.kind,.int .u8 v.elem,.int .u64 v.num,.string (strOf v.text),.slice na nl nc,.slice ka nk kc,.slice sa ns sc] 27)).alloc (.cells #[.int .i64 sz,.string ii,.bool sh] 29)).alloc (.cells #[.int .i64 150] 3)):=(((Fr.refl _ w).alloc _).alloc _).alloc _
 have hs3:(((w.alloc (.cells #[.int .u8 v.kind,.int .u8 v.elem,.int .u64 v.num,.string (strOf v.text),.slice na nl nc,.slice ka nk kc,.slice sa ns sc] 27)).alloc (.cells #[.int .i64 sz,.string ii,.bool sh] 29)).alloc (.cells #[.int .i64 150] 3)).heap.size=w.heap.size+3:=by simp
 have hV3:(((w.alloc (.cells #[.int .u8 v.kind,.int .u8 v.elem,.int .u64 v.num,.string (strOf v.text),.slice na nl nc,.slice ka nk kc,.slice sa ns sc] 27)).alloc (.cells #[.int .i64 sz,.string ii,.bool sh] 29)).alloc (.cells #[.int .i64 150] 3)).heap[w.heap.size]?=some (.cells #[.int .u8 v.kind,.int .u8 v.elem,.int .u64 v.num,.string (strOf v.text),.slice na nl nc,.slice ka nk kc,.slice sa ns sc] 27):=by
  simp only [heap_alloc_get,size_alloc];rw [if_neg (by omega),if_neg (by omega),if_pos trivial]
 have hO3:(((w.alloc (.cells #[.int .u8 v.kind,.int .u8 v.elem,.int .u64 v.num,.string (strOf v.text),.slice na nl nc,.slice ka nk kc,.slice sa ns sc] 27)).alloc (.cells #[.int .i64 sz,.string ii,.bool sh] 29)).alloc (.cells #[.int .i64 150] 3)).heap[w.heap.size+1]?=some (.cells #[.int .i64 sz,.string ii,.bool sh] 29):=by
  simp only [heap_alloc_get,size_alloc];rw [if_neg (by omega),if_pos trivial]
 have hL3:(((w.alloc (.cells #[.int .u8 v.kind,.int .u8 v.elem,.int .u64 v.num,.string (strOf v.text),.slice na nl nc,.slice ka nk kc,.slice sa ns sc] 27)).alloc (.cells #[.int .i64 sz,.string ii,.bool sh] 29)).alloc (.cells #[.int .i64 150] 3)).heap[w.heap.size+1+1]?=some (.cells #[.int .i64 150] 3):=by
  simp only [heap_alloc_get,size_alloc];rw [if_pos trivial]
 have hv3:VIs (fun b=>b<w.heap.size) (((w.alloc (.cells #[.int .u8 v.kind,.int .u8 v.elem,.int .u64 v.num,.string (strOf v.text),.slice na nl nc,.slice ka nk kc,.slice sa ns sc] 27)).alloc (.cells #[.int .i64 sz,.string ii,.bool sh] 29)).alloc (.cells #[.int .i64 150] 3)) [.int .u8 v.kind,.int .u8 v.elem,.int .u64 v.num,.string (strOf v.text),.slice na nl nc,.slice ka nk kc,.slice sa ns sc] v:=hv.fr0 hf3 (fun b hb _=>hb)
 have HC:=Hd (fun (y:Unit)=>clean_calls v (fun b=>b<w.heap.size) [.int .u8 v.kind,.int .u8 v.elem,.int .u64 v.num,.string (strOf v.text),.slice na nl nc,.slice ka nk kc,.slice sa ns sc] (w.heap.size+1+1) 150 8 (((w.alloc (.cells #[.int .u8 v.kind,.int .u8 v.elem,.int .u64 v.num,.string (strOf v.text),.slice na nl nc,.slice ka nk kc,.slice sa ns sc] 27)).alloc (.cells #[.int .i64 sz,.string ii,.bool sh] 29)).alloc (.cells #[.int .i64 150] 3)) hv3 (by omega) hL3 (by omega) (by omega) (by omega) (by omega))
 have HF3:=Hd hf3
 have HV3:=Hd hV3
 have HO3:=Hd hO3
 have HS3:=Hd hs3
 clear hf3 hs3 hV3 hO3 hL3 hv3 hv hii
 by_cases hk:v.kind=15
 ·have gk:((v.kind:Int) == 15)=true:=by simp;omega
  have HK:=Hd hk
  clear hk
  go_enter Tryz.func18,Tryz.ntmps18
  go_upto_region 2 with fail
  generalize hw3:(((w.alloc (.cells #[.int .u8 v.kind,.int .u8 v.elem,.int .u64 v.num,.string (strOf v.text),.slice na nl nc,.slice ka nk kc,.slice sa ns sc] 27)).alloc (.cells #[.int .i64 sz,.string ii,.bool sh] 29)).alloc (.cells #[.int .i64 150] 3))=w3 at *
  clear hw3
  have v0:w3.cell? ⟨w.heap.size,0,none⟩=some (.int .u8 v.kind):=(cell_of HV3.out 0).trans rfl
  have v1:w3.cell? ⟨w.heap.size,1,none⟩=some (.int .u8 v.elem):=(cell_of HV3.out 1).trans rfl
  have v2:w3.cell? ⟨w.heap.size,2,none⟩=some (.int .u64 v.num):=(cell_of HV3.out 2).trans rfl
  have v3:w3.cell? ⟨w.heap.size,3,none⟩=some (.string (strOf v.text)):=(cell_of HV3.out 3).trans rfl
  have v4:w3.cell? ⟨w.heap.size,4,none⟩=some (.slice na nl nc):=(cell_of HV3.out 4).trans rfl
  have v5:w3.cell? ⟨w.heap.size,5,none⟩=some (.slice ka nk kc):=(cell_of HV3.out 5).trans rfl
  have v6:w3.cell? ⟨w.heap.size,6,none⟩=some (.slice sa ns sc):=(cell_of HV3.out 6).trans rfl
  go_wp2_with fail
  refine (HC.out ()).mono ?_
  rintro e4 w4 ⟨r,rfl,hf4,left',hl',hr⟩
  have o0:w4.cell? ⟨w.heap.size+1,0,none⟩=some (.int .i64 sz):=keep_fr hf4 ((cell_of HO3.out 0).trans rfl) (by omega)
  have o1:w4.cell? ⟨w.heap.size+1,1,none⟩=some (.string ii):=keep_fr hf4 ((cell_of HO3.out 1).trans rfl) (by omega)
  have HF4:=Hd (HF3.out.trans2 hf4 (fun b hb e=>by omega))
  have HR:=Hd (show r=true→Good v∧nodes v≤150 from fun h=>⟨(hr h).1,by have:=(hr h).2;omega⟩)
  clear hf4 hl' hr v0 v1 v2 v3 v4 v5 v6
  cases r with
  | false =>
   go_wp2_with fail
   go_ret
   exact ⟨⟨_,rfl,fun h=>by cases h⟩,HF4.out⟩
  | true =>
   by_cases h1:1≤sz
   ·have g1:decide (sz ≥ 1)=true:=by simp;omega
    by_cases h2:sz≤2000
    ·have g2:decide (sz≤2000)=true:=by simp;omega
     by_cases h3:id.length=0
     ·have g3:ii.toList.isEmpty=true:=by rw [HI.out];exact decide_eq_true h3
      go_wp2_with fail
      go_ret
      exact ⟨⟨_,rfl,fun _=>⟨(HR.out (by simp)).1,HK.out,(HR.out (by simp)).2,h1,h2,.inl (List.eq_nil_of_length_eq_zero h3)⟩⟩,HF4.out⟩
     ·have g3:ii.toList.isEmpty=false:=by rw [HI.out];exact decide_eq_false h3
      by_cases h4:id.length=4
      ·have g4:((ii.size:Int) == 4)=true:=by rw [HSZ.out];simp;omega
       go_wp2_with fail
       go_ret
       exact ⟨⟨_,rfl,fun _=>⟨(HR.out (by simp)).1,HK.out,(HR.out (by simp)).2,h1,h2,.inr h4⟩⟩,HF4.out⟩
      ·have g4:((ii.size:Int) == 4)=false:=by rw [HSZ.out];simp;omega
       go_wp2_with fail
       go_ret
       exact ⟨⟨_,rfl,fun h=>by cases h⟩,HF4.out⟩
    ·have g2:decide (sz≤2000)=false:=by simp;omega
     go_wp2_with fail
     go_ret
     exact ⟨⟨_,rfl,fun h=>by cases h⟩,HF4.out⟩
   ·have g1:decide (sz ≥ 1)=false:=by simp;omega
    go_wp2_with fail
    go_ret
    exact ⟨⟨_,rfl,fun h=>by cases h⟩,HF4.out⟩
 ·have gk:((v.kind:Int) == 15)=false:=by simp;omega
  go_enter Tryz.func18,Tryz.ntmps18
  go_wp2_with fail
  go_ret
  exact ⟨⟨_,rfl,fun h=>by cases h⟩,HF3.out⟩
end Go.Proofs.YtcfblkkpclfmaaaGreat
namespace Go.Proofs.YtcfblkkpclfmaaaGreat
open Go.RowKit
def vA:Val:=.mk 15 0 0 [] [] [] [⟨false,.mk 1 0 0 [] [] [] [],0⟩,⟨true,.mk 6 0 5 [] [] [] [],0⟩]
theorem vA_good:Good vA:=by
 refine good_tab (fun s hs=>?_) (by simp)
 simp only [List.mem_cons,List.not_mem_nil,or_false] at hs
 rcases hs with rfl | rfl
 ·have h:OkNum 1 0:=⟨by omega,by decide,fun _=>by omega,fun h=>by omega,fun h=>by omega⟩
  exact ⟨good_num h,fun _=>rfl,fun _=>h⟩
 ·have h:OkNum 6 5:=⟨by omega,by decide,fun h=>by omega,fun h=>by omega,fun h=>by omega⟩
  have h':OkNum 6 0:=⟨by omega,by decide,fun h=>by omega,fun h=>by omega,fun h=>by omega⟩
  exact ⟨good_num h,fun _=>rfl,fun _=>h'⟩
theorem vA_sh:ShOk vA vA:=by
 refine .mk 15 0 0 [] [] [] _ vA rfl rfl (fun h=>by omega) (fun h=>by omega) (fun _ _ h=>by omega) rfl (fun i h h2=>rfl) (fun i h h2=>?_)
 have hi:i=0∨i=1:=by simp at h;omega
 rcases hi with rfl | rfl
 ·exact .mk 1 0 0 [] [] [] [] _ rfl rfl (fun h=>by omega) (fun h=>by omega) (fun _ _ h=>by omega) rfl (fun i h h2=>by simp at h) (fun i h h2=>by simp at h)
 ·exact .mk 6 0 5 [] [] [] [] _ rfl rfl (fun h=>by omega) (fun h=>by omega) (fun _ _ h=>by omega) rfl (fun i h h2=>by simp at h) (fun i h h2=>by simp at h)
theorem vA_read:read0 vA=vA:=by simp [vA,read0,read0L,read0S,read0T,Val.kind,Val.num,eqK]
theorem vA_rdt:RdT vA:=readTable_of 15 0 0 [] [] [] _ (fun s hs=>by
 simp only [List.mem_cons,List.not_mem_nil,or_false] at hs
 rcases hs with rfl | rfl
 ·intro _ sv al T B o f l w cs _ hk
  exact absurd hk (by decide)
 ·intro _ sv al T B o f l w cs _ hk
  exact absurd hk (by decide))
theorem vis_num {B:Nat→Prop} {w:World} {k n:Nat} (hk:k<256) (hn:n<2 ^ 64):VIs B w [.int .u8 k,.int .u8 (0:Nat),.int .u64 n,.string (strOf []),.slice none 0 0,.slice none 0 0,.slice none 0 0] (.mk k 0 n [] [] [] []) :=
 .mk k 0 n [] [] [] [] (.slice none 0 0) none 0 0 0 none 0 0 0 hk (by omega) hn (by simp) ⟨⟨none,0,rfl,Nat.le_refl _,Nat.zero_le _,fun h=>absurd rfl h,fun x hx=>by cases hx⟩⟩ (fun h=>absurd rfl h) ⟨Nat.le_refl _,Nat.zero_le _⟩ (fun i h=>by simp at h) (fun h=>absurd rfl h) ⟨Nat.le_refl _,Nat.zero_le _⟩ (fun i h=>by simp at h) (fun i h=>by simp at h)
theorem vA_is {w:World} {g:Nat} {T:TypeId} (hg:w.heap[g]?=some (.cells #[.bool false,.int .u8 1,.int .u8 0,.int .u64 0,.string ⟨#[]⟩,.slice none 0 0,.slice none 0 0,.slice none 0 0,.int .u64 0,.bool true,.int .u8 6,.int .u8 0,.int .u64 5,.string ⟨#[]⟩,.slice none 0 0,.slice none 0 0,.slice none 0 0,.int .u64 0] T)):VIs (fun _=>True) w [.int .u8 15,.int .u8 0,.int .u64 0,.string ⟨#[]⟩,.slice none 0 0,.slice none 0 0,.slice (some ⟨g,0,none⟩) 2 2] vA:=by
 have hc:∀ j u,[.bool false,.int .u8 1,.int .u8 0,.int .u64 0,.string ⟨#[]⟩,.slice none 0 0,.slice none 0 0,.slice none 0 0,.int .u64 0,.bool true,.int .u8 6,.int .u8 0,.int .u64 5,.string ⟨#[]⟩,.slice none 0 0,.slice none 0 0,.slice none 0 0,.int .u64 0][j]?=some u→w.cell? ⟨g,j,none⟩=some u:=fun j u hu=>(cell_of hg j).trans (by simpa using hu)
 have hs:=lt_of_block hg
 refine .mk 15 0 0 [] [] [] [⟨false,.mk 1 0 0 [] [] [] [],0⟩,⟨true,.mk 6 0 5 [] [] [] [],0⟩] (.slice none 0 0) none 0 0 0 (some ⟨g,0,none⟩) 2 g 0 (by omega) (by omega) (by omega) (by simp) ⟨⟨none,0,rfl,Nat.le_refl _,Nat.zero_le _,fun h=>absurd rfl h,fun x hx=>by cases hx⟩⟩ (fun h=>absurd rfl h) ⟨Nat.le_refl _,Nat.zero_le _⟩ (fun i h=>by simp at h) (fun _=>⟨rfl,hs,trivial⟩) ⟨Nat.le_refl _,by unfold maxLen;omega⟩ (fun i h=>?_) (fun i h=>?_)
 ·have hi:i=0∨i=1:=by simp at h;omega
  rcases hi with rfl | rfl
  ·exact ⟨hc 0 _ rfl,hc 8 _ rfl,show (0:Nat)<2 ^ 64 by decide⟩
  ·exact ⟨hc 9 _ rfl,hc 17 _ rfl,show (0:Nat)<2 ^ 64 by decide⟩
 ·have hi:i=0∨i=1:=by simp at h;omega
  rcases hi with rfl | rfl
  ·have e:cellsAt w g (0+0*9+1) 7=[.int .u8 1,.int .u8 0,.int .u64 0,.string ⟨#[]⟩,.slice none 0 0,.slice none 0 0,.slice none 0 0]:=cellsAt_of rfl (fun j u hu=>by
    have hj:j<7:=by have:=(List.getElem?_eq_some_iff.1 hu).1;simpa using this
    refine hc (0+0*9+1+j) u ?_
    rw [← hu]
    have:j=0∨j=1∨j=2∨j=3∨j=4∨j=5∨j=6:=by omega
    rcases this with rfl | rfl | rfl | rfl | rfl | rfl | rfl <;> rfl)
   rw [e]
   exact vis_num (k:=1) (n:=0) (by omega) (by omega)
  ·have e:cellsAt w g (0+1*9+1) 7=[.int .u8 6,.int .u8 0,.int .u64 5,.string ⟨#[]⟩,.slice none 0 0,.slice none 0 0,.slice none 0 0]:=cellsAt_of rfl (fun j u hu=>by
    have hj:j<7:=by have:=(List.getElem?_eq_some_iff.1 hu).1;simpa using this
    refine hc (0+1*9+1+j) u ?_
    rw [← hu]
    have:j=0∨j=1∨j=2∨j=3∨j=4∨j=5∨j=6:=by omega
    rcases this with rfl | rfl | rfl | rfl | rfl | rfl | rfl <;> rfl)
   rw [e]
   exact vis_num (k:=6) (n:=5) (by omega) (by omega)
set_option maxRecDepth 100000 in
set_option maxHeartbeats 8000000 in
theorem valueAwake_calls (w:World):Calls Tryz.prog 19 #[] w fun e w'=>e=.returned (.bool true)∧Fr0 w w':=by
 have hf1:Fr0 w ((w.alloc (.cells #[.bool false,.int .u8 1,.int .u8 0,.int .u64 0,.string ⟨#[]⟩,.slice none 0 0,.slice none 0 0,.slice none 0 0,.int .u64 0,.bool true,.int .u8 6,.int .u8 0,.int .u64 5,.string ⟨#[]⟩,.slice none 0 0,.slice none 0 0,.slice none 0 0,.int .u64 0] 84)).alloc (.cells #[.int .u8 15,.int .u8 0,.int .u64 0,.string ⟨#[]⟩,.slice none 0 0,.slice none 0 0,.slice (some ⟨w.heap.size,0,none⟩) 2 2] 46)):=((Fr.refl _ w).alloc _).alloc _
 have hR1:((w.alloc (.cells #[.bool false,.int .u8 1,.int .u8 0,.int .u64 0,.string ⟨#[]⟩,.slice none 0 0,.slice none 0 0,.slice none 0 0,.int .u64 0,.bool true,.int .u8 6,.int .u8 0,.int .u64 5,.string ⟨#[]⟩,.slice none 0 0,.slice none 0 0,.slice none 0 0,.int .u64 0] 84)).alloc (.cells #[.int .u8 15,.int .u8 0,.int .u64 0,.string ⟨#[]⟩,.slice none 0 0,.slice none 0 0,.slice (some ⟨w.heap.size,0,none⟩) 2 2] 46)).heap[w.heap.size]?=some (.cells #[.bool false,.int .u8 1,.int .u8 0,.int .u64 0,.string ⟨#[]⟩,.slice none 0 0,.slice none 0 0,.slice none 0 0,.int .u64 0,.bool true,.int .u8 6,.int .u8 0,.int .u64 5,.string ⟨#[]⟩,.slice none 0 0,.slice none 0 0,.slice none 0 0,.int .u64 0] 84):=by
  simp only [heap_alloc_get,size_alloc];rw [if_neg (by omega),if_pos trivial]
 have hX1:((w.alloc (.cells #[.bool false,.int .u8 1,.int .u8 0,.int .u64 0,.string ⟨#[]⟩,.slice none 0 0,.slice none 0 0,.slice none 0 0,.int .u64 0,.bool true,.int .u8 6,.int .u8 0,.int .u64 5,.string ⟨#[]⟩,.slice none 0 0,.slice none 0 0,.slice none 0 0,.int .u64 0] 84)).alloc (.cells #[.int .u8 15,.int .u8 0,.int .u64 0,.string ⟨#[]⟩,.slice none 0 0,.slice none 0 0,.slice (some ⟨w.heap.size,0,none⟩) 2 2] 46)).heap[w.heap.size+1]?=some (.cells #[.int .u8 15,.int .u8 0,.int .u64 0,.string ⟨#[]⟩,.slice none 0 0,.slice none 0 0,.slice (some ⟨w.heap.size,0,none⟩) 2 2] 46):=by
  simp only [heap_alloc_get,size_alloc];rw [if_pos trivial]
 have HB:=Hd (fun (_:Unit)=>Build_calls false [] vA vA_good.bld rfl (by decide) (.inl rfl) 1 (by omega) ((w.alloc (.cells #[.bool false,.int .u8 1,.int .u8 0,.int .u64 0,.string ⟨#[]⟩,.slice none 0 0,.slice none 0 0,.slice none 0 0,.int .u64 0,.bool true,.int .u8 6,.int .u8 0,.int .u64 5,.string ⟨#[]⟩,.slice none 0 0,.slice none 0 0,.slice none 0 0,.int .u64 0] 84)).alloc (.cells #[.int .u8 15,.int .u8 0,.int .u64 0,.string ⟨#[]⟩,.slice none 0 0,.slice none 0 0,.slice (some ⟨w.heap.size,0,none⟩) 2 2] 46)) _ (vA_is hR1))
 have HF1:=Hd hf1
 have HR1:=Hd hR1
 have HX1:=Hd hX1
 clear hf1 hR1 hX1
 go_enter Tryz.func19,Tryz.ntmps19
 go_wp2_with fail
 refine (HB.out ()).mono ?_
 rintro e2 w2 ⟨st',hb,hok,rfl,hf2⟩
 have hR2:=(hf2.block w.heap.size (lt_of_block HR1.out) (fun x=>x)).trans HR1.out
 have hX2:=(hf2.block (w.heap.size+1) (lt_of_block HX1.out) (fun x=>x)).trans HX1.out
 have hbuf:Buf true st'.m.bytes vA:=⟨by have:=hok.len;omega,hok.ref,hok.tab⟩
 obtain ⟨S,hS⟩:∃ S,S=strOf st'.m.bytes:=⟨_,rfl⟩
 rw [← hS]
 have HD:=Hd (fun (_:Unit)=>hS ▸ Read_of vA vA_rdt true st'.m.bytes vA hbuf vA_good.pure rfl vA_sh w2 _ (vA_is hR2))
 have HF2:=Hd (HF1.out.trans hf2)
 have x0:w2.cell? ⟨w.heap.size+1,0,none⟩=some (.int .u8 15):=(cell_of hX2 0).trans rfl
 have x1:w2.cell? ⟨w.heap.size+1,1,none⟩=some (.int .u8 0):=(cell_of hX2 1).trans rfl
 have x2:w2.cell? ⟨w.heap.size+1,2,none⟩=some (.int .u64 0):=(cell_of hX2 2).trans rfl
 have x3:w2.cell? ⟨w.heap.size+1,3,none⟩=some (.string ⟨#[]⟩):=(cell_of hX2 3).trans rfl
 have x4:w2.cell? ⟨w.heap.size+1,4,none⟩=some (.slice none 0 0):=(cell_of hX2 4).trans rfl
 have x5:w2.cell? ⟨w.heap.size+1,5,none⟩=some (.slice none 0 0):=(cell_of hX2 5).trans rfl
 have x6:w2.cell? ⟨w.heap.size+1,6,none⟩=some (.slice (some ⟨w.heap.size,0,none⟩) 2 2):=(cell_of hX2 6).trans rfl
 clear hb hok hbuf hS hf2 hR2 hX2
 go_wp2_with fail
 refine (HD.out ()).mono ?_
 rintro e3 w3 ⟨cs',rfl,hv',hf3⟩
 rw [vA_read] at hv'
 have HF3:=Hd (HF2.out.trans hf3)
 clear hf3 x0 x1 x2 x3 x4 x5 x6
 cases hv' with
 | mk _ _ _ _ _ _ _ nv ka kc kg ko sa sc sg so hk he hn ht hnv hka hkc hks hsa hsc hsd hss =>
  obtain ⟨na,nc,rfl,_⟩:=hnv.ok
  obtain ⟨rfl,hsg,_⟩:=hsa (by simp)
  have hd0:=(hsd 0 (by simp)).1
  have hd1:=(hsd 1 (by simp)).1
  obtain ⟨_,_,_,_,_,_,_,_,_,_,_,_,c2,_,_,_,_⟩:=(hss 1 (by simp)).at
  have e0:w3.cell? ⟨sg,so,none⟩=some (.bool false):=by simpa using hd0
  have e1:w3.cell? ⟨sg,so+9,none⟩=some (.bool true):=by simpa using hd1
  have e2:w3.cell? ⟨sg,so+9+1+2,none⟩=some (.int .u64 5):=c2
  have f0:=fun o=>keep_alloc o e0
  have f1:=fun o=>keep_alloc o e1
  have f2:∀ o,(w3.alloc o).cell? ⟨sg,so+12,none⟩=some (.int .u64 5):=fun o=>keep_alloc o e2
  clear hd0 hd1 c2 e0 e1 e2 hk he hn ht hnv hka hkc hks hsa hsc hsd hss
  go_wp2_with fail
  go_ret
  exact ⟨rfl,HF3.out.alloc _⟩
end Go.Proofs.YtcfblkkpclfmaaaGreat
namespace Go.Proofs.YtcfblkkpclfmaaaGreat
open Go.RowKit
def BM.wr (m:BM) (r:Nat):BM:={ m with room:=r }
def BSt.wr (st:BSt) (r:Nat):BSt:={ st with m:=st.m.wr r }
/-- The same answer, and the same state but for the room. -/
def RelO {α:Type} (x y:Option (α × BSt)):Prop:=∀ o s o' s',x=some (o,s)→y=some (o',s')→o=o'∧∃ r,s'=s.wr r
def RelS (x y:Option BSt):Prop:=∀ s s',x=some s→y=some s'→∃ r,s'=s.wr r
theorem RelO.bind {α β:Type} {x y:Option (α × BSt)} {f g:α × BSt→Option (β × BSt)} (h:RelO x y) (hf:∀ o s r,RelO (f (o,s)) (g (o,s.wr r))):RelO (x.bind f) (y.bind g):=by
 intro o s o' s' h1 h2
 obtain ⟨⟨a,b⟩,e1,e2⟩:=Option.bind_eq_some_iff.1 h1
 obtain ⟨⟨a',b'⟩,e1',e2'⟩:=Option.bind_eq_some_iff.1 h2
 obtain ⟨rfl,r,rfl⟩:=h a b a' b' e1 e1'
 exact hf a b r o s o' s' e2 e2'
theorem RelO.map {α β:Type} {x y:Option (α × BSt)} {f:α→β} (h:RelO x y):RelO (x.map fun q=>(f q.1,q.2)) (y.map fun q=>(f q.1,q.2)):=by
 intro o s o' s' h1 h2
 obtain ⟨⟨a,b⟩,e1,e2⟩:=Option.map_eq_some_iff.1 h1
 obtain ⟨⟨a',b'⟩,e1',e2'⟩:=Option.map_eq_some_iff.1 h2
 obtain ⟨rfl,r,rfl⟩:=h a b a' b' e1 e1'
 injection e2 with e2 e3
 injection e2' with e2' e3'
 subst e2 e3 e2' e3'
 exact ⟨rfl,r,rfl⟩
theorem RelO.pair {α:Type} (o:α) (s:BSt) (r:Nat):RelO (some (o,s)) (some (o,s.wr r)):=by
 intro a b a' b' h1 h2
 injection h1 with h1
 injection h2 with h2
 injection h1 with h1 h3
 injection h2 with h2 h4
 subst h1 h2 h3 h4
 exact ⟨rfl,r,rfl⟩
theorem RelO.none {α:Type} (y:Option (α × BSt)):RelO Option.none y:=fun _ _ _ _ h=>by cases h
theorem RelO.none' {α:Type} (y:Option (α × BSt)):RelO y Option.none:=fun _ _ _ _ _ h=>by cases h
theorem RelS.bindO {β:Type} {x y:Option BSt} {f g:BSt→Option (β × BSt)} (h:RelS x y) (hf:∀ s r,RelO (f s) (g (s.wr r))):RelO (x.bind f) (y.bind g):=by
 intro o s o' s' h1 h2
 obtain ⟨b,e1,e2⟩:=Option.bind_eq_some_iff.1 h1
 obtain ⟨b',e1',e2'⟩:=Option.bind_eq_some_iff.1 h2
 obtain ⟨r,rfl⟩:=h b b' e1 e1'
 exact hf b r o s o' s' e2 e2'
theorem RelS.bind {x y:Option BSt} {f g:BSt→Option BSt} (h:RelS x y) (hf:∀ s r,RelS (f s) (g (s.wr r))):RelS (x.bind f) (y.bind g):=by
 intro s s' h1 h2
 obtain ⟨b,e1,e2⟩:=Option.bind_eq_some_iff.1 h1
 obtain ⟨b',e1',e2'⟩:=Option.bind_eq_some_iff.1 h2
 obtain ⟨r,rfl⟩:=h b b' e1 e1'
 exact hf b r s s' e2 e2'
theorem RelO.bindS {α:Type} {x y:Option (α × BSt)} {f g:α × BSt→Option BSt} (h:RelO x y) (hf:∀ o s r,RelS (f (o,s)) (g (o,s.wr r))):RelS (x.bind f) (y.bind g):=by
 intro s s' h1 h2
 obtain ⟨⟨a,b⟩,e1,e2⟩:=Option.bind_eq_some_iff.1 h1
 obtain ⟨⟨a',b'⟩,e1',e2'⟩:=Option.bind_eq_some_iff.1 h2
 obtain ⟨rfl,r,rfl⟩:=h a b a' b' e1 e1'
 exact hf a b r s s' e2 e2'
theorem RelS.one (s:BSt) (r:Nat):RelS (some s) (some (s.wr r)):=by
 intro a b h1 h2
 injection h1 with h1
 injection h2 with h2
 subst h1 h2
 exact ⟨r,rfl⟩
theorem RelS.none (y:Option BSt):RelS Option.none y:=fun _ _ h=>by cases h
theorem wr_endVec (st:BSt) (r n:Nat):RelO (st.endVec n) ((st.wr r).endVec n):=by
 unfold BSt.endVec
 show RelO (if st.nested then _ else _) (if st.nested then _ else _)
 cases st.nested with
 | false=>exact RelO.none _
 | true =>
  simp only [if_true]
  split
  ·exact RelO.none _
  ·split
   ·exact RelO.none' _
   ·exact RelO.pair _ { st with m:=st.m.put (leB 4 n),nested:=false } (r-4)
theorem wr_created (st:BSt) (r:Nat) (xs:List UInt8) (z:Bool):RelO (st.created xs z) ((st.wr r).created xs z):=by
 unfold BSt.created
 show RelO (if st.nested then _ else _) (if st.nested then _ else _)
 cases st.nested with
 | true=>exact RelO.none _
 | false =>
  simp only [Bool.false_eq_true,if_false]
  unfold BSt.create
  cases z with
  | true=>exact wr_endVec { st with m:=((st.m.prep 4 (xs.length+1)).put [0]).put xs,nested:=true } _ _
  | false=>exact wr_endVec { st with m:=(st.m.prep 4 xs.length).put xs,nested:=true } _ _
theorem wr_text (sh:Bool) (st:BSt) (r:Nat) (t:List UInt8):RelO (bText sh t st) (bText sh t (st.wr r)):=by
 unfold bText
 cases sh with
 | false=>exact wr_created st r t true
 | true =>
  simp only [if_true]
  unfold BSt.sharedStr
  show RelO (if Maps.has (st.shared.getD (.map [])) (.string t) then _ else _) (if Maps.has (st.shared.getD (.map [])) (.string t) then _ else _)
  split
  ·exact RelO.pair _ { st with shared:=some (st.shared.getD (.map [])) } r
  ·intro o s o' s' h1 h2
   obtain ⟨⟨a,b⟩,e1,e2⟩:=Option.map_eq_some_iff.1 h1
   obtain ⟨⟨a',b'⟩,e1',e2'⟩:=Option.map_eq_some_iff.1 h2
   obtain ⟨rfl,q,rfl⟩:=wr_created { st with shared:=some (st.shared.getD (.map [])) } r t true a b a' b' e1 e1'
   injection e2 with e2 e3
   injection e2' with e2' e3'
   subst e2 e3 e2' e3'
   exact ⟨rfl,q,rfl⟩
theorem wr_startVec (st:BSt) (r z n y:Nat):RelO (st.startVec z n y) ((st.wr r).startVec z n y):=by
 unfold BSt.startVec
 show RelO (if st.nested then _ else _) (if st.nested then _ else _)
 cases st.nested with
 | true=>exact RelO.none _
 | false =>
  simp only [Bool.false_eq_true,if_false]
  exact RelO.pair _ { st with m:=(st.m.prep 4 (z*n)).prep y (z*n),nested:=true } _
theorem wr_bNums (k:Nat) (m:BM) (r:Nat):∀ ns:List Nat,∃ q,bNums k ns (m.wr r)=(bNums k ns m).wr q
 | []=>⟨r,rfl⟩
 | n :: ns=>by
  obtain ⟨q,hq⟩:=wr_bNums k m r ns
  have e:bNums k (n :: ns) (m.wr r)=((bNums k ns (m.wr r)).prep (numSize k) 0).put (numB k n):=rfl
  rw [e,hq]
  exact ⟨_,rfl⟩
theorem wr_scalars (k:Nat) (ns:List Nat) (st:BSt) (r:Nat):RelO (bScalars k ns st) (bScalars k ns (st.wr r)):=by
 unfold bScalars
 refine (wr_startVec st r _ _ _).bind fun o s q=>?_
 obtain ⟨x,hx⟩:=wr_bNums k s.m q ns
 show RelO (BSt.endVec { s with m:=bNums k ns s.m } ns.length) (BSt.endVec { s with m:=bNums k ns (s.m.wr q) } ns.length)
 rw [hx]
 exact wr_endVec { s with m:=bNums k ns s.m } x ns.length
theorem wr_refer (st:BSt) (r off:Nat):RelS (st.refer off) ((st.wr r).refer off):=by
 unfold BSt.refer BM.refer
 show RelS (Option.map _ (if off≤(st.m.prep 4 0).bytes.length then _ else _)) (Option.map _ (if off≤(st.m.prep 4 0).bytes.length then _ else _))
 split
 ·exact RelS.one { st with m:=(st.m.prep 4 0).put (leB 4 ((st.m.prep 4 0).bytes.length-off+4)) } _
 ·exact RelS.none _
theorem wr_offs:∀ (os:List Nat) (st:BSt) (r:Nat),RelS (bOffs os st) (bOffs os (st.wr r))
 | [],st,r=>RelS.one st r
 | o :: os,st,r=>(wr_offs os st r).bind fun s q=>wr_refer s q o
theorem wr_vec (os:List Nat) (st:BSt) (r:Nat):RelO (bVec os st) (bVec os (st.wr r)):=by
 unfold bVec
 exact (wr_startVec st r _ _ _).bind fun o s q=>(wr_offs os s q).bindO fun s x=>wr_endVec s x _
theorem wr_slot (st:BSt) (r:Nat) (i:Int):RelS (st.slot i) ((st.wr r).slot i):=by
 unfold BSt.slot
 show RelS (match st.vtab with | none=>none | some l=>_) (match st.vtab with | none=>none | some l=>_)
 cases st.vtab with
 | none=>exact RelS.none _
 | some l =>
  show RelS (if _ then _ else _) (if _ then _ else _)
  split
  ·exact RelS.one { st with vtab:=some (l.set i.toNat st.m.bytes.length) } r
  ·exact RelS.none _
theorem wr_field (i:Nat) (s:Slt Val) (o:Nat) (st:BSt) (r:Nat):RelS (bField i s o st) (bField i s o (st.wr r)):=by
 unfold bField
 split
 ·exact RelS.one st r
 ·split
  ·unfold BSt.prepSlot
   split
   ·exact RelS.one st r
   ·exact wr_slot { st with m:=(st.m.prep (numSize s.val.kind) 0).put (numB s.val.kind s.val.num) } _ _
  ·split
   ·unfold BSt.structSlot
    show RelS (if ((st.m.prep s.val.elem s.val.text.length).put s.val.text).bytes.length=0 then _ else if st.nested then if ((st.m.prep s.val.elem s.val.text.length).put s.val.text).bytes.length=((st.m.prep s.val.elem s.val.text.length).put s.val.text).bytes.length then _ else _ else _)
     (if ((st.m.prep s.val.elem s.val.text.length).put s.val.text).bytes.length=0 then _ else if st.nested then if ((st.m.prep s.val.elem s.val.text.length).put s.val.text).bytes.length=((st.m.prep s.val.elem s.val.text.length).put s.val.text).bytes.length then _ else _ else _)
    split
    ·exact RelS.one { st with m:=(st.m.prep s.val.elem s.val.text.length).put s.val.text } _
    ·split
     ·rw [if_pos rfl,if_pos rfl]
      exact wr_slot { st with m:=(st.m.prep s.val.elem s.val.text.length).put s.val.text } _ _
     ·exact RelS.none _
   ·unfold BSt.offSlot
    split
    ·exact RelS.one st r
    ·exact (wr_refer st r o).bind fun s q=>wr_slot s q i
theorem wr_fields:∀ (ss:List (Slt Val)) (os:List Nat) (i:Nat) (st:BSt) (r:Nat),RelS (bFields i ss os st) (bFields i ss os (st.wr r))
 | [],os,i,st,r=>by rw [bFields,bFields] <;> first | exact RelS.one st r | simp
 | s :: ss,[],i,st,r=>by rw [bFields,bFields] <;> first | exact RelS.one st r | simp
 | s :: ss,o :: os,i,st,r=>by
  rw [bFields,bFields]
  exact (wr_field i s o st r).bind fun x q=>wr_fields ss os (i+1) x q
theorem wr_startObj (st:BSt) (r n:Nat):RelS (st.startObj n) ((st.wr r).startObj n):=by
 unfold BSt.startObj
 show RelS (if st.nested then _ else _) (if st.nested then _ else _)
 split
 ·exact RelS.none _
 ·exact RelS.one { st with nested:=true,vtab:=some (List.replicate n 0),oend:=st.m.bytes.length } r
theorem wr_vtPut (o:Nat) (m:BM) (r:Nat):∀ l:List Nat,∃ q,vtPut o l (m.wr r)=(vtPut o l m).wr q
 | []=>⟨r,rfl⟩
 | f :: l=>by
  obtain ⟨q,hq⟩:=wr_vtPut o m r l
  rw [vtPut_cons,vtPut_cons,hq]
  exact ⟨_,rfl⟩
theorem wr_endObj (st:BSt) (r:Nat):RelO st.endObj (st.wr r).endObj:=by
 unfold BSt.endObj
 show RelO (if st.nested then _ else _) (if st.nested then _ else _)
 split
 ·have h1:∃ q,(st.wr r).vt1=st.vt1.wr q:=⟨_,rfl⟩
  obtain ⟨q,hq⟩:=h1
  have h4:∀ l,∃ q,(st.wr r).vt4 l=(st.vt4 l).wr q:=by
   intro l
   unfold BSt.vt4
   rw [hq]
   obtain ⟨x,hx⟩:=wr_vtPut (st.vt1.wr q).bytes.length st.vt1 q l
   rw [hx]
   exact ⟨_,rfl⟩
  have hw:∃ q,(st.wr r).writeVt=st.writeVt.wr q:=by
   unfold BSt.writeVt
   rw [hq]
   have hfe:vtFind (st.vt1.wr q) (st.vt1.wr q).bytes.length (trimZ ((st.wr r).vtab.getD [])) (st.wr r).vts=vtFind st.vt1 st.vt1.bytes.length (trimZ (st.vtab.getD [])) st.vts:=rfl
   rw [hfe]
   cases hfi:vtFind st.vt1 st.vt1.bytes.length (trimZ (st.vtab.getD [])) st.vts with
   | some v=>exact ⟨q,rfl⟩
   | none =>
    obtain ⟨x,hx⟩:=h4 (trimZ (st.vtab.getD []))
    refine ⟨x,?_⟩
    show ({ (st.wr r) with m:=((st.wr r).vt4 (trimZ (st.vtab.getD []))).over st.vt1.bytes.length (leI 4 ((((st.wr r).vt4 (trimZ (st.vtab.getD []))).bytes.length:Int)-st.vt1.bytes.length)),vtab:=st.vtab.map (fun _=>[]),vts:=st.vts ++ [((st.wr r).vt4 (trimZ (st.vtab.getD []))).bytes.length] }:BSt)=_
    rw [hx]
    rfl
  obtain ⟨x,hx⟩:=hw
  rw [hx]
  exact RelO.pair st.vt1.bytes.length { st.writeVt with nested:=false } x
 ·exact RelO.none _
/-- The same whatever the room. -/
def SameE (sh:Bool) (v:Val):Prop:=∀ st r,RelO (bElse sh v st) (bElse sh v (st.wr r))
def SameT (sh:Bool) (v:Val):Prop:=∀ st r,RelO (bTab sh v st) (bTab sh v (st.wr r))
theorem wr_texts (sh:Bool):∀ (ks:List Val) (st:BSt) (r:Nat),RelO (bTexts sh ks st) (bTexts sh ks (st.wr r))
 | [],st,r=>RelO.pair [] st r
 | v :: ks,st,r=>by
  rw [bTexts_cons,bTexts_cons]
  exact (wr_text sh st r v.text).bind fun o s q=>(wr_texts sh ks s q).map (f:=fun l=>o :: l)
theorem wr_kids (sh:Bool):∀ (ks:List Val) (_:∀ v∈ks,SameT sh v) (st:BSt) (r:Nat),RelO (bKids sh ks st) (bKids sh ks (st.wr r))
 | [],_,st,r=>RelO.pair [] st r
 | v :: ks,h,st,r=>by
  rw [bKids,bKids]
  exact (h v (List.mem_cons_self ..) st r).bind fun o s q=>(wr_kids sh ks (fun x hx=>h x (List.mem_cons_of_mem _ hx)) s q).map (f:=fun l=>o :: l)
theorem wr_slots (sh:Bool):∀ (ss:List (Slt Val)) (_:∀ s∈ss,SameE sh s.val) (st:BSt) (r:Nat),RelO (bSlots sh ss st) (bSlots sh ss (st.wr r))
 | [],_,st,r=>RelO.pair [] st r
 | s :: ss,h,st,r=>by
  rw [bSlots,bSlots,bSlot_def,bSlot_def]
  refine RelO.bind ?_ fun o s q=>(wr_slots sh ss (fun x hx=>h x (List.mem_cons_of_mem _ hx)) s q).map (f:=fun l=>o :: l)
  split
  ·exact h s (List.mem_cons_self ..) st r
  ·exact RelO.pair 0 st r
theorem wr_obj (sh:Bool) (ss:List (Slt Val)) (h:∀ s∈ss,SameE sh s.val) (st:BSt) (r:Nat) :
  RelO ((bSlots sh ss st).bind fun p=>(p.2.startObj ss.length).bind fun st1=>(bFields 0 ss p.1 st1).bind fun st2=>st2.endObj) ((bSlots sh ss (st.wr r)).bind fun p=>(p.2.startObj ss.length).bind fun st1=>(bFields 0 ss p.1 st1).bind fun st2=>st2.endObj) :=
 (wr_slots sh ss h st r).bind fun o s q=>(wr_startObj s q ss.length).bindO fun s q=>(wr_fields ss o 0 s q).bindO fun s q=>wr_endObj s q
theorem same_val (sh:Bool):∀ v,SameE sh v∧SameT sh v:=by
 intro v
 induction v using Val.ind with
 | h k e n t ns ks ss ihk ihs =>
  have ho:=wr_obj sh ss (fun s hs=>(ihs s hs).1)
  refine ⟨fun st r=>?_,fun st r=>?_⟩
  ·rw [bElse,bElse]
   split
   ·exact wr_text sh st r t
   ·split
    ·exact wr_created st r t false
    ·split
     ·exact wr_scalars e ns st r
     ·split
      ·exact (wr_texts sh ks st r).bind fun o s q=>wr_vec o s q
      ·split
       ·exact (wr_kids sh ks (fun v hv=>(ihk v hv).2) st r).bind fun o s q=>wr_vec o s q
       ·split
        ·exact ho st r
        ·exact RelO.pair 0 st r
  ·rw [bTab,bTab];exact ho st r
theorem wr_finish (st:BSt) (r off:Nat):RelS (st.finish off) ((st.wr r).finish off):=by
 unfold BSt.finish
 show RelS (if st.nested then _ else _) (if st.nested then _ else _)
 split
 ·exact RelS.none _
 ·intro s s' h1 h2
  obtain ⟨b,e1,e2⟩:=Option.map_eq_some_iff.1 h1
  obtain ⟨b',e1',e2'⟩:=Option.map_eq_some_iff.1 h2
  obtain ⟨q,rfl⟩:=wr_refer { st with m:=st.m.prep st.m.least 4 } _ off b b' e1 e1'
  subst e2 e2'
  exact ⟨q,rfl⟩
theorem wr_built (sh:Bool) (id:List UInt8) (v:Val) (st:BSt) (r:Nat):RelS (bBuilt sh id v st) (bBuilt sh id v (st.wr r)):=by
 unfold bBuilt
 refine ((same_val sh v).2 st r).bindS fun o s q=>?_
 show RelS (if id=[] then _ else _) (if id=[] then _ else _)
 split
 ·exact wr_finish s q o
 ·unfold BSt.finishId
  split
  ·exact wr_finish { s with m:=(s.m.prep s.m.least 8).put id } _ o
  ·exact RelS.none _
/-- Whatever the room at first, the bytes are the same. -/
theorem built_same {sh:Bool} {id:List UInt8} {v:Val} {a b:Nat} {s s':BSt} (h:bBuilt sh id v (st0 a)=some s) (h':bBuilt sh id v (st0 b)=some s'):s.m.bytes=s'.m.bytes:=by
 obtain ⟨q,rfl⟩:=wr_built sh id v (st0 a) b s s' h h'
 rfl
end Go.Proofs.YtcfblkkpclfmaaaGreat
namespace Go.Proofs.YtcfblkkpclfmaaaGreat
open Go.RowKit
/-- The world while a law runs: its two boxes. -/
structure LF (w:World) (bv bo:List Value) (wx:World):Prop where
 fr:Fr0 w wx
 size:w.heap.size+2≤wx.heap.size
 hv:wx.heap[w.heap.size]?=some (.cells bv.toArray 27)
 ho:wx.heap[w.heap.size+1]?=some (.cells bo.toArray 29)
theorem LF.start (w:World) (bv bo:List Value):LF w bv bo ((w.alloc (.cells bv.toArray 27)).alloc (.cells bo.toArray 29)):=by
 refine ⟨((Fr.refl _ w).alloc _).alloc _,by simp,?_,?_⟩
 ·simp only [heap_alloc_get,size_alloc];rw [if_neg (by omega),if_pos trivial]
 ·simp only [heap_alloc_get,size_alloc];rw [if_pos trivial]
theorem LF.next {w:World} {bv bo:List Value} {wx w6:World} (h:LF w bv bo wx) (hf:Fr0 wx w6):LF w bv bo w6:=by
 have hs:=h.size
 have hs6:=hf.size
 exact ⟨h.fr.trans hf,by omega,(hf.block _ (by omega) (fun x=>x)).trans h.hv,(hf.block _ (by omega) (fun x=>x)).trans h.ho⟩
theorem LF.v7 {w:World} {b0 b1 b2 b3 b4 b5 b6:Value} {bo:List Value} {wx:World} (h:LF w [b0,b1,b2,b3,b4,b5,b6] bo wx):wx.cell? ⟨w.heap.size,0,none⟩=some b0∧wx.cell? ⟨w.heap.size,1,none⟩=some b1∧wx.cell? ⟨w.heap.size,2,none⟩=some b2∧wx.cell? ⟨w.heap.size,3,none⟩=some b3∧wx.cell? ⟨w.heap.size,4,none⟩=some b4∧wx.cell? ⟨w.heap.size,5,none⟩=some b5∧wx.cell? ⟨w.heap.size,6,none⟩=some b6:=by
 have hb:=h.hv
 exact ⟨by rw [cell_of hb];rfl,by rw [cell_of hb];rfl,by rw [cell_of hb];rfl,by rw [cell_of hb];rfl,by rw [cell_of hb];rfl,by rw [cell_of hb];rfl,by rw [cell_of hb];rfl⟩
theorem LF.o3 {w:World} {b0 b1 b2:Value} {bv:List Value} {wx:World} (h:LF w bv [b0,b1,b2] wx):wx.cell? ⟨w.heap.size+1,0,none⟩=some b0∧wx.cell? ⟨w.heap.size+1,1,none⟩=some b1∧wx.cell? ⟨w.heap.size+1,2,none⟩=some b2:=by
 have hb:=h.ho
 exact ⟨by rw [cell_of hb];rfl,by rw [cell_of hb];rfl,by rw [cell_of hb];rfl⟩
end Go.Proofs.YtcfblkkpclfmaaaGreat
