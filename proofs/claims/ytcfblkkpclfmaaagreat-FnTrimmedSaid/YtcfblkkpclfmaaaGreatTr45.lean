/- Part 45 of the proof of FnTrimmed (CleanH, CleanC, VFits, VAwake, Trim, LawK, TrimK). No condition is laid on the statement. -/
import Derived.Test.YtcfblkkpclfmaaaGreatTr20
import Derived.Test.YtcfblkkpclfmaaaGreatTr02
import Derived.Test.YtcfblkkpclfmaaaGreatTr21
import Derived.Test.YtcfblkkpclfmaaaGreatTr22
import Derived.Test.YtcfblkkpclfmaaaGreatTr28
import Derived.Test.YtcfblkkpclfmaaaGreatTr40
import Derived.Test.YtcfblkkpclfmaaaGreatTr41
import Derived.Test.YtcfblkkpclfmaaaGreatTr42
import Derived.Test.YtcfblkkpclfmaaaGreatTr43
import Derived.Test.YtcfblkkpclfmaaaGreatTr44
import Derived.Test.YtcfblkkpclfmaaaGreatTr31
import Derived.Test.YtcfblkkpclfmaaaGreatTr16
import Derived.Test.YtcfblkkpclfmaaaGreatTr27
import Derived.Deep.AppendLies
import Derived.Maps.AppendAt
set_option linter.unusedVariables false
set_option linter.unusedSimpArgs false
namespace Go.Proofs.YtcfblkkpclfmaaaGreat
open Go.RowKit
set_option maxRecDepth 100000 in
set_option maxHeartbeats 8000000 in
theorem clean_h (k:Nat) (hk18:17<k) (e n:Nat) (t:List UInt8) (ns:List Nat) (ks:List Val) (ss:List (Slt Val)):CleanC (.mk k e n t ns ks ss):=by
 intro B cs L left deep w hv hBL hL hl0 hl1 hd0 hd1
 cases hv with
 | mk _ _ _ _ _ _ _ nv ka kc kg ko sa sc sg so hk he hn ht hnv hka hkc hks hsa hsc hsd hss =>
  obtain ⟨tt,htt⟩:∃ tt,tt=strOf t:=⟨_,rfl⟩
  have hszt:tt.size=t.length:=by rw [htt];exact strOf_size t
  obtain ⟨na,nc,rfl,hnc1,hnc2,hnc3,hnc4⟩:=hnv.ok
  obtain ⟨nl,hnl⟩:∃ nl,nl=ns.length:=⟨_,rfl⟩
  obtain ⟨nk,hnk⟩:∃ nk,nk=ks.length:=⟨_,rfl⟩
  obtain ⟨nss,hnss⟩:∃ nss,nss=ss.length:=⟨_,rfl⟩
  rw [← htt,← hnl,← hnk,← hnss]
  have hLs:=lt_of_block hL
  have cL:w.cell? ⟨L,0,none⟩=some (.int .i64 left):=by rw [cell_of hL];rfl
  have fL:=frozen_of hL 0
  have cL1:∀ o,(w.alloc o).cell? ⟨L,0,none⟩=some (.int .i64 left):=fun o=>keep_alloc o cL
  have fL1:∀ o,(w.alloc o).frozen? ⟨L,0,none⟩=false:=fun o=>keep_allocF o cL fL
  have hL1:(w.setCell ⟨L,0,none⟩ (.int .i64 (left-1))).heap[L]?=some (.cells #[.int .i64 (left-1)] 3):=heap_setCell_same hL 0 _
  have cL2:∀ o,((w.setCell ⟨L,0,none⟩ (.int .i64 (left-1))).alloc o).cell? ⟨L,0,none⟩=some (.int .i64 (left-1)):=fun o=>keep_alloc o (by rw [cell_of hL1];rfl)
  have hCF:CF w [.int .u8 k,.int .u8 e,.int .u64 n,.string tt,.slice na nl nc,.slice ka nk kc,.slice sa nss sc] L (left-1) ((w.setCell ⟨L,0,none⟩ (.int .i64 (left-1))).alloc (.cells (([.int .u8 k,.int .u8 e,.int .u64 n,.string tt,.slice na nl nc,.slice ka nk kc,.slice sa nss sc]:List Value)).toArray 27)):=CF.start hL
  have HCF:=Hd hCF
  have HV:=Hd (And.intro hk (And.intro he (And.intro hn (And.intro ht (And.intro hnv hBL)))))
  have HK:=Hd (And.intro hka (And.intro hkc hks))
  have HS:=Hd (And.intro hsa (And.intro hsc (And.intro hsd hss)))
  have HN:=Hd (And.intro htt (And.intro hnl (And.intro hnk (And.intro hnss hszt))))
  have HL:=Hd hL
  have HNUM:=Hd (And.intro hnc3 hnc4)
  have HT:=Hd (show tt.toList.isEmpty=decide (tt.size=0) by rw [hszt,htt];exact strE)
  clear hCF hL1 hk he hn ht hnv hka hkc hks hsa hsc hsd hss htt hnl hnk hnss cL fL hL hnc1 hnc2 hnc3 hnc4 hBL hszt
  go_enter Tryz.func25,Tryz.ntmps25
  by_cases h1:left-1<0
  ·go_upto_region 3 with fail
   go_wp2_with fail
   go_ret
   exact HCF.out.bad
  by_cases h2:deep<0
  ·go_upto_region 3 with fail
   go_wp2_with fail
   go_ret
   exact HCF.out.bad
  go_upto_region 3 with fail
  go_wp2_with fail
  go_ret
  exact HCF.out.bad
end Go.Proofs.YtcfblkkpclfmaaaGreat
namespace Go.Proofs.YtcfblkkpclfmaaaGreat
open Go.RowKit
theorem clean_calls:∀ v,CleanC v:=by
 intro v
 induction v using Val.ind with
 | h k e n t ns ks ss ihk ihs =>
  by_cases h10:k≤10
  ·exact clean_N k h10 e n t ns ks ss
  by_cases h17:17<k
  ·exact clean_h k h17 e n t ns ks ss
  have hk:k=11∨k=12∨k=13∨k=14∨k=15∨k=16∨k=17:=by omega
  rcases hk with rfl | rfl | rfl | rfl | rfl | rfl | rfl
  ·exact clean_11 e n t ns ks ss
  ·exact clean_12 e n t ns ks ss
  ·exact clean_13 e n t ns ks ss
  ·exact clean_14 e n t ns ks ss ihk
  ·exact clean_15 e n t ns ks ss ihs
  ·exact clean_16 e n t ns ks ss ihk
  ·exact clean_17 e n t ns ks ss
end Go.Proofs.YtcfblkkpclfmaaaGreat
namespace Go.Proofs.YtcfblkkpclfmaaaGreat
open Go.RowKit
set_option maxRecDepth 100000 in
set_option maxHeartbeats 8000000 in
theorem valueFits_calls (v:Val) (cs:List Value) (sz:Int) (id:List UInt8) (sh:Bool) (w:World) (hv:VIs (fun _=>True) w cs v) :
  Calls Tryz.prog 18 #[.agg cs.toArray,.agg #[.int .i64 sz,.string (strOf id),.bool sh]] w fun e w'=>(∃ r,e=.returned (.bool r)∧(r=true→Good v∧v.kind=15∧nodes v≤150∧1≤sz∧sz≤2000∧(id=[]∨id.length=4)))∧Fr0 w w':=by
 obtain ⟨na,nl,nc,ka,nk,kc,sa,ns,sc,rfl⟩:=hv.lit
 obtain ⟨ii,hii⟩:∃ ii,ii=strOf id:=⟨_,rfl⟩
 have HSZ:=Hd (show ii.size=id.length by rw [hii];exact strOf_size id)
 have HI:=Hd (show ii.toList.isEmpty=decide (id.length=0) by rw [hii];exact strE)
 rw [← hii]
 have hf3:Fr0 w (((w.alloc (.cells #[.int .u8 v.kind,.int .u8 v.elem,.int .u64 v.num,.string (strOf v.text),.slice na nl nc,.slice ka nk kc,.slice sa ns sc] 27)).alloc (.cells #[.int .i64 sz,.string ii,.bool sh] 29)).alloc (.cells #[.int .i64 150] 3)):=(((Fr.refl _ w).alloc _).alloc _).alloc _
 have hs3:(((w.alloc (.cells #[.int .u8 v.kind,.int .u8 v.elem,.int .u64 v.num,.string (strOf v.text),.slice na nl nc,.slice ka nk kc,.slice sa ns sc] 27)).alloc (.cells #[.int .i64 sz,.string ii,.bool sh] 29)).alloc (.cells #[.int .i64 150] 3)).heap.size=w.heap.size+3:=by simp
 have hV3:(((w.alloc (.cells #[.int .u8 v.kind,.int .u8 v.elem,.int .u64 v.num,.string (strOf v.text),.slice na nl nc,.slice ka nk kc,.slice sa ns sc] 27)).alloc (.cells #[.int .i64 sz,.string ii,.bool sh] 29)).alloc (.cells #[.int .i64 150] 3)).heap[w.heap.size]?=some (.cells #[.int .u8 v.kind,.int .u8 v.elem,.int .u64 v.num,.string (strOf v.text),.slice na nl nc,.slice ka nk kc,.slice sa ns sc] 27):=by
  simp only [heap_alloc_get,size_alloc];rw [if_neg (by omega),if_neg (by omega),if_pos trivial]
 have hO3:(((w.alloc (.cells #[.int .u8 v.kind,.int .u8 v.elem,.int .u64 v.num,.string (strOf v.text),.slice na nl nc,.slice ka nk kc,.slice sa ns sc] 27)).alloc (.cells #[.int .i64 sz,.string ii,.bool sh] 29)).alloc (.cells #[.int .i64 150] 3)).heap[w.heap.size+1]?=some (.cells #[.int .i64 sz,.string ii,.bool sh] 29):=by
  simp only [heap_alloc_get,size_alloc];rw [if_neg (by omega),if_pos trivial]
 have hL3:(((w.alloc (.cells #[.int .u8 v.kind,.int .u8 v.elem,.int .u64 v.num,.string (strOf v.text),.slice na nl nc,.slice ka nk kc,.slice sa ns sc] 27)).alloc (.cells #[.int .i64 sz,.string ii,.bool sh] 29)).alloc (.cells #[.int .i64 150] 3)).heap[w.heap.size+1+1]?=some (.cells #[.int .i64 150] 3):=by
  simp only [heap_alloc_get,size_alloc];rw [if_pos trivial]
 have hv3:VIs (fun b=>b<w.heap.size) (((w.alloc (.cells #[.int .u8 v.kind,.int .u8 v.elem,.int .u64 v.num,.string (strOf v.text),.slice na nl nc,.slice ka nk kc,.slice sa ns sc] 27)).alloc (.cells #[.int .i64 sz,.string ii,.bool sh] 29)).alloc (.cells #[.int .i64 150] 3)) [.int .u8 v.kind,.int .u8 v.elem,.int .u64 v.num,.string (strOf v.text),.slice na nl nc,.slice ka nk kc,.slice sa ns sc] v:=hv.fr0 hf3 (fun b hb _=>hb)
 have HC:=Hd (fun (y:Unit)=>clean_calls v (fun b=>b<w.heap.size) [.int .u8 v.kind,.int .u8 v.elem,.int .u64 v.num,.string (strOf v.text),.slice na nl nc,.slice ka nk kc,.slice sa ns sc] (w.heap.size+1+1) 150 8 (((w.alloc (.cells #[.int .u8 v.kind,.int .u8 v.elem,.int .u64 v.num,.string (strOf v.text),.slice na nl nc,.slice ka nk kc,.slice sa ns sc] 27)).alloc (.cells #[.int .i64 sz,.string ii,.bool sh] 29)).alloc (.cells #[.int .i64 150] 3)) hv3 (by omega) hL3 (by omega) (by omega) (by omega) (by omega))
 have HF3:=Hd hf3
 have HV3:=Hd hV3
 have HO3:=Hd hO3
 have HS3:=Hd hs3
 clear hf3 hs3 hV3 hO3 hL3 hv3 hv hii
 by_cases hk:v.kind=15
 ·have gk:((v.kind:Int) == 15)=true:=by simp;omega
  have HK:=Hd hk
  clear hk
  go_enter Tryz.func18,Tryz.ntmps18
  go_upto_region 2 with fail
  generalize hw3:(((w.alloc (.cells #[.int .u8 v.kind,.int .u8 v.elem,.int .u64 v.num,.string (strOf v.text),.slice na nl nc,.slice ka nk kc,.slice sa ns sc] 27)).alloc (.cells #[.int .i64 sz,.string ii,.bool sh] 29)).alloc (.cells #[.int .i64 150] 3))=w3 at *
  clear hw3
  have v0:w3.cell? ⟨w.heap.size,0,none⟩=some (.int .u8 v.kind):=(cell_of HV3.out 0).trans rfl
  have v1:w3.cell? ⟨w.heap.size,1,none⟩=some (.int .u8 v.elem):=(cell_of HV3.out 1).trans rfl
  have v2:w3.cell? ⟨w.heap.size,2,none⟩=some (.int .u64 v.num):=(cell_of HV3.out 2).trans rfl
  have v3:w3.cell? ⟨w.heap.size,3,none⟩=some (.string (strOf v.text)):=(cell_of HV3.out 3).trans rfl
  have v4:w3.cell? ⟨w.heap.size,4,none⟩=some (.slice na nl nc):=(cell_of HV3.out 4).trans rfl
  have v5:w3.cell? ⟨w.heap.size,5,none⟩=some (.slice ka nk kc):=(cell_of HV3.out 5).trans rfl
  have v6:w3.cell? ⟨w.heap.size,6,none⟩=some (.slice sa ns sc):=(cell_of HV3.out 6).trans rfl
  go_wp2_with fail
  refine (HC.out ()).mono ?_
  rintro e4 w4 ⟨r,rfl,hf4,left',hl',hr⟩
  have o0:w4.cell? ⟨w.heap.size+1,0,none⟩=some (.int .i64 sz):=keep_fr hf4 ((cell_of HO3.out 0).trans rfl) (by omega)
  have o1:w4.cell? ⟨w.heap.size+1,1,none⟩=some (.string ii):=keep_fr hf4 ((cell_of HO3.out 1).trans rfl) (by omega)
  have HF4:=Hd (HF3.out.trans2 hf4 (fun b hb e=>by omega))
  have HR:=Hd (show r=true→Good v∧nodes v≤150 from fun h=>⟨(hr h).1,by have:=(hr h).2;omega⟩)
  clear hf4 hl' hr v0 v1 v2 v3 v4 v5 v6
  cases r with
  | false =>
   go_wp2_with fail
   go_ret
   exact ⟨⟨_,rfl,fun h=>by cases h⟩,HF4.out⟩
  | true =>
   by_cases h1:1≤sz
   ·have g1:decide (sz ≥ 1)=true:=by simp;omega
    by_cases h2:sz≤2000
    ·have g2:decide (sz≤2000)=true:=by simp;omega
     by_cases h3:id.length=0
     ·have g3:ii.toList.isEmpty=true:=by rw [HI.out];exact decide_eq_true h3
      go_wp2_with fail
      go_ret
      exact ⟨⟨_,rfl,fun _=>⟨(HR.out (by simp)).1,HK.out,(HR.out (by simp)).2,h1,h2,.inl (List.eq_nil_of_length_eq_zero h3)⟩⟩,HF4.out⟩
     ·have g3:ii.toList.isEmpty=false:=by rw [HI.out];exact decide_eq_false h3
      by_cases h4:id.length=4
      ·have g4:((ii.size:Int) == 4)=true:=by rw [HSZ.out];simp;omega
       go_wp2_with fail
       go_ret
       exact ⟨⟨_,rfl,fun _=>⟨(HR.out (by simp)).1,HK.out,(HR.out (by simp)).2,h1,h2,.inr h4⟩⟩,HF4.out⟩
      ·have g4:((ii.size:Int) == 4)=false:=by rw [HSZ.out];simp;omega
       go_wp2_with fail
       go_ret
       exact ⟨⟨_,rfl,fun h=>by cases h⟩,HF4.out⟩
    ·have g2:decide (sz≤2000)=false:=by simp;omega
     go_wp2_with fail
     go_ret
     exact ⟨⟨_,rfl,fun h=>by cases h⟩,HF4.out⟩
   ·have g1:decide (sz ≥ 1)=false:=by simp;omega
    go_wp2_with fail
    go_ret
    exact ⟨⟨_,rfl,fun h=>by cases h⟩,HF4.out⟩
 ·have gk:((v.kind:Int) == 15)=false:=by simp;omega
  go_enter Tryz.func18,Tryz.ntmps18
  go_wp2_with fail
  go_ret
  exact ⟨⟨_,rfl,fun h=>by cases h⟩,HF3.out⟩
end Go.Proofs.YtcfblkkpclfmaaaGreat
namespace Go.Proofs.YtcfblkkpclfmaaaGreat
open Go.RowKit
def vA:Val:=.mk 15 0 0 [] [] [] [⟨false,.mk 1 0 0 [] [] [] [],0⟩,⟨true,.mk 6 0 5 [] [] [] [],0⟩]
theorem vA_good:Good vA:=by
 refine good_tab (fun s hs=>?_) (by simp)
 simp only [List.mem_cons,List.not_mem_nil,or_false] at hs
 rcases hs with rfl | rfl
 ·have h:OkNum 1 0:=⟨by omega,by decide,fun _=>by omega,fun h=>by omega,fun h=>by omega⟩
  exact ⟨good_num h,fun _=>rfl,fun _=>h⟩
 ·have h:OkNum 6 5:=⟨by omega,by decide,fun h=>by omega,fun h=>by omega,fun h=>by omega⟩
  have h':OkNum 6 0:=⟨by omega,by decide,fun h=>by omega,fun h=>by omega,fun h=>by omega⟩
  exact ⟨good_num h,fun _=>rfl,fun _=>h'⟩
theorem vA_sh:ShOk vA vA:=by
 refine .mk 15 0 0 [] [] [] _ vA rfl rfl (fun h=>by omega) (fun h=>by omega) (fun _ _ h=>by omega) rfl (fun i h h2=>rfl) (fun i h h2=>?_)
 have hi:i=0∨i=1:=by simp at h;omega
 rcases hi with rfl | rfl
 ·exact .mk 1 0 0 [] [] [] [] _ rfl rfl (fun h=>by omega) (fun h=>by omega) (fun _ _ h=>by omega) rfl (fun i h h2=>by simp at h) (fun i h h2=>by simp at h)
 ·exact .mk 6 0 5 [] [] [] [] _ rfl rfl (fun h=>by omega) (fun h=>by omega) (fun _ _ h=>by omega) rfl (fun i h h2=>by simp at h) (fun i h h2=>by simp at h)
theorem vA_read:read0 vA=vA:=by simp [vA,read0,read0L,read0S,read0T,Val.kind,Val.num,eqK]
theorem vA_rdt:RdT vA:=readTable_of 15 0 0 [] [] [] _ (fun s hs=>by
 simp only [List.mem_cons,List.not_mem_nil,or_false] at hs
 rcases hs with rfl | rfl
 ·intro _ sv al T B o f l w cs _ hk
  exact absurd hk (by decide)
 ·intro _ sv al T B o f l w cs _ hk
  exact absurd hk (by decide))
theorem vis_num {B:Nat→Prop} {w:World} {k n:Nat} (hk:k<256) (hn:n<2 ^ 64):VIs B w [.int .u8 k,.int .u8 (0:Nat),.int .u64 n,.string (strOf []),.slice none 0 0,.slice none 0 0,.slice none 0 0] (.mk k 0 n [] [] [] []) :=
 .mk k 0 n [] [] [] [] (.slice none 0 0) none 0 0 0 none 0 0 0 hk (by omega) hn (by simp) ⟨⟨none,0,rfl,Nat.le_refl _,Nat.zero_le _,fun h=>absurd rfl h,fun x hx=>by cases hx⟩⟩ (fun h=>absurd rfl h) ⟨Nat.le_refl _,Nat.zero_le _⟩ (fun i h=>by simp at h) (fun h=>absurd rfl h) ⟨Nat.le_refl _,Nat.zero_le _⟩ (fun i h=>by simp at h) (fun i h=>by simp at h)
theorem vA_is {w:World} {g:Nat} {T:TypeId} (hg:w.heap[g]?=some (.cells #[.bool false,.int .u8 1,.int .u8 0,.int .u64 0,.string ⟨#[]⟩,.slice none 0 0,.slice none 0 0,.slice none 0 0,.int .u64 0,.bool true,.int .u8 6,.int .u8 0,.int .u64 5,.string ⟨#[]⟩,.slice none 0 0,.slice none 0 0,.slice none 0 0,.int .u64 0] T)):VIs (fun _=>True) w [.int .u8 15,.int .u8 0,.int .u64 0,.string ⟨#[]⟩,.slice none 0 0,.slice none 0 0,.slice (some ⟨g,0,none⟩) 2 2] vA:=by
 have hc:∀ j u,[.bool false,.int .u8 1,.int .u8 0,.int .u64 0,.string ⟨#[]⟩,.slice none 0 0,.slice none 0 0,.slice none 0 0,.int .u64 0,.bool true,.int .u8 6,.int .u8 0,.int .u64 5,.string ⟨#[]⟩,.slice none 0 0,.slice none 0 0,.slice none 0 0,.int .u64 0][j]?=some u→w.cell? ⟨g,j,none⟩=some u:=fun j u hu=>(cell_of hg j).trans (by simpa using hu)
 have hs:=lt_of_block hg
 refine .mk 15 0 0 [] [] [] [⟨false,.mk 1 0 0 [] [] [] [],0⟩,⟨true,.mk 6 0 5 [] [] [] [],0⟩] (.slice none 0 0) none 0 0 0 (some ⟨g,0,none⟩) 2 g 0 (by omega) (by omega) (by omega) (by simp) ⟨⟨none,0,rfl,Nat.le_refl _,Nat.zero_le _,fun h=>absurd rfl h,fun x hx=>by cases hx⟩⟩ (fun h=>absurd rfl h) ⟨Nat.le_refl _,Nat.zero_le _⟩ (fun i h=>by simp at h) (fun _=>⟨rfl,hs,trivial⟩) ⟨Nat.le_refl _,by unfold maxLen;omega⟩ (fun i h=>?_) (fun i h=>?_)
 ·have hi:i=0∨i=1:=by simp at h;omega
  rcases hi with rfl | rfl
  ·exact ⟨hc 0 _ rfl,hc 8 _ rfl,show (0:Nat)<2 ^ 64 by decide⟩
  ·exact ⟨hc 9 _ rfl,hc 17 _ rfl,show (0:Nat)<2 ^ 64 by decide⟩
 ·have hi:i=0∨i=1:=by simp at h;omega
  rcases hi with rfl | rfl
  ·have e:cellsAt w g (0+0*9+1) 7=[.int .u8 1,.int .u8 0,.int .u64 0,.string ⟨#[]⟩,.slice none 0 0,.slice none 0 0,.slice none 0 0]:=cellsAt_of rfl (fun j u hu=>by
    have hj:j<7:=by have:=(List.getElem?_eq_some_iff.1 hu).1;simpa using this
    refine hc (0+0*9+1+j) u ?_
    rw [← hu]
    have:j=0∨j=1∨j=2∨j=3∨j=4∨j=5∨j=6:=by omega
    rcases this with rfl | rfl | rfl | rfl | rfl | rfl | rfl <;> rfl)
   rw [e]
   exact vis_num (k:=1) (n:=0) (by omega) (by omega)
  ·have e:cellsAt w g (0+1*9+1) 7=[.int .u8 6,.int .u8 0,.int .u64 5,.string ⟨#[]⟩,.slice none 0 0,.slice none 0 0,.slice none 0 0]:=cellsAt_of rfl (fun j u hu=>by
    have hj:j<7:=by have:=(List.getElem?_eq_some_iff.1 hu).1;simpa using this
    refine hc (0+1*9+1+j) u ?_
    rw [← hu]
    have:j=0∨j=1∨j=2∨j=3∨j=4∨j=5∨j=6:=by omega
    rcases this with rfl | rfl | rfl | rfl | rfl | rfl | rfl <;> rfl)
   rw [e]
   exact vis_num (k:=6) (n:=5) (by omega) (by omega)
set_option maxRecDepth 100000 in
set_option maxHeartbeats 8000000 in
theorem valueAwake_calls (w:World):Calls Tryz.prog 19 #[] w fun e w'=>e=.returned (.bool true)∧Fr0 w w':=by
 have hf1:Fr0 w ((w.alloc (.cells #[.bool false,.int .u8 1,.int .u8 0,.int .u64 0,.string ⟨#[]⟩,.slice none 0 0,.slice none 0 0,.slice none 0 0,.int .u64 0,.bool true,.int .u8 6,.int .u8 0,.int .u64 5,.string ⟨#[]⟩,.slice none 0 0,.slice none 0 0,.slice none 0 0,.int .u64 0] 84)).alloc (.cells #[.int .u8 15,.int .u8 0,.int .u64 0,.string ⟨#[]⟩,.slice none 0 0,.slice none 0 0,.slice (some ⟨w.heap.size,0,none⟩) 2 2] 46)):=((Fr.refl _ w).alloc _).alloc _
 have hR1:((w.alloc (.cells #[.bool false,.int .u8 1,.int .u8 0,.int .u64 0,.string ⟨#[]⟩,.slice none 0 0,.slice none 0 0,.slice none 0 0,.int .u64 0,.bool true,.int .u8 6,.int .u8 0,.int .u64 5,.string ⟨#[]⟩,.slice none 0 0,.slice none 0 0,.slice none 0 0,.int .u64 0] 84)).alloc (.cells #[.int .u8 15,.int .u8 0,.int .u64 0,.string ⟨#[]⟩,.slice none 0 0,.slice none 0 0,.slice (some ⟨w.heap.size,0,none⟩) 2 2] 46)).heap[w.heap.size]?=some (.cells #[.bool false,.int .u8 1,.int .u8 0,.int .u64 0,.string ⟨#[]⟩,.slice none 0 0,.slice none 0 0,.slice none 0 0,.int .u64 0,.bool true,.int .u8 6,.int .u8 0,.int .u64 5,.string ⟨#[]⟩,.slice none 0 0,.slice none 0 0,.slice none 0 0,.int .u64 0] 84):=by
  simp only [heap_alloc_get,size_alloc];rw [if_neg (by omega),if_pos trivial]
 have hX1:((w.alloc (.cells #[.bool false,.int .u8 1,.int .u8 0,.int .u64 0,.string ⟨#[]⟩,.slice none 0 0,.slice none 0 0,.slice none 0 0,.int .u64 0,.bool true,.int .u8 6,.int .u8 0,.int .u64 5,.string ⟨#[]⟩,.slice none 0 0,.slice none 0 0,.slice none 0 0,.int .u64 0] 84)).alloc (.cells #[.int .u8 15,.int .u8 0,.int .u64 0,.string ⟨#[]⟩,.slice none 0 0,.slice none 0 0,.slice (some ⟨w.heap.size,0,none⟩) 2 2] 46)).heap[w.heap.size+1]?=some (.cells #[.int .u8 15,.int .u8 0,.int .u64 0,.string ⟨#[]⟩,.slice none 0 0,.slice none 0 0,.slice (some ⟨w.heap.size,0,none⟩) 2 2] 46):=by
  simp only [heap_alloc_get,size_alloc];rw [if_pos trivial]
 have HB:=Hd (fun (_:Unit)=>Build_calls false [] vA vA_good.bld rfl (by decide) (.inl rfl) 1 (by omega) ((w.alloc (.cells #[.bool false,.int .u8 1,.int .u8 0,.int .u64 0,.string ⟨#[]⟩,.slice none 0 0,.slice none 0 0,.slice none 0 0,.int .u64 0,.bool true,.int .u8 6,.int .u8 0,.int .u64 5,.string ⟨#[]⟩,.slice none 0 0,.slice none 0 0,.slice none 0 0,.int .u64 0] 84)).alloc (.cells #[.int .u8 15,.int .u8 0,.int .u64 0,.string ⟨#[]⟩,.slice none 0 0,.slice none 0 0,.slice (some ⟨w.heap.size,0,none⟩) 2 2] 46)) _ (vA_is hR1))
 have HF1:=Hd hf1
 have HR1:=Hd hR1
 have HX1:=Hd hX1
 clear hf1 hR1 hX1
 go_enter Tryz.func19,Tryz.ntmps19
 go_wp2_with fail
 refine (HB.out ()).mono ?_
 rintro e2 w2 ⟨st',hb,hok,rfl,hf2⟩
 have hR2:=(hf2.block w.heap.size (lt_of_block HR1.out) (fun x=>x)).trans HR1.out
 have hX2:=(hf2.block (w.heap.size+1) (lt_of_block HX1.out) (fun x=>x)).trans HX1.out
 have hbuf:Buf true st'.m.bytes vA:=⟨by have:=hok.len;omega,hok.ref,hok.tab⟩
 obtain ⟨S,hS⟩:∃ S,S=strOf st'.m.bytes:=⟨_,rfl⟩
 rw [← hS]
 have HD:=Hd (fun (_:Unit)=>hS ▸ Read_of vA vA_rdt true st'.m.bytes vA hbuf vA_good.pure rfl vA_sh w2 _ (vA_is hR2))
 have HF2:=Hd (HF1.out.trans hf2)
 have x0:w2.cell? ⟨w.heap.size+1,0,none⟩=some (.int .u8 15):=(cell_of hX2 0).trans rfl
 have x1:w2.cell? ⟨w.heap.size+1,1,none⟩=some (.int .u8 0):=(cell_of hX2 1).trans rfl
 have x2:w2.cell? ⟨w.heap.size+1,2,none⟩=some (.int .u64 0):=(cell_of hX2 2).trans rfl
 have x3:w2.cell? ⟨w.heap.size+1,3,none⟩=some (.string ⟨#[]⟩):=(cell_of hX2 3).trans rfl
 have x4:w2.cell? ⟨w.heap.size+1,4,none⟩=some (.slice none 0 0):=(cell_of hX2 4).trans rfl
 have x5:w2.cell? ⟨w.heap.size+1,5,none⟩=some (.slice none 0 0):=(cell_of hX2 5).trans rfl
 have x6:w2.cell? ⟨w.heap.size+1,6,none⟩=some (.slice (some ⟨w.heap.size,0,none⟩) 2 2):=(cell_of hX2 6).trans rfl
 clear hb hok hbuf hS hf2 hR2 hX2
 go_wp2_with fail
 refine (HD.out ()).mono ?_
 rintro e3 w3 ⟨cs',rfl,hv',hf3⟩
 rw [vA_read] at hv'
 have HF3:=Hd (HF2.out.trans hf3)
 clear hf3 x0 x1 x2 x3 x4 x5 x6
 cases hv' with
 | mk _ _ _ _ _ _ _ nv ka kc kg ko sa sc sg so hk he hn ht hnv hka hkc hks hsa hsc hsd hss =>
  obtain ⟨na,nc,rfl,_⟩:=hnv.ok
  obtain ⟨rfl,hsg,_⟩:=hsa (by simp)
  have hd0:=(hsd 0 (by simp)).1
  have hd1:=(hsd 1 (by simp)).1
  obtain ⟨_,_,_,_,_,_,_,_,_,_,_,_,c2,_,_,_,_⟩:=(hss 1 (by simp)).at
  have e0:w3.cell? ⟨sg,so,none⟩=some (.bool false):=by simpa using hd0
  have e1:w3.cell? ⟨sg,so+9,none⟩=some (.bool true):=by simpa using hd1
  have e2:w3.cell? ⟨sg,so+9+1+2,none⟩=some (.int .u64 5):=c2
  have f0:=fun o=>keep_alloc o e0
  have f1:=fun o=>keep_alloc o e1
  have f2:∀ o,(w3.alloc o).cell? ⟨sg,so+12,none⟩=some (.int .u64 5):=fun o=>keep_alloc o e2
  clear hd0 hd1 c2 e0 e1 e2 hk he hn ht hnv hka hkc hks hsa hsc hsd hss
  go_wp2_with fail
  go_ret
  exact ⟨rfl,HF3.out.alloc _⟩
end Go.Proofs.YtcfblkkpclfmaaaGreat
namespace Go.Proofs.YtcfblkkpclfmaaaGreat
open Go.RowKit
theorem trimZ_zeros (l:List Nat):∀ k,trimZ (l ++ List.replicate k 0)=trimZ l
 | 0=>by simp
 | k+1=>by rw [List.replicate_succ',← List.append_assoc,trimZ_snoc_zero,trimZ_zeros l k]
theorem bSlots_abs (sh:Bool):∀ (abs ss:List (Slt Val)) (st:BSt),(∀ s∈abs,s.has=false)→bSlots sh (ss ++ abs) st=(bSlots sh ss st).map fun p=>(p.1 ++ List.replicate abs.length 0,p.2)
 | [],ss,st,_=>by cases h:bSlots sh ss st <;> simp [h]
 | a :: r,ss,st,h=>by
  rw [show ss ++ a :: r=(ss ++ [a]) ++ r by simp,bSlots_abs sh r (ss ++ [a]) st (fun s hs=>h s (List.mem_cons_of_mem _ hs)),bSlots_snoc]
  cases h1:bSlots sh ss st with
  | none=>rfl
  | some p =>
   rw [Option.bind_some,bSlot_def,h a (List.mem_cons_self ..)]
   simp [List.replicate_succ]
/-- The same with more slots that hold nothing. -/
def BSt.ext (st:BSt) (k:Nat):BSt:={ st with vtab:=st.vtab.map (· ++ List.replicate k 0) }
theorem ext_slot {st s:BSt} {i:Int} {k:Nat} (h:st.slot i=some s):(st.ext k).slot i=some (s.ext k):=by
 unfold BSt.slot at h
 unfold BSt.slot BSt.ext
 cases hv:st.vtab with
 | none=>rw [hv] at h;cases h
 | some l =>
  rw [hv] at h
  have h:(if 0≤i∧i.toNat<l.length then some { st with vtab:=some (l.set i.toNat st.m.bytes.length) } else none)=some s:=h
  split at h
  ·rename_i hi
   injection h with h
   subst h
   show (if 0≤i∧i.toNat<(l ++ List.replicate k 0).length then _ else _)=_
   rw [if_pos ⟨hi.1,by rw [List.length_append];omega⟩]
   show some ({ st with vtab:=some ((l ++ List.replicate k 0).set i.toNat st.m.bytes.length) }:BSt)=some { st with vtab:=some (l.set i.toNat st.m.bytes.length ++ List.replicate k 0) }
   rw [List.set_append_left _ _ hi.2]
  ·cases h
theorem ext_refer {st s:BSt} {o k:Nat} (h:st.refer o=some s):(st.ext k).refer o=some (s.ext k):=by
 unfold BSt.refer at h ⊢
 obtain ⟨m,e1,e2⟩:=Option.map_eq_some_iff.1 h
 subst e2
 show Option.map _ (st.m.refer o)=_
 rw [e1];rfl
theorem ext_field {st s:BSt} {i o k:Nat} {sl:Slt Val} (h:bField i sl o st=some s):bField i sl o (st.ext k)=some (s.ext k):=by
 unfold bField at h ⊢
 split at h
 ·rename_i h1
  rw [if_pos h1]
  injection h with h;subst h;rfl
 ·rename_i h1
  rw [if_neg h1]
  split at h
  ·rename_i h2
   rw [if_pos h2]
   unfold BSt.prepSlot at h ⊢
   split at h
   ·rename_i h3
    rw [if_pos h3];injection h with h;subst h;rfl
   ·rename_i h3
    rw [if_neg h3]
    exact ext_slot h
  ·rename_i h2
   rw [if_neg h2]
   split at h
   ·rename_i h3
    rw [if_pos h3]
    have h:BSt.structSlot { st with m:=(st.m.prep sl.val.elem sl.val.text.length).put sl.val.text } i ((st.m.prep sl.val.elem sl.val.text.length).put sl.val.text).bytes.length 0=some s:=h
    unfold BSt.structSlot at h
    show BSt.structSlot (BSt.ext { st with m:=(st.m.prep sl.val.elem sl.val.text.length).put sl.val.text } k) i ((st.m.prep sl.val.elem sl.val.text.length).put sl.val.text).bytes.length 0=_
    unfold BSt.structSlot
    split at h
    ·rename_i h4
     rw [if_pos h4]
     injection h with h;subst h;rfl
    ·rename_i h4
     rw [if_neg h4]
     split at h
     ·rename_i h5
      have h5':st.nested=true:=h5
      rw [if_pos rfl] at h
      show (if st.nested=true then (if ((st.m.prep sl.val.elem sl.val.text.length).put sl.val.text).bytes.length=((st.m.prep sl.val.elem sl.val.text.length).put sl.val.text).bytes.length then _ else _) else _)=_
      rw [if_pos h5',if_pos rfl]
      exact ext_slot h
     ·cases h
   ·rename_i h3
    rw [if_neg h3]
    unfold BSt.offSlot at h ⊢
    split at h
    ·rename_i h4
     rw [if_pos h4]
     injection h with h;subst h;rfl
    ·rename_i h4
     rw [if_neg h4]
     obtain ⟨x,e1,e2⟩:=Option.bind_eq_some_iff.1 h
     rw [ext_refer e1,Option.bind_some]
     exact ext_slot e2
theorem ext_fields {k:Nat} {more:List (Slt Val)} (hm:∀ s∈more,s.has=false):∀ (ss:List (Slt Val)) (os zs:List Nat) (i:Nat) (st s:BSt),os.length=ss.length→bFields i ss os st=some s→bFields i (ss ++ more) (os ++ zs) (st.ext k)=some (s.ext k)
 | [],[],zs,i,st,s,_,h=>by
  rw [bFields] at h
  ·injection h with h
   subst h
   rw [List.nil_append,List.nil_append]
   induction more generalizing zs i with
   | nil=>cases zs <;> simp [bFields]
   | cons a r ih =>
    cases zs with
    | nil=>simp [bFields]
    | cons z zs =>
     rw [bFields]
     have ha:a.has=false:=hm a (List.mem_cons_self ..)
     have:bField i a z (st.ext k)=some (st.ext k):=by unfold bField;rw [if_pos ha]
     rw [this,Option.bind_some]
     exact ih (fun s hs=>hm s (List.mem_cons_of_mem _ hs)) zs (i+1)
  ·simp
 | a :: r,o :: os,zs,i,st,s,hl,h=>by
  rw [List.cons_append,List.cons_append,bFields]
  rw [bFields] at h
  obtain ⟨x,e1,e2⟩:=Option.bind_eq_some_iff.1 h
  rw [ext_field e1,Option.bind_some]
  exact ext_fields hm r os zs (i+1) x s (by simpa using hl) e2
theorem ext_endObj (st:BSt) (k:Nat):(st.ext k).endObj=st.endObj:=by
 have hv:trimZ ((st.ext k).vtab.getD [])=trimZ (st.vtab.getD [])∨st.vtab=none:=by
  cases h:st.vtab with
  | none=>exact .inr rfl
  | some l =>
   left
   show trimZ ((st.vtab.map (· ++ List.replicate k 0)).getD [])=_
   rw [h];exact trimZ_zeros l k
 rcases hv with hv | hv
 ·unfold BSt.endObj
  show (if st.nested then _ else _)=(if st.nested then _ else _)
  have e1:(st.ext k).vt1=st.vt1:=rfl
  have e4:∀ l,(st.ext k).vt4 l=st.vt4 l:=fun l=>rfl
  have e2:((st.ext k).writeVt:BSt)=st.writeVt:=by
   unfold BSt.writeVt
   rw [e1,hv]
   show (match vtFind st.vt1 st.vt1.bytes.length (trimZ (st.vtab.getD [])) st.vts with | some v=>_ | none=>_)=_
   have hm:(st.ext k).vtab.map (fun _=>([]:List Nat))=st.vtab.map (fun _=>[]):=by
    show (st.vtab.map _).map _=_
    cases st.vtab <;> rfl
   cases vtFind st.vt1 st.vt1.bytes.length (trimZ (st.vtab.getD [])) st.vts with
   | some v=>simp only [hm];rfl
   | none=>simp only [hm,e4];rfl
  rw [e2];rfl
 ·have:st.ext k=st:=by
   cases st
   simp only at hv
   subst hv
   rfl
  rw [this]
/-- With further slots that hold nothing a table is the same. -/
theorem trim_tab {sh:Bool} {v long:Val} {more:List (Slt Val)} (hl:long.slots=v.slots ++ more) (hm:∀ s∈more,s.has=false) {st s:BSt} {o:Nat} (hlen:∀ os s1,bSlots sh v.slots st=some (os,s1)→os.length=v.slots.length) (h:bTab sh v st=some (o,s)):bTab sh long st=some (o,s):=by
 rw [bTab_def] at h ⊢
 obtain ⟨⟨os,s1⟩,e1,h⟩:=Option.bind_eq_some_iff.1 h
 obtain ⟨s2,e2,h⟩:=Option.bind_eq_some_iff.1 h
 obtain ⟨s3,e3,h⟩:=Option.bind_eq_some_iff.1 h
 rw [hl,bSlots_abs sh more _ st hm,e1]
 show (BSt.startObj s1 (v.slots ++ more).length).bind _=_
 have e2':s1.startObj (v.slots ++ more).length=some (s2.ext more.length):=by
  have e2:s1.startObj v.slots.length=some s2:=e2
  unfold BSt.startObj at e2 ⊢
  split at e2
  ·cases e2
  ·rename_i hn
   rw [if_neg hn]
   injection e2 with e2
   subst e2
   show some ({ s1 with nested:=true,vtab:=some (List.replicate (v.slots ++ more).length 0),oend:=s1.m.bytes.length }:BSt)=some { s1 with nested:=true,vtab:=some (List.replicate v.slots.length 0 ++ List.replicate more.length 0),oend:=s1.m.bytes.length }
   rw [List.length_append,← List.replicate_append_replicate]
 rw [e2',Option.bind_some]
 have e3':=ext_fields (k:=more.length) hm v.slots os (List.replicate more.length 0) 0 s2 s3 (hlen os s1 e1) e3
 show (bFields 0 (v.slots ++ more) (os ++ List.replicate more.length 0) (s2.ext more.length)).bind _=_
 rw [e3',Option.bind_some,ext_endObj]
 exact h
theorem bSlots_len (sh:Bool):∀ (ss:List (Slt Val)) (st:BSt) (os:List Nat) (s:BSt),bSlots sh ss st=some (os,s)→os.length=ss.length
 | [],st,os,s,h=>by
  rw [bSlots] at h
  injection h with h
  injection h with h _
  subst h;rfl
 | a :: r,st,os,s,h=>by
  rw [bSlots] at h
  obtain ⟨⟨o,s1⟩,e1,h⟩:=Option.bind_eq_some_iff.1 h
  obtain ⟨⟨os2,s2⟩,e2,h⟩:=Option.map_eq_some_iff.1 h
  have h:(o :: os2,s2)=(os,s):=h
  injection h with h _
  subst h
  rw [List.length_cons,List.length_cons,bSlots_len sh r s1 os2 s2 e2]
/-- With further slots that hold nothing a buffer is the same. -/
theorem trim_built {sh:Bool} {id:List UInt8} {v long:Val} {more:List (Slt Val)} (hl:long.slots=v.slots ++ more) (hm:∀ s∈more,s.has=false) {st s:BSt} (h:bBuilt sh id v st=some s):bBuilt sh id long st=some s:=by
 unfold bBuilt at h ⊢
 obtain ⟨⟨o,s1⟩,e1,h⟩:=Option.bind_eq_some_iff.1 h
 rw [trim_tab hl hm (fun os s2 h=>bSlots_len sh v.slots st os s2 h) e1,Option.bind_some]
 exact h
end Go.Proofs.YtcfblkkpclfmaaaGreat
namespace Go.Proofs.YtcfblkkpclfmaaaGreat
open Go.RowKit
/-- The world while a law runs: its two boxes. -/
structure LF (w:World) (bv bo:List Value) (wx:World):Prop where
 fr:Fr0 w wx
 size:w.heap.size+2≤wx.heap.size
 hv:wx.heap[w.heap.size]?=some (.cells bv.toArray 27)
 ho:wx.heap[w.heap.size+1]?=some (.cells bo.toArray 29)
theorem LF.start (w:World) (bv bo:List Value):LF w bv bo ((w.alloc (.cells bv.toArray 27)).alloc (.cells bo.toArray 29)):=by
 refine ⟨((Fr.refl _ w).alloc _).alloc _,by simp,?_,?_⟩
 ·simp only [heap_alloc_get,size_alloc];rw [if_neg (by omega),if_pos trivial]
 ·simp only [heap_alloc_get,size_alloc];rw [if_pos trivial]
theorem LF.next {w:World} {bv bo:List Value} {wx w6:World} (h:LF w bv bo wx) (hf:Fr0 wx w6):LF w bv bo w6:=by
 have hs:=h.size
 have hs6:=hf.size
 exact ⟨h.fr.trans hf,by omega,(hf.block _ (by omega) (fun x=>x)).trans h.hv,(hf.block _ (by omega) (fun x=>x)).trans h.ho⟩
theorem LF.v7 {w:World} {b0 b1 b2 b3 b4 b5 b6:Value} {bo:List Value} {wx:World} (h:LF w [b0,b1,b2,b3,b4,b5,b6] bo wx):wx.cell? ⟨w.heap.size,0,none⟩=some b0∧wx.cell? ⟨w.heap.size,1,none⟩=some b1∧wx.cell? ⟨w.heap.size,2,none⟩=some b2∧wx.cell? ⟨w.heap.size,3,none⟩=some b3∧wx.cell? ⟨w.heap.size,4,none⟩=some b4∧wx.cell? ⟨w.heap.size,5,none⟩=some b5∧wx.cell? ⟨w.heap.size,6,none⟩=some b6:=by
 have hb:=h.hv
 exact ⟨by rw [cell_of hb];rfl,by rw [cell_of hb];rfl,by rw [cell_of hb];rfl,by rw [cell_of hb];rfl,by rw [cell_of hb];rfl,by rw [cell_of hb];rfl,by rw [cell_of hb];rfl⟩
theorem LF.o3 {w:World} {b0 b1 b2:Value} {bv:List Value} {wx:World} (h:LF w bv [b0,b1,b2] wx):wx.cell? ⟨w.heap.size+1,0,none⟩=some b0∧wx.cell? ⟨w.heap.size+1,1,none⟩=some b1∧wx.cell? ⟨w.heap.size+1,2,none⟩=some b2:=by
 have hb:=h.ho
 exact ⟨by rw [cell_of hb];rfl,by rw [cell_of hb];rfl,by rw [cell_of hb];rfl⟩
end Go.Proofs.YtcfblkkpclfmaaaGreat
namespace Go.Proofs.YtcfblkkpclfmaaaGreat
open Go.RowKit
theorem add_none (g o j:Nat):(⟨g,o,none⟩:Addr).add j=⟨g,o+j,none⟩:=by unfold Addr.add;split <;> simp_all
theorem setCell_alloc {w:World} {b i:Nat} {u:Value} {o:Obj} (h:b<w.heap.size):(w.setCell ⟨b,i,none⟩ u).alloc o=(w.alloc o).setCell ⟨b,i,none⟩ u:=by
 simp only [World.setCell,World.alloc]
 congr 1
 apply Array.ext_getElem?
 intro j
 simp only [Array.getElem?_push,Array.getElem?_modify,Array.size_modify]
 by_cases hj:j=w.heap.size
 ·subst hj;simp;omega
 ·simp [hj]
theorem own_empty {w:World} {T:TypeId} {base g z:Nat} (hg:base≤g) (h:w.heap[g]?=some (.cells #[] T)):w.ownsRow base T z (.slice (some ⟨g,0,none⟩) 0 0) 0 [] :=
 ⟨by simp,.inr ⟨g,0,#[],rfl,hg,h,Nat.le_refl _,by unfold maxLen;omega,by simp,by simp⟩⟩
def sIts (w:World) (sg:Nat):Nat→List (Slt Val)→List (List Value × Slt Val)
 | _,[]=>[]
 | o,s :: r=>(cellsAt w sg (o+1) 7,s) :: sIts w sg (o+9) r
def SlotsAt (B:Nat→Prop) (w:World) (sg:Nat) (o:Nat) (ss:List (Slt Val)):Prop:=∀ i (h:i<ss.length),w.cell? ⟨sg,o+i*9,none⟩=some (.bool ss[i].has)∧w.cell? ⟨sg,o+i*9+8,none⟩=some (.int .u64 ss[i].dflt)∧ss[i].dflt<2 ^ 64∧VIs B w (cellsAt w sg (o+i*9+1) 7) ss[i].val
theorem SlotsAt.tail {B:Nat→Prop} {w:World} {sg o:Nat} {s:Slt Val} {r:List (Slt Val)} (h:SlotsAt B w sg o (s :: r)):SlotsAt B w sg (o+9) r:=by
 intro i hi
 have:=h (i+1) (by simpa using hi)
 rw [show o+(i+1)*9=o+9+i*9 by omega] at this
 simpa using this
theorem sIts_map (w:World) (sg:Nat):∀ (ss:List (Slt Val)) (o:Nat),(sIts w sg o ss).map (·.2)=ss
 | [],_=>rfl
 | s :: r,o=>by rw [sIts,List.map_cons,sIts_map w sg r]
theorem sIts_item {B:Nat→Prop} {w:World} {sg:Nat}:∀ (ss:List (Slt Val)) (o:Nat),SlotsAt B w sg o ss→∀ x∈sIts w sg o ss,sltP B w x
 | [],_,_,x,hx=>by cases hx
 | s :: r,o,h,x,hx=>by
  rcases List.mem_cons.1 hx with rfl | hx
  ·have h0:=h 0 (by simp)
   simp only [Nat.zero_mul,Nat.add_zero,List.getElem_cons_zero] at h0
   exact ⟨h0.2.2.2,h0.2.2.1⟩
  ·exact sIts_item r (o+9) h.tail x hx
theorem sIts_one {B:Nat→Prop} {w:World} {sg:Nat} (ss:List (Slt Val)) (o:Nat) (h:SlotsAt B w sg o ss):∀ u∈((sIts w sg o ss).map fun x=>slotC x.2 x.1).flatten,u.oneCell'=true:=by
 intro u hu
 obtain ⟨c,hc,hu⟩:=List.mem_flatten.1 hu
 obtain ⟨x,hx,rfl⟩:=List.mem_map.1 hc
 exact slotC_one (sIts_item ss o h x hx).1.one u hu
theorem sIts_len (w:World) (sg:Nat):∀ (ss:List (Slt Val)) (o:Nat),((sIts w sg o ss).map fun x=>slotC x.2 x.1).flatten.length=ss.length*9
 | [],_=>rfl
 | s :: r,o=>by
  rw [sIts,List.map_cons,List.flatten_cons,List.length_append,sIts_len w sg r]
  simp [slotC,cellsAt_length];omega
theorem sIts_news {B:Nat→Prop} {w:World} {sg:Nat}:∀ (ss:List (Slt Val)) (o:Nat),SlotsAt B w sg o ss→∀ j u,((sIts w sg o ss).map fun x=>slotC x.2 x.1).flatten[j]?=some u→w.cell? ⟨sg,o+j,none⟩=some u
 | [],_,_,j,u,hu=>by simp [sIts] at hu
 | s :: r,o,h,j,u,hu=>by
  have h0:=h 0 (by simp)
  simp only [Nat.zero_mul,Nat.add_zero,List.getElem_cons_zero] at h0
  obtain ⟨h1,h2,h3,h4⟩:=h0
  have hl:(slotC s (cellsAt w sg (o+1) 7)).length=9:=by simp [slotC,cellsAt_length]
  rw [sIts,List.map_cons,List.flatten_cons] at hu
  dsimp only at hu
  by_cases hj:j<9
  ·rw [List.getElem?_append_left (by omega)] at hu
   unfold slotC at hu
   by_cases hj0:j=0
   ·subst hj0
    simp only [List.getElem?_cons_zero,Option.some.injEq] at hu
    rw [← hu];exact h1
   ·obtain ⟨i,rfl⟩:∃ i,j=i+1:=⟨j-1,by omega⟩
    rw [List.getElem?_cons_succ] at hu
    by_cases hi:i<7
    ·rw [List.getElem?_append_left (by rw [cellsAt_length];exact hi)] at hu
     have hne:u≠.bool false:=by
      obtain ⟨na,nl,nc,ka,nk,kc,sa,ns,sc,e⟩:=h4.lit
      rw [e] at hu
      have hm:=List.mem_of_getElem? hu
      simp only [List.mem_cons,List.not_mem_nil,or_false] at hm
      rcases hm with rfl | rfl | rfl | rfl | rfl | rfl | rfl <;> simp
     have:=cellsAt_cell hu hne
     rwa [show o+1+i=o+(i+1) by omega] at this
    ·have e:i=7:=by omega
     subst e
     rw [List.getElem?_append_right (by rw [cellsAt_length];omega),cellsAt_length] at hu
     simp at hu
     rw [← hu];exact h2
  ·rw [List.getElem?_append_right (by omega),hl] at hu
   have:=sIts_news r (o+9) h.tail (j-9) u hu
   rwa [show o+9+(j-9)=o+j by omega] at this
theorem VIs.slotsAt {B:Nat→Prop} {w:World} {cs:List Value} {v:Val} (h:VIs B w cs v):∃ sa sc sg so,cs[6]?=some (.slice sa v.slots.length sc)∧(v.slots≠[]→sa=some ⟨sg,so,none⟩∧sg<w.heap.size∧B sg)∧(v.slots.length≤sc∧sc≤maxLen)∧SlotsAt B w sg so v.slots:=by
 cases h with
 | mk k e n t ns ks ss nv ka kc kg ko sa sc sg so hk he hn ht hnv hka hkc hks hsa hsc hsd hss =>
  exact ⟨sa,sc,sg,so,rfl,hsa,hsc,fun i hi=>⟨(hsd i hi).1,(hsd i hi).2.1,(hsd i hi).2.2,hss i hi⟩⟩
/-- A value with other slots. -/
theorem vis_long {w wx:World} {v:Val} {na ka:Option Addr} {nl nc nk kc:Nat} {s0 sv:Value} {base:Nat} {Bs:Nat→Prop} {T:TypeId} {its:List (List Value × Slt Val)}
  (h:VIs (fun _=>True) wx [.int .u8 v.kind,.int .u8 v.elem,.int .u64 v.num,.string (strOf v.text),.slice na nl nc,.slice ka nk kc,s0] v) (hr:SRow Bs base T wx sv its) :
  VIs (fun _=>True) wx [.int .u8 v.kind,.int .u8 v.elem,.int .u64 v.num,.string (strOf v.text),.slice na nl nc,.slice ka nk kc,sv] (.mk v.kind v.elem v.num v.text v.nums v.kids (its.map (·.2))):=by
 have h2:VIs (fun _=>True) wx [.int .u8 (0:Nat),.int .u8 (0:Nat),.int .u64 (0:Nat),.string (strOf []),.slice none 0 0,.slice none 0 0,sv] (.mk 0 0 0 [] [] (([]:List (List Value × Val)).map (·.2)) (its.map (·.2))) :=
  VIs.of_rows (T:=T) (base:=0) (Bk:=fun _=>True) (by omega) (by omega) (by omega) (by simp) ⟨⟨none,0,rfl,Nat.le_refl _,Nat.zero_le _,fun h=>absurd rfl h,fun x hx=>by cases hx⟩⟩ (ItRow.nil _ _ _ _ _ _ _) hr (fun _ _=>trivial) (fun _ _ _=>trivial) (fun _ _ _=>trivial)
 obtain ⟨sa2,sc2,sg2,so2,e6,hsa2,hsc2,hat2⟩:=h2.slotsAt
 have e6:sv=.slice sa2 (its.map (·.2)).length sc2:=Option.some.inj (show some sv=some (.slice sa2 (its.map (·.2)).length sc2) from e6)
 simp only [Val.slots] at hsa2 hsc2 hat2
 generalize its.map (·.2)=ss2 at e6 hsa2 hsc2 hat2 ⊢
 subst e6
 obtain ⟨k,e,n,t,ns,ks,ss⟩:=v
 simp only [Val.kind,Val.elem,Val.num,Val.text,Val.nums,Val.kids] at h ⊢
 cases h with
 | mk _ _ _ _ _ _ _ nv _ _ kg ko sa sc sg so hk he hn ht hnv hka hkc hks hsa hsc hsd hss =>
  exact .mk k e n t ns ks ss2 _ _ _ kg ko _ _ sg2 so2 hk he hn ht hnv hka hkc hks hsa2 hsc2 (fun i hi=>⟨(hat2 i hi).1,(hat2 i hi).2.1,(hat2 i hi).2.2.1⟩) (fun i hi=>(hat2 i hi).2.2.2)
/-- The world while the further slots come. -/
structure TR (w:World) (bv bo:List Value) (W:Nat) (pre:List Value) (wx:World) (sv:Value) (its:List (List Value × Slt Val)):Prop where
 lf:LF w bv bo wx
 old:w.heap.size+2≤W
 size:W+1≤wx.heap.size
 long:wx.heap[W]?=some (.cells (pre ++ [sv]).toArray 27)
 srow:SRow (BI (fun _=>True) W 1 sv) (W+1) 54 wx sv its
/-- The first slots have come: those of the value. -/
theorem TR.first {w w7 w9:World} {bv bo:List Value} {W n:Nat} {p0 p1 p2 p3 p4 p5 s0 sv:Value} {its:List (List Value × Slt Val)} (hlf:LF w bv bo w7) (hold:w.heap.size+2≤W) (hW:w7.heap.size=W+1) (hlong:w7.heap[W]?=some (.cells ([p0,p1,p2,p3,p4,p5] ++ [s0]).toArray 27))
  (hfr:Fr (fun b=>b=W+1) w7 w9) (hown:w9.ownsRow (W+1) 54 9 sv n ((its.map fun x=>slotC x.2 x.1).flatten)) (hn:n=its.length) (hit:∀ x∈its,sltP (fun b=>b<W) w7 x):TR w bv bo W [p0,p1,p2,p3,p4,p5] (w9.setCell ⟨W,6,none⟩ sv) sv its:=by
 have hs9:=hfr.size
 have h79:∀ b,b<w7.heap.size→w9.heap[b]?=w7.heap[b]?:=fun b hb=>hfr.block b hb (fun e=>by omega)
 have hset:∀ b,b≠W→(w9.setCell ⟨W,6,none⟩ sv).heap[b]?=w9.heap[b]?:=fun b hb=>heap_setCell_other w9 _ _ b hb
 have hssz:(w9.setCell ⟨W,6,none⟩ sv).heap.size=w9.heap.size:=by simp [World.setCell]
 have hs7:=hlf.size
 refine ⟨⟨?_,by rw [hssz];omega,?_,?_⟩,hold,by rw [hssz];omega,?_,⟨?_,fun x hx=>?_⟩⟩
 ·refine (hlf.fr.trans2 hfr (fun b hb e=>by omega)).setCell (fun hb=>?_) _
  have:W<w.heap.size:=hb
  omega
 ·rw [hset _ (by omega),h79 _ (by omega)];exact hlf.hv
 ·rw [hset _ (by omega),h79 _ (by omega)];exact hlf.ho
 ·have h1:w9.heap[W]?=some (.cells ([p0,p1,p2,p3,p4,p5] ++ [s0]).toArray 27):=by rw [h79 _ (by omega)];exact hlong
  exact heap_setCell_same h1 6 _
 ·rw [← hn]
  exact ownFr (S:=fun k=>k=W) hown (Fr.set1 w9 W 6 _) (fun k hk e=>by have:=(ownBlock_lt hown k hk).1;omega)
 ·exact sltP_mono _ _ w7 _ x (by rw [hssz];omega) (fun b hb hbb=>⟨.inl ⟨trivial,hbb⟩,(hset b (by omega)).trans (h79 b hb)⟩) (hit x hx)
theorem TR.next {w wr w7:World} {bv bo:List Value} {W n cap7 g7:Nat} {p0 p1 p2 p3 p4 p5 sv:Value} {its:List (List Value × Slt Val)} {x:List Value × Slt Val} {o:Obj} (h:TR w bv bo W [p0,p1,p2,p3,p4,p5] wr sv its) (hx:∀ B,sltP B wr x) (hgrow:(wr.alloc o).grownBy w7 sv.ownBlock)
  (hown:w7.ownsRow (W+1) 54 9 (.slice (some ⟨g7,0,none⟩) n cap7) n ((its.map fun x=>slotC x.2 x.1).flatten ++ slotC x.2 x.1)) (hn:n=its.length+1) (hat:sv.ownBlock=some g7∨g7=wr.heap.size+1):TR w bv bo W [p0,p1,p2,p3,p4,p5] (w7.setCell ⟨W,6,none⟩ (.slice (some ⟨g7,0,none⟩) n cap7)) (.slice (some ⟨g7,0,none⟩) n cap7) (its ++ [x]):=by
 have hs:=h.size
 have hold:=h.old
 have hs7:=hgrow.size
 rw [size_alloc] at hs7
 have hrl:=ownBlock_lt h.srow.own
 have hfr:Fr (fun b=>some b=sv.ownBlock) wr w7:=((Fr.refl _ wr).alloc o).trans (grown_fr' hgrow)
 have hkeep:∀ b,b<W+1→w7.heap[b]?=wr.heap[b]?:=fun b hb=>hfr.block b (by omega) (fun e=>by have:=(hrl b e.symm).1;omega)
 have hset:∀ b,b≠W→∀ u,(w7.setCell ⟨W,6,none⟩ u).heap[b]?=w7.heap[b]?:=fun b hb u=>heap_setCell_other w7 _ u b hb
 have hssz:∀ u,(w7.setCell ⟨W,6,none⟩ u).heap.size=w7.heap.size:=fun u=>by simp [World.setCell]
 have hls:=h.lf.size
 refine ⟨⟨?_,by rw [hssz];omega,?_,?_⟩,hold,by rw [hssz];omega,?_,h.srow.snoc sltP_mono hs (Fr.refl _ _) (hx _) hgrow hown hn hat (by omega)⟩
 ·refine (h.lf.fr.trans2 hfr (fun b hb e=>?_)).setCell (fun hb=>?_) _
  ·have:=(hrl b e.symm).1;omega
  ·have:W<w.heap.size:=hb
   omega
 ·rw [hset _ (by omega),hkeep _ (by omega)];exact h.lf.hv
 ·rw [hset _ (by omega),hkeep _ (by omega)];exact h.lf.ho
 ·have h1:w7.heap[W]?=some (.cells ([p0,p1,p2,p3,p4,p5] ++ [sv]).toArray 27):=by rw [hkeep _ (by omega)];exact h.long
  exact heap_setCell_same h1 6 _
def s8:Slt Val:=⟨false,.mk 8 0 0 [] [] [] [],0⟩
def s8c:List Value:=[.int .u8 8,.int .u8 0,.int .u64 0,.string ⟨#[]⟩,.slice none 0 0,.slice none 0 0,.slice none 0 0]
theorem s8_is (B:Nat→Prop) (w:World):sltP B w (s8c,s8):=⟨vis_num (k:=8) (n:=0) (by omega) (by omega),by show (0:Nat)<2 ^ 64;decide⟩
section
variable {P:Program} {w:World}
theorem run_append_nil (base:Nat) (t ty e:TypeId) (i:TypeInfo) (size c:Nat) (ht:P.underlying t=some (.slice e)) (hi:P.info? e=some i) (v:Value) (n:Nat) (xs:List Value) (hown:w.ownsRow base e size v n xs) :
  (Builtin.append_ #[t,t] ty #[v,.slice none 0 c]).run P w=.ok v w:=by
 rcases hown.2 with ⟨rfl,rfl⟩ | ⟨g,cap,cur,rfl,_,_,hnc,_⟩
 ·simp [Builtin.append_,run_underlying ht,sizeOf,typeInfo,hi,Builtin.lenOf,Builtin.firstCells]
 ·simp [Builtin.append_,run_underlying ht,sizeOf,typeInfo,hi,Builtin.lenOf,Builtin.firstCells,hnc,storeCells]
theorem wpList_append_nil {ops:Array Oper} {rest:List Oper} {o:Oper} {a:Act} {Q:Exit→Act→World→Prop} (hgd:o.guard=none) (s x:Operand) (t:TypeId)
  (ho:o.op=.call { callee:=.builtin .append,args:=#[s,x],argTypes:=#[t,t] }) (base:Nat) (e:TypeId) (i:TypeInfo) (size c:Nat) (ht:P.underlying t=some (.slice e)) (hi:P.info? e=some i)
  (v:Value) (n:Nat) (xs:List Value) (hs:a.eval s=v) (hown:w.ownsRow base e size v n xs) (hx:a.eval x=.slice none 0 c) (h:wpList P ops Q rest (a.put o.dst v) w):wpList P ops Q (o :: rest) a w:=by
 refine wpList_plain hgd fun K hK=>?_
 have hrun:=run_append_nil (P:=P) (w:=w) base t o.type e i size c ht hi v n xs hown
 unfold Oper.wp
 simp [execOp,ho,resolve,invoke,builtin,hs,hx,hrun,Result.andThen]
 exact hK _ _ h
end
end Go.Proofs.YtcfblkkpclfmaaaGreat
