/- Part 32 of the proof of FnTrimmed (Both). No condition is laid on the statement. -/
import Derived.Test.YtcfblkkpclfmaaaGreatTr29
import Derived.Test.YtcfblkkpclfmaaaGreatTr31
set_option linter.unusedVariables false
set_option linter.unusedSimpArgs false
namespace Go.Proofs.YtcfblkkpclfmaaaGreat
open Go.RowKit
set_option maxRecDepth 100000 in
set_option maxHeartbeats 16000000 in
theorem both_of (k e n:Nat) (t:List UInt8) (ns:List Nat) (ks:List Val) (ss:List (Slt Val)) (ihk:∀ v∈ks,BothC v) (ihs:∀ s∈ss,BothC s.val):BothC (.mk k e n t ns ks ss):=by
 intro hsm B b ca cb w hva hvb
 cases hsm with
 | mk _ _ _ _ _ _ _ hlk hls hgk hgs =>
 cases hva with
 | mk _ _ _ _ _ _ _ nv ka kc kg ko sa sc sg so hk he hn ht hnv hka hkc hks hsa hsc hsd hss =>
 cases hvb with
 | mk k2 e2 n2 t2 ns2 ks2 ss2 nv2 ka2 kc2 kg2 ko2 sa2 sc2 sg2 so2 hk2 he2 hn2 ht2 hnv2 hka2 hkc2 hks2 hsa2 hsc2 hsd2 hss2 =>
 rw [both_def]
 show Calls Tryz.prog 89 _ w (BothRes B (if k=k2∧e=e2∧ss.length=ss2.length∧(k=17→t.length=t2.length) then (bothS ss ss2).bind fun os=>(bothK ks ks2).map fun kk=>.mk k e 0 t [] kk os else none) w)
 obtain ⟨na,nc,rfl,_⟩:=hnv.ok
 obtain ⟨na2,nc2,rfl,_⟩:=hnv2.ok
 obtain ⟨tt,htt⟩:∃ tt,tt=strOf t:=⟨_,rfl⟩
 obtain ⟨tt2,htt2⟩:∃ tt2,tt2=strOf t2:=⟨_,rfl⟩
 obtain ⟨nl,hnl⟩:∃ nl,nl=ns.length:=⟨_,rfl⟩
 obtain ⟨nl2,hnl2⟩:∃ nl2,nl2=ns2.length:=⟨_,rfl⟩
 obtain ⟨nk,hnk⟩:∃ nk,nk=ks.length:=⟨_,rfl⟩
 obtain ⟨nk2,hnk2⟩:∃ nk2,nk2=ks2.length:=⟨_,rfl⟩
 obtain ⟨nss,hnss⟩:∃ nss,nss=ss.length:=⟨_,rfl⟩
 obtain ⟨nss2,hnss2⟩:∃ nss2,nss2=ss2.length:=⟨_,rfl⟩
 have hszt:tt.size=t.length:=by rw [htt,strOf_size]
 have hszt2:tt2.size=t2.length:=by rw [htt2,strOf_size]
 have hsc1:=hsc.1
 have hsc21:=hsc2.1
 have hkc1:=hkc.1
 have hkc21:=hkc2.1
 have hm1:=hsc.2
 have hm2:=hsc2.2
 have hm3:=hkc.2
 have hm4:=hkc2.2
 unfold maxLen at hm1 hm2 hm3 hm4
 rw [← htt,← htt2,← hnl,← hnl2,← hnk,← hnk2,← hnss,← hnss2]
 rw [← hnss] at hsc1 hls
 rw [← hnss2] at hsc21
 rw [← hnk] at hkc1 hlk
 rw [← hnk2] at hkc21
 show Calls Tryz.prog 89 #[.agg #[.int .u8 k,.int .u8 e,.int .u64 n,.string tt,.slice na nl nc,.slice ka nk kc,.slice sa nss sc],.agg #[.int .u8 k2,.int .u8 e2,.int .u64 n2,.string tt2,.slice na2 nl2 nc2,.slice ka2 nk2 kc2,.slice sa2 nss2 sc2]] w _
 have HF0:=Hd ((((Fr.refl (fun _=>False) w).alloc (.cells #[.int .u8 k,.int .u8 e,.int .u64 n,.string tt,.slice na nl nc,.slice ka nk kc,.slice sa nss sc] 27)).alloc (.cells #[.int .u8 k2,.int .u8 e2,.int .u64 n2,.string tt2,.slice na2 nl2 nc2,.slice ka2 nk2 kc2,.slice sa2 nss2 sc2] 27)).alloc (.cells #[.int .u8 0,.int .u8 0,.int .u64 0,.string ⟨#[]⟩,.slice none 0 0,.slice none 0 0,.slice none 0 0] 27))
 have HTL:=Hd (And.intro ht (And.intro hk he))
 have HKA:=Hd (And.intro hka (And.intro hkc hks))
 have HKB:=Hd (And.intro hka2 (And.intro hkc2 hks2))
 have HSA:=Hd (And.intro hsa (And.intro hsd hss))
 have HSB:=Hd (And.intro hsa2 (And.intro hsd2 hss2))
 have HN:=Hd (And.intro hnk (And.intro hnk2 (And.intro hnss hnss2)))
 have IHK:=Hd (fun v hv=>ihk v hv (hgk v hv))
 have IHS:=Hd (fun s hs=>ihs s hs (hgs s hs))
 have HTT:=Hd htt
 clear hsc hsc2 hkc hkc2 hka hka2 hks hks2 hsa hsa2 hsd hsd2 hss hss2 hnk hnk2 hnss hnss2 ihk ihs hgk hgs htt htt2 hnl hnl2 hnv hnv2 ht ht2 hk he hn hk2 he2 hn2
 by_cases c1:k=k2
 rotate_left
 ·have g1:((k:Int) != (k2:Int))=true:=by simp;omega
  rw [if_neg (fun h=>c1 h.1)]
  clear hszt hszt2
  go_enter Tryz.func89,Tryz.ntmps89
  go_wp2_with fail
  refine bodyPost_ret (results_cell_tmp (P:=Tryz.prog) rfl _ _ ⟨w.heap.size+1+1,0,none⟩ _ rfl (run_loadVar_row _ (w.heap.size+1+1) 27 27 #[.int .u8 0,.int .u8 0,.int .u64 0,.string ⟨#[]⟩,.slice none 0 0,.slice none 0 0,.slice none 0 0] (0,0) _ (by simp only [heap_alloc_get,size_alloc];rw [if_pos trivial]) Tryz.underlying27 rfl infoSVs)) rfl ?_
  exact ⟨HF0.out,rfl⟩
 have g1:((k:Int) != (k2:Int))=false:=by simp;omega
 have C1:=Hd c1
 clear c1
 by_cases c2:e=e2
 rotate_left
 ·have g2:((e:Int) != (e2:Int))=true:=by simp;omega
  rw [if_neg (fun h=>c2 h.2.1)]
  clear hszt hszt2
  go_enter Tryz.func89,Tryz.ntmps89
  go_wp2_with fail
  refine bodyPost_ret (results_cell_tmp (P:=Tryz.prog) rfl _ _ ⟨w.heap.size+1+1,0,none⟩ _ rfl (run_loadVar_row _ (w.heap.size+1+1) 27 27 #[.int .u8 0,.int .u8 0,.int .u64 0,.string ⟨#[]⟩,.slice none 0 0,.slice none 0 0,.slice none 0 0] (0,0) _ (by simp only [heap_alloc_get,size_alloc];rw [if_pos trivial]) Tryz.underlying27 rfl infoSVs)) rfl ?_
  exact ⟨HF0.out,rfl⟩
 have g2:((e:Int) != (e2:Int))=false:=by simp;omega
 have C2:=Hd c2
 clear c2
 by_cases c3:nss=nss2
 rotate_left
 ·have g3:((nss:Int) != (nss2:Int))=true:=by simp;omega
  rw [if_neg (fun h=>c3 h.2.2.1)]
  clear hszt hszt2
  go_enter Tryz.func89,Tryz.ntmps89
  go_wp2_with fail
  refine bodyPost_ret (results_cell_tmp (P:=Tryz.prog) rfl _ _ ⟨w.heap.size+1+1,0,none⟩ _ rfl (run_loadVar_row _ (w.heap.size+1+1) 27 27 #[.int .u8 0,.int .u8 0,.int .u64 0,.string ⟨#[]⟩,.slice none 0 0,.slice none 0 0,.slice none 0 0] (0,0) _ (by simp only [heap_alloc_get,size_alloc];rw [if_pos trivial]) Tryz.underlying27 rfl infoSVs)) rfl ?_
  exact ⟨HF0.out,rfl⟩
 have g3:((nss:Int) != (nss2:Int))=false:=by simp;omega
 have C3:=Hd c3
 clear c3
 by_cases c4:k=17∧t.length≠t2.length
 ·have g4:((k:Int) == 17)=true:=by simp;omega
  have g5:((tt.size:Int) != (tt2.size:Int))=true:=by rw [hszt,hszt2];simp;omega
  rw [if_neg (fun h=>c4.2 (h.2.2.2 c4.1))]
  clear hszt hszt2 c4
  go_enter Tryz.func89,Tryz.ntmps89
  go_wp2_with fail
  refine bodyPost_ret (results_cell_tmp (P:=Tryz.prog) rfl _ _ ⟨w.heap.size+1+1,0,none⟩ _ rfl (run_loadVar_row _ (w.heap.size+1+1) 27 27 #[.int .u8 0,.int .u8 0,.int .u64 0,.string ⟨#[]⟩,.slice none 0 0,.slice none 0 0,.slice none 0 0] (0,0) _ (by simp only [heap_alloc_get,size_alloc];rw [if_pos trivial]) Tryz.underlying27 rfl infoSVs)) rfl ?_
  exact ⟨HF0.out,rfl⟩
 rw [if_pos ⟨C1.out,C2.out,C3.out,fun h=>by omega⟩]
 have hg45:(((k:Int) == 17)=true∧((tt.size:Int) != (tt2.size:Int))=false)∨((k:Int) == 17)=false:=by
  by_cases h17:k=17
  ·left;exact ⟨by simp;omega,by rw [hszt,hszt2];simp;omega⟩
  ·right;simp;omega
 clear hszt hszt2 c4
 have main:∀ (GO:True),Calls Tryz.prog 89 #[.agg #[.int .u8 k,.int .u8 e,.int .u64 n,.string tt,.slice na nl nc,.slice ka nk kc,.slice sa nss sc],.agg #[.int .u8 k2,.int .u8 e2,.int .u64 n2,.string tt2,.slice na2 nl2 nc2,.slice ka2 nk2 kc2,.slice sa2 nss2 sc2]] w (BothRes B ((bothS ss ss2).bind fun os=>(bothK ks ks2).map fun kk=>.mk k e 0 t [] kk os) w):=by
  intro _
  have hst0:RB B w [.int .u8 k,.int .u8 e,.int .u64 n,.string tt,.slice na nl nc,.slice ka nk kc,.slice sa nss sc] [.int .u8 k2,.int .u8 e2,.int .u64 n2,.string tt2,.slice na2 nl2 nc2,.slice ka2 nk2 kc2,.slice sa2 nss2 sc2] k e tt (.slice ka nk kc) ((((w.alloc (.cells #[.int .u8 k,.int .u8 e,.int .u64 n,.string tt,.slice na nl nc,.slice ka nk kc,.slice sa nss sc] 27)).alloc (.cells #[.int .u8 k2,.int .u8 e2,.int .u64 n2,.string tt2,.slice na2 nl2 nc2,.slice ka2 nk2 kc2,.slice sa2 nss2 sc2] 27)).alloc (.cells #[.int .u8 0,.int .u8 0,.int .u64 0,.string ⟨#[]⟩,.slice none 0 0,.slice none 0 0,.slice none 0 0] 27)).alloc (.cells #[.int .u8 k,.int .u8 e,.int .u64 0,.string tt,.slice none 0 0,.slice ka nk kc,.slice none 0 0] 27)) (.slice none 0 0) []:=by
   refine ⟨((((Fr.refl _ w).alloc _).alloc _).alloc _).alloc _,by simp,?_,?_,⟨#[.int .u8 0,.int .u8 0,.int .u64 0,.string ⟨#[]⟩,.slice none 0 0,.slice none 0 0,.slice none 0 0],rfl,?_⟩,?_,ItRow.nil _ _ _ _ _ _ _⟩
   ·simp only [heap_alloc_get,size_alloc];rw [if_neg (by omega),if_neg (by omega),if_neg (by omega),if_pos trivial]
   ·simp only [heap_alloc_get,size_alloc];rw [if_neg (by omega),if_neg (by omega),if_pos trivial]
   ·simp only [heap_alloc_get,size_alloc];rw [if_neg (by omega),if_pos trivial]
   ·simp only [heap_alloc_get,size_alloc];rw [if_pos trivial]
  have HST:=Hd hst0
  clear hst0 HF0
  obtain ⟨i1,hj,hy0,hy1,hy2⟩:=info_parts infoSSlt
  rcases hg45 with ⟨g4,g5⟩ | g4
  all_goals
   go_enter Tryz.func89,Tryz.ntmps89
   go_wp2_with fail
   go_loopw [62] (fun iv wr=>∃ i:Nat,i≤nss∧iv=.int .i64 i∧∃ sv sits,RB B w [.int .u8 k,.int .u8 e,.int .u64 n,.string tt,.slice na nl nc,.slice ka nk kc,.slice sa nss sc] [.int .u8 k2,.int .u8 e2,.int .u64 n2,.string tt2,.slice na2 nl2 nc2,.slice ka2 nk2 kc2,.slice sa2 nss2 sc2] k e tt (.slice ka nk kc) wr sv sits∧bothS (ss.take i) (ss2.take i)=some (sits.map (·.2))) (fun iv _=>nss-(intOf iv).toNat)
   case atStart=>exact ⟨0,Nat.zero_le _,rfl,_,_,HST.out,rfl⟩
   case round =>
    obtain ⟨i,hi,rfl,sv,sits,hR,hsits⟩:=hrel
    have HR:=Hd hR
    have HSI:=Hd hsits
    have hsz:=hR.size
    have HFW:=Hd hR.fr
    clear HST
    by_cases hlt:i<nss
    ·have hi3:i<ss.length:=by have:=HN.out.2.2.1;omega
     have hi4:i<ss2.length:=by have:=HN.out.2.2.2;have:=C3.out;omega
     have hlt2:i<nss2:=by have:=C3.out;omega
     obtain ⟨rfl,hsg,hBg⟩:=HSA.out.1 (by intro h0;rw [h0] at hi3;simp at hi3)
     obtain ⟨rfl,hsg2,hBg2⟩:=HSB.out.1 (by intro h0;rw [h0] at hi4;simp at hi4)
     obtain ⟨sl,hsl⟩:∃ sl,sl=ss[i]:=⟨_,rfl⟩
     obtain ⟨tl,htl⟩:∃ tl,tl=ss2[i]:=⟨_,rfl⟩
     obtain ⟨kid,hkid⟩:∃ kid,kid=sl.val:=⟨_,rfl⟩
     obtain ⟨kjd,hkjd⟩:∃ kjd,kjd=tl.val:=⟨_,rfl⟩
     have hkv3:VIs (fun b=>B b∧b<w.heap.size) wr (cellsAt wr sg (so+i*9+1) 7) kid:=by
      rw [cellsAt_mono (hR.fr.block sg hsg (fun x=>x)),hkid,hsl]
      exact (HSA.out.2.2 i hi3).fr0 hR.fr (fun b hb hbb=>⟨hbb,hb⟩)
     have hkv4:VIs (fun b=>B b∧b<w.heap.size) wr (cellsAt wr sg2 (so2+i*9+1) 7) kjd:=by
      rw [cellsAt_mono (hR.fr.block sg2 hsg2 (fun x=>x)),hkjd,htl]
      exact (HSB.out.2.2 i hi4).fr0 hR.fr (fun b hb hbb=>⟨hbb,hb⟩)
     obtain ⟨na3,nl3,nc3,ka3,nk3,kc3,sa3,ns3,sc3,hlit3,a1,a2,a3,a4,a5,a6,a7⟩:=hkv3.at
     have a0:wr.cell? ⟨sg,so+i*9,none⟩=some (.bool sl.has):=(keep_fr hR.fr (HSA.out.2.1 i hi3).1 (fun x=>x)).trans (by rw [hsl])
     have a8:wr.cell? ⟨sg,so+i*9+8,none⟩=some (.int .u64 sl.dflt):=(keep_fr hR.fr (HSA.out.2.1 i hi3).2.1 (fun x=>x)).trans (by rw [hsl])
     have a2:wr.cell? ⟨sg,so+i*9+2,none⟩=some (.int .u8 kid.elem):=a2
     have a3:wr.cell? ⟨sg,so+i*9+3,none⟩=some (.int .u64 kid.num):=a3
     have a4:wr.cell? ⟨sg,so+i*9+4,none⟩=some (.string (strOf kid.text)):=a4
     have a5:wr.cell? ⟨sg,so+i*9+5,none⟩=some (.slice na3 nl3 nc3):=a5
     have a6:wr.cell? ⟨sg,so+i*9+6,none⟩=some (.slice ka3 nk3 kc3):=a6
     have a7:wr.cell? ⟨sg,so+i*9+7,none⟩=some (.slice sa3 ns3 sc3):=a7
     obtain ⟨na4,nl4,nc4,ka4,nk4,kc4,sa4,ns4,sc4,hlit4,b1,b2,b3,b4,b5,b6,b7⟩:=hkv4.at
     have b0:wr.cell? ⟨sg2,so2+i*9,none⟩=some (.bool tl.has):=(keep_fr hR.fr (HSB.out.2.1 i hi4).1 (fun x=>x)).trans (by rw [htl])
     have b8:wr.cell? ⟨sg2,so2+i*9+8,none⟩=some (.int .u64 tl.dflt):=(keep_fr hR.fr (HSB.out.2.1 i hi4).2.1 (fun x=>x)).trans (by rw [htl])
     have b2:wr.cell? ⟨sg2,so2+i*9+2,none⟩=some (.int .u8 kjd.elem):=b2
     have b3:wr.cell? ⟨sg2,so2+i*9+3,none⟩=some (.int .u64 kjd.num):=b3
     have b4:wr.cell? ⟨sg2,so2+i*9+4,none⟩=some (.string (strOf kjd.text)):=b4
     have b5:wr.cell? ⟨sg2,so2+i*9+5,none⟩=some (.slice na4 nl4 nc4):=b5
     have b6:wr.cell? ⟨sg2,so2+i*9+6,none⟩=some (.slice ka4 nk4 kc4):=b6
     have b7:wr.cell? ⟨sg2,so2+i*9+7,none⟩=some (.slice sa4 ns4 sc4):=b7
     have bx6:wr.cell? ⟨w.heap.size+1,6,none⟩=some (.slice (some ⟨sg2,so2,none⟩) nss2 sc2):=by rw [cell_of hR.boxb];rfl
     have bx7:=keep_alloc (.cells #[.bool sl.has,.int .u8 kid.kind,.int .u8 kid.elem,.int .u64 kid.num,.string (strOf kid.text),.slice na3 nl3 nc3,.slice ka3 nk3 kc3,.slice sa3 ns3 sc3,.int .u64 sl.dflt] 54) bx6
     have bb0:=keep_alloc (.cells #[.bool sl.has,.int .u8 kid.kind,.int .u8 kid.elem,.int .u64 kid.num,.string (strOf kid.text),.slice na3 nl3 nc3,.slice ka3 nk3 kc3,.slice sa3 ns3 sc3,.int .u64 sl.dflt] 54) b0
     have bb1:=keep_alloc (.cells #[.bool sl.has,.int .u8 kid.kind,.int .u8 kid.elem,.int .u64 kid.num,.string (strOf kid.text),.slice na3 nl3 nc3,.slice ka3 nk3 kc3,.slice sa3 ns3 sc3,.int .u64 sl.dflt] 54) b1
     have bb2:=keep_alloc (.cells #[.bool sl.has,.int .u8 kid.kind,.int .u8 kid.elem,.int .u64 kid.num,.string (strOf kid.text),.slice na3 nl3 nc3,.slice ka3 nk3 kc3,.slice sa3 ns3 sc3,.int .u64 sl.dflt] 54) b2
     have bb3:=keep_alloc (.cells #[.bool sl.has,.int .u8 kid.kind,.int .u8 kid.elem,.int .u64 kid.num,.string (strOf kid.text),.slice na3 nl3 nc3,.slice ka3 nk3 kc3,.slice sa3 ns3 sc3,.int .u64 sl.dflt] 54) b3
     have bb4:=keep_alloc (.cells #[.bool sl.has,.int .u8 kid.kind,.int .u8 kid.elem,.int .u64 kid.num,.string (strOf kid.text),.slice na3 nl3 nc3,.slice ka3 nk3 kc3,.slice sa3 ns3 sc3,.int .u64 sl.dflt] 54) b4
     have bb5:=keep_alloc (.cells #[.bool sl.has,.int .u8 kid.kind,.int .u8 kid.elem,.int .u64 kid.num,.string (strOf kid.text),.slice na3 nl3 nc3,.slice ka3 nk3 kc3,.slice sa3 ns3 sc3,.int .u64 sl.dflt] 54) b5
     have bb6:=keep_alloc (.cells #[.bool sl.has,.int .u8 kid.kind,.int .u8 kid.elem,.int .u64 kid.num,.string (strOf kid.text),.slice na3 nl3 nc3,.slice ka3 nk3 kc3,.slice sa3 ns3 sc3,.int .u64 sl.dflt] 54) b6
     have bb7:=keep_alloc (.cells #[.bool sl.has,.int .u8 kid.kind,.int .u8 kid.elem,.int .u64 kid.num,.string (strOf kid.text),.slice na3 nl3 nc3,.slice ka3 nk3 kc3,.slice sa3 ns3 sc3,.int .u64 sl.dflt] 54) b7
     have bb8:=keep_alloc (.cells #[.bool sl.has,.int .u8 kid.kind,.int .u8 kid.elem,.int .u64 kid.num,.string (strOf kid.text),.slice na3 nl3 nc3,.slice ka3 nk3 kc3,.slice sa3 ns3 sc3,.int .u64 sl.dflt] 54) b8
     have hbt:=bothS_take ss ss2 i hi3 hi4
     rw [HSI.out,Option.bind_some,← hsl,← htl] at hbt
     have hmem:sl∈ss:=by rw [hsl];exact List.getElem_mem hi3
     have hcl:=IHS.out sl hmem (fun b=>B b∧b<w.heap.size) tl.val [.int .u8 kid.kind,.int .u8 kid.elem,.int .u64 kid.num,.string (strOf kid.text),.slice na3 nl3 nc3,.slice ka3 nk3 kc3,.slice sa3 ns3 sc3] [.int .u8 kjd.kind,.int .u8 kjd.elem,.int .u64 kjd.num,.string (strOf kjd.text),.slice na4 nl4 nc4,.slice ka4 nk4 kc4,.slice sa4 ns4 sc4]
     rw [← hkid,← hkjd] at hcl
     have hal5:Fr0 wr ((wr.alloc (.cells #[.bool sl.has,.int .u8 kid.kind,.int .u8 kid.elem,.int .u64 kid.num,.string (strOf kid.text),.slice na3 nl3 nc3,.slice ka3 nk3 kc3,.slice sa3 ns3 sc3,.int .u64 sl.dflt] 54)).alloc (.cells #[.bool tl.has,.int .u8 kjd.kind,.int .u8 kjd.elem,.int .u64 kjd.num,.string (strOf kjd.text),.slice na4 nl4 nc4,.slice ka4 nk4 kc4,.slice sa4 ns4 sc4,.int .u64 tl.dflt] 54)):=((Fr.refl _ wr).alloc _).alloc _
     have hcl5:=hcl ((wr.alloc (.cells #[.bool sl.has,.int .u8 kid.kind,.int .u8 kid.elem,.int .u64 kid.num,.string (strOf kid.text),.slice na3 nl3 nc3,.slice ka3 nk3 kc3,.slice sa3 ns3 sc3,.int .u64 sl.dflt] 54)).alloc (.cells #[.bool tl.has,.int .u8 kjd.kind,.int .u8 kjd.elem,.int .u64 kjd.num,.string (strOf kjd.text),.slice na4 nl4 nc4,.slice ka4 nk4 kc4,.slice sa4 ns4 sc4,.int .u64 tl.dflt] 54)) (hlit3.fr0 hal5 (fun _ _ h=>h)) (hlit4.fr0 hal5 (fun _ _ h=>h))
     have hd64:sl.dflt<2 ^ 64:=by rw [hsl];exact (HSA.out.2.1 i hi3).2.2
     have hbt2:bothT' sl tl=(both kid kjd).bind fun x=>if sl.dflt=tl.dflt then some ⟨false,x,sl.dflt⟩ else none:=by unfold bothT';rw [← hkid,← hkjd]
     rw [hbt2] at hbt
     have HBT:=Hd hbt
     have HCL:=Hd hcl5
     have HD64:=Hd hd64
     have hx7:((wr.alloc (.cells #[.bool sl.has,.int .u8 kid.kind,.int .u8 kid.elem,.int .u64 kid.num,.string (strOf kid.text),.slice na3 nl3 nc3,.slice ka3 nk3 kc3,.slice sa3 ns3 sc3,.int .u64 sl.dflt] 54)).alloc (.cells #[.bool tl.has,.int .u8 kjd.kind,.int .u8 kjd.elem,.int .u64 kjd.num,.string (strOf kjd.text),.slice na4 nl4 nc4,.slice ka4 nk4 kc4,.slice sa4 ns4 sc4,.int .u64 tl.dflt] 54)).heap[wr.heap.size]?=some (.cells #[.bool sl.has,.int .u8 kid.kind,.int .u8 kid.elem,.int .u64 kid.num,.string (strOf kid.text),.slice na3 nl3 nc3,.slice ka3 nk3 kc3,.slice sa3 ns3 sc3,.int .u64 sl.dflt] 54):=by simp only [heap_alloc_get,size_alloc];rw [if_neg (by omega),if_pos trivial]
     have hx8:((wr.alloc (.cells #[.bool sl.has,.int .u8 kid.kind,.int .u8 kid.elem,.int .u64 kid.num,.string (strOf kid.text),.slice na3 nl3 nc3,.slice ka3 nk3 kc3,.slice sa3 ns3 sc3,.int .u64 sl.dflt] 54)).alloc (.cells #[.bool tl.has,.int .u8 kjd.kind,.int .u8 kjd.elem,.int .u64 kjd.num,.string (strOf kjd.text),.slice na4 nl4 nc4,.slice ka4 nk4 kc4,.slice sa4 ns4 sc4,.int .u64 tl.dflt] 54)).heap[wr.heap.size+1]?=some (.cells #[.bool tl.has,.int .u8 kjd.kind,.int .u8 kjd.elem,.int .u64 kjd.num,.string (strOf kjd.text),.slice na4 nl4 nc4,.slice ka4 nk4 kc4,.slice sa4 ns4 sc4,.int .u64 tl.dflt] 54):=by simp only [heap_alloc_get,size_alloc];rw [if_pos trivial]
     have hs5:((wr.alloc (.cells #[.bool sl.has,.int .u8 kid.kind,.int .u8 kid.elem,.int .u64 kid.num,.string (strOf kid.text),.slice na3 nl3 nc3,.slice ka3 nk3 kc3,.slice sa3 ns3 sc3,.int .u64 sl.dflt] 54)).alloc (.cells #[.bool tl.has,.int .u8 kjd.kind,.int .u8 kjd.elem,.int .u64 kjd.num,.string (strOf kjd.text),.slice na4 nl4 nc4,.slice ka4 nk4 kc4,.slice sa4 ns4 sc4,.int .u64 tl.dflt] 54)).heap.size=wr.heap.size+2:=by simp
     have hres:=hR.res
     have hout:=hR.out
     have hown0:=hR.srow.own
     have hlen:sits.length=i:=by
      have h1:=(bothS_some _ _ _ HSI.out).1
      rw [List.length_map,List.length_take] at h1;omega
     rw [hlen] at hown0
     have HLEN:=Hd hlen
     have HOWN:=Hd hown0
     have HRB:=Hd (fun (b:Nat) (hb:b<w.heap.size+4∨wr.heap.size≤b) (e:some b=sv.ownBlock)=>(by have:=ownBlock_lt hown0 b e.symm;omega:False))
     clear hlit3 hlit4 hkid hkjd hsl htl hkv3 hkv4 hcl hcl5 hal5 hbt hbt2 hmem hd64 hR hsits hlen hown0
     go_upto_region 8 with fail
     have hf5:Fr0 wr ((wr.alloc (.cells #[.bool sl.has,.int .u8 kid.kind,.int .u8 kid.elem,.int .u64 kid.num,.string (strOf kid.text),.slice na3 nl3 nc3,.slice ka3 nk3 kc3,.slice sa3 ns3 sc3,.int .u64 sl.dflt] 54)).alloc (.cells #[.bool tl.has,.int .u8 kjd.kind,.int .u8 kjd.elem,.int .u64 kjd.num,.string (strOf kjd.text),.slice na4 nl4 nc4,.slice ka4 nk4 kc4,.slice sa4 ns4 sc4,.int .u64 tl.dflt] 54)):=((Fr.refl _ wr).alloc _).alloc _
     generalize hw5:((wr.alloc (.cells #[.bool sl.has,.int .u8 kid.kind,.int .u8 kid.elem,.int .u64 kid.num,.string (strOf kid.text),.slice na3 nl3 nc3,.slice ka3 nk3 kc3,.slice sa3 ns3 sc3,.int .u64 sl.dflt] 54)).alloc (.cells #[.bool tl.has,.int .u8 kjd.kind,.int .u8 kjd.elem,.int .u64 kjd.num,.string (strOf kjd.text),.slice na4 nl4 nc4,.slice ka4 nk4 kc4,.slice sa4 ns4 sc4,.int .u64 tl.dflt] 54))=w5 at *
     clear hw5
     have hlt5:wr.heap.size<w5.heap.size:=by omega
     have hlt6:wr.heap.size+1<w5.heap.size:=by omega
     have dx:=fun j u (hu:(#[.bool sl.has,.int .u8 kid.kind,.int .u8 kid.elem,.int .u64 kid.num,.string (strOf kid.text),.slice na3 nl3 nc3,.slice ka3 nk3 kc3,.slice sa3 ns3 sc3,.int .u64 sl.dflt]:Array Value)[j]?=some u)=>(cell_of hx7 j).trans hu
     have d1:=dx 1 _ rfl
     have d2:=dx 2 _ rfl
     have d3:=dx 3 _ rfl
     have d4:=dx 4 _ rfl
     have d5:=dx 5 _ rfl
     have d6:=dx 6 _ rfl
     have d7:=dx 7 _ rfl
     have d8:=dx 8 _ rfl
     have ex:=fun j u (hu:(#[.bool tl.has,.int .u8 kjd.kind,.int .u8 kjd.elem,.int .u64 kjd.num,.string (strOf kjd.text),.slice na4 nl4 nc4,.slice ka4 nk4 kc4,.slice sa4 ns4 sc4,.int .u64 tl.dflt]:Array Value)[j]?=some u)=>(cell_of hx8 j).trans hu
     have e1:=ex 1 _ rfl
     have e2':=ex 2 _ rfl
     have e3:=ex 3 _ rfl
     have e4:=ex 4 _ rfl
     have e5:=ex 5 _ rfl
     have e6:=ex 6 _ rfl
     have e7:=ex 7 _ rfl
     have e8:=ex 8 _ rfl
     have HX:=Hd (And.intro hx7 hx8)
     have HF5:=Hd hf5
     have HRES:=Hd hres
     have HOUT:=Hd hout
     have HS5:=Hd hs5
     clear dx ex a0 a1 a2 a3 a4 a5 a6 a7 a8 b0 b1 b2 b3 b4 b5 b6 b7 b8 bb0 bb1 bb2 bb3 bb4 bb5 bb6 bb7 bb8 bx6 bx7 hx7 hx8 hf5 hres hout hs5
     cases hbo:both kid kjd with
     | none =>
      have hcc:=HCL.out
      rw [hbo] at hcc
      have HCC:=Hd hcc
      have hnone:bothS ss ss2=none:=by
       have h1:=HBT.out
       rw [hbo] at h1
       exact bothS_none_take ss ss2 (i+1) h1
      have HNONE:=Hd (show ((bothS ss ss2).bind fun os=>(bothK ks ks2).map fun kk=>Val.mk k e 0 t [] kk os)=none by rw [hnone];rfl)
      clear hcc hnone hbo
      go_wp2_with fail
      refine HCC.out.mono ?_
      rintro e9 w6 ⟨hf6,rfl⟩
      have HF6:=Hd (HF5.out.trans hf6)
      clear hf6
      go_upto_region 10 with fail
      have hf8:Fr0 wr (w6.alloc (.cells #[.int .u8 0,.int .u8 0,.int .u64 0,.string ⟨#[]⟩,.slice none 0 0,.slice none 0 0,.slice none 0 0] 27)):=HF6.out.alloc _
      generalize hw8:w6.alloc (.cells #[.int .u8 0,.int .u8 0,.int .u64 0,.string ⟨#[]⟩,.slice none 0 0,.slice none 0 0,.slice none 0 0] 27)=w8 at *
      have hres8:∃ c:Array Value,c.size=7∧w8.heap[w.heap.size+1+1]?=some (.cells c 27):=by
       obtain ⟨c,h1,h2⟩:=HRES.out
       exact ⟨c,h1,(hf8.block _ (by omega) (fun x=>x)).trans h2⟩
      obtain ⟨rc,hrc,hres⟩:=hres8
      have qx:∀ j,j<7→∃ u,w8.cell? ⟨w.heap.size+1+1,j,none⟩=some u:=fun j hj=>⟨_,by rw [cell_of hres];exact Array.getElem?_eq_getElem (by omega)⟩
      obtain ⟨u0',q0⟩:=qx 0 (by omega)
      obtain ⟨u1',q1⟩:=qx 1 (by omega)
      obtain ⟨u2',q2⟩:=qx 2 (by omega)
      obtain ⟨u3',q3⟩:=qx 3 (by omega)
      obtain ⟨u4',q4⟩:=qx 4 (by omega)
      obtain ⟨u5',q5⟩:=qx 5 (by omega)
      obtain ⟨u6',q6⟩:=qx 6 (by omega)
      have f0:=frozen_of hres 0
      have f1:=frozen_of hres 1
      have f2:=frozen_of hres 2
      have f3:=frozen_of hres 3
      have f4:=frozen_of hres 4
      have f5:=frozen_of hres 5
      have f6:=frozen_of hres 6
      have HRS:=Hd hres
      have HRC:=Hd hrc
      clear hres qx hrc
      have HFR:=Hd (HFW.out.trans hf8)
      clear hf8 hw8 d1 d2 d3 d4 d5 d6 d7 d8 e1 e2' e3 e4 e5 e6 e7 e8
      go_wp2_with fail
      refine bodyPost_ret (results_cell_tmp7 (P:=Tryz.prog) rfl _ _ (w.heap.size+1+1) 27 _ _ _ _ _ _ _ _ _ rfl HRC.out HRS.out Tryz.underlying27 rfl infoSVs) rfl ?_
      refine ⟨HFR.out.trans2 (fr_set7 w8 (w.heap.size+1+1) (.int .u8 0) (.int .u8 0) (.int .u64 0) (.string ⟨#[]⟩) (.slice none 0 0) (.slice none 0 0) (.slice none 0 0)) (fun b hb e=>by omega),?_⟩
      rw [HNONE.out]
      exact rfl
     | some cv =>
      have hcc:=HCL.out
      rw [hbo] at hcc
      have HCC:=Hd hcc
      have HBO:=Hd hbo
      clear hcc hbo
      go_wp2_with fail
      refine HCC.out.mono ?_
      rintro e9 w6 ⟨hf6,cs6,rfl,hv6⟩
      obtain ⟨na6,nl6,nc6,ka6,nk6,kc6,sa6,ns6,sc6,rfl⟩:=hv6.lit
      have hf56:=HF5.out.trans hf6
      have d8:=keep_fr hf6 d8 (fun x=>x)
      have e8:=keep_fr hf6 e8 (fun x=>x)
      have hlt7:wr.heap.size+1<w6.heap.size:=by have:=hf6.size;omega
      have HV6:=Hd hv6
      have HF6:=Hd hf56
      clear hf6 hf56 hv6 d1 d2 d3 d4 d5 d6 d7 e1 e2' e3 e4 e5 e6 e7
      go_upto_region 9 with fail
      have hx9:(w6.alloc (.cells #[.int .u8 cv.kind,.int .u8 cv.elem,.int .u64 cv.num,.string (strOf cv.text),.slice na6 nl6 nc6,.slice ka6 nk6 kc6,.slice sa6 ns6 sc6] 27)).heap[w6.heap.size]?=some (.cells #[.int .u8 cv.kind,.int .u8 cv.elem,.int .u64 cv.num,.string (strOf cv.text),.slice na6 nl6 nc6,.slice ka6 nk6 kc6,.slice sa6 ns6 sc6] 27):=heap_alloc_new _ _
      have hf68:Fr0 w6 (w6.alloc (.cells #[.int .u8 cv.kind,.int .u8 cv.elem,.int .u64 cv.num,.string (strOf cv.text),.slice na6 nl6 nc6,.slice ka6 nk6 kc6,.slice sa6 ns6 sc6] 27)):=(Fr.refl _ w6).alloc _
      have hs68:(w6.alloc (.cells #[.int .u8 cv.kind,.int .u8 cv.elem,.int .u64 cv.num,.string (strOf cv.text),.slice na6 nl6 nc6,.slice ka6 nk6 kc6,.slice sa6 ns6 sc6] 27)).heap.size=w6.heap.size+1:=size_alloc _ _
      generalize hw8:w6.alloc (.cells #[.int .u8 cv.kind,.int .u8 cv.elem,.int .u64 cv.num,.string (strOf cv.text),.slice na6 nl6 nc6,.slice ka6 nk6 kc6,.slice sa6 ns6 sc6] 27)=w8 at *
      clear hw8
      have d8:=keep_fr hf68 d8 (fun x=>x)
      have e8:=keep_fr hf68 e8 (fun x=>x)
      have hf8:Fr0 wr w8:=HF6.out.trans hf68
      have hlt8:w6.heap.size<w8.heap.size:=by omega
      have HX9:=Hd hx9
      have HF8:=Hd hf8
      have HF68:=Hd hf68
      clear hx9 hf8 hf68 hs68
      by_cases hdq:sl.dflt=tl.dflt
      ·have gd:((sl.dflt:Int) != (tl.dflt:Int))=false:=by simp;omega
       have hbt3:=HBT.out
       rw [HBO.out,Option.bind_some,if_pos hdq] at hbt3
       have HBT3:=Hd hbt3
       clear hbt3 hdq
       have yx:=fun j u (hu:(#[.int .u8 cv.kind,.int .u8 cv.elem,.int .u64 cv.num,.string (strOf cv.text),.slice na6 nl6 nc6,.slice ka6 nk6 kc6,.slice sa6 ns6 sc6]:Array Value)[j]?=some u)=>(cell_of HX9.out j).trans hu
       have y0:=yx 0 _ rfl
       have y1:=yx 1 _ rfl
       have y2:=yx 2 _ rfl
       have y3:=yx 3 _ rfl
       have y4:=yx 4 _ rfl
       have y5:=yx 5 _ rfl
       have y6:=yx 6 _ rfl
       have hout8:=(HF8.out.block (w.heap.size+1+1+1) (by omega) (fun x=>x)).trans HOUT.out
       have cO:w8.cell? ⟨w.heap.size+1+1+1,6,none⟩=some sv:=by rw [cell_of hout8];rfl
       have fO:=frozen_of hout8 6
       have hown8:=ownFr HOWN.out HF8.out (fun _ _ x=>x)
       have HSF:=Hd (fun (oo:Obj) (w7:World) (hg:(w8.alloc oo).grownBy w7 sv.ownBlock)=>(And.intro (keep_fr (((Fr.refl (fun b=>some b=sv.ownBlock) w8).alloc oo).trans (grown_fr' hg)) cO (fun e=>HRB.out _ (.inl (by omega)) e)) (keep_frF (((Fr.refl (fun b=>some b=sv.ownBlock) w8).alloc oo).trans (grown_fr' hg)) cO fO (fun e=>HRB.out _ (.inl (by omega)) e)):w7.cell? ⟨w.heap.size+1+1+1,6,none⟩=some sv∧w7.frozen? ⟨w.heap.size+1+1+1,6,none⟩=false))
       have hv8:VIs (fun b=>(B b∧b<w.heap.size)∨wr.heap.size≤b) w8 [.int .u8 cv.kind,.int .u8 cv.elem,.int .u64 cv.num,.string (strOf cv.text),.slice na6 nl6 nc6,.slice ka6 nk6 kc6,.slice sa6 ns6 sc6] cv:=HV6.out.fr0 HF68.out (fun b hb hbb=>hbb.imp id (fun h=>by have:=HS5.out;omega))
       have HV8:=Hd hv8
       have hone:=hv8.one
       have HON:=Hd hone
       have hsb:w.heap.size+4≤w8.heap.size:=by have:=HF8.out.size;omega
       clear yx hout8 fO hv8 hone
       go_wp2_with (at_builtin;refine wpList_append_lies _ rfl (.tmp 91) (.tmp 96) 25 rfl (w.heap.size+4) 54 i1 _ 9 120 Tryz.underlying25 hj hy0 hy1 hy2 rfl (by decide) sv i (sits.map fun x=>slotC x.2 x.1).flatten rfl (hown8.alloc _) ⟨w8.heap.size,0,none⟩ 1 1 (slotC ⟨false,cv,sl.dflt⟩ [.int .u8 cv.kind,.int .u8 cv.elem,.int .u64 cv.num,.string (strOf cv.text),.slice na6 nl6 nc6,.slice ka6 nk6 kc6,.slice sa6 ns6 sc6]) rfl rfl (newsL _ _ _ _ rfl) (slotC_one HON.out) (by omega) (by unfold maxLen;omega) (by omega) (by simp;omega) (w8.heap.size+1) (by simp) ?_;intro g7 cap7 w7 hown7 hgrow7 hat7 hlt9;have s1:=(HSF.out _ _ hgrow7).1;have s2:=(HSF.out _ _ hgrow7).2)
       have hnx:=HR.out.next (sl:=⟨false,cv,sl.dflt⟩) HF8.out HV8.out HD64.out hgrow7 (by rw [HLEN.out]) hown7 hat7
       have hbs:bothS (ss.take (i+1)) (ss2.take (i+1))=some ((sits ++ [(([.int .u8 cv.kind,.int .u8 cv.elem,.int .u64 cv.num,.string (strOf cv.text),.slice na6 nl6 nc6,.slice ka6 nk6 kc6,.slice sa6 ns6 sc6]:List Value),(⟨false,cv,sl.dflt⟩:Slt Val))]).map (·.2)):=by rw [HBT3.out,List.map_append];rfl
       have HNX:=Hd (And.intro hnx hbs)
       clear hnx hbs s1 s2
       go_roundw
       case rel=>exact ⟨i+1,by omega,by go_num,_,_,HNX.out.1,HNX.out.2⟩
       case measure=>simp [intOf];omega
      ·have gd:((sl.dflt:Int) != (tl.dflt:Int))=true:=by simp;omega
       have hnone:bothS ss ss2=none:=by
        have h1:=HBT.out
        rw [HBO.out,Option.bind_some,if_neg hdq] at h1
        exact bothS_none_take ss ss2 (i+1) h1
       have HNONE:=Hd (show ((bothS ss ss2).bind fun os=>(bothK ks ks2).map fun kk=>Val.mk k e 0 t [] kk os)=none by rw [hnone];rfl)
       clear hnone hdq
       have hres8:∃ c:Array Value,c.size=7∧w8.heap[w.heap.size+1+1]?=some (.cells c 27):=by
        obtain ⟨c,h1,h2⟩:=HRES.out
        exact ⟨c,h1,(HF8.out.block _ (by omega) (fun x=>x)).trans h2⟩
       obtain ⟨rc,hrc,hres⟩:=hres8
       have qx:∀ j,j<7→∃ u,w8.cell? ⟨w.heap.size+1+1,j,none⟩=some u:=fun j hj=>⟨_,by rw [cell_of hres];exact Array.getElem?_eq_getElem (by omega)⟩
       obtain ⟨u0',q0⟩:=qx 0 (by omega)
       obtain ⟨u1',q1⟩:=qx 1 (by omega)
       obtain ⟨u2',q2⟩:=qx 2 (by omega)
       obtain ⟨u3',q3⟩:=qx 3 (by omega)
       obtain ⟨u4',q4⟩:=qx 4 (by omega)
       obtain ⟨u5',q5⟩:=qx 5 (by omega)
       obtain ⟨u6',q6⟩:=qx 6 (by omega)
       have f0:=frozen_of hres 0
       have f1:=frozen_of hres 1
       have f2:=frozen_of hres 2
       have f3:=frozen_of hres 3
       have f4:=frozen_of hres 4
       have f5:=frozen_of hres 5
       have f6:=frozen_of hres 6
       have HRS:=Hd hres
       have HRC:=Hd hrc
       clear hres qx hrc
       have HFR:=Hd (HFW.out.trans HF8.out)
       go_wp2_with fail
       refine bodyPost_ret (results_cell_tmp7 (P:=Tryz.prog) rfl _ _ (w.heap.size+1+1) 27 _ _ _ _ _ _ _ _ _ rfl HRC.out HRS.out Tryz.underlying27 rfl infoSVs) rfl ?_
       refine ⟨HFR.out.trans2 (fr_set7 w8 (w.heap.size+1+1) (.int .u8 0) (.int .u8 0) (.int .u64 0) (.string ⟨#[]⟩) (.slice none 0 0) (.slice none 0 0) (.slice none 0 0)) (fun b hb e=>by omega),?_⟩
       rw [HNONE.out]
       exact rfl
    ·have hie:i=nss:=by omega
     have hall:bothS ss ss2=some (sits.map (·.2)):=by
      have h1:=HSI.out
      rw [List.take_of_length_le (by have:=HN.out.2.2.1;omega),List.take_of_length_le (by have:=HN.out.2.2.2;have:=C3.out;omega)] at h1
      exact h1
     have hout:=hR.out
     have hresr:=hR.res
     have hsrow:=hR.srow
     have bxa:wr.cell? ⟨w.heap.size,5,none⟩=some (.slice ka nk kc):=by rw [cell_of hR.boxa];rfl
     have bxb:wr.cell? ⟨w.heap.size+1,5,none⟩=some (.slice ka2 nk2 kc2):=by rw [cell_of hR.boxb];rfl
     obtain ⟨ask,bsk,gsk,hsv,_⟩:=own_form hsrow.own
     have HSROW:=Hd hsrow
     have HALL:=Hd hall
     have HOUT:=Hd hout
     have HRESR:=Hd hresr
     clear hall hout hresr hsrow hR HSI
     subst hsv
     by_cases k0:nk=0
     ·have gk:((nk:Int) == 0)=true:=by simp;omega
      have hks0:ks=[]:=List.eq_nil_of_length_eq_zero (by have:=HN.out.1;omega)
      have HSOME:=Hd (show ((bothS ss ss2).bind fun os=>(bothK ks ks2).map fun kk=>Val.mk k e 0 t [] kk os)=some (.mk k e 0 t [] ks2 (sits.map (·.2))) by rw [HALL.out,hks0];rfl)
      have cO5:wr.cell? ⟨w.heap.size+1+1+1,5,none⟩=some (.slice ka nk kc):=by rw [cell_of HOUT.out];rfl
      have fO5:=frozen_of HOUT.out 5
      clear k0 hks0
      go_upto_region 20 with fail
      have hout8:(wr.setCell ⟨w.heap.size+1+1+1,5,none⟩ (.slice ka2 nk2 kc2)).heap[w.heap.size+1+1+1]?=some (.cells #[.int .u8 k,.int .u8 e,.int .u64 0,.string tt,.slice none 0 0,.slice ka2 nk2 kc2,.slice ask sits.length bsk] 27):=by
       have:=heap_setCell_same HOUT.out 5 (.slice ka2 nk2 kc2)
       rw [this];rfl
      have hres8:∃ c:Array Value,c.size=7∧(wr.setCell ⟨w.heap.size+1+1+1,5,none⟩ (.slice ka2 nk2 kc2)).heap[w.heap.size+1+1]?=some (.cells c 27):=by
       obtain ⟨c,h1,h2⟩:=HRESR.out
       exact ⟨c,h1,by rw [heap_setCell_other _ _ _ _ (by show w.heap.size+1+1≠w.heap.size+1+1+1;omega)];exact h2⟩
      have hf8:Fr0 w (wr.setCell ⟨w.heap.size+1+1+1,5,none⟩ (.slice ka2 nk2 kc2)):=HFW.out.setCell (fun h=>absurd (show w.heap.size+1+1+1<w.heap.size from h) (by omega)) _
      have hsr8:=HSROW.out.fr sltP_mono (B':=BI B w.heap.size 4 (.slice ask sits.length bsk)) (Fr.set1 wr (w.heap.size+1+1+1) 5 (.slice ka2 nk2 kc2)) (fun g hg e=>by have:=(ownBlock_lt HSROW.out.own g hg).1;omega) (fun b hb hbb=>⟨hbb,fun e=>by rcases hbb with h | h <;> omega⟩)
      generalize hw8:wr.setCell ⟨w.heap.size+1+1+1,5,none⟩ (.slice ka2 nk2 kc2)=w8 at *
      clear hw8 cO5 fO5 bxa bxb
      have o0:w8.cell? ⟨w.heap.size+1+1+1,0,none⟩=some (.int .u8 k):=by rw [cell_of hout8];rfl
      have o1:w8.cell? ⟨w.heap.size+1+1+1,1,none⟩=some (.int .u8 e):=by rw [cell_of hout8];rfl
      have o2:w8.cell? ⟨w.heap.size+1+1+1,2,none⟩=some (.int .u64 0):=by rw [cell_of hout8];rfl
      have o3:w8.cell? ⟨w.heap.size+1+1+1,3,none⟩=some (.string tt):=by rw [cell_of hout8];rfl
      have o4:w8.cell? ⟨w.heap.size+1+1+1,4,none⟩=some (.slice none 0 0):=by rw [cell_of hout8];rfl
      have o5:w8.cell? ⟨w.heap.size+1+1+1,5,none⟩=some (.slice ka2 nk2 kc2):=by rw [cell_of hout8];rfl
      have o6:w8.cell? ⟨w.heap.size+1+1+1,6,none⟩=some (.slice ask sits.length bsk):=by rw [cell_of hout8];rfl
      obtain ⟨rc,hrc,hres⟩:=hres8
      have qx:∀ j,j<7→∃ u,w8.cell? ⟨w.heap.size+1+1,j,none⟩=some u:=fun j hj=>⟨_,by rw [cell_of hres];exact Array.getElem?_eq_getElem (by omega)⟩
      obtain ⟨u0',q0⟩:=qx 0 (by omega)
      obtain ⟨u1',q1⟩:=qx 1 (by omega)
      obtain ⟨u2',q2⟩:=qx 2 (by omega)
      obtain ⟨u3',q3⟩:=qx 3 (by omega)
      obtain ⟨u4',q4⟩:=qx 4 (by omega)
      obtain ⟨u5',q5⟩:=qx 5 (by omega)
      obtain ⟨u6',q6⟩:=qx 6 (by omega)
      have f0:=frozen_of hres 0
      have f1:=frozen_of hres 1
      have f2:=frozen_of hres 2
      have f3:=frozen_of hres 3
      have f4:=frozen_of hres 4
      have f5:=frozen_of hres 5
      have f6:=frozen_of hres 6
      have HRS:=Hd hres
      have HRC:=Hd hrc
      clear hres qx hrc
      have HFR:=Hd hf8
      have HSR:=Hd hsr8
      clear hout8 hf8 hsr8
      go_wp2_with fail
      refine bodyPost_ret (results_cell_tmp7 (P:=Tryz.prog) rfl _ _ (w.heap.size+1+1) 27 _ _ _ _ _ _ _ _ _ rfl HRC.out HRS.out Tryz.underlying27 rfl infoSVs) rfl ?_
      have h7:=fr_set7 w8 (w.heap.size+1+1) (.int .u8 k) (.int .u8 e) (.int .u64 0) (.string tt) (.slice none 0 0) (.slice ka2 nk2 kc2) (.slice ask sits.length bsk)
      refine ⟨HFR.out.trans2 h7 (fun b hb e=>by omega),?_⟩
      rw [HSOME.out]
      refine ⟨[.int .u8 k,.int .u8 e,.int .u64 0,.string tt,.slice none 0 0,.slice ka2 nk2 kc2,.slice ask sits.length bsk],rfl,?_⟩
      have hvv:VIs (fun b=>(B b∧b<w.heap.size)∨w.heap.size+4≤b) w8 [.int .u8 k,.int .u8 e,.int .u64 0,.string tt,.slice none 0 0,.slice ka2 nk2 kc2,.slice ask sits.length bsk] (.mk k e 0 t [] ks2 (sits.map (·.2))):=by
       rw [HTT.out,HN.out.2.1]
       refine VIs.of_srow (kg:=kg2) (ko:=ko2) HTL.out.2.1 HTL.out.2.2 HTL.out.1 (fun h=>?_) HKB.out.2.1 (fun i hi=>?_) HSR.out (fun g hg=>.inr (ownBlock_lt HSR.out.own g hg).1) (fun b hb hbb=>by rcases hbb with h | h;exact .inl h;exact .inr h.1)
       ·obtain ⟨h1,h2,h3⟩:=HKB.out.1 h
        exact ⟨h1,by have:=HFR.out.size;omega,.inl ⟨h3,h2⟩⟩
       ·obtain ⟨h1,h2,h3⟩:=HKB.out.1 (by intro h0;rw [h0] at hi;simp at hi)
        rw [cellsAt_mono (HFR.out.block kg2 h2 (fun x=>x))]
        exact (HKB.out.2.2 i hi).fr0 HFR.out (fun b hb hbb=>.inl ⟨hbb,hb⟩)
      exact hvv.fr h7 (fun b hb hbb=>⟨by rcases hbb with h | h;exact .inl h.1;exact .inr (by omega),fun e=>by rcases hbb with h | h <;> omega⟩)
     ·have gk:((nk:Int) == 0)=false:=by simp;omega
      have hksne:ks≠[]:=fun h=>k0 (by rw [HN.out.1,h];rfl)
      obtain ⟨x,rr,hks1⟩:=List.exists_cons_of_ne_nil hksne
      by_cases k20:nk2=0
      ·have hks20:ks2=[]:=List.eq_nil_of_length_eq_zero (by have:=HN.out.2.1;omega)
       have HSOME:=Hd (show ((bothS ss ss2).bind fun os=>(bothK ks ks2).map fun kk=>Val.mk k e 0 t [] kk os)=some (.mk k e 0 t [] ks (sits.map (·.2))) by rw [HALL.out,hks20,hks1];rfl)
       clear hks20 hks1 hksne k0
       subst k20
       go_upto_region 20 with fail
       have hout8:=HOUT.out
       have hres8:=HRESR.out
       have hf8:=HFW.out
       have hsr8:=HSROW.out
       obtain ⟨w8,hw8⟩:∃ w8,w8=wr:=⟨_,rfl⟩
       rw [← hw8] at hout8 hres8 hf8 hsr8
       rw [← hw8]
       clear hw8 bxa bxb
       have o0:w8.cell? ⟨w.heap.size+1+1+1,0,none⟩=some (.int .u8 k):=by rw [cell_of hout8];rfl
       have o1:w8.cell? ⟨w.heap.size+1+1+1,1,none⟩=some (.int .u8 e):=by rw [cell_of hout8];rfl
       have o2:w8.cell? ⟨w.heap.size+1+1+1,2,none⟩=some (.int .u64 0):=by rw [cell_of hout8];rfl
       have o3:w8.cell? ⟨w.heap.size+1+1+1,3,none⟩=some (.string tt):=by rw [cell_of hout8];rfl
       have o4:w8.cell? ⟨w.heap.size+1+1+1,4,none⟩=some (.slice none 0 0):=by rw [cell_of hout8];rfl
       have o5:w8.cell? ⟨w.heap.size+1+1+1,5,none⟩=some (.slice ka nk kc):=by rw [cell_of hout8];rfl
       have o6:w8.cell? ⟨w.heap.size+1+1+1,6,none⟩=some (.slice ask sits.length bsk):=by rw [cell_of hout8];rfl
       obtain ⟨rc,hrc,hres⟩:=hres8
       have qx:∀ j,j<7→∃ u,w8.cell? ⟨w.heap.size+1+1,j,none⟩=some u:=fun j hj=>⟨_,by rw [cell_of hres];exact Array.getElem?_eq_getElem (by omega)⟩
       obtain ⟨u0',q0⟩:=qx 0 (by omega)
       obtain ⟨u1',q1⟩:=qx 1 (by omega)
       obtain ⟨u2',q2⟩:=qx 2 (by omega)
       obtain ⟨u3',q3⟩:=qx 3 (by omega)
       obtain ⟨u4',q4⟩:=qx 4 (by omega)
       obtain ⟨u5',q5⟩:=qx 5 (by omega)
       obtain ⟨u6',q6⟩:=qx 6 (by omega)
       have f0:=frozen_of hres 0
       have f1:=frozen_of hres 1
       have f2:=frozen_of hres 2
       have f3:=frozen_of hres 3
       have f4:=frozen_of hres 4
       have f5:=frozen_of hres 5
       have f6:=frozen_of hres 6
       have HRS:=Hd hres
       have HRC:=Hd hrc
       clear hres qx hrc
       have HFR:=Hd hf8
       have HSR:=Hd hsr8
       clear hout8 hf8 hsr8
       go_wp2_with fail
       refine bodyPost_ret (results_cell_tmp7 (P:=Tryz.prog) rfl _ _ (w.heap.size+1+1) 27 _ _ _ _ _ _ _ _ _ rfl HRC.out HRS.out Tryz.underlying27 rfl infoSVs) rfl ?_
       have h7:=fr_set7 w8 (w.heap.size+1+1) (.int .u8 k) (.int .u8 e) (.int .u64 0) (.string tt) (.slice none 0 0) (.slice ka nk kc) (.slice ask sits.length bsk)
       refine ⟨HFR.out.trans2 h7 (fun b hb e=>by omega),?_⟩
       rw [HSOME.out]
       refine ⟨[.int .u8 k,.int .u8 e,.int .u64 0,.string tt,.slice none 0 0,.slice ka nk kc,.slice ask sits.length bsk],rfl,?_⟩
       have hvv:VIs (fun b=>(B b∧b<w.heap.size)∨w.heap.size+4≤b) w8 [.int .u8 k,.int .u8 e,.int .u64 0,.string tt,.slice none 0 0,.slice ka nk kc,.slice ask sits.length bsk] (.mk k e 0 t [] ks (sits.map (·.2))):=by
        rw [HTT.out,HN.out.1]
        refine VIs.of_srow (kg:=kg) (ko:=ko) HTL.out.2.1 HTL.out.2.2 HTL.out.1 (fun h=>?_) HKA.out.2.1 (fun i hi=>?_) HSR.out (fun g hg=>.inr (ownBlock_lt HSR.out.own g hg).1) (fun b hb hbb=>by rcases hbb with h | h;exact .inl h;exact .inr h.1)
        ·obtain ⟨h1,h2,h3⟩:=HKA.out.1 h
         exact ⟨h1,by have:=HFR.out.size;omega,.inl ⟨h3,h2⟩⟩
        ·obtain ⟨h1,h2,h3⟩:=HKA.out.1 (by intro h0;rw [h0] at hi;simp at hi)
         rw [cellsAt_mono (HFR.out.block kg h2 (fun x=>x))]
         exact (HKA.out.2.2 i hi).fr0 HFR.out (fun b hb hbb=>.inl ⟨hbb,hb⟩)
       exact hvv.fr h7 (fun b hb hbb=>⟨by rcases hbb with h | h;exact .inl h.1;exact .inr (by omega),fun e=>by rcases hbb with h | h <;> omega⟩)
      ·have hks2ne:ks2≠[]:=fun h=>k20 (by rw [HN.out.2.1,h];rfl)
       obtain ⟨y,ru,hks21⟩:=List.exists_cons_of_ne_nil hks2ne
       have gk2:0<nk2:=by omega
       have gk1:0<nk:=by omega
       obtain ⟨rfl,hkg,hBk⟩:=HKA.out.1 hksne
       obtain ⟨rfl,hkg2,hBk2⟩:=HKB.out.1 hks2ne
       have hbK:bothK ks ks2=(both x y).map fun z=>[z]:=by rw [hks1,hks21];rfl
       have hkv3:VIs (fun b=>B b∧b<w.heap.size) wr (cellsAt wr kg ko 7) x:=by
        rw [cellsAt_mono (HFW.out.block kg hkg (fun x=>x))]
        have h0:=HKA.out.2.2 0 (by rw [hks1];simp)
        rw [Nat.zero_mul,Nat.add_zero] at h0
        have e0:ks[0]'(by rw [hks1];simp)=x:=by simp [hks1]
        rw [e0] at h0
        exact h0.fr0 HFW.out (fun b hb hbb=>⟨hbb,hb⟩)
       have hkv4:VIs (fun b=>B b∧b<w.heap.size) wr (cellsAt wr kg2 ko2 7) y:=by
        rw [cellsAt_mono (HFW.out.block kg2 hkg2 (fun x=>x))]
        have h0:=HKB.out.2.2 0 (by rw [hks21];simp)
        rw [Nat.zero_mul,Nat.add_zero] at h0
        have e0:ks2[0]'(by rw [hks21];simp)=y:=by simp [hks21]
        rw [e0] at h0
        exact h0.fr0 HFW.out (fun b hb hbb=>⟨hbb,hb⟩)
       obtain ⟨na3,nl3,nc3,ka3,nk3,kc3,sa3,ns3,sc3,hlit3,a0,a1,a2,a3,a4,a5,a6⟩:=hkv3.at
       obtain ⟨na4,nl4,nc4,ka4,nk4,kc4,sa4,ns4,sc4,hlit4,b0,b1,b2,b3,b4,b5,b6⟩:=hkv4.at
       have hcl:=fun (w':World) (h:Fr0 wr w')=>IHK.out x (by rw [hks1];exact List.mem_cons_self ..) (fun b=>B b∧b<w.heap.size) y [.int .u8 x.kind,.int .u8 x.elem,.int .u64 x.num,.string (strOf x.text),.slice na3 nl3 nc3,.slice ka3 nk3 kc3,.slice sa3 ns3 sc3] [.int .u8 y.kind,.int .u8 y.elem,.int .u64 y.num,.string (strOf y.text),.slice na4 nl4 nc4,.slice ka4 nk4 kc4,.slice sa4 ns4 sc4] w' (hlit3.fr0 h (fun _ _ h=>h)) (hlit4.fr0 h (fun _ _ h=>h))
       have hkgw:kg<wr.heap.size:=by have:=HFW.out.size;omega
       have hkgw2:kg2<wr.heap.size:=by have:=HFW.out.size;omega
       have HCL:=Hd hcl
       have HBK:=Hd hbK
       clear hcl hbK hkv3 hkv4 hlit3 hlit4 hks1 hks21 hksne hks2ne k0 k20
       cases hbo:both x y with
       | none =>
        have hnone:((bothS ss ss2).bind fun os=>(bothK ks ks2).map fun kk=>Val.mk k e 0 t [] kk os)=none:=by rw [HALL.out,Option.bind_some,HBK.out,hbo];rfl
        have HNONE:=Hd hnone
        have hcl2:=HCL.out
        rw [hbo] at hcl2
        have HC:=Hd hcl2
        clear hcl2 hnone hbo
        go_upto_region 16 with fail
        refine wp_region_tail_held 15 (S:=(fun w'=>Fr0 wr w')) _ (by kernel_rfl) (by kernel_rfl) (by kernel_rfl) ((Fr.refl _ wr).drew) (fun hHeld=>?_)
        simp only [List.take_succ_cons,List.take_zero,List.drop_succ_cons,List.drop_zero,List.length_cons,List.length_nil,Nat.zero_add,Nat.reduceAdd]
        refine wpAnyH_take (i:=0) (v:=.pointer (some ⟨w.heap.size,5,none⟩)) rfl (by kernel_rfl) (by kernel_rfl) (by kernel_rfl) (fun _ _ _ h=>h) (Or.inl ⟨by rfl,?_⟩) (by assumption) ?_
        ·intro w' hc
         clear hc
         go_simp
        simp only [Act.put,zA,zB,zC]
        refine wpAnyH_take (i:=1) (v:=.slice (some ⟨kg,ko,none⟩) nk kc) rfl (by kernel_rfl) (by kernel_rfl) (by kernel_rfl) (fun _ _ _ h=>h) (Or.inl ⟨by rfl,?_⟩) (by assumption) ?_
        ·intro w' hc
         have c0:=keep_fr hc bxa (fun x=>x)
         clear hc
         go_simp
        simp only [Act.put,zA,zB,zC]
        refine wpAnyH_take (i:=2) (v:=.pointer (some ⟨kg,ko,none⟩)) rfl (by kernel_rfl) (by kernel_rfl) (by kernel_rfl) (fun _ _ _ h=>h) (Or.inl ⟨by rfl,?_⟩) (by assumption) ?_
        ·intro w' hc
         clear hc
         go_simp
        simp only [Act.put,zA,zB,zC]
        refine wpAnyH_take (i:=3) (v:=.agg #[.int .u8 x.kind,.int .u8 x.elem,.int .u64 x.num,.string (strOf x.text),.slice na3 nl3 nc3,.slice ka3 nk3 kc3,.slice sa3 ns3 sc3]) rfl (by kernel_rfl) (by kernel_rfl) (by kernel_rfl) (fun _ _ _ h=>h) (Or.inl ⟨by rfl,?_⟩) (by assumption) ?_
        ·intro w' hc
         have c0:=keep_fr hc a0 (fun x=>x)
         have c1:=keep_fr hc a1 (fun x=>x)
         have c2:=keep_fr hc a2 (fun x=>x)
         have c3:=keep_fr hc a3 (fun x=>x)
         have c4:=keep_fr hc a4 (fun x=>x)
         have c5:=keep_fr hc a5 (fun x=>x)
         have c6:=keep_fr hc a6 (fun x=>x)
         clear hc
         go_simp
        simp only [Act.put,zA,zB,zC]
        refine wpAnyH_take (i:=4) (v:=.pointer (some ⟨w.heap.size+1,5,none⟩)) rfl (by kernel_rfl) (by kernel_rfl) (by kernel_rfl) (fun _ _ _ h=>h) (Or.inl ⟨by rfl,?_⟩) (by assumption) ?_
        ·intro w' hc
         clear hc
         go_simp
        simp only [Act.put,zA,zB,zC]
        refine wpAnyH_take (i:=5) (v:=.slice (some ⟨kg2,ko2,none⟩) nk2 kc2) rfl (by kernel_rfl) (by kernel_rfl) (by kernel_rfl) (fun _ _ _ h=>h) (Or.inl ⟨by rfl,?_⟩) (by assumption) ?_
        ·intro w' hc
         have c0:=keep_fr hc bxb (fun x=>x)
         clear hc
         go_simp
        simp only [Act.put,zA,zB,zC]
        refine wpAnyH_take (i:=6) (v:=.pointer (some ⟨kg2,ko2,none⟩)) rfl (by kernel_rfl) (by kernel_rfl) (by kernel_rfl) (fun _ _ _ h=>h) (Or.inl ⟨by rfl,?_⟩) (by assumption) ?_
        ·intro w' hc
         clear hc
         go_simp
        simp only [Act.put,zA,zB,zC]
        refine wpAnyH_take (i:=7) (v:=.agg #[.int .u8 y.kind,.int .u8 y.elem,.int .u64 y.num,.string (strOf y.text),.slice na4 nl4 nc4,.slice ka4 nk4 kc4,.slice sa4 ns4 sc4]) rfl (by kernel_rfl) (by kernel_rfl) (by kernel_rfl) (fun _ _ _ h=>h) (Or.inl ⟨by rfl,?_⟩) (by assumption) ?_
        ·intro w' hc
         have c0:=keep_fr hc b0 (fun x=>x)
         have c1:=keep_fr hc b1 (fun x=>x)
         have c2:=keep_fr hc b2 (fun x=>x)
         have c3:=keep_fr hc b3 (fun x=>x)
         have c4:=keep_fr hc b4 (fun x=>x)
         have c5:=keep_fr hc b5 (fun x=>x)
         have c6:=keep_fr hc b6 (fun x=>x)
         clear hc
         go_simp
        simp only [Act.put,zA,zB,zC]
        refine wpAnyH_ready (rs:=[8,12]) (by kernel_rfl) (by simp) ?_
        refine AllReadyH.cons rfl (fun K hK=>?_) (AllReadyH.cons rfl (fun K hK=>?_) AllReadyH.nil)
        ·go_simp
         refine (HC.out _ ((Fr.refl _ wr).drew)).mono ?_
         rintro e9 w6 ⟨hf6,rfl⟩
         have hS6:Fr0 wr w6:=(((Fr.refl _ wr).drew)).trans hf6
         refine hK.out _ _ hS6 (fun _=>?_)
         try simp only [Act.put,zA,zB,zC]
         refine wpAnyH_take (i:=9) (v:=.tuple #[.agg #[.int .u8 0,.int .u8 0,.int .u64 0,.string ⟨#[]⟩,.slice none 0 0,.slice none 0 0,.slice none 0 0],.bool false]) rfl (by kernel_rfl) (by kernel_rfl) (by kernel_rfl) (fun _ _ _ h=>h) (Or.inl ⟨by rfl,?_⟩) (by assumption) ?_
         ·intro w' hc
          clear hc
          go_simp
         simp only [Act.put,zA,zB,zC]
         refine wpAnyH_take (i:=10) (v:=.agg #[.int .u8 0,.int .u8 0,.int .u64 0,.string ⟨#[]⟩,.slice none 0 0,.slice none 0 0,.slice none 0 0]) rfl (by kernel_rfl) (by kernel_rfl) (by kernel_rfl) (fun _ _ _ h=>h) (Or.inl ⟨by rfl,?_⟩) (by assumption) ?_
         ·intro w' hc
          clear hc
          go_simp
         simp only [Act.put,zA,zB,zC]
         refine wpAnyH_take (i:=11) (v:=.bool false) rfl (by kernel_rfl) (by kernel_rfl) (by kernel_rfl) (fun _ _ _ h=>h) (Or.inl ⟨by rfl,?_⟩) (by assumption) ?_
         ·intro w' hc
          clear hc
          go_simp
         simp only [Act.put,zA,zB,zC]
         refine wpAnyH_ready (rs:=[12]) (by kernel_rfl) (by simp) ?_
         refine AllReadyH.cons rfl (fun K hK=>?_) AllReadyH.nil
         go_simp
         have hS7:Fr0 wr (w6.alloc (.cells #[.int .u8 0,.int .u8 0,.int .u64 0,.string ⟨#[]⟩,.slice none 0 0,.slice none 0 0,.slice none 0 0] 27)):=hS6.alloc _
         refine hK.out _ _ hS7 (fun _=>?_)
         try simp only [Act.put,zA,zB,zC]
         refine wpAnyH_ready (rs:=[13]) (by kernel_rfl) (by simp) ?_
         refine AllReadyH.cons rfl (fun K hK=>?_) AllReadyH.nil
         go_simp
         have hS8:Fr0 wr (w6.alloc (.cells #[.int .u8 0,.int .u8 0,.int .u64 0,.string ⟨#[]⟩,.slice none 0 0,.slice none 0 0,.slice none 0 0] 27)):=hS6.alloc _
         refine hK.out _ _ hS8 (fun _=>?_)
         try simp only [Act.put,zA,zB,zC]
         refine wpAnyH_take (i:=14) (v:=.bool false) rfl (by kernel_rfl) (by kernel_rfl) (by kernel_rfl) (fun _ _ _ h=>h) (Or.inl ⟨by rfl,?_⟩) (by assumption) ?_
         ·intro w' hc
          clear hc
          go_simp
         simp only [Act.put,zA,zB,zC]
         refine wpAnyH_done (by kernel_rfl) ?_ _
         show wpTail _ _ _ _ _ _ _
         refine wpTail_nil ?_
         try simp only [Act.put,zA,zB,zC]
         clear hK K
         have hx9:(w6.alloc (.cells #[.int .u8 0,.int .u8 0,.int .u64 0,.string ⟨#[]⟩,.slice none 0 0,.slice none 0 0,.slice none 0 0] 27)).heap[w6.heap.size]?=some (.cells #[.int .u8 0,.int .u8 0,.int .u64 0,.string ⟨#[]⟩,.slice none 0 0,.slice none 0 0,.slice none 0 0] 27):=heap_alloc_new _ _
         have hs9:w6.heap.size<(w6.alloc (.cells #[.int .u8 0,.int .u8 0,.int .u64 0,.string ⟨#[]⟩,.slice none 0 0,.slice none 0 0,.slice none 0 0] 27)).heap.size:=by simp
         generalize hw9:w6.alloc (.cells #[.int .u8 0,.int .u8 0,.int .u64 0,.string ⟨#[]⟩,.slice none 0 0,.slice none 0 0,.slice none 0 0] 27)=w9 at *
         obtain ⟨X,hX⟩:∃ X,X=w6.heap.size:=⟨_,rfl⟩
         try rw [← hX] at hx9 hs9 ⊢
         have HS9:=Hd hS8
         have HX9:=Hd hx9
         clear hw9 hS8 hx9 a0 a1 a2 a3 a4 a5 a6 b0 b1 b2 b3 b4 b5 b6 bxa bxb
         have hres8:∃ c:Array Value,c.size=7∧w9.heap[w.heap.size+1+1]?=some (.cells c 27):=by
          obtain ⟨c,h1,h2⟩:=HRESR.out
          exact ⟨c,h1,(HS9.out.block _ (by omega) (fun x=>x)).trans h2⟩
         obtain ⟨rc,hrc,hres⟩:=hres8
         have qx:∀ j,j<7→∃ u,w9.cell? ⟨w.heap.size+1+1,j,none⟩=some u:=fun j hj=>⟨_,by rw [cell_of hres];exact Array.getElem?_eq_getElem (by omega)⟩
         obtain ⟨u0',q0⟩:=qx 0 (by omega)
         obtain ⟨u1',q1⟩:=qx 1 (by omega)
         obtain ⟨u2',q2⟩:=qx 2 (by omega)
         obtain ⟨u3',q3⟩:=qx 3 (by omega)
         obtain ⟨u4',q4⟩:=qx 4 (by omega)
         obtain ⟨u5',q5⟩:=qx 5 (by omega)
         obtain ⟨u6',q6⟩:=qx 6 (by omega)
         have f0:=frozen_of hres 0
         have f1:=frozen_of hres 1
         have f2:=frozen_of hres 2
         have f3:=frozen_of hres 3
         have f4:=frozen_of hres 4
         have f5:=frozen_of hres 5
         have f6:=frozen_of hres 6
         have HRS:=Hd hres
         have HRC:=Hd hrc
         clear hres qx hrc
         have HFR:=Hd (HFW.out.trans HS9.out)
         clear hX
         go_wp2_with fail
         refine bodyPost_ret (results_cell_tmp7 (P:=Tryz.prog) rfl _ _ (w.heap.size+1+1) 27 _ _ _ _ _ _ _ _ _ rfl HRC.out HRS.out Tryz.underlying27 rfl infoSVs) rfl ?_
         refine ⟨HFR.out.trans2 (fr_set7 w9 (w.heap.size+1+1) (.int .u8 0) (.int .u8 0) (.int .u64 0) (.string ⟨#[]⟩) (.slice none 0 0) (.slice none 0 0) (.slice none 0 0)) (fun b hb e=>by omega),?_⟩
         rw [HNONE.out]
         exact rfl
        ·go_simp
         have hS5:Fr0 wr (wr.drew.alloc (.cells #[.int .u8 0,.int .u8 0,.int .u64 0,.string ⟨#[]⟩,.slice none 0 0,.slice none 0 0,.slice none 0 0] 27)):=((Fr.refl _ wr).drew).alloc _
         refine hK.out _ _ hS5 (fun _=>?_)
         try simp only [Act.put,zA,zB,zC]
         refine wpAnyH_ready (rs:=[8]) (by kernel_rfl) (by simp) ?_
         refine AllReadyH.cons rfl (fun K hK=>?_) AllReadyH.nil
         go_simp
         refine (HC.out _ hS5).mono ?_
         rintro e9 w6 ⟨hf6,rfl⟩
         have hS6:Fr0 wr w6:=(hS5).trans hf6
         refine hK.out _ _ hS6 (fun _=>?_)
         try simp only [Act.put,zA,zB,zC]
         refine wpAnyH_take (i:=9) (v:=.tuple #[.agg #[.int .u8 0,.int .u8 0,.int .u64 0,.string ⟨#[]⟩,.slice none 0 0,.slice none 0 0,.slice none 0 0],.bool false]) rfl (by kernel_rfl) (by kernel_rfl) (by kernel_rfl) (fun _ _ _ h=>h) (Or.inl ⟨by rfl,?_⟩) (by assumption) ?_
         ·intro w' hc
          clear hc
          go_simp
         simp only [Act.put,zA,zB,zC]
         refine wpAnyH_take (i:=10) (v:=.agg #[.int .u8 0,.int .u8 0,.int .u64 0,.string ⟨#[]⟩,.slice none 0 0,.slice none 0 0,.slice none 0 0]) rfl (by kernel_rfl) (by kernel_rfl) (by kernel_rfl) (fun _ _ _ h=>h) (Or.inl ⟨by rfl,?_⟩) (by assumption) ?_
         ·intro w' hc
          clear hc
          go_simp
         simp only [Act.put,zA,zB,zC]
         refine wpAnyH_take (i:=11) (v:=.bool false) rfl (by kernel_rfl) (by kernel_rfl) (by kernel_rfl) (fun _ _ _ h=>h) (Or.inl ⟨by rfl,?_⟩) (by assumption) ?_
         ·intro w' hc
          clear hc
          go_simp
         simp only [Act.put,zA,zB,zC]
         have hz5:(wr.drew.alloc (.cells #[.int .u8 0,.int .u8 0,.int .u64 0,.string ⟨#[]⟩,.slice none 0 0,.slice none 0 0,.slice none 0 0] 27)).heap[wr.heap.size]?=some (.cells #[.int .u8 0,.int .u8 0,.int .u64 0,.string ⟨#[]⟩,.slice none 0 0,.slice none 0 0,.slice none 0 0] 27):=heap_alloc_new wr.drew _
         have hz6:=(hf6.block wr.heap.size (by simp) (fun x=>x)).trans hz5
         have zx:=fun j u (hu:(#[.int .u8 0,.int .u8 0,.int .u64 0,.string ⟨#[]⟩,.slice none 0 0,.slice none 0 0,.slice none 0 0]:Array Value)[j]?=some u)=>(cell_of hz6 j).trans hu
         have z0:=zx 0 _ rfl
         have z1:=zx 1 _ rfl
         have z2:=zx 2 _ rfl
         have z3:=zx 3 _ rfl
         have z4:=zx 4 _ rfl
         have z5:=zx 5 _ rfl
         have z6:=zx 6 _ rfl
         have f0:=frozen_of hz6 0
         have f1:=frozen_of hz6 1
         have f2:=frozen_of hz6 2
         have f3:=frozen_of hz6 3
         have f4:=frozen_of hz6 4
         have f5:=frozen_of hz6 5
         have f6:=frozen_of hz6 6
         have h7:=fr_set7 w6 wr.heap.size (.int .u8 0) (.int .u8 0) (.int .u64 0) (.string ⟨#[]⟩) (.slice none 0 0) (.slice none 0 0) (.slice none 0 0)
         have hS8:Fr0 wr (((((((w6.setCell ⟨wr.heap.size,0,none⟩ (.int .u8 0)).setCell ⟨wr.heap.size,1,none⟩ (.int .u8 0)).setCell ⟨wr.heap.size,2,none⟩ (.int .u64 0)).setCell ⟨wr.heap.size,3,none⟩ (.string ⟨#[]⟩)).setCell ⟨wr.heap.size,4,none⟩ (.slice none 0 0)).setCell ⟨wr.heap.size,5,none⟩ (.slice none 0 0)).setCell ⟨wr.heap.size,6,none⟩ (.slice none 0 0)):=hS6.trans2 h7 (fun b hb e=>by omega)
         have hx9:=(heap_setCell_same (heap_setCell_same (heap_setCell_same (heap_setCell_same (heap_setCell_same (heap_setCell_same (heap_setCell_same hz6 0 (.int .u8 0)) 1 (.int .u8 0)) 2 (.int .u64 0)) 3 (.string ⟨#[]⟩)) 4 (.slice none 0 0)) 5 (.slice none 0 0)) 6 (.slice none 0 0))
         rw [set7_all] at hx9
         clear zx
         refine wpAnyH_ready (rs:=[13]) (by kernel_rfl) (by simp) ?_
         refine AllReadyH.cons rfl (fun K hK=>?_) AllReadyH.nil
         go_simp
         refine hK.out _ _ hS8 (fun _=>?_)
         try simp only [Act.put,zA,zB,zC]
         refine wpAnyH_take (i:=14) (v:=.bool false) rfl (by kernel_rfl) (by kernel_rfl) (by kernel_rfl) (fun _ _ _ h=>h) (Or.inl ⟨by rfl,?_⟩) (by assumption) ?_
         ·intro w' hc
          clear hc
          go_simp
         simp only [Act.put,zA,zB,zC]
         refine wpAnyH_done (by kernel_rfl) ?_ _
         show wpTail _ _ _ _ _ _ _
         refine wpTail_nil ?_
         try simp only [Act.put,zA,zB,zC]
         clear hK K z0 z1 z2 z3 z4 z5 z6 f0 f1 f2 f3 f4 f5 f6
         have hs9:wr.heap.size<(((((((w6.setCell ⟨wr.heap.size,0,none⟩ (.int .u8 0)).setCell ⟨wr.heap.size,1,none⟩ (.int .u8 0)).setCell ⟨wr.heap.size,2,none⟩ (.int .u64 0)).setCell ⟨wr.heap.size,3,none⟩ (.string ⟨#[]⟩)).setCell ⟨wr.heap.size,4,none⟩ (.slice none 0 0)).setCell ⟨wr.heap.size,5,none⟩ (.slice none 0 0)).setCell ⟨wr.heap.size,6,none⟩ (.slice none 0 0)).heap.size:=by have:=hS8.size;have:=hf6.size;simp at this;simp [World.setCell];omega
         generalize hw9:(((((((w6.setCell ⟨wr.heap.size,0,none⟩ (.int .u8 0)).setCell ⟨wr.heap.size,1,none⟩ (.int .u8 0)).setCell ⟨wr.heap.size,2,none⟩ (.int .u64 0)).setCell ⟨wr.heap.size,3,none⟩ (.string ⟨#[]⟩)).setCell ⟨wr.heap.size,4,none⟩ (.slice none 0 0)).setCell ⟨wr.heap.size,5,none⟩ (.slice none 0 0)).setCell ⟨wr.heap.size,6,none⟩ (.slice none 0 0))=w9 at *
         obtain ⟨X,hX⟩:∃ X,X=wr.heap.size:=⟨_,rfl⟩
         try rw [← hX] at hx9 hs9 ⊢
         have HS9:=Hd hS8
         have HX9:=Hd hx9
         clear hw9 hS8 hx9 a0 a1 a2 a3 a4 a5 a6 b0 b1 b2 b3 b4 b5 b6 bxa bxb
         have hres8:∃ c:Array Value,c.size=7∧w9.heap[w.heap.size+1+1]?=some (.cells c 27):=by
          obtain ⟨c,h1,h2⟩:=HRESR.out
          exact ⟨c,h1,(HS9.out.block _ (by omega) (fun x=>x)).trans h2⟩
         obtain ⟨rc,hrc,hres⟩:=hres8
         have qx:∀ j,j<7→∃ u,w9.cell? ⟨w.heap.size+1+1,j,none⟩=some u:=fun j hj=>⟨_,by rw [cell_of hres];exact Array.getElem?_eq_getElem (by omega)⟩
         obtain ⟨u0',q0⟩:=qx 0 (by omega)
         obtain ⟨u1',q1⟩:=qx 1 (by omega)
         obtain ⟨u2',q2⟩:=qx 2 (by omega)
         obtain ⟨u3',q3⟩:=qx 3 (by omega)
         obtain ⟨u4',q4⟩:=qx 4 (by omega)
         obtain ⟨u5',q5⟩:=qx 5 (by omega)
         obtain ⟨u6',q6⟩:=qx 6 (by omega)
         have f0:=frozen_of hres 0
         have f1:=frozen_of hres 1
         have f2:=frozen_of hres 2
         have f3:=frozen_of hres 3
         have f4:=frozen_of hres 4
         have f5:=frozen_of hres 5
         have f6:=frozen_of hres 6
         have HRS:=Hd hres
         have HRC:=Hd hrc
         clear hres qx hrc
         have HFR:=Hd (HFW.out.trans HS9.out)
         clear hX
         go_wp2_with fail
         refine bodyPost_ret (results_cell_tmp7 (P:=Tryz.prog) rfl _ _ (w.heap.size+1+1) 27 _ _ _ _ _ _ _ _ _ rfl HRC.out HRS.out Tryz.underlying27 rfl infoSVs) rfl ?_
         refine ⟨HFR.out.trans2 (fr_set7 w9 (w.heap.size+1+1) (.int .u8 0) (.int .u8 0) (.int .u64 0) (.string ⟨#[]⟩) (.slice none 0 0) (.slice none 0 0) (.slice none 0 0)) (fun b hb e=>by omega),?_⟩
         rw [HNONE.out]
         exact rfl
       | some cv =>
        have hsome:((bothS ss ss2).bind fun os=>(bothK ks ks2).map fun kk=>Val.mk k e 0 t [] kk os)=some (.mk k e 0 t [] [cv] (sits.map (·.2))):=by rw [HALL.out,Option.bind_some,HBK.out,hbo];rfl
        have HSOME:=Hd hsome
        have hcl2:=HCL.out
        rw [hbo] at hcl2
        have HC:=Hd hcl2
        clear hcl2 hsome hbo
        go_upto_region 16 with fail
        refine wp_region_tail_held 15 (S:=(fun w'=>Fr0 wr w')) _ (by kernel_rfl) (by kernel_rfl) (by kernel_rfl) ((Fr.refl _ wr).drew) (fun hHeld=>?_)
        simp only [List.take_succ_cons,List.take_zero,List.drop_succ_cons,List.drop_zero,List.length_cons,List.length_nil,Nat.zero_add,Nat.reduceAdd]
        refine wpAnyH_take (i:=0) (v:=.pointer (some ⟨w.heap.size,5,none⟩)) rfl (by kernel_rfl) (by kernel_rfl) (by kernel_rfl) (fun _ _ _ h=>h) (Or.inl ⟨by rfl,?_⟩) (by assumption) ?_
        ·intro w' hc
         clear hc
         go_simp
        simp only [Act.put,zA,zB,zC]
        refine wpAnyH_take (i:=1) (v:=.slice (some ⟨kg,ko,none⟩) nk kc) rfl (by kernel_rfl) (by kernel_rfl) (by kernel_rfl) (fun _ _ _ h=>h) (Or.inl ⟨by rfl,?_⟩) (by assumption) ?_
        ·intro w' hc
         have c0:=keep_fr hc bxa (fun x=>x)
         clear hc
         go_simp
        simp only [Act.put,zA,zB,zC]
        refine wpAnyH_take (i:=2) (v:=.pointer (some ⟨kg,ko,none⟩)) rfl (by kernel_rfl) (by kernel_rfl) (by kernel_rfl) (fun _ _ _ h=>h) (Or.inl ⟨by rfl,?_⟩) (by assumption) ?_
        ·intro w' hc
         clear hc
         go_simp
        simp only [Act.put,zA,zB,zC]
        refine wpAnyH_take (i:=3) (v:=.agg #[.int .u8 x.kind,.int .u8 x.elem,.int .u64 x.num,.string (strOf x.text),.slice na3 nl3 nc3,.slice ka3 nk3 kc3,.slice sa3 ns3 sc3]) rfl (by kernel_rfl) (by kernel_rfl) (by kernel_rfl) (fun _ _ _ h=>h) (Or.inl ⟨by rfl,?_⟩) (by assumption) ?_
        ·intro w' hc
         have c0:=keep_fr hc a0 (fun x=>x)
         have c1:=keep_fr hc a1 (fun x=>x)
         have c2:=keep_fr hc a2 (fun x=>x)
         have c3:=keep_fr hc a3 (fun x=>x)
         have c4:=keep_fr hc a4 (fun x=>x)
         have c5:=keep_fr hc a5 (fun x=>x)
         have c6:=keep_fr hc a6 (fun x=>x)
         clear hc
         go_simp
        simp only [Act.put,zA,zB,zC]
        refine wpAnyH_take (i:=4) (v:=.pointer (some ⟨w.heap.size+1,5,none⟩)) rfl (by kernel_rfl) (by kernel_rfl) (by kernel_rfl) (fun _ _ _ h=>h) (Or.inl ⟨by rfl,?_⟩) (by assumption) ?_
        ·intro w' hc
         clear hc
         go_simp
        simp only [Act.put,zA,zB,zC]
        refine wpAnyH_take (i:=5) (v:=.slice (some ⟨kg2,ko2,none⟩) nk2 kc2) rfl (by kernel_rfl) (by kernel_rfl) (by kernel_rfl) (fun _ _ _ h=>h) (Or.inl ⟨by rfl,?_⟩) (by assumption) ?_
        ·intro w' hc
         have c0:=keep_fr hc bxb (fun x=>x)
         clear hc
         go_simp
        simp only [Act.put,zA,zB,zC]
        refine wpAnyH_take (i:=6) (v:=.pointer (some ⟨kg2,ko2,none⟩)) rfl (by kernel_rfl) (by kernel_rfl) (by kernel_rfl) (fun _ _ _ h=>h) (Or.inl ⟨by rfl,?_⟩) (by assumption) ?_
        ·intro w' hc
         clear hc
         go_simp
        simp only [Act.put,zA,zB,zC]
        refine wpAnyH_take (i:=7) (v:=.agg #[.int .u8 y.kind,.int .u8 y.elem,.int .u64 y.num,.string (strOf y.text),.slice na4 nl4 nc4,.slice ka4 nk4 kc4,.slice sa4 ns4 sc4]) rfl (by kernel_rfl) (by kernel_rfl) (by kernel_rfl) (fun _ _ _ h=>h) (Or.inl ⟨by rfl,?_⟩) (by assumption) ?_
        ·intro w' hc
         have c0:=keep_fr hc b0 (fun x=>x)
         have c1:=keep_fr hc b1 (fun x=>x)
         have c2:=keep_fr hc b2 (fun x=>x)
         have c3:=keep_fr hc b3 (fun x=>x)
         have c4:=keep_fr hc b4 (fun x=>x)
         have c5:=keep_fr hc b5 (fun x=>x)
         have c6:=keep_fr hc b6 (fun x=>x)
         clear hc
         go_simp
        simp only [Act.put,zA,zB,zC]
        refine wpAnyH_ready (rs:=[8,12]) (by kernel_rfl) (by simp) ?_
        refine AllReadyH.cons rfl (fun K hK=>?_) (AllReadyH.cons rfl (fun K hK=>?_) AllReadyH.nil)
        ·go_simp
         refine (HC.out _ ((Fr.refl _ wr).drew)).mono ?_
         rintro e9 w6 ⟨hf6,cs6,rfl,hv6⟩
         obtain ⟨na6,nl6,nc6,ka6,nk6,kc6,sa6,ns6,sc6,rfl⟩:=hv6.lit
         have HV6:=Hd hv6
         clear hv6
         have hS6:Fr0 wr w6:=(((Fr.refl _ wr).drew)).trans hf6
         refine hK.out _ _ hS6 (fun _=>?_)
         try simp only [Act.put,zA,zB,zC]
         refine wpAnyH_take (i:=9) (v:=.tuple #[.agg #[.int .u8 cv.kind,.int .u8 cv.elem,.int .u64 cv.num,.string (strOf cv.text),.slice na6 nl6 nc6,.slice ka6 nk6 kc6,.slice sa6 ns6 sc6],.bool true]) rfl (by kernel_rfl) (by kernel_rfl) (by kernel_rfl) (fun _ _ _ h=>h) (Or.inl ⟨by rfl,?_⟩) (by assumption) ?_
         ·intro w' hc
          clear hc
          go_simp
         simp only [Act.put,zA,zB,zC]
         refine wpAnyH_take (i:=10) (v:=.agg #[.int .u8 cv.kind,.int .u8 cv.elem,.int .u64 cv.num,.string (strOf cv.text),.slice na6 nl6 nc6,.slice ka6 nk6 kc6,.slice sa6 ns6 sc6]) rfl (by kernel_rfl) (by kernel_rfl) (by kernel_rfl) (fun _ _ _ h=>h) (Or.inl ⟨by rfl,?_⟩) (by assumption) ?_
         ·intro w' hc
          clear hc
          go_simp
         simp only [Act.put,zA,zB,zC]
         refine wpAnyH_take (i:=11) (v:=.bool true) rfl (by kernel_rfl) (by kernel_rfl) (by kernel_rfl) (fun _ _ _ h=>h) (Or.inl ⟨by rfl,?_⟩) (by assumption) ?_
         ·intro w' hc
          clear hc
          go_simp
         simp only [Act.put,zA,zB,zC]
         refine wpAnyH_ready (rs:=[12]) (by kernel_rfl) (by simp) ?_
         refine AllReadyH.cons rfl (fun K hK=>?_) AllReadyH.nil
         go_simp
         have hS7:Fr0 wr (w6.alloc (.cells #[.int .u8 0,.int .u8 0,.int .u64 0,.string ⟨#[]⟩,.slice none 0 0,.slice none 0 0,.slice none 0 0] 27)):=hS6.alloc _
         refine hK.out _ _ hS7 (fun _=>?_)
         try simp only [Act.put,zA,zB,zC]
         refine wpAnyH_ready (rs:=[13]) (by kernel_rfl) (by simp) ?_
         refine AllReadyH.cons rfl (fun K hK=>?_) AllReadyH.nil
         go_simp
         have hS8:Fr0 wr (w6.alloc (.cells #[.int .u8 cv.kind,.int .u8 cv.elem,.int .u64 cv.num,.string (strOf cv.text),.slice na6 nl6 nc6,.slice ka6 nk6 kc6,.slice sa6 ns6 sc6] 27)):=hS6.alloc _
         refine hK.out _ _ hS8 (fun _=>?_)
         try simp only [Act.put,zA,zB,zC]
         refine wpAnyH_take (i:=14) (v:=.bool true) rfl (by kernel_rfl) (by kernel_rfl) (by kernel_rfl) (fun _ _ _ h=>h) (Or.inl ⟨by rfl,?_⟩) (by assumption) ?_
         ·intro w' hc
          clear hc
          go_simp
         simp only [Act.put,zA,zB,zC]
         refine wpAnyH_done (by kernel_rfl) ?_ _
         show wpTail _ _ _ _ _ _ _
         refine wpTail_nil ?_
         try simp only [Act.put,zA,zB,zC]
         clear hK K
         have hx9:(w6.alloc (.cells #[.int .u8 cv.kind,.int .u8 cv.elem,.int .u64 cv.num,.string (strOf cv.text),.slice na6 nl6 nc6,.slice ka6 nk6 kc6,.slice sa6 ns6 sc6] 27)).heap[w6.heap.size]?=some (.cells #[.int .u8 cv.kind,.int .u8 cv.elem,.int .u64 cv.num,.string (strOf cv.text),.slice na6 nl6 nc6,.slice ka6 nk6 kc6,.slice sa6 ns6 sc6] 27):=heap_alloc_new _ _
         have hs9:w6.heap.size<(w6.alloc (.cells #[.int .u8 cv.kind,.int .u8 cv.elem,.int .u64 cv.num,.string (strOf cv.text),.slice na6 nl6 nc6,.slice ka6 nk6 kc6,.slice sa6 ns6 sc6] 27)).heap.size:=by simp
         have hv9:VIs (fun b=>(B b∧b<w.heap.size)∨wr.heap.size≤b) (w6.alloc (.cells #[.int .u8 cv.kind,.int .u8 cv.elem,.int .u64 cv.num,.string (strOf cv.text),.slice na6 nl6 nc6,.slice ka6 nk6 kc6,.slice sa6 ns6 sc6] 27)) [.int .u8 cv.kind,.int .u8 cv.elem,.int .u64 cv.num,.string (strOf cv.text),.slice na6 nl6 nc6,.slice ka6 nk6 kc6,.slice sa6 ns6 sc6] cv:=HV6.out.fr0 ((Fr.refl _ w6).alloc _) (fun b hb hbb=>hbb.imp id (fun h=>by simp at h;omega))
         generalize hw9:w6.alloc (.cells #[.int .u8 cv.kind,.int .u8 cv.elem,.int .u64 cv.num,.string (strOf cv.text),.slice na6 nl6 nc6,.slice ka6 nk6 kc6,.slice sa6 ns6 sc6] 27)=w9 at *
         obtain ⟨X,hX⟩:∃ X,X=w6.heap.size:=⟨_,rfl⟩
         try rw [← hX] at hx9 hs9 ⊢
         have HS9:=Hd hS8
         have HX9:=Hd hx9
         have HV9:=Hd hv9
         clear hv9
         clear hw9 hS8 hx9 a0 a1 a2 a3 a4 a5 a6 b0 b1 b2 b3 b4 b5 b6 bxa bxb
         have hres8:∃ c:Array Value,c.size=7∧w9.heap[w.heap.size+1+1]?=some (.cells c 27):=by
          obtain ⟨c,h1,h2⟩:=HRESR.out
          exact ⟨c,h1,(HS9.out.block _ (by omega) (fun x=>x)).trans h2⟩
         have yx:=fun j u (hu:(#[.int .u8 cv.kind,.int .u8 cv.elem,.int .u64 cv.num,.string (strOf cv.text),.slice na6 nl6 nc6,.slice ka6 nk6 kc6,.slice sa6 ns6 sc6]:Array Value)[j]?=some u)=>(cell_of HX9.out j).trans hu
         have y0:=yx 0 _ rfl
         have y1:=yx 1 _ rfl
         have y2:=yx 2 _ rfl
         have y3:=yx 3 _ rfl
         have y4:=yx 4 _ rfl
         have y5:=yx 5 _ rfl
         have y6:=yx 6 _ rfl
         have hout9:=(HS9.out.block (w.heap.size+1+1+1) (by omega) (fun x=>x)).trans HOUT.out
         have cO5:w9.cell? ⟨w.heap.size+1+1+1,5,none⟩=some (.slice (some ⟨kg,ko,none⟩) nk kc):=by rw [cell_of hout9];rfl
         have fO5:=frozen_of hout9 5
         have cO6:=keep_alloc (.cells #[.int .u8 cv.kind,.int .u8 cv.elem,.int .u64 cv.num,.string (strOf cv.text),.slice na6 nl6 nc6,.slice ka6 nk6 kc6,.slice sa6 ns6 sc6] 27) cO5
         have fO6:=keep_allocF (.cells #[.int .u8 cv.kind,.int .u8 cv.elem,.int .u64 cv.num,.string (strOf cv.text),.slice na6 nl6 nc6,.slice ka6 nk6 kc6,.slice sa6 ns6 sc6] 27) cO5 fO5
         have HOUT9:=Hd hout9
         have HRES8:=Hd hres8
         have hs9w:wr.heap.size≤w9.heap.size:=HS9.out.size
         clear yx hout9 hres8 hX
         go_upto_region 20 with fail
         have hout8:((w9.alloc (.cells #[.int .u8 cv.kind,.int .u8 cv.elem,.int .u64 cv.num,.string (strOf cv.text),.slice na6 nl6 nc6,.slice ka6 nk6 kc6,.slice sa6 ns6 sc6] 27)).setCell ⟨w.heap.size+1+1+1,5,none⟩ (.slice (some ⟨w9.heap.size,0,none⟩) 1 1)).heap[w.heap.size+1+1+1]?=some (.cells #[.int .u8 k,.int .u8 e,.int .u64 0,.string tt,.slice none 0 0,.slice (some ⟨w9.heap.size,0,none⟩) 1 1,.slice ask sits.length bsk] 27):=by
          have h0:=(heap_alloc_old w9 (.cells #[.int .u8 cv.kind,.int .u8 cv.elem,.int .u64 cv.num,.string (strOf cv.text),.slice na6 nl6 nc6,.slice ka6 nk6 kc6,.slice sa6 ns6 sc6] 27) (w.heap.size+1+1+1) (by omega)).trans HOUT9.out
          have:=heap_setCell_same h0 5 (.slice (some ⟨w9.heap.size,0,none⟩) 1 1)
          rw [this];rfl
         have hres8:∃ c:Array Value,c.size=7∧((w9.alloc (.cells #[.int .u8 cv.kind,.int .u8 cv.elem,.int .u64 cv.num,.string (strOf cv.text),.slice na6 nl6 nc6,.slice ka6 nk6 kc6,.slice sa6 ns6 sc6] 27)).setCell ⟨w.heap.size+1+1+1,5,none⟩ (.slice (some ⟨w9.heap.size,0,none⟩) 1 1)).heap[w.heap.size+1+1]?=some (.cells c 27):=by
          obtain ⟨c,h1,h2⟩:=HRES8.out
          exact ⟨c,h1,by rw [heap_setCell_other _ _ _ _ (by show w.heap.size+1+1≠w.heap.size+1+1+1;omega),heap_alloc_old _ _ _ (by omega)];exact h2⟩
         have hf98:Fr (fun b=>b=w.heap.size+1+1+1) w9 ((w9.alloc (.cells #[.int .u8 cv.kind,.int .u8 cv.elem,.int .u64 cv.num,.string (strOf cv.text),.slice na6 nl6 nc6,.slice ka6 nk6 kc6,.slice sa6 ns6 sc6] 27)).setCell ⟨w.heap.size+1+1+1,5,none⟩ (.slice (some ⟨w9.heap.size,0,none⟩) 1 1)):=((Fr.refl (fun b=>b=w.heap.size+1+1+1) w9).alloc _).setCell (p:=⟨w.heap.size+1+1+1,5,none⟩) (fun _=>rfl) _
         have hg8:((w9.alloc (.cells #[.int .u8 cv.kind,.int .u8 cv.elem,.int .u64 cv.num,.string (strOf cv.text),.slice na6 nl6 nc6,.slice ka6 nk6 kc6,.slice sa6 ns6 sc6] 27)).setCell ⟨w.heap.size+1+1+1,5,none⟩ (.slice (some ⟨w9.heap.size,0,none⟩) 1 1)).heap[w9.heap.size]?=some (.cells #[.int .u8 cv.kind,.int .u8 cv.elem,.int .u64 cv.num,.string (strOf cv.text),.slice na6 nl6 nc6,.slice ka6 nk6 kc6,.slice sa6 ns6 sc6] 27):=by
          rw [heap_setCell_other _ _ _ _ (by show w9.heap.size≠w.heap.size+1+1+1;omega)];exact heap_alloc_new _ _
         have hsz8:w9.heap.size<((w9.alloc (.cells #[.int .u8 cv.kind,.int .u8 cv.elem,.int .u64 cv.num,.string (strOf cv.text),.slice na6 nl6 nc6,.slice ka6 nk6 kc6,.slice sa6 ns6 sc6] 27)).setCell ⟨w.heap.size+1+1+1,5,none⟩ (.slice (some ⟨w9.heap.size,0,none⟩) 1 1)).heap.size:=by rw [size_setCell,size_alloc];omega
         generalize hw8:((w9.alloc (.cells #[.int .u8 cv.kind,.int .u8 cv.elem,.int .u64 cv.num,.string (strOf cv.text),.slice na6 nl6 nc6,.slice ka6 nk6 kc6,.slice sa6 ns6 sc6] 27)).setCell ⟨w.heap.size+1+1+1,5,none⟩ (.slice (some ⟨w9.heap.size,0,none⟩) 1 1))=w8 at *
         clear hw8 cO5 fO5 cO6 fO6 y0 y1 y2 y3 y4 y5 y6
         have hf8:Fr0 w w8:=(HFW.out.trans HS9.out).trans2 hf98 (fun b hb e=>by omega)
         have hsr8:=(HSROW.out.fr sltP_mono (B':=BI B w.heap.size 4 (.slice ask sits.length bsk)) HS9.out (fun g hg e=>e) (fun b hb hbb=>⟨hbb,fun e=>e⟩)).fr sltP_mono (B':=BI B w.heap.size 4 (.slice ask sits.length bsk)) hf98 (fun g hg e=>by have:=(ownBlock_lt HSROW.out.own g hg).1;omega) (fun b hb hbb=>⟨hbb,fun e=>by rcases hbb with h | h <;> omega⟩)
         have hv8:VIs (fun b=>(B b∧b<w.heap.size)∨w.heap.size+4≤b) w8 [.int .u8 cv.kind,.int .u8 cv.elem,.int .u64 cv.num,.string (strOf cv.text),.slice na6 nl6 nc6,.slice ka6 nk6 kc6,.slice sa6 ns6 sc6] cv:=HV9.out.fr hf98 (fun b hb hbb=>⟨hbb.imp id (fun h=>by omega),fun e=>by rcases hbb with h | h <;> omega⟩)
         have hcg:cellsAt w8 w9.heap.size (0+0*7) 7=[.int .u8 cv.kind,.int .u8 cv.elem,.int .u64 cv.num,.string (strOf cv.text),.slice na6 nl6 nc6,.slice ka6 nk6 kc6,.slice sa6 ns6 sc6]:=cellsAt_of rfl (fun j u hu=>by rw [show 0+0*7+j=j by omega,cell_of hg8];simpa using hu)
         have HV8:=Hd (And.intro hv8 (And.intro hcg hsz8))
         clear hv8 hcg hg8 hsz8 hf98
         have o0:w8.cell? ⟨w.heap.size+1+1+1,0,none⟩=some (.int .u8 k):=by rw [cell_of hout8];rfl
         have o1:w8.cell? ⟨w.heap.size+1+1+1,1,none⟩=some (.int .u8 e):=by rw [cell_of hout8];rfl
         have o2:w8.cell? ⟨w.heap.size+1+1+1,2,none⟩=some (.int .u64 0):=by rw [cell_of hout8];rfl
         have o3:w8.cell? ⟨w.heap.size+1+1+1,3,none⟩=some (.string tt):=by rw [cell_of hout8];rfl
         have o4:w8.cell? ⟨w.heap.size+1+1+1,4,none⟩=some (.slice none 0 0):=by rw [cell_of hout8];rfl
         have o5:w8.cell? ⟨w.heap.size+1+1+1,5,none⟩=some (.slice (some ⟨w9.heap.size,0,none⟩) 1 1):=by rw [cell_of hout8];rfl
         have o6:w8.cell? ⟨w.heap.size+1+1+1,6,none⟩=some (.slice ask sits.length bsk):=by rw [cell_of hout8];rfl
         obtain ⟨rc,hrc,hres⟩:=hres8
         have qx:∀ j,j<7→∃ u,w8.cell? ⟨w.heap.size+1+1,j,none⟩=some u:=fun j hj=>⟨_,by rw [cell_of hres];exact Array.getElem?_eq_getElem (by omega)⟩
         obtain ⟨u0',q0⟩:=qx 0 (by omega)
         obtain ⟨u1',q1⟩:=qx 1 (by omega)
         obtain ⟨u2',q2⟩:=qx 2 (by omega)
         obtain ⟨u3',q3⟩:=qx 3 (by omega)
         obtain ⟨u4',q4⟩:=qx 4 (by omega)
         obtain ⟨u5',q5⟩:=qx 5 (by omega)
         obtain ⟨u6',q6⟩:=qx 6 (by omega)
         have f0:=frozen_of hres 0
         have f1:=frozen_of hres 1
         have f2:=frozen_of hres 2
         have f3:=frozen_of hres 3
         have f4:=frozen_of hres 4
         have f5:=frozen_of hres 5
         have f6:=frozen_of hres 6
         have HRS:=Hd hres
         have HRC:=Hd hrc
         clear hres qx hrc
         have HFR:=Hd hf8
         have HSR:=Hd hsr8
         clear hout8 hf8 hsr8
         go_wp2_with fail
         refine bodyPost_ret (results_cell_tmp7 (P:=Tryz.prog) rfl _ _ (w.heap.size+1+1) 27 _ _ _ _ _ _ _ _ _ rfl HRC.out HRS.out Tryz.underlying27 rfl infoSVs) rfl ?_
         have h7:=fr_set7 w8 (w.heap.size+1+1) (.int .u8 k) (.int .u8 e) (.int .u64 0) (.string tt) (.slice none 0 0) (.slice (some ⟨w9.heap.size,0,none⟩) 1 1) (.slice ask sits.length bsk)
         refine ⟨HFR.out.trans2 h7 (fun b hb e=>by omega),?_⟩
         rw [HSOME.out]
         refine ⟨[.int .u8 k,.int .u8 e,.int .u64 0,.string tt,.slice none 0 0,.slice (some ⟨w9.heap.size,0,none⟩) 1 1,.slice ask sits.length bsk],rfl,?_⟩
         have hvv:VIs (fun b=>(B b∧b<w.heap.size)∨w.heap.size+4≤b) w8 [.int .u8 k,.int .u8 e,.int .u64 0,.string tt,.slice none 0 0,.slice (some ⟨w9.heap.size,0,none⟩) 1 1,.slice ask sits.length bsk] (.mk k e 0 t [] [cv] (sits.map (·.2))):=by
          rw [HTT.out]
          refine VIs.of_srow (kg:=w9.heap.size) (ko:=0) (ks:=[cv]) HTL.out.2.1 HTL.out.2.2 HTL.out.1 (fun h=>⟨rfl,HV8.out.2.2,.inr (by omega)⟩) ⟨Nat.le_refl _,by unfold maxLen;omega⟩ (fun i hi=>?_) HSR.out (fun g hg=>.inr (ownBlock_lt HSR.out.own g hg).1) (fun b hb hbb=>by rcases hbb with h | h;exact .inl h;exact .inr h.1)
          have hi0:i=0:=by simp at hi;omega
          subst hi0
          rw [HV8.out.2.1]
          exact HV8.out.1
         exact hvv.fr h7 (fun b hb hbb=>⟨by rcases hbb with h | h;exact .inl h.1;exact .inr (by omega),fun e=>by rcases hbb with h | h <;> omega⟩)
        ·go_simp
         have hS5:Fr0 wr (wr.drew.alloc (.cells #[.int .u8 0,.int .u8 0,.int .u64 0,.string ⟨#[]⟩,.slice none 0 0,.slice none 0 0,.slice none 0 0] 27)):=((Fr.refl _ wr).drew).alloc _
         refine hK.out _ _ hS5 (fun _=>?_)
         try simp only [Act.put,zA,zB,zC]
         refine wpAnyH_ready (rs:=[8]) (by kernel_rfl) (by simp) ?_
         refine AllReadyH.cons rfl (fun K hK=>?_) AllReadyH.nil
         go_simp
         refine (HC.out _ hS5).mono ?_
         rintro e9 w6 ⟨hf6,cs6,rfl,hv6⟩
         obtain ⟨na6,nl6,nc6,ka6,nk6,kc6,sa6,ns6,sc6,rfl⟩:=hv6.lit
         have HV6:=Hd hv6
         clear hv6
         have hS6:Fr0 wr w6:=(hS5).trans hf6
         refine hK.out _ _ hS6 (fun _=>?_)
         try simp only [Act.put,zA,zB,zC]
         refine wpAnyH_take (i:=9) (v:=.tuple #[.agg #[.int .u8 cv.kind,.int .u8 cv.elem,.int .u64 cv.num,.string (strOf cv.text),.slice na6 nl6 nc6,.slice ka6 nk6 kc6,.slice sa6 ns6 sc6],.bool true]) rfl (by kernel_rfl) (by kernel_rfl) (by kernel_rfl) (fun _ _ _ h=>h) (Or.inl ⟨by rfl,?_⟩) (by assumption) ?_
         ·intro w' hc
          clear hc
          go_simp
         simp only [Act.put,zA,zB,zC]
         refine wpAnyH_take (i:=10) (v:=.agg #[.int .u8 cv.kind,.int .u8 cv.elem,.int .u64 cv.num,.string (strOf cv.text),.slice na6 nl6 nc6,.slice ka6 nk6 kc6,.slice sa6 ns6 sc6]) rfl (by kernel_rfl) (by kernel_rfl) (by kernel_rfl) (fun _ _ _ h=>h) (Or.inl ⟨by rfl,?_⟩) (by assumption) ?_
         ·intro w' hc
          clear hc
          go_simp
         simp only [Act.put,zA,zB,zC]
         refine wpAnyH_take (i:=11) (v:=.bool true) rfl (by kernel_rfl) (by kernel_rfl) (by kernel_rfl) (fun _ _ _ h=>h) (Or.inl ⟨by rfl,?_⟩) (by assumption) ?_
         ·intro w' hc
          clear hc
          go_simp
         simp only [Act.put,zA,zB,zC]
         have hz5:(wr.drew.alloc (.cells #[.int .u8 0,.int .u8 0,.int .u64 0,.string ⟨#[]⟩,.slice none 0 0,.slice none 0 0,.slice none 0 0] 27)).heap[wr.heap.size]?=some (.cells #[.int .u8 0,.int .u8 0,.int .u64 0,.string ⟨#[]⟩,.slice none 0 0,.slice none 0 0,.slice none 0 0] 27):=heap_alloc_new wr.drew _
         have hz6:=(hf6.block wr.heap.size (by simp) (fun x=>x)).trans hz5
         have zx:=fun j u (hu:(#[.int .u8 0,.int .u8 0,.int .u64 0,.string ⟨#[]⟩,.slice none 0 0,.slice none 0 0,.slice none 0 0]:Array Value)[j]?=some u)=>(cell_of hz6 j).trans hu
         have z0:=zx 0 _ rfl
         have z1:=zx 1 _ rfl
         have z2:=zx 2 _ rfl
         have z3:=zx 3 _ rfl
         have z4:=zx 4 _ rfl
         have z5:=zx 5 _ rfl
         have z6:=zx 6 _ rfl
         have f0:=frozen_of hz6 0
         have f1:=frozen_of hz6 1
         have f2:=frozen_of hz6 2
         have f3:=frozen_of hz6 3
         have f4:=frozen_of hz6 4
         have f5:=frozen_of hz6 5
         have f6:=frozen_of hz6 6
         have h7:=fr_set7 w6 wr.heap.size (.int .u8 cv.kind) (.int .u8 cv.elem) (.int .u64 cv.num) (.string (strOf cv.text)) (.slice na6 nl6 nc6) (.slice ka6 nk6 kc6) (.slice sa6 ns6 sc6)
         have hS8:Fr0 wr (((((((w6.setCell ⟨wr.heap.size,0,none⟩ (.int .u8 cv.kind)).setCell ⟨wr.heap.size,1,none⟩ (.int .u8 cv.elem)).setCell ⟨wr.heap.size,2,none⟩ (.int .u64 cv.num)).setCell ⟨wr.heap.size,3,none⟩ (.string (strOf cv.text))).setCell ⟨wr.heap.size,4,none⟩ (.slice na6 nl6 nc6)).setCell ⟨wr.heap.size,5,none⟩ (.slice ka6 nk6 kc6)).setCell ⟨wr.heap.size,6,none⟩ (.slice sa6 ns6 sc6)):=hS6.trans2 h7 (fun b hb e=>by omega)
         have hx9:=(heap_setCell_same (heap_setCell_same (heap_setCell_same (heap_setCell_same (heap_setCell_same (heap_setCell_same (heap_setCell_same hz6 0 (.int .u8 cv.kind)) 1 (.int .u8 cv.elem)) 2 (.int .u64 cv.num)) 3 (.string (strOf cv.text))) 4 (.slice na6 nl6 nc6)) 5 (.slice ka6 nk6 kc6)) 6 (.slice sa6 ns6 sc6))
         rw [set7_all] at hx9
         clear zx
         refine wpAnyH_ready (rs:=[13]) (by kernel_rfl) (by simp) ?_
         refine AllReadyH.cons rfl (fun K hK=>?_) AllReadyH.nil
         go_simp
         refine hK.out _ _ hS8 (fun _=>?_)
         try simp only [Act.put,zA,zB,zC]
         refine wpAnyH_take (i:=14) (v:=.bool true) rfl (by kernel_rfl) (by kernel_rfl) (by kernel_rfl) (fun _ _ _ h=>h) (Or.inl ⟨by rfl,?_⟩) (by assumption) ?_
         ·intro w' hc
          clear hc
          go_simp
         simp only [Act.put,zA,zB,zC]
         refine wpAnyH_done (by kernel_rfl) ?_ _
         show wpTail _ _ _ _ _ _ _
         refine wpTail_nil ?_
         try simp only [Act.put,zA,zB,zC]
         clear hK K z0 z1 z2 z3 z4 z5 z6 f0 f1 f2 f3 f4 f5 f6
         have hs9:wr.heap.size<(((((((w6.setCell ⟨wr.heap.size,0,none⟩ (.int .u8 cv.kind)).setCell ⟨wr.heap.size,1,none⟩ (.int .u8 cv.elem)).setCell ⟨wr.heap.size,2,none⟩ (.int .u64 cv.num)).setCell ⟨wr.heap.size,3,none⟩ (.string (strOf cv.text))).setCell ⟨wr.heap.size,4,none⟩ (.slice na6 nl6 nc6)).setCell ⟨wr.heap.size,5,none⟩ (.slice ka6 nk6 kc6)).setCell ⟨wr.heap.size,6,none⟩ (.slice sa6 ns6 sc6)).heap.size:=by have:=hS8.size;have:=hf6.size;simp at this;simp [World.setCell];omega
         have hv9:VIs (fun b=>(B b∧b<w.heap.size)∨wr.heap.size≤b) (((((((w6.setCell ⟨wr.heap.size,0,none⟩ (.int .u8 cv.kind)).setCell ⟨wr.heap.size,1,none⟩ (.int .u8 cv.elem)).setCell ⟨wr.heap.size,2,none⟩ (.int .u64 cv.num)).setCell ⟨wr.heap.size,3,none⟩ (.string (strOf cv.text))).setCell ⟨wr.heap.size,4,none⟩ (.slice na6 nl6 nc6)).setCell ⟨wr.heap.size,5,none⟩ (.slice ka6 nk6 kc6)).setCell ⟨wr.heap.size,6,none⟩ (.slice sa6 ns6 sc6)) [.int .u8 cv.kind,.int .u8 cv.elem,.int .u64 cv.num,.string (strOf cv.text),.slice na6 nl6 nc6,.slice ka6 nk6 kc6,.slice sa6 ns6 sc6] cv:=HV6.out.fr h7 (fun b hb hbb=>⟨hbb.imp id (fun h=>by simp at h;omega),fun e=>by rcases hbb with h | h;omega;simp at h;omega⟩)
         generalize hw9:(((((((w6.setCell ⟨wr.heap.size,0,none⟩ (.int .u8 cv.kind)).setCell ⟨wr.heap.size,1,none⟩ (.int .u8 cv.elem)).setCell ⟨wr.heap.size,2,none⟩ (.int .u64 cv.num)).setCell ⟨wr.heap.size,3,none⟩ (.string (strOf cv.text))).setCell ⟨wr.heap.size,4,none⟩ (.slice na6 nl6 nc6)).setCell ⟨wr.heap.size,5,none⟩ (.slice ka6 nk6 kc6)).setCell ⟨wr.heap.size,6,none⟩ (.slice sa6 ns6 sc6))=w9 at *
         obtain ⟨X,hX⟩:∃ X,X=wr.heap.size:=⟨_,rfl⟩
         try rw [← hX] at hx9 hs9 ⊢
         have HS9:=Hd hS8
         have HX9:=Hd hx9
         have HV9:=Hd hv9
         clear hv9
         clear hw9 hS8 hx9 a0 a1 a2 a3 a4 a5 a6 b0 b1 b2 b3 b4 b5 b6 bxa bxb
         have hres8:∃ c:Array Value,c.size=7∧w9.heap[w.heap.size+1+1]?=some (.cells c 27):=by
          obtain ⟨c,h1,h2⟩:=HRESR.out
          exact ⟨c,h1,(HS9.out.block _ (by omega) (fun x=>x)).trans h2⟩
         have yx:=fun j u (hu:(#[.int .u8 cv.kind,.int .u8 cv.elem,.int .u64 cv.num,.string (strOf cv.text),.slice na6 nl6 nc6,.slice ka6 nk6 kc6,.slice sa6 ns6 sc6]:Array Value)[j]?=some u)=>(cell_of HX9.out j).trans hu
         have y0:=yx 0 _ rfl
         have y1:=yx 1 _ rfl
         have y2:=yx 2 _ rfl
         have y3:=yx 3 _ rfl
         have y4:=yx 4 _ rfl
         have y5:=yx 5 _ rfl
         have y6:=yx 6 _ rfl
         have hout9:=(HS9.out.block (w.heap.size+1+1+1) (by omega) (fun x=>x)).trans HOUT.out
         have cO5:w9.cell? ⟨w.heap.size+1+1+1,5,none⟩=some (.slice (some ⟨kg,ko,none⟩) nk kc):=by rw [cell_of hout9];rfl
         have fO5:=frozen_of hout9 5
         have cO6:=keep_alloc (.cells #[.int .u8 cv.kind,.int .u8 cv.elem,.int .u64 cv.num,.string (strOf cv.text),.slice na6 nl6 nc6,.slice ka6 nk6 kc6,.slice sa6 ns6 sc6] 27) cO5
         have fO6:=keep_allocF (.cells #[.int .u8 cv.kind,.int .u8 cv.elem,.int .u64 cv.num,.string (strOf cv.text),.slice na6 nl6 nc6,.slice ka6 nk6 kc6,.slice sa6 ns6 sc6] 27) cO5 fO5
         have HOUT9:=Hd hout9
         have HRES8:=Hd hres8
         have hs9w:wr.heap.size≤w9.heap.size:=HS9.out.size
         clear yx hout9 hres8 hX
         go_upto_region 20 with fail
         have hout8:((w9.alloc (.cells #[.int .u8 cv.kind,.int .u8 cv.elem,.int .u64 cv.num,.string (strOf cv.text),.slice na6 nl6 nc6,.slice ka6 nk6 kc6,.slice sa6 ns6 sc6] 27)).setCell ⟨w.heap.size+1+1+1,5,none⟩ (.slice (some ⟨w9.heap.size,0,none⟩) 1 1)).heap[w.heap.size+1+1+1]?=some (.cells #[.int .u8 k,.int .u8 e,.int .u64 0,.string tt,.slice none 0 0,.slice (some ⟨w9.heap.size,0,none⟩) 1 1,.slice ask sits.length bsk] 27):=by
          have h0:=(heap_alloc_old w9 (.cells #[.int .u8 cv.kind,.int .u8 cv.elem,.int .u64 cv.num,.string (strOf cv.text),.slice na6 nl6 nc6,.slice ka6 nk6 kc6,.slice sa6 ns6 sc6] 27) (w.heap.size+1+1+1) (by omega)).trans HOUT9.out
          have:=heap_setCell_same h0 5 (.slice (some ⟨w9.heap.size,0,none⟩) 1 1)
          rw [this];rfl
         have hres8:∃ c:Array Value,c.size=7∧((w9.alloc (.cells #[.int .u8 cv.kind,.int .u8 cv.elem,.int .u64 cv.num,.string (strOf cv.text),.slice na6 nl6 nc6,.slice ka6 nk6 kc6,.slice sa6 ns6 sc6] 27)).setCell ⟨w.heap.size+1+1+1,5,none⟩ (.slice (some ⟨w9.heap.size,0,none⟩) 1 1)).heap[w.heap.size+1+1]?=some (.cells c 27):=by
          obtain ⟨c,h1,h2⟩:=HRES8.out
          exact ⟨c,h1,by rw [heap_setCell_other _ _ _ _ (by show w.heap.size+1+1≠w.heap.size+1+1+1;omega),heap_alloc_old _ _ _ (by omega)];exact h2⟩
         have hf98:Fr (fun b=>b=w.heap.size+1+1+1) w9 ((w9.alloc (.cells #[.int .u8 cv.kind,.int .u8 cv.elem,.int .u64 cv.num,.string (strOf cv.text),.slice na6 nl6 nc6,.slice ka6 nk6 kc6,.slice sa6 ns6 sc6] 27)).setCell ⟨w.heap.size+1+1+1,5,none⟩ (.slice (some ⟨w9.heap.size,0,none⟩) 1 1)):=((Fr.refl (fun b=>b=w.heap.size+1+1+1) w9).alloc _).setCell (p:=⟨w.heap.size+1+1+1,5,none⟩) (fun _=>rfl) _
         have hg8:((w9.alloc (.cells #[.int .u8 cv.kind,.int .u8 cv.elem,.int .u64 cv.num,.string (strOf cv.text),.slice na6 nl6 nc6,.slice ka6 nk6 kc6,.slice sa6 ns6 sc6] 27)).setCell ⟨w.heap.size+1+1+1,5,none⟩ (.slice (some ⟨w9.heap.size,0,none⟩) 1 1)).heap[w9.heap.size]?=some (.cells #[.int .u8 cv.kind,.int .u8 cv.elem,.int .u64 cv.num,.string (strOf cv.text),.slice na6 nl6 nc6,.slice ka6 nk6 kc6,.slice sa6 ns6 sc6] 27):=by
          rw [heap_setCell_other _ _ _ _ (by show w9.heap.size≠w.heap.size+1+1+1;omega)];exact heap_alloc_new _ _
         have hsz8:w9.heap.size<((w9.alloc (.cells #[.int .u8 cv.kind,.int .u8 cv.elem,.int .u64 cv.num,.string (strOf cv.text),.slice na6 nl6 nc6,.slice ka6 nk6 kc6,.slice sa6 ns6 sc6] 27)).setCell ⟨w.heap.size+1+1+1,5,none⟩ (.slice (some ⟨w9.heap.size,0,none⟩) 1 1)).heap.size:=by rw [size_setCell,size_alloc];omega
         generalize hw8:((w9.alloc (.cells #[.int .u8 cv.kind,.int .u8 cv.elem,.int .u64 cv.num,.string (strOf cv.text),.slice na6 nl6 nc6,.slice ka6 nk6 kc6,.slice sa6 ns6 sc6] 27)).setCell ⟨w.heap.size+1+1+1,5,none⟩ (.slice (some ⟨w9.heap.size,0,none⟩) 1 1))=w8 at *
         clear hw8 cO5 fO5 cO6 fO6 y0 y1 y2 y3 y4 y5 y6
         have hf8:Fr0 w w8:=(HFW.out.trans HS9.out).trans2 hf98 (fun b hb e=>by omega)
         have hsr8:=(HSROW.out.fr sltP_mono (B':=BI B w.heap.size 4 (.slice ask sits.length bsk)) HS9.out (fun g hg e=>e) (fun b hb hbb=>⟨hbb,fun e=>e⟩)).fr sltP_mono (B':=BI B w.heap.size 4 (.slice ask sits.length bsk)) hf98 (fun g hg e=>by have:=(ownBlock_lt HSROW.out.own g hg).1;omega) (fun b hb hbb=>⟨hbb,fun e=>by rcases hbb with h | h <;> omega⟩)
         have hv8:VIs (fun b=>(B b∧b<w.heap.size)∨w.heap.size+4≤b) w8 [.int .u8 cv.kind,.int .u8 cv.elem,.int .u64 cv.num,.string (strOf cv.text),.slice na6 nl6 nc6,.slice ka6 nk6 kc6,.slice sa6 ns6 sc6] cv:=HV9.out.fr hf98 (fun b hb hbb=>⟨hbb.imp id (fun h=>by omega),fun e=>by rcases hbb with h | h <;> omega⟩)
         have hcg:cellsAt w8 w9.heap.size (0+0*7) 7=[.int .u8 cv.kind,.int .u8 cv.elem,.int .u64 cv.num,.string (strOf cv.text),.slice na6 nl6 nc6,.slice ka6 nk6 kc6,.slice sa6 ns6 sc6]:=cellsAt_of rfl (fun j u hu=>by rw [show 0+0*7+j=j by omega,cell_of hg8];simpa using hu)
         have HV8:=Hd (And.intro hv8 (And.intro hcg hsz8))
         clear hv8 hcg hg8 hsz8 hf98
         have o0:w8.cell? ⟨w.heap.size+1+1+1,0,none⟩=some (.int .u8 k):=by rw [cell_of hout8];rfl
         have o1:w8.cell? ⟨w.heap.size+1+1+1,1,none⟩=some (.int .u8 e):=by rw [cell_of hout8];rfl
         have o2:w8.cell? ⟨w.heap.size+1+1+1,2,none⟩=some (.int .u64 0):=by rw [cell_of hout8];rfl
         have o3:w8.cell? ⟨w.heap.size+1+1+1,3,none⟩=some (.string tt):=by rw [cell_of hout8];rfl
         have o4:w8.cell? ⟨w.heap.size+1+1+1,4,none⟩=some (.slice none 0 0):=by rw [cell_of hout8];rfl
         have o5:w8.cell? ⟨w.heap.size+1+1+1,5,none⟩=some (.slice (some ⟨w9.heap.size,0,none⟩) 1 1):=by rw [cell_of hout8];rfl
         have o6:w8.cell? ⟨w.heap.size+1+1+1,6,none⟩=some (.slice ask sits.length bsk):=by rw [cell_of hout8];rfl
         obtain ⟨rc,hrc,hres⟩:=hres8
         have qx:∀ j,j<7→∃ u,w8.cell? ⟨w.heap.size+1+1,j,none⟩=some u:=fun j hj=>⟨_,by rw [cell_of hres];exact Array.getElem?_eq_getElem (by omega)⟩
         obtain ⟨u0',q0⟩:=qx 0 (by omega)
         obtain ⟨u1',q1⟩:=qx 1 (by omega)
         obtain ⟨u2',q2⟩:=qx 2 (by omega)
         obtain ⟨u3',q3⟩:=qx 3 (by omega)
         obtain ⟨u4',q4⟩:=qx 4 (by omega)
         obtain ⟨u5',q5⟩:=qx 5 (by omega)
         obtain ⟨u6',q6⟩:=qx 6 (by omega)
         have f0:=frozen_of hres 0
         have f1:=frozen_of hres 1
         have f2:=frozen_of hres 2
         have f3:=frozen_of hres 3
         have f4:=frozen_of hres 4
         have f5:=frozen_of hres 5
         have f6:=frozen_of hres 6
         have HRS:=Hd hres
         have HRC:=Hd hrc
         clear hres qx hrc
         have HFR:=Hd hf8
         have HSR:=Hd hsr8
         clear hout8 hf8 hsr8
         go_wp2_with fail
         refine bodyPost_ret (results_cell_tmp7 (P:=Tryz.prog) rfl _ _ (w.heap.size+1+1) 27 _ _ _ _ _ _ _ _ _ rfl HRC.out HRS.out Tryz.underlying27 rfl infoSVs) rfl ?_
         have h7:=fr_set7 w8 (w.heap.size+1+1) (.int .u8 k) (.int .u8 e) (.int .u64 0) (.string tt) (.slice none 0 0) (.slice (some ⟨w9.heap.size,0,none⟩) 1 1) (.slice ask sits.length bsk)
         refine ⟨HFR.out.trans2 h7 (fun b hb e=>by omega),?_⟩
         rw [HSOME.out]
         refine ⟨[.int .u8 k,.int .u8 e,.int .u64 0,.string tt,.slice none 0 0,.slice (some ⟨w9.heap.size,0,none⟩) 1 1,.slice ask sits.length bsk],rfl,?_⟩
         have hvv:VIs (fun b=>(B b∧b<w.heap.size)∨w.heap.size+4≤b) w8 [.int .u8 k,.int .u8 e,.int .u64 0,.string tt,.slice none 0 0,.slice (some ⟨w9.heap.size,0,none⟩) 1 1,.slice ask sits.length bsk] (.mk k e 0 t [] [cv] (sits.map (·.2))):=by
          rw [HTT.out]
          refine VIs.of_srow (kg:=w9.heap.size) (ko:=0) (ks:=[cv]) HTL.out.2.1 HTL.out.2.2 HTL.out.1 (fun h=>⟨rfl,HV8.out.2.2,.inr (by omega)⟩) ⟨Nat.le_refl _,by unfold maxLen;omega⟩ (fun i hi=>?_) HSR.out (fun g hg=>.inr (ownBlock_lt HSR.out.own g hg).1) (fun b hb hbb=>by rcases hbb with h | h;exact .inl h;exact .inr h.1)
          have hi0:i=0:=by simp at hi;omega
          subst hi0
          rw [HV8.out.2.1]
          exact HV8.out.1
         exact hvv.fr h7 (fun b hb hbb=>⟨by rcases hbb with h | h;exact .inl h.1;exact .inr (by omega),fun e=>by rcases hbb with h | h <;> omega⟩)
 exact main trivial
/-- spec.both. -/
theorem both_calls:∀ a,BothC a:=by
 intro a
 induction a using Val.ind with
 | h k e n t ns ks ss ihk ihs=>exact both_of k e n t ns ks ss ihk ihs
end Go.Proofs.YtcfblkkpclfmaaaGreat
