/- Part 37 of the proof of FnTrimmed (Shape2). No condition is laid on the statement. -/
import Derived.Test.YtcfblkkpclfmaaaGreatTr35
set_option linter.unusedVariables false
set_option linter.unusedSimpArgs false
namespace Go.Proofs.YtcfblkkpclfmaaaGreat
open Go.RowKit
theorem fold_push (ns:List Int) (s:ByteArray):ns.foldl (fun r n=>r.push (UInt8.ofNat n.toNat)) s=⟨s.data ++ (ns.map fun n=>UInt8.ofNat n.toNat).toArray⟩:=by
 induction ns generalizing s with
 | nil=>simp
 | cons n r ih =>
  rw [List.foldl_cons,ih]
  simp only [ByteArray.push,List.map_cons]
  congr 1
  simp
/-- Bytes made afresh, as a text. -/
theorem zeros_text (L:Nat) (h:L≤65536):∃ ZB:Array Value,(∀ w:World,(Instr.makeSlice 81 (.int .i64 (L:Int)) (.int .i64 (L:Int))).run Tryz.prog w=.ok (.slice (some ⟨w.heap.size,0,none⟩) L L) (w.alloc (.cells ZB 5))) ∧
  ∀ w:World,(convert 81 9 (.slice (some ⟨w.heap.size,0,none⟩) L L)).run Tryz.prog (w.alloc (.cells ZB 5))=.ok (.string (strOf (List.replicate L 0))) (w.alloc (.cells ZB 5)):=by
 obtain ⟨i0,hi,hz0,hz1,hz2⟩:=info_parts (show (Tryz.prog.info? 5).map (fun i=>(i.zero,i.size,i.bytes))=some (some (.int .u8 0),1,1) by kernel_rfl)
 refine ⟨madeCells #[.int .u8 0] L,fun w=>?_,fun w=>?_⟩
 ·have hr:=run_make (P:=Tryz.prog) w 81 5 i0 (.int .u8 0) Tryz.underlying81 hi hz0 .i64 .i64 (L:Int) (L:Int) (by omega) (by omega) (by rw [hz2];omega) (by omega)
  simp only [Int.toNat_natCast,hz1,Nat.mul_one] at hr
  exact hr
 ·rw [run_convert_bytes_string _ _ _ 5 _ _ _ Tryz.underlying81 Tryz.underlying5 Tryz.underlying9]
  rw [run_bytesToString _ _ _ _ (List.replicate L 0)]
  ·rw [fold_push]
   simp [strOf]
  ·have hl:=run_loadCells_list (P:=Tryz.prog) (w:=w.alloc (.cells (madeCells #[.int .u8 0] L) 5)) ⟨w.heap.size,0,none⟩ ((List.replicate L (0:Int)).map (Value.int .u8)) ?_
   ·rw [List.length_map,List.length_replicate] at hl;exact hl
   intro j v hv
   rw [List.getElem?_map] at hv
   have hj:j<L:=by
    rcases Nat.lt_or_ge j L with h | h
    ·exact h
    ·rw [List.getElem?_eq_none (by simp;omega)] at hv;cases hv
   rw [List.getElem?_eq_getElem (by simp;omega)] at hv
   have e:(⟨w.heap.size,0,none⟩:Addr).add j=⟨w.heap.size,j,none⟩:=by unfold Addr.add;simp;omega
   rw [e,cell_of (heap_alloc_new _ _),← hv]
   simp [madeCells,hj,Nat.mod_one]
set_option maxRecDepth 100000 in
set_option maxHeartbeats 8000000 in
theorem shape_struct (k e n:Nat) (t:List UInt8) (ns:List Nat) (ks:List Val) (ss:List (Slt Val)) (h17:k=17) (ht0:t.length≤65536) (hss0:ss.length≤1000) (ihs:∀ s∈ss,ShapeC s.val):ShapeC (.mk k e n t ns ks ss):=by
 intro B cs w hv
 cases hv with
 | mk _ _ _ _ _ _ _ nv ka kc kg ko sa sc sg so hk he hn ht hnv hka hkc hks hsa hsc hsd hss =>
  obtain ⟨i1,hj,hy0,hy1,hy2⟩:=info_parts infoSSlt
  obtain ⟨tt,htt⟩:∃ tt,tt=strOf t:=⟨_,rfl⟩
  rw [← htt]
  have HTT:=Hd htt
  have HKA:=Hd hka
  have HKS:=Hd hks
  have HSA:=Hd hsa
  have HSD:=Hd hsd
  have HSS:=Hd hss
  have HKC:=Hd hkc
  have HTL:=Hd ht
  obtain ⟨na,nc,rfl,hnc1,hnc2,hnc3,hnc4⟩:=hnv.ok
  obtain ⟨nl,hnl⟩:∃ nl,nl=ns.length:=⟨_,rfl⟩
  rw [← hnl]
  clear hnl hnc1 hnc2 hnc3 hnc4
  have IHS:=Hd ihs
  have hmk:kc≤maxLen:=hkc.2
  have hms:sc≤maxLen:=hsc.2
  unfold maxLen at hmk hms
  obtain ⟨nk,hnk⟩:∃ nk,nk=ks.length:=⟨_,rfl⟩
  obtain ⟨nss,hnss⟩:∃ nss,nss=ss.length:=⟨_,rfl⟩
  have hkc1:=hkc.1
  have hsc1:=hsc.1
  rw [← hnk] at hkc1 ⊢
  rw [← hnss] at hss0 hsc1 ⊢
  have HNK:=Hd hnk
  have HNS:=Hd hnss
  have g17:((k:Int) == 17)=true:=by simp;omega
  have g16:((k:Int) == 16)=false:=by simp;omega
  have HH17:=Hd h17
  clear htt hka hks hsa hsd hss hnv ihs hkc hsc hnk hnss ht h17
  have hb0:(((w.alloc (.cells #[.int .u8 k,.int .u8 e,.int .u64 n,.string tt,.slice na nl nc,.slice ka nk kc,.slice sa nss sc] 27)).alloc (.cells #[.int .u8 0,.int .u8 0,.int .u64 0,.string ⟨#[]⟩,.slice none 0 0,.slice none 0 0,.slice none 0 0] 27)).alloc (.cells #[.int .u8 k,.int .u8 e,.int .u64 0,.string ⟨#[]⟩,.slice none 0 0,.slice none 0 0,.slice none 0 0] 27)).heap[w.heap.size]?=some (.cells #[.int .u8 k,.int .u8 e,.int .u64 n,.string tt,.slice na nl nc,.slice ka nk kc,.slice sa nss sc] 27):=by simp only [heap_alloc_get,size_alloc];rw [if_neg (by omega),if_neg (by omega),if_pos trivial]
  have hb1:(((w.alloc (.cells #[.int .u8 k,.int .u8 e,.int .u64 n,.string tt,.slice na nl nc,.slice ka nk kc,.slice sa nss sc] 27)).alloc (.cells #[.int .u8 0,.int .u8 0,.int .u64 0,.string ⟨#[]⟩,.slice none 0 0,.slice none 0 0,.slice none 0 0] 27)).alloc (.cells #[.int .u8 k,.int .u8 e,.int .u64 0,.string ⟨#[]⟩,.slice none 0 0,.slice none 0 0,.slice none 0 0] 27)).heap[w.heap.size+1]?=some (.cells #[.int .u8 0,.int .u8 0,.int .u64 0,.string ⟨#[]⟩,.slice none 0 0,.slice none 0 0,.slice none 0 0] 27):=by simp only [heap_alloc_get,size_alloc];rw [if_neg (by omega),if_pos trivial]
  have hb2:(((w.alloc (.cells #[.int .u8 k,.int .u8 e,.int .u64 n,.string tt,.slice na nl nc,.slice ka nk kc,.slice sa nss sc] 27)).alloc (.cells #[.int .u8 0,.int .u8 0,.int .u64 0,.string ⟨#[]⟩,.slice none 0 0,.slice none 0 0,.slice none 0 0] 27)).alloc (.cells #[.int .u8 k,.int .u8 e,.int .u64 0,.string ⟨#[]⟩,.slice none 0 0,.slice none 0 0,.slice none 0 0] 27)).heap[w.heap.size+1+1]?=some (.cells #[.int .u8 k,.int .u8 e,.int .u64 0,.string ⟨#[]⟩,.slice none 0 0,.slice none 0 0,.slice none 0 0] 27):=by simp only [heap_alloc_get,size_alloc];rw [if_pos trivial]
  have hf1:Fr0 w (((w.alloc (.cells #[.int .u8 k,.int .u8 e,.int .u64 n,.string tt,.slice na nl nc,.slice ka nk kc,.slice sa nss sc] 27)).alloc (.cells #[.int .u8 0,.int .u8 0,.int .u64 0,.string ⟨#[]⟩,.slice none 0 0,.slice none 0 0,.slice none 0 0] 27)).alloc (.cells #[.int .u8 k,.int .u8 e,.int .u64 0,.string ⟨#[]⟩,.slice none 0 0,.slice none 0 0,.slice none 0 0] 27)):=(((Fr.refl _ w).alloc _).alloc _).alloc _
  have hs1:(((w.alloc (.cells #[.int .u8 k,.int .u8 e,.int .u64 n,.string tt,.slice na nl nc,.slice ka nk kc,.slice sa nss sc] 27)).alloc (.cells #[.int .u8 0,.int .u8 0,.int .u64 0,.string ⟨#[]⟩,.slice none 0 0,.slice none 0 0,.slice none 0 0] 27)).alloc (.cells #[.int .u8 k,.int .u8 e,.int .u64 0,.string ⟨#[]⟩,.slice none 0 0,.slice none 0 0,.slice none 0 0] 27)).heap.size=w.heap.size+3:=by simp
  have hszt:tt.size=t.length:=by rw [HTT.out];exact strOf_size t
  obtain ⟨L,hL⟩:∃ L,L=t.length:=⟨_,rfl⟩
  rw [← hL] at hszt ht0
  have HLL:=Hd hL
  obtain ⟨ZB,hmk,hcv⟩:=zeros_text L ht0
  obtain ⟨ZT,hzt⟩:∃ ZT,ZT=strOf (List.replicate L 0):=⟨_,rfl⟩
  rw [← hzt] at hcv
  have HZT:=Hd hzt
  have hcv1:=hcv (((w.alloc (.cells #[.int .u8 k,.int .u8 e,.int .u64 n,.string tt,.slice na nl nc,.slice ka nk kc,.slice sa nss sc] 27)).alloc (.cells #[.int .u8 0,.int .u8 0,.int .u64 0,.string ⟨#[]⟩,.slice none 0 0,.slice none 0 0,.slice none 0 0] 27)).alloc (.cells #[.int .u8 k,.int .u8 e,.int .u64 0,.string ⟨#[]⟩,.slice none 0 0,.slice none 0 0,.slice none 0 0] 27))
  rw [show (((w.alloc (.cells #[.int .u8 k,.int .u8 e,.int .u64 n,.string tt,.slice na nl nc,.slice ka nk kc,.slice sa nss sc] 27)).alloc (.cells #[.int .u8 0,.int .u8 0,.int .u64 0,.string ⟨#[]⟩,.slice none 0 0,.slice none 0 0,.slice none 0 0] 27)).alloc (.cells #[.int .u8 k,.int .u8 e,.int .u64 0,.string ⟨#[]⟩,.slice none 0 0,.slice none 0 0,.slice none 0 0] 27)).heap.size=w.heap.size+1+1+1 by simp] at hcv1
  clear hcv hzt hL hb0 hb1 hb2 hf1 hs1
  have hb0:((((w.alloc (.cells #[.int .u8 k,.int .u8 e,.int .u64 n,.string tt,.slice na nl nc,.slice ka nk kc,.slice sa nss sc] 27)).alloc (.cells #[.int .u8 0,.int .u8 0,.int .u64 0,.string ⟨#[]⟩,.slice none 0 0,.slice none 0 0,.slice none 0 0] 27)).alloc (.cells #[.int .u8 k,.int .u8 e,.int .u64 0,.string ZT,.slice none 0 0,.slice none 0 0,.slice none 0 0] 27)).alloc (.cells ZB 5)).heap[w.heap.size]?=some (.cells #[.int .u8 k,.int .u8 e,.int .u64 n,.string tt,.slice na nl nc,.slice ka nk kc,.slice sa nss sc] 27):=by simp only [heap_alloc_get,size_alloc];rw [if_neg (by omega),if_neg (by omega),if_neg (by omega),if_pos trivial]
  have hb1:((((w.alloc (.cells #[.int .u8 k,.int .u8 e,.int .u64 n,.string tt,.slice na nl nc,.slice ka nk kc,.slice sa nss sc] 27)).alloc (.cells #[.int .u8 0,.int .u8 0,.int .u64 0,.string ⟨#[]⟩,.slice none 0 0,.slice none 0 0,.slice none 0 0] 27)).alloc (.cells #[.int .u8 k,.int .u8 e,.int .u64 0,.string ZT,.slice none 0 0,.slice none 0 0,.slice none 0 0] 27)).alloc (.cells ZB 5)).heap[w.heap.size+1]?=some (.cells #[.int .u8 0,.int .u8 0,.int .u64 0,.string ⟨#[]⟩,.slice none 0 0,.slice none 0 0,.slice none 0 0] 27):=by simp only [heap_alloc_get,size_alloc];rw [if_neg (by omega),if_neg (by omega),if_pos trivial]
  have hb2:((((w.alloc (.cells #[.int .u8 k,.int .u8 e,.int .u64 n,.string tt,.slice na nl nc,.slice ka nk kc,.slice sa nss sc] 27)).alloc (.cells #[.int .u8 0,.int .u8 0,.int .u64 0,.string ⟨#[]⟩,.slice none 0 0,.slice none 0 0,.slice none 0 0] 27)).alloc (.cells #[.int .u8 k,.int .u8 e,.int .u64 0,.string ZT,.slice none 0 0,.slice none 0 0,.slice none 0 0] 27)).alloc (.cells ZB 5)).heap[w.heap.size+1+1]?=some (.cells #[.int .u8 k,.int .u8 e,.int .u64 0,.string ZT,.slice none 0 0,.slice none 0 0,.slice none 0 0] 27):=by simp only [heap_alloc_get,size_alloc];rw [if_neg (by omega),if_pos trivial]
  obtain ⟨c,hT2⟩:=TV2.start0 (B:=B) (TS:=54) (((((Fr.refl _ w).alloc _).alloc _).alloc _).alloc _) (by simp) hb0 hb2 ⟨_,rfl,hb1⟩
  have HT2:=Hd (show TVR2 B w [.int .u8 k,.int .u8 e,.int .u64 n,.string tt,.slice na nl nc,.slice ka nk kc,.slice sa nss sc] 27 27 54 k e 0 ZT (.slice none 0 0) c (.slice none 0 0) ([]:List (List Value × Val)) ((ss.map shS).take 0) ((((w.alloc (.cells #[.int .u8 k,.int .u8 e,.int .u64 n,.string tt,.slice na nl nc,.slice ka nk kc,.slice sa nss sc] 27)).alloc (.cells #[.int .u8 0,.int .u8 0,.int .u64 0,.string ⟨#[]⟩,.slice none 0 0,.slice none 0 0,.slice none 0 0] 27)).alloc (.cells #[.int .u8 k,.int .u8 e,.int .u64 0,.string ZT,.slice none 0 0,.slice none 0 0,.slice none 0 0] 27)).alloc (.cells ZB 5)) from ⟨_,_,hT2,rfl⟩)
  have bx6:((((w.alloc (.cells #[.int .u8 k,.int .u8 e,.int .u64 n,.string tt,.slice na nl nc,.slice ka nk kc,.slice sa nss sc] 27)).alloc (.cells #[.int .u8 0,.int .u8 0,.int .u64 0,.string ⟨#[]⟩,.slice none 0 0,.slice none 0 0,.slice none 0 0] 27)).alloc (.cells #[.int .u8 k,.int .u8 e,.int .u64 0,.string ZT,.slice none 0 0,.slice none 0 0,.slice none 0 0] 27)).alloc (.cells ZB 5)).cell? ⟨w.heap.size,6,none⟩=some (.slice sa nss sc):=by rw [cell_of hT2.box];rfl
  clear hT2
  clear hb0 hb1 hb2
  go_enter Tryz.func30,Tryz.ntmps30
  go_wp2_with fail
  go_loopw [44] (fun iv w2=>∃ i:Nat,i≤nss∧iv=.int .i64 i∧TVR2 B w [.int .u8 k,.int .u8 e,.int .u64 n,.string tt,.slice na nl nc,.slice ka nk kc,.slice sa nss sc] 27 27 54 k e 0 ZT (.slice none 0 0) c (.slice none 0 0) ([]:List (List Value × Val)) ((ss.map shS).take (i)) w2) (fun iv _=>nss-(intOf iv).toNat)
  case atStart=>exact ⟨0,Nat.zero_le _,rfl,HT2.out⟩
  case round =>
   obtain ⟨i2,hi2,rfl,sv,sits,hR,hsits⟩:=hrel
   have HR:=Hd hR
   have HSI:=Hd hsits
   have hsz2:=hR.size
   have hc3:=hR.c3
   clear HT2
   by_cases hlt2:i2<nss
   ·have hik:i2<ss.length:=by have:=HNS.out;omega
    obtain ⟨rfl,hsg,hBg⟩:=HSA.out (by intro h0;rw [h0] at hik;simp at hik)
    obtain ⟨sl,hsl⟩:∃ sl,sl=ss[i2]:=⟨_,rfl⟩
    obtain ⟨kid,hkid⟩:∃ kid,kid=sl.val:=⟨_,rfl⟩
    have hkv:VIs (fun b=>B b∧b<w.heap.size) wr (cellsAt wr sg (so+i2*9+1) 7) kid:=by
     rw [cellsAt_mono (hR.fr.block sg hsg (fun x=>x)),hkid,hsl]
     exact (HSS.out i2 hik).fr0 hR.fr (fun b hb hbb=>⟨hbb,hb⟩)
    obtain ⟨na1,nl1,nc1,ka1,nk1,kc1,sa1,ns1,sc1,hlit,c1,c2,c3,c4,c5,c6,c7⟩:=hkv.at
    have c0:wr.cell? ⟨sg,so+i2*9,none⟩=some (.bool sl.has):=(keep_fr hR.fr (HSD.out i2 hik).1 (fun x=>x)).trans (by rw [hsl])
    have c8:wr.cell? ⟨sg,so+i2*9+8,none⟩=some (.int .u64 sl.dflt):=(keep_fr hR.fr (HSD.out i2 hik).2.1 (fun x=>x)).trans (by rw [hsl])
    have c2:wr.cell? ⟨sg,so+i2*9+2,none⟩=some (.int .u8 kid.elem):=c2
    have c3:wr.cell? ⟨sg,so+i2*9+3,none⟩=some (.int .u64 kid.num):=c3
    have c4:wr.cell? ⟨sg,so+i2*9+4,none⟩=some (.string (strOf kid.text)):=c4
    have c5:wr.cell? ⟨sg,so+i2*9+5,none⟩=some (.slice na1 nl1 nc1):=c5
    have c6:wr.cell? ⟨sg,so+i2*9+6,none⟩=some (.slice ka1 nk1 kc1):=c6
    have c7:wr.cell? ⟨sg,so+i2*9+7,none⟩=some (.slice sa1 ns1 sc1):=c7
    have HSLD:=Hd (show sl.dflt<2 ^ 64 by rw [hsl];exact (HSD.out i2 hik).2.2)
    have HLIT:=Hd hlit
    have HMEM:=Hd (show sl∈ss by rw [hsl];exact List.getElem_mem hik)
    have HSLE:=Hd hsl
    have HKD:=Hd hkid
    have cO:wr.cell? ⟨w.heap.size+1+1,6,none⟩=some sv:=by rw [cell_of hR.out];rfl
    have fO:wr.frozen? ⟨w.heap.size+1+1,6,none⟩=false:=frozen_of hR.out 6
    have hlen:sits.length=i2:=by have:=congrArg List.length hsits;rw [List.length_map,List.length_take,List.length_map] at this;omega
    have hown0:=hR.srow.own
    rw [hlen] at hown0
    have HLEN:=Hd hlen
    have HOWN:=Hd hown0
    have HRB:=Hd (fun (b:Nat) (hb:b<w.heap.size+c∨wr.heap.size≤b) (e:some b=sv.ownBlock)=>(by have:=ownBlock_lt hown0 b e.symm;omega:False))
    clear hlit hkid hsl hlen hown0 hkv hsits hR
    go_upto_region 11 with fail
    have d0:∀ j u,[.bool sl.has,.int .u8 kid.kind,.int .u8 kid.elem,.int .u64 kid.num,.string (strOf kid.text),.slice na1 nl1 nc1,.slice ka1 nk1 kc1,.slice sa1 ns1 sc1,.int .u64 sl.dflt][j]?=some u→(wr.alloc (.cells #[.bool sl.has,.int .u8 kid.kind,.int .u8 kid.elem,.int .u64 kid.num,.string (strOf kid.text),.slice na1 nl1 nc1,.slice ka1 nk1 kc1,.slice sa1 ns1 sc1,.int .u64 sl.dflt] 54)).cell? ⟨wr.heap.size,j,none⟩=some u:=by
     intro j u hu
     rw [cell_of (heap_alloc_new wr _)]
     simpa using hu
    have dO:=keep_alloc (.cells #[.bool sl.has,.int .u8 kid.kind,.int .u8 kid.elem,.int .u64 kid.num,.string (strOf kid.text),.slice na1 nl1 nc1,.slice ka1 nk1 kc1,.slice sa1 ns1 sc1,.int .u64 sl.dflt] 54) cO
    have gO:=keep_allocF (.cells #[.bool sl.has,.int .u8 kid.kind,.int .u8 kid.elem,.int .u64 kid.num,.string (strOf kid.text),.slice na1 nl1 nc1,.slice ka1 nk1 kc1,.slice sa1 ns1 sc1,.int .u64 sl.dflt] 54) cO fO
    have dd0:=d0 0 _ rfl
    have dd1:=d0 1 _ rfl
    have dd2:=d0 2 _ rfl
    have dd3:=d0 3 _ rfl
    have dd4:=d0 4 _ rfl
    have dd5:=d0 5 _ rfl
    have dd6:=d0 6 _ rfl
    have dd7:=d0 7 _ rfl
    have dd8:=d0 8 _ rfl
    have HFA:=Hd (((Fr.refl (fun _=>False) wr).alloc (.cells #[.bool sl.has,.int .u8 kid.kind,.int .u8 kid.elem,.int .u64 kid.num,.string (strOf kid.text),.slice na1 nl1 nc1,.slice ka1 nk1 kc1,.slice sa1 ns1 sc1,.int .u64 sl.dflt] 54)))
    have HS5:=Hd (show (wr.alloc (.cells #[.bool sl.has,.int .u8 kid.kind,.int .u8 kid.elem,.int .u64 kid.num,.string (strOf kid.text),.slice na1 nl1 nc1,.slice ka1 nk1 kc1,.slice sa1 ns1 sc1,.int .u64 sl.dflt] 54)).heap.size=wr.heap.size+1 by simp)
    have HOW:=Hd (HOWN.out.alloc (.cells #[.bool sl.has,.int .u8 kid.kind,.int .u8 kid.elem,.int .u64 kid.num,.string (strOf kid.text),.slice na1 nl1 nc1,.slice ka1 nk1 kc1,.slice sa1 ns1 sc1,.int .u64 sl.dflt] 54))
    clear d0 c0 c1 c2 c3 c4 c5 c6 c7 c8 cO fO
    generalize hw5:wr.alloc (.cells #[.bool sl.has,.int .u8 kid.kind,.int .u8 kid.elem,.int .u64 kid.num,.string (strOf kid.text),.slice na1 nl1 nc1,.slice ka1 nk1 kc1,.slice sa1 ns1 sc1,.int .u64 sl.dflt] 54)=w5 at *
    have HW:=Hd hw5
    clear hw5
    have hlt5:wr.heap.size<w5.heap.size:=by have:=HS5.out;omega
    obtain ⟨sh,hsh⟩:∃ sh,sh=shape kid:=⟨_,rfl⟩
    have HCL:=Hd (fun (w':World) (hf:Fr0 w5 w')=>(by
     have h0:=IHS.out sl HMEM.out (fun b=>B b∧b<w.heap.size) [.int .u8 kid.kind,.int .u8 kid.elem,.int .u64 kid.num,.string (strOf kid.text),.slice na1 nl1 nc1,.slice ka1 nk1 kc1,.slice sa1 ns1 sc1] w'
     rw [← HKD.out,← hsh] at h0
     exact h0 ((HLIT.out.fr0 HFA.out (fun _ _ x=>x)).fr0 hf (fun _ _ x=>x)):Calls Tryz.prog 30 #[.agg #[.int .u8 kid.kind,.int .u8 kid.elem,.int .u64 kid.num,.string (strOf kid.text),.slice na1 nl1 nc1,.slice ka1 nk1 kc1,.slice sa1 ns1 sc1]] w' (VRes (fun b=>B b∧b<w.heap.size) sh w')))
    have HSH:=Hd (show (shS sl).val=sh by rw [hsh,HKD.out];rfl)
    clear hsh
    refine wp_region_tail_held 10 (S:=(fun w'=>Fr (fun b=>some b=sv.ownBlock) w5 w')) _ (by kernel_rfl) (by kernel_rfl) (by kernel_rfl) ((Fr.refl _ w5).drew) (fun hHeld=>?_)
    simp only [List.take_succ_cons,List.take_zero,List.drop_succ_cons,List.drop_zero,List.length_cons,List.length_nil,Nat.zero_add,Nat.reduceAdd]
    refine wpAnyH_take (i:=0) (v:=.pointer (some ⟨w.heap.size+1+1,6,none⟩)) rfl (by kernel_rfl) (by kernel_rfl) (by kernel_rfl) (fun _ _ _ h=>h) (Or.inl ⟨by rfl,?_⟩) (by assumption) ?_
    ·intro w' hc
     clear hc
     go_simp
    simp only [Act.put,zA,zB,zC]
    refine wpAnyH_take (i:=1) (v:=sv) rfl (by kernel_rfl) (by kernel_rfl) (by kernel_rfl) (fun _ _ _ h=>h) (Or.inl ⟨by rfl,?_⟩) (by assumption) ?_
    ·intro w' hc
     have a1:=keep_fr hc dO (HRB.out _ (by omega))
     clear hc
     go_simp
    simp only [Act.put,zA,zB,zC]
    refine wpAnyH_take (i:=2) (v:=.pointer (some ⟨wr.heap.size,1,none⟩)) rfl (by kernel_rfl) (by kernel_rfl) (by kernel_rfl) (fun _ _ _ h=>h) (Or.inl ⟨by rfl,?_⟩) (by assumption) ?_
    ·intro w' hc
     clear hc
     go_simp
    simp only [Act.put,zA,zB,zC]
    refine wpAnyH_take (i:=3) (v:=.agg #[.int .u8 kid.kind,.int .u8 kid.elem,.int .u64 kid.num,.string (strOf kid.text),.slice na1 nl1 nc1,.slice ka1 nk1 kc1,.slice sa1 ns1 sc1]) rfl (by kernel_rfl) (by kernel_rfl) (by kernel_rfl) (fun _ _ _ h=>h) (Or.inl ⟨by rfl,?_⟩) (by assumption) ?_
    ·intro w' hc
     have a1:=keep_fr hc dd1 (HRB.out _ (by omega))
     have a2:=keep_fr hc dd2 (HRB.out _ (by omega))
     have a3:=keep_fr hc dd3 (HRB.out _ (by omega))
     have a4:=keep_fr hc dd4 (HRB.out _ (by omega))
     have a5:=keep_fr hc dd5 (HRB.out _ (by omega))
     have a6:=keep_fr hc dd6 (HRB.out _ (by omega))
     have a7:=keep_fr hc dd7 (HRB.out _ (by omega))
     clear hc
     go_simp
    simp only [Act.put,zA,zB,zC]
    refine wpAnyH_take (i:=5) (v:=.pointer (some ⟨wr.heap.size,8,none⟩)) rfl (by kernel_rfl) (by kernel_rfl) (by kernel_rfl) (fun _ _ _ h=>h) (Or.inl ⟨by rfl,?_⟩) (by assumption) ?_
    ·intro w' hc
     clear hc
     go_simp
    simp only [Act.put,zA,zB,zC]
    refine wpAnyH_take (i:=6) (v:=.int .u64 sl.dflt) rfl (by kernel_rfl) (by kernel_rfl) (by kernel_rfl) (fun _ _ _ h=>h) (Or.inl ⟨by rfl,?_⟩) (by assumption) ?_
    ·intro w' hc
     have a0:=keep_fr hc dd8 (HRB.out _ (by omega))
     clear hc
     go_simp
    simp only [Act.put,zA,zB,zC]
    refine wpAnyH_ready (rs:=[4]) (by kernel_rfl) (by simp) ?_
    refine AllReadyH.cons rfl (fun K hK=>?_) AllReadyH.nil
    go_simp
    refine (HCL.out _ ((Fr.refl _ w5).drew)).mono ?_
    rintro e6 w6 ⟨csr,rfl,hv6,hf6⟩
    have HV6:=Hd hv6
    have hone:=hv6.one
    obtain ⟨na6,nl6,nc6,ka6,nk6,kc6,sa6,ns6,sc6,rfl⟩:=hv6.lit
    have HON:=Hd hone
    have hf6:=hf6.fromDrew
    have HF6:=Hd hf6
    have hS6:Fr (fun b=>some b=sv.ownBlock) w5 w6:=hf6.mono (fun _ _ x=>x.elim)
    clear hv6 hone hf6
    refine hK.out _ _ hS6 (fun _=>?_)
    try simp only [Act.put,zA,zB,zC]
    refine wpAnyH_take (i:=7) (v:=.agg #[.bool false,.int .u8 sh.kind,.int .u8 sh.elem,.int .u64 sh.num,.string (strOf sh.text),.slice na6 nl6 nc6,.slice ka6 nk6 kc6,.slice sa6 ns6 sc6,.int .u64 sl.dflt]) rfl (by kernel_rfl) (by kernel_rfl) (by kernel_rfl) (fun _ _ _ h=>h) (Or.inl ⟨by rfl,?_⟩) (by assumption) ?_
    ·intro w' hc
     clear hc
     go_simp
    simp only [Act.put,zA,zB,zC]
    refine wpAnyH_ready (rs:=[8]) (by kernel_rfl) (by simp) ?_
    refine AllReadyH.cons rfl (fun K hK=>?_) AllReadyH.nil
    go_simp
    have hS7:=hS6.alloc (.cells #[.bool false,.int .u8 sh.kind,.int .u8 sh.elem,.int .u64 sh.num,.string (strOf sh.text),.slice na6 nl6 nc6,.slice ka6 nk6 kc6,.slice sa6 ns6 sc6,.int .u64 sl.dflt] 54)
    refine hK.out _ _ hS7 (fun _=>?_)
    try simp only [Act.put,zA,zB,zC]
    refine wpAnyH_ready (rs:=[9]) (by kernel_rfl) (by simp) ?_
    refine AllReadyH.cons rfl (fun K hK=>?_) AllReadyH.nil
    refine step_append_lies _ (by rfl) _ _ _ (by rfl) (w.heap.size+c) 54 i1 _ 9 120 Tryz.underlying25 hj hy0 hy1 hy2 rfl (by decide) sv i2 (sits.map fun x=>slotC x.2 x.1).flatten (by rfl) ((ownFr HOW.out HF6.out (fun _ _ x=>x)).alloc _) ⟨w6.heap.size,0,none⟩ 1 1 (slotC ⟨false,sh,sl.dflt⟩ [.int .u8 sh.kind,.int .u8 sh.elem,.int .u64 sh.num,.string (strOf sh.text),.slice na6 nl6 nc6,.slice ka6 nk6 kc6,.slice sa6 ns6 sc6]) (by rfl) (by rfl) (newsL _ _ _ _ rfl) (slotC_one HON.out) (by omega) (by unfold maxLen;omega) (by omega) (by have:=HF6.out.size;simp;omega) (w6.heap.size+1) (by simp) ?_
    intro g7 cap7 w7 hown7 hgrow7 hat7 hlt7
    have hS8:=hS7.trans (grown_fr' hgrow7)
    have s1:=keep_fr hS8 dO (HRB.out _ (by omega))
    have s2:=keep_frF hS8 dO gO (HRB.out _ (by omega))
    have HG7:=Hd hgrow7
    have HO7:=Hd hown7
    have HA7:=Hd hat7
    refine hK.out _ _ hS8 (fun _=>?_)
    try simp only [Act.put,zA,zB,zC]
    clear hgrow7 hown7 hat7 hS6 hS7 dd0 dd1 dd2 dd3 dd4 dd5 dd6 dd7 dd8 dO gO
    refine wpAnyH_done (by kernel_rfl) ?_ _
    show wpTail _ _ _ _ _ _ _
    refine wpTail_step (by rfl) (fun K hK=>?_)
    go_simp
    refine hK _ _ ?_
    refine wpTail_step (by rfl) (fun K hK=>?_)
    go_simp
    refine hK _ _ ?_
    refine wpTail_nil ?_
    clear hK K
    have hnext:TVR2 B w [.int .u8 k,.int .u8 e,.int .u64 n,.string tt,.slice na nl nc,.slice ka nk kc,.slice (some ⟨sg,so,none⟩) nss sc] 27 27 54 k e 0 ZT (.slice none 0 0) c (.slice none 0 0) ([]:List (List Value × Val)) ((ss.map shS).take (i2+1)) (w7.setCell ⟨w.heap.size+1+1,6,none⟩ (.slice (some ⟨g7,0,none⟩) (i2+1) cap7)):=by
     have hw5:=HW.out
     have hf6:=HF6.out
     have hv6:=HV6.out
     rw [← hw5] at hf6
     have hss:shS sl=⟨false,sh,sl.dflt⟩:=by rw [← HSH.out];rfl
     refine ⟨_,_,HR.out.next (sl:=shS sl) (o':=.cells #[.bool sl.has,.int .u8 kid.kind,.int .u8 kid.elem,.int .u64 kid.num,.string (strOf kid.text),.slice na1 nl1 nc1,.slice ka1 nk1 kc1,.slice sa1 ns1 sc1,.int .u64 sl.dflt] 54) hf6 (by rw [HSH.out];exact VIs.mono (Nat.le_refl _) (fun b _ hb=>⟨by rw [hw5];exact hb,rfl⟩) hv6) HSLD.out HG7.out (by rw [HLEN.out]) (by rw [hss];exact HO7.out) HA7.out,?_⟩
     have hik:i2<ss.length:=by have:=HNS.out;omega
     rw [List.map_append,HSI.out,List.take_add_one,List.getElem?_map,List.getElem?_eq_getElem hik,← HSLE.out];rfl
    have HNX:=Hd hnext
    clear hnext s1 s2 hS8
    go_wp2_with fail
    go_roundw
    case rel=>exact ⟨i2+1,by omega,by go_num,HNX.out⟩
    case measure=>simp [intOf];omega
   ·have hie2:i2=nss:=by omega
    have hsall:(ss.map shS).take i2=ss.map shS:=by rw [hie2,HNS.out];exact List.take_of_length_le (by rw [List.length_map];exact Nat.le_refl _)
    rw [hsall] at hsits
    have HSF:=Hd hsits
    obtain ⟨ask,bsk,gsk,rfl,_⟩:=own_form hR.srow.own
    have o0:wr.cell? ⟨w.heap.size+1+1,0,none⟩=some (.int .u8 k):=by rw [cell_of hR.out];rfl
    have o1:wr.cell? ⟨w.heap.size+1+1,1,none⟩=some (.int .u8 e):=by rw [cell_of hR.out];rfl
    have o2:wr.cell? ⟨w.heap.size+1+1,2,none⟩=some (.int .u64 0):=by rw [cell_of hR.out];rfl
    have o3:wr.cell? ⟨w.heap.size+1+1,3,none⟩=some (.string ZT):=by rw [cell_of hR.out];rfl
    have o4:wr.cell? ⟨w.heap.size+1+1,4,none⟩=some (.slice none 0 0):=by rw [cell_of hR.out];rfl
    have o5:wr.cell? ⟨w.heap.size+1+1,5,none⟩=some ((.slice none 0 0)):=by rw [cell_of hR.out];rfl
    have o6:wr.cell? ⟨w.heap.size+1+1,6,none⟩=some (.slice ask sits.length bsk):=by rw [cell_of hR.out];rfl
    obtain ⟨rc,hrc,hres⟩:=hR.res
    have q:∀ j,j<7→∃ u,wr.cell? ⟨w.heap.size+1,j,none⟩=some u:=fun j hj=>⟨_,by rw [cell_of hres];exact Array.getElem?_eq_getElem (by omega)⟩
    obtain ⟨u0',q0⟩:=q 0 (by omega)
    obtain ⟨u1',q1⟩:=q 1 (by omega)
    obtain ⟨u2',q2⟩:=q 2 (by omega)
    obtain ⟨u3',q3⟩:=q 3 (by omega)
    obtain ⟨u4',q4⟩:=q 4 (by omega)
    obtain ⟨u5',q5⟩:=q 5 (by omega)
    obtain ⟨u6',q6⟩:=q 6 (by omega)
    have f0:=frozen_of hres 0
    have f1:=frozen_of hres 1
    have f2:=frozen_of hres 2
    have f3:=frozen_of hres 3
    have f4:=frozen_of hres 4
    have f5:=frozen_of hres 5
    have f6:=frozen_of hres 6
    have HRS:=Hd hres
    have HRC:=Hd hrc
    clear hsall hsits hR hres q hrc
    go_wp2_with fail
    refine bodyPost_ret (results_set7 (P:=Tryz.prog) rfl _ _ (w.heap.size+1) 27 _ _ _ _ _ _ _ _ _ rfl HRC.out HRS.out Tryz.underlying27 rfl infoSVs) rfl ?_
    rw [shape_def2]
    have hlast:=TV2.last HR.out rfl HSF.out (show ZT=strOf (List.replicate L 0) by exact HZT.out) rfl ⟨none,0,rfl,Nat.le_refl _,Nat.zero_le _,fun h=>absurd rfl h,fun n hn=>by cases hn⟩ hk he (Nat.two_pow_pos 64) (by rw [List.length_replicate];unfold maxLen;omega) (fr_set7 wr (w.heap.size+1) (.int .u8 k) (.int .u8 e) (.int .u64 0) (.string ZT) (.slice none 0 0) ((.slice none 0 0)) (.slice ask sits.length bsk))
    have hfin:Val.mk k e 0 (List.replicate L 0) [] (List.map (·.2) ([]:List (List Value × Val))) (ss.map shS)=.mk k e 0 (if k=17 then List.replicate t.length 0 else []) [] (shapeK k ks) (ss.map fun s=>⟨false,shape s.val,s.dflt⟩):=by
     unfold shapeK;rw [if_pos HH17.out,if_neg (by have:=HH17.out;omega),HLL.out];rfl
    rw [hfin] at hlast
    exact hlast
end Go.Proofs.YtcfblkkpclfmaaaGreat
