/- Part 46 of the proof of FnTrimmed (FnTrimmed). No condition is laid on the statement. -/
import Derived.Test.YtcfblkkpclfmaaaGreatTr45
set_option linter.unusedVariables false
set_option linter.unusedSimpArgs false
namespace Go.Proofs.YtcfblkkpclfmaaaGreat
open Go.RowKit
set_option maxRecDepth 100000 in
set_option maxHeartbeats 16000000 in
theorem FnTrimmed_walk (v:Val) (cs:List Value) (sz:Int) (id:List UInt8) (sh:Bool) (u:Nat) (hu:u<256) (w:World) (hv:VIs (fun _=>True) w cs v) :
  Calls Tryz.prog 14 #[.agg cs.toArray,.agg #[.int .i64 sz,.string (strOf id),.bool sh],.int .u8 u] w fun e w'=>e=.returned (.bool true)∧Below w.heap.size w w':=by
 obtain ⟨i1,hj,hy0,hy1,hy2⟩:=info_parts infoSSlt
 obtain ⟨na,nl,nc,ka,nk,kc,sa,ns,sc,rfl⟩:=hv.lit
 obtain ⟨ii,hii⟩:∃ ii,ii=strOf id:=⟨_,rfl⟩
 have HZ8:=Hd (show ∀ w,Calls Tryz.prog 17 #[.agg #[.int .i64 sz,.string ii,.bool sh]] w fun e w'=>e=.returned (.bool (decide (id.length≤2147483647)))∧Fr0 w w' from fun w=>by rw [hii];exact zzFits8_calls sz id sh w)
 have HII:=Hd hii
 rw [← hii]
 have HST:=Hd (show LF w [.int .u8 v.kind,.int .u8 v.elem,.int .u64 v.num,.string (strOf v.text),.slice na nl nc,.slice ka nk kc,.slice sa ns sc] [.int .i64 sz,.string ii,.bool sh] ((w.alloc (.cells #[.int .u8 v.kind,.int .u8 v.elem,.int .u64 v.num,.string (strOf v.text),.slice na nl nc,.slice ka nk kc,.slice sa ns sc] 27)).alloc (.cells #[.int .i64 sz,.string ii,.bool sh] 29)) from LF.start w _ _)
 have HVV:=Hd hv
 clear hv hii
 go_enter Tryz.func14,Tryz.ntmps14
 go_upto_region 1 with fail
 generalize hw2:((w.alloc (.cells #[.int .u8 v.kind,.int .u8 v.elem,.int .u64 v.num,.string (strOf v.text),.slice na nl nc,.slice ka nk kc,.slice sa ns sc] 27)).alloc (.cells #[.int .i64 sz,.string ii,.bool sh] 29))=w2 at *
 clear hw2
 obtain ⟨a0,a1,a2,a3,a4,a5,a6⟩:=HST.out.v7
 obtain ⟨o0,o1,o2⟩:=HST.out.o3
 go_wp2_with fail
 refine (zzFits7_calls v _ w2 (HVV.out.fr0 HST.out.fr (fun _ _ h=>h))).mono ?_
 rintro e3 w3 ⟨⟨r7,rfl⟩,hf3⟩
 have HL3:=Hd (HST.out.next hf3)
 clear hf3 a0 a1 a2 a3 a4 a5 a6 o0 o1 o2
 obtain ⟨a0,a1,a2,a3,a4,a5,a6⟩:=HL3.out.v7
 obtain ⟨o0,o1,o2⟩:=HL3.out.o3
 cases r7 with
 | false =>
  go_wp2_with fail
  go_ret
  exact ⟨rfl,HL3.out.fr.below⟩
 | true =>
  go_wp2_with fail
  refine (HZ8.out _).mono ?_
  rintro e4 w4 ⟨rfl,hf4⟩
  have HL4:=Hd (HL3.out.next hf4)
  clear hf4 a0 a1 a2 a3 a4 a5 a6 o0 o1 o2
  obtain ⟨a0,a1,a2,a3,a4,a5,a6⟩:=HL4.out.v7
  obtain ⟨o0,o1,o2⟩:=HL4.out.o3
  by_cases hi8:¬ id.length≤2147483647
  ·rw [decide_eq_false hi8]
   go_wp2_with fail
   go_ret
   exact ⟨rfl,HL4.out.fr.below⟩
  rw [decide_eq_true (Decidable.not_not.1 hi8)]
  clear hi8
  have HFIT:=Hd (show ∀ (w:World) (cs:List Value) (hv:VIs (fun _=>True) w cs v),Calls Tryz.prog 18 #[.agg cs.toArray,.agg #[.int .i64 sz,.string ii,.bool sh]] w fun e w'=>(∃ r,e=.returned (.bool r)∧(r=true→Good v∧v.kind=15∧nodes v≤150∧1≤sz∧sz≤2000∧(id=[]∨id.length=4)))∧Fr0 w w' from fun w cs hv=>by rw [HII.out];exact valueFits_calls v cs sz id sh w hv)
  go_wp2_with fail
  refine (HFIT.out _ _ (HVV.out.fr0 HL4.out.fr (fun _ _ h=>h))).mono ?_
  rintro e6 w6 ⟨⟨r,rfl,hr⟩,hf6⟩
  have HL6:=Hd (HL4.out.next hf6)
  have HR:=Hd hr
  clear hf6 hr a0 a1 a2 a3 a4 a5 a6 o0 o1 o2
  obtain ⟨a0,a1,a2,a3,a4,a5,a6⟩:=HL6.out.v7
  obtain ⟨o0,o1,o2⟩:=HL6.out.o3
  cases r with
  | false =>
   go_wp2_with fail
   refine (valueAwake_calls _).mono ?_
   rintro eA wA ⟨rfl,hfA⟩
   have HLA:=Hd (HL6.out.next hfA)
   clear hfA
   go_wp2_with fail
   go_ret
   exact ⟨rfl,HLA.out.fr.below⟩
  | true =>
   obtain ⟨hg,hk15,hn150,hsz1,hsz2,hid4⟩:=HR.out (by simp)
   obtain ⟨szn,rfl⟩:=Int.eq_ofNat_of_zero_le (show 0≤sz by omega)
   have HGD:=Hd hg
   have HK15:=Hd hk15
   have HN150:=Hd hn150
   have HSZ:=Hd (And.intro hsz1 (And.intro hsz2 hid4))
   clear hg hk15 hn150 hsz1 hsz2 hid4
   have hold:w.heap.size+2≤w6.heap.size:=HL6.out.size
   obtain ⟨m,hm,hm2⟩:∃ m:Nat,(m:Int)=(u:Int) % 21∧m≤20:=⟨u % 21,by omega,by omega⟩
   have HM2:=Hd hm
   clear hm
   go_upto_region 6 with fail
   have HL7:=Hd (HL6.out.next ((Fr.refl (fun _=>False) w6).alloc (.cells #[.int .u8 v.kind,.int .u8 v.elem,.int .u64 v.num,.string (strOf v.text),.slice na nl nc,.slice ka nk kc,.slice sa ns sc] 27)))
   have HLG7:=Hd (show (w6.alloc (.cells #[.int .u8 v.kind,.int .u8 v.elem,.int .u64 v.num,.string (strOf v.text),.slice na nl nc,.slice ka nk kc,.slice sa ns sc] 27)).heap[w6.heap.size]?=some (.cells #[.int .u8 v.kind,.int .u8 v.elem,.int .u64 v.num,.string (strOf v.text),.slice na nl nc,.slice ka nk kc,.slice sa ns sc] 27) from heap_alloc_new _ _)
   have HS7:=Hd (show (w6.alloc (.cells #[.int .u8 v.kind,.int .u8 v.elem,.int .u64 v.num,.string (strOf v.text),.slice na nl nc,.slice ka nk kc,.slice sa ns sc] 27)).heap.size=w6.heap.size+1 by simp)
   clear a0 a1 a2 a3 a4 a5 a6 o0 o1 o2
   generalize hw7:(w6.alloc (.cells #[.int .u8 v.kind,.int .u8 v.elem,.int .u64 v.num,.string (strOf v.text),.slice na nl nc,.slice ka nk kc,.slice sa ns sc] 27))=w7 at *
   clear hw7
   obtain ⟨a0,a1,a2,a3,a4,a5,a6⟩:=HL7.out.v7
   obtain ⟨o0,o1,o2⟩:=HL7.out.o3
   have hv7:VIs (fun b=>b<w6.heap.size) w7 [.int .u8 v.kind,.int .u8 v.elem,.int .u64 v.num,.string (strOf v.text),.slice na nl nc,.slice ka nk kc,.slice sa ns sc] v:=HVV.out.fr0 HL7.out.fr (fun b hb _=>by omega)
   obtain ⟨sa2,sc2,sg,so,e6,hsa,hsc,hat⟩:=hv7.slotsAt
   have e6:Value.slice sa ns sc=.slice sa2 v.slots.length sc2:=Option.some.inj e6
   injection e6 with e1 e2 e3
   subst e1 e3
   have hns60:ns≤60:=by rw [e2];exact HGD.out.bld.lens.2.2.2
   have HNS:=Hd e2
   have HAT:=Hd hat
   have HSA:=Hd hsa
   have q6:∀ ob,(w7.alloc ob).cell? ⟨w.heap.size,6,none⟩=some (.slice sa ns sc):=fun ob=>keep_alloc ob a6
   have HE7:=Hd (own_empty (z:=9) (base:=w6.heap.size+1) (g:=w7.heap.size) (by have:=HS7.out;omega) (heap_alloc_new w7 (.cells #[] 54)))
   have hlt7:w6.heap.size<w7.heap.size:=by have:=HS7.out;omega
   have cW:w7.cell? ⟨w6.heap.size,6,none⟩=some (.slice sa ns sc):=(cell_of HLG7.out 6).trans rfl
   have fW:w7.frozen? ⟨w6.heap.size,6,none⟩=false:=frozen_of HLG7.out 6
   clear hv7 hsa hsc hat e2
   go_cut [] (fun wx=>∃ sv,TR w [.int .u8 v.kind,.int .u8 v.elem,.int .u64 v.num,.string (strOf v.text),.slice na nl nc,.slice ka nk kc,.slice sa ns sc] [.int .i64 (szn:Int),.string ii,.bool sh] w6.heap.size [.int .u8 v.kind,.int .u8 v.elem,.int .u64 v.num,.string (strOf v.text),.slice na nl nc,.slice ka nk kc] wx sv (sIts w7 sg so v.slots))
   case first =>
    cases sa with
    | none =>
     have hnil:v.slots=[]:=by
      by_cases h:v.slots=[]
      ·exact h
      ·have:=(HSA.out h).1;cases this
     have cW2:=keep_alloc (.cells #[] 54) cW
     have fW2:=keep_allocF (.cells #[] 54) cW fW
     have hz:ns=0:=by rw [HNS.out,hnil];rfl
     subst hz
     go_wp2_with (at_builtin;refine wpList_append_nil rfl (.tmp 26) (.tmp 28) 25 rfl (w6.heap.size+1) 54 i1 9 sc Tryz.underlying25 hj _ 0 [] rfl HE7.out rfl ?_)
     go_meet
     refine ⟨.slice (some ⟨w7.heap.size,0,none⟩) 0 0,?_⟩
     rw [hnil,setCell_alloc hlt7]
     exact TR.first (its:=[]) (n:=0) HL7.out hold HS7.out HLG7.out (((Fr.refl (fun b=>b=w6.heap.size+1) w7).alloc _)) HE7.out rfl (fun x hx=>by cases hx)
    | some ad =>
     have had:v.slots≠[]→ad=⟨sg,so,none⟩:=fun h=>Option.some.inj (HSA.out h).1
     have hnews:∀ j u,((sIts w7 sg so v.slots).map fun x=>slotC x.2 x.1).flatten[j]?=some u→(w7.alloc (.cells #[] 54)).cell? (ad.add j)=some u:=by
      intro j u hu
      have hne:v.slots≠[]:=by intro h;rw [h] at hu;simp [sIts] at hu
      rw [had hne]
      rw [add_none]
      exact keep_alloc _ (sIts_news v.slots so HAT.out j u hu)
     have HNW:=Hd hnews
     have HLN:=Hd (sIts_len w7 sg v.slots so)
     have HON:=Hd (sIts_one v.slots so HAT.out)
     clear had hnews
     go_wp2_with (at_builtin;go_loud (refine wpList_append_own_at _ rfl (.tmp 26) (.tmp 28) 25 rfl (w6.heap.size+1) 54 i1 _ 9 120 Tryz.underlying25 hj hy0 hy1 hy2 rfl (by decide) _ 0 [] rfl HE7.out ad ns sc (((sIts w7 sg so v.slots).map fun x=>slotC x.2 x.1).flatten) rfl (by rw [HLN.out,HNS.out]) HNW.out HON.out (by unfold maxLen;omega) (by omega) (by simp;omega) ?_);intro v9 w9 hown9 hgrow9 _ hat9;obtain ⟨a9,cap9,g9,rfl,_,_,_⟩:=own_form hown9;have HG9:=Hd hgrow9;have HO9:=Hd hown9;have s1:w9.cell? ⟨w6.heap.size,6,none⟩=some (.slice (some ad) ns sc):=keep_fr (grown_fr' hgrow9) (keep_alloc _ cW) (fun e=>by have e2:some w6.heap.size=some w7.heap.size:=e;injection e2 with e2;omega);have s2:w9.frozen? ⟨w6.heap.size,6,none⟩=false:=keep_frF (grown_fr' hgrow9) (keep_alloc _ cW) (keep_allocF _ cW fW) (fun e=>by have e2:some w6.heap.size=some w7.heap.size:=e;injection e2 with e2;omega);clear hgrow9 hown9 hat9)
     go_meet
     refine ⟨.slice a9 ns cap9,?_⟩
     refine TR.first (n:=ns) HL7.out hold HS7.out HLG7.out ?_ (by have:=HO9.out;rw [Nat.zero_add,List.nil_append] at this;exact this) (by rw [← List.length_map (f:=(·.2)),sIts_map,← HNS.out]) (fun x hx=>sIts_item v.slots so HAT.out x hx)
     exact (((Fr.refl (fun b=>b=w6.heap.size+1) w7).alloc (.cells #[] 54))).trans ((grown_fr' HG9.out).mono (fun b hb e=>by have e2:some b=some w7.heap.size:=e;injection e2 with e2;have:=HS7.out;omega))
   case rest =>
    obtain ⟨sv0,hTR⟩:=hcut
    have HTR:=Hd hTR
    clear hTR q6 cW fW HE7 a0 a1 a2 a3 a4 a5 a6 o0 o1 o2
    go_wp2_with fail
    rw [← HM2.out]
    go_loopw [34] (fun iv wr=>∃ i:Nat,i≤m∧iv=.int .i64 i∧∃ sv,TR w [.int .u8 v.kind,.int .u8 v.elem,.int .u64 v.num,.string (strOf v.text),.slice na nl nc,.slice ka nk kc,.slice sa ns sc] [.int .i64 (szn:Int),.string ii,.bool sh] w6.heap.size [.int .u8 v.kind,.int .u8 v.elem,.int .u64 v.num,.string (strOf v.text),.slice na nl nc,.slice ka nk kc] wr sv (sIts w7 sg so v.slots ++ List.replicate i (s8c,s8))) (fun iv _=>m-(intOf iv).toNat)
    case atStart=>exact ⟨0,Nat.zero_le _,rfl,sv0,by rw [List.replicate_zero,List.append_nil];exact HTR.out⟩
    case round =>
     obtain ⟨i,hi,rfl,sv,hR⟩:=hrel
     have hlen:(sIts w7 sg so v.slots ++ List.replicate i (s8c,s8)).length=ns+i:=by rw [List.length_append,List.length_replicate,← List.length_map (f:=(·.2)),sIts_map,← HNS.out]
     have hown0:=hR.srow.own
     rw [hlen] at hown0
     obtain ⟨av,capv,gv,rfl,_,_,_⟩:=own_form hown0
     have HTr:=Hd hR
     have HOWN:=Hd hown0
     have HLEN:=Hd hlen
     have hwr:=hR.size
     have hlg:=hR.long
     have l0:=(cell_of hlg 0).trans rfl
     have l1:=(cell_of hlg 1).trans rfl
     have l2:=(cell_of hlg 2).trans rfl
     have l3:=(cell_of hlg 3).trans rfl
     have l4:=(cell_of hlg 4).trans rfl
     have l5:=(cell_of hlg 5).trans rfl
     have l6:=(cell_of hlg 6).trans rfl
     have fL:=frozen_of hlg 6
     have HRB:=Hd (fun (e:some w6.heap.size=Value.ownBlock (.slice av (ns+i) capv))=>(by have:=(ownBlock_lt hown0 _ e.symm).1;omega:False))
     clear hR hown0 hlen hlg HTR
     by_cases hlt:i<m
     ·have k6:∀ ob,(wr.alloc ob).cell? ⟨w6.heap.size,6,none⟩=some (.slice av (ns+i) capv):=fun ob=>keep_alloc ob l6
      have f6:∀ ob,(wr.alloc ob).frozen? ⟨w6.heap.size,6,none⟩=false:=fun ob=>keep_allocF ob l6 fL
      go_wp2_with (at_builtin;refine wpList_append_lies _ rfl (.tmp 37) (.tmp 40) 25 rfl (w6.heap.size+1) 54 i1 _ 9 120 Tryz.underlying25 hj hy0 hy1 hy2 rfl (by decide) _ (ns+i) _ rfl (HOWN.out.alloc _) ⟨wr.heap.size,0,none⟩ 1 1 [.bool false,.int .u8 8,.int .u8 0,.int .u64 0,.string ⟨#[]⟩,.slice none 0 0,.slice none 0 0,.slice none 0 0,.int .u64 0] rfl rfl (newsL _ _ _ _ rfl) (slotC_one (s:=s8) (cs:=s8c) (s8_is (fun _=>True) wr).1.one) (by omega) (by unfold maxLen;omega) (by omega) (by simp;omega) (wr.heap.size+1) (by simp) ?_;intro g9 cap9 w9 hown9 hgrow9 hat9 hlt9;have HG9:=Hd hgrow9;have HO9:=Hd hown9;have HA9:=Hd hat9;have s1:=keep_fr (grown_fr' hgrow9) (k6 _) HRB.out;have s2:=keep_frF (grown_fr' hgrow9) (k6 _) (f6 _) HRB.out;clear hgrow9 hown9 hat9)
      go_roundw
      case rel =>
       refine ⟨i+1,by omega,by go_num,.slice (some ⟨g9,0,none⟩) (ns+i+1) cap9,?_⟩
       rw [List.replicate_succ',← List.append_assoc]
       exact TR.next HTr.out (fun B=>s8_is B wr) HG9.out HO9.out (by rw [HLEN.out]) HA9.out
      case measure=>simp [intOf];omega
     ·have him:i=m:=by omega
      obtain ⟨vl,hvl⟩:∃ vl,vl=Val.mk v.kind v.elem v.num v.text v.nums v.kids (v.slots ++ List.replicate m s8):=⟨_,rfl⟩
      have hvis:VIs (fun _=>True) wr [.int .u8 v.kind,.int .u8 v.elem,.int .u64 v.num,.string (strOf v.text),.slice na nl nc,.slice ka nk kc,.slice av (ns+i) capv] vl:=by
       have h:=vis_long (w:=w) (HVV.out.fr0 HTr.out.lf.fr (fun _ _ h=>h)) HTr.out.srow
       rw [List.map_append,sIts_map,List.map_replicate,him] at h
       rw [hvl,him];exact h
      have HLr:=Hd HTr.out.lf
      have HVL:=Hd hvl
      have HVIS:=Hd hvis
      have HFIT2:=Hd (show ∀ (w:World) (cs:List Value) (hv:VIs (fun _=>True) w cs vl),Calls Tryz.prog 18 #[.agg cs.toArray,.agg #[.int .i64 (szn:Int),.string ii,.bool sh]] w fun e w'=>(∃ r,e=.returned (.bool r)∧(r=true→Good vl∧vl.kind=15∧nodes vl≤150∧1≤(szn:Int)∧(szn:Int)≤2000∧(id=[]∨id.length=4)))∧Fr0 w w' from fun w cs hv=>by rw [HII.out];exact valueFits_calls vl cs szn id sh w hv)
      clear hvl hvis him
      obtain ⟨a0,a1,a2,a3,a4,a5,a6⟩:=HLr.out.v7
      obtain ⟨o0,o1,o2⟩:=HLr.out.o3
      go_wp2_with fail
      refine (HFIT2.out _ _ HVIS.out).mono ?_
      rintro e12 w12 ⟨⟨r,rfl,hr⟩,hf12⟩
      have HL12:=Hd (HLr.out.next hf12)
      have HR2:=Hd hr
      have HVL12:=Hd (HVIS.out.fr0 hf12 (fun _ _ h=>h))
      have m0:=keep_fr hf12 l0 (fun x=>x)
      have m1:=keep_fr hf12 l1 (fun x=>x)
      have m2:=keep_fr hf12 l2 (fun x=>x)
      have m3:=keep_fr hf12 l3 (fun x=>x)
      have m4:=keep_fr hf12 l4 (fun x=>x)
      have m5:=keep_fr hf12 l5 (fun x=>x)
      have m6:=keep_fr hf12 l6 (fun x=>x)
      clear hf12 hr fL l0 l1 l2 l3 l4 l5 l6 a0 a1 a2 a3 a4 a5 a6 o0 o1 o2
      obtain ⟨a0,a1,a2,a3,a4,a5,a6⟩:=HL12.out.v7
      obtain ⟨o0,o1,o2⟩:=HL12.out.o3
      cases r with
      | false =>
       go_wp2_with fail
       refine (valueAwake_calls _).mono ?_
       rintro eA wA ⟨rfl,hfA⟩
       have HLA:=Hd (HL12.out.next hfA)
       clear hfA
       go_wp2_with fail
       go_ret
       exact ⟨rfl,HLA.out.fr.below⟩
      | true =>
       obtain ⟨hg2,hk2,hn2,_,_,_⟩:=HR2.out (by simp)
       have HG2:=Hd hg2
       have HK2:=Hd hk2
       have HN2:=Hd hn2
       clear hg2 hk2 hn2
       go_upto_region 13 with fail
       refine wp_region_tail_held 9 (S:=(fun w'=>Fr0 w12 w')) _ (by kernel_rfl) (by kernel_rfl) (by kernel_rfl) ((Fr.refl _ w12).drew) (fun hHeld=>?_)
       simp only [List.take_succ_cons,List.take_zero,List.drop_succ_cons,List.drop_zero,List.length_cons,List.length_nil,Nat.zero_add,Nat.reduceAdd]
       refine wpAnyH_take (i:=0) (v:=.agg #[.int .u8 v.kind,.int .u8 v.elem,.int .u64 v.num,.string (strOf v.text),.slice na nl nc,.slice ka nk kc,.slice sa ns sc]) rfl (by kernel_rfl) (by kernel_rfl) (by kernel_rfl) (fun _ _ _ h=>h) (Or.inl ⟨by rfl,?_⟩) (by assumption) ?_
       ·intro w' hc
        have b0:=keep_fr hc a0 (fun x=>x)
        have b1:=keep_fr hc a1 (fun x=>x)
        have b2:=keep_fr hc a2 (fun x=>x)
        have b3:=keep_fr hc a3 (fun x=>x)
        have b4:=keep_fr hc a4 (fun x=>x)
        have b5:=keep_fr hc a5 (fun x=>x)
        have b6:=keep_fr hc a6 (fun x=>x)
        clear hc
        go_simp
       simp only [Act.put,zA,zB,zC]
       refine wpAnyH_take (i:=2) (v:=.agg #[.int .i64 (szn:Int),.string ii,.bool sh]) rfl (by kernel_rfl) (by kernel_rfl) (by kernel_rfl) (fun _ _ _ h=>h) (Or.inl ⟨by rfl,?_⟩) (by assumption) ?_
       ·intro w' hc
        have p0:=keep_fr hc o0 (fun x=>x)
        have p1:=keep_fr hc o1 (fun x=>x)
        have p2:=keep_fr hc o2 (fun x=>x)
        clear hc
        go_simp
       simp only [Act.put,zA,zB,zC]
       refine wpAnyH_ready (rs:=[1]) (by kernel_rfl) (by simp) ?_
       refine AllReadyH.cons rfl (fun K hK=>?_) AllReadyH.nil
       go_simp
       refine (toValue_calls v HGD.out.small (fun _=>True) _ _ ((HVV.out.fr0 HL12.out.fr (fun _ _ h=>h)).fr0 ((Fr.refl _ w12).drew) (fun _ _ h=>h))).mono ?_
       rintro e13 w13 ⟨csr13,rfl,hv13,hf13⟩
       have HV13:=Hd (hv13.mono (B':=fun _=>True) (Nat.le_refl _) (fun b _ _=>⟨trivial,rfl⟩))
       have hf13:Fr0 w12 w13:=hf13.fromDrew
       have HF13:=Hd hf13
       obtain ⟨na13,nl13,nc13,ka13,nk13,kc13,sa13,ns13,sc13,rfl⟩:=hv13.lit
       clear hv13
       refine hK.out _ _ hf13 (fun _=>?_)
       try simp only [Act.put,zA,zB,zC]
       clear hf13
       refine wpAnyH_ready (rs:=[3]) (by kernel_rfl) (by simp) ?_
       refine AllReadyH.cons rfl (fun K hK=>?_) AllReadyH.nil
       go_simp
       rw [HII.out]
       refine (Build_calls sh id v HGD.out.bld HK15.out HN150.out HSZ.out.2.2 szn (by have:=HSZ.out;omega) _ _ HV13.out).mono ?_
       rintro e14 w14 ⟨st14,hb14,hok14,rfl,hf14⟩
       obtain ⟨S14,hS14⟩:∃ S,S=strOf st14.m.bytes:=⟨_,rfl⟩
       rw [← hS14]
       rw [← HII.out]
       have HB14:=Hd hb14
       have HOK14:=Hd hok14
       have HS14:=Hd hS14
       have hf14:Fr0 w12 w14:=HF13.out.trans hf14
       clear hb14 hok14 hS14
       refine hK.out _ _ hf14 (fun _=>?_)
       try simp only [Act.put,zA,zB,zC]
       refine wpAnyH_take (i:=4) (v:=.tuple #[.string S14,.bool true]) rfl (by kernel_rfl) (by kernel_rfl) (by kernel_rfl) (fun _ _ _ h=>h) (Or.inl ⟨by rfl,?_⟩) (by assumption) ?_
       ·intro w' hc
        clear hc
        go_simp
       simp only [Act.put,zA,zB,zC]
       refine wpAnyH_take (i:=5) (v:=.string S14) rfl (by kernel_rfl) (by kernel_rfl) (by kernel_rfl) (fun _ _ _ h=>h) (Or.inl ⟨by rfl,?_⟩) (by assumption) ?_
       ·intro w' hc
        clear hc
        go_simp
       simp only [Act.put,zA,zB,zC]
       refine wpAnyH_take (i:=6) (v:=.bool true) rfl (by kernel_rfl) (by kernel_rfl) (by kernel_rfl) (fun _ _ _ h=>h) (Or.inl ⟨by rfl,?_⟩) (by assumption) ?_
       ·intro w' hc
        clear hc
        go_simp
       simp only [Act.put,zA,zB,zC]
       refine wpAnyH_take (i:=7) (v:=.string S14) rfl (by kernel_rfl) (by kernel_rfl) (by kernel_rfl) (fun _ _ _ h=>h) (Or.inl ⟨by rfl,?_⟩) (by assumption) ?_
       ·intro w' hc
        clear hc
        go_simp
       simp only [Act.put,zA,zB,zC]
       refine wpAnyH_take (i:=8) (v:=.bool true) rfl (by kernel_rfl) (by kernel_rfl) (by kernel_rfl) (fun _ _ _ h=>h) (Or.inl ⟨by rfl,?_⟩) (by assumption) ?_
       ·intro w' hc
        clear hc
        go_simp
       simp only [Act.put,zA,zB,zC]
       have HFF14:=Hd hf14
       have HL14:=Hd (HL12.out.next hf14)
       refine wpAnyH_done (by kernel_rfl) ?_ _
       show wpTail _ _ _ _ _ _ _
       refine wpTail_nil ?_
       clear a0 a1 a2 a3 a4 a5 a6 o0 o1 o2
       obtain ⟨a0,a1,a2,a3,a4,a5,a6⟩:=HL14.out.v7
       obtain ⟨o0,o1,o2⟩:=HL14.out.o3
       have n0:=keep_fr HFF14.out m0 (fun x=>x)
       have n1:=keep_fr HFF14.out m1 (fun x=>x)
       have n2:=keep_fr HFF14.out m2 (fun x=>x)
       have n3:=keep_fr HFF14.out m3 (fun x=>x)
       have n4:=keep_fr HFF14.out m4 (fun x=>x)
       have n5:=keep_fr HFF14.out m5 (fun x=>x)
       have n6:=keep_fr HFF14.out m6 (fun x=>x)
       clear m0 m1 m2 m3 m4 m5 m6
       go_upto_region 14 with fail
       refine wp_region_tail_held 9 (S:=(fun w'=>Fr0 w14 w')) _ (by kernel_rfl) (by kernel_rfl) (by kernel_rfl) ((Fr.refl _ w14).drew) (fun hHeld=>?_)
       simp only [List.take_succ_cons,List.take_zero,List.drop_succ_cons,List.drop_zero,List.length_cons,List.length_nil,Nat.zero_add,Nat.reduceAdd]
       refine wpAnyH_take (i:=0) (v:=.agg #[.int .u8 v.kind,.int .u8 v.elem,.int .u64 v.num,.string (strOf v.text),.slice na nl nc,.slice ka nk kc,.slice av (ns+i) capv]) rfl (by kernel_rfl) (by kernel_rfl) (by kernel_rfl) (fun _ _ _ h=>h) (Or.inl ⟨by rfl,?_⟩) (by assumption) ?_
       ·intro w' hc
        have b0:=keep_fr hc n0 (fun x=>x)
        have b1:=keep_fr hc n1 (fun x=>x)
        have b2:=keep_fr hc n2 (fun x=>x)
        have b3:=keep_fr hc n3 (fun x=>x)
        have b4:=keep_fr hc n4 (fun x=>x)
        have b5:=keep_fr hc n5 (fun x=>x)
        have b6:=keep_fr hc n6 (fun x=>x)
        clear hc
        go_simp
       simp only [Act.put,zA,zB,zC]
       refine wpAnyH_take (i:=2) (v:=.agg #[.int .i64 (szn:Int),.string ii,.bool sh]) rfl (by kernel_rfl) (by kernel_rfl) (by kernel_rfl) (fun _ _ _ h=>h) (Or.inl ⟨by rfl,?_⟩) (by assumption) ?_
       ·intro w' hc
        have p0:=keep_fr hc o0 (fun x=>x)
        have p1:=keep_fr hc o1 (fun x=>x)
        have p2:=keep_fr hc o2 (fun x=>x)
        clear hc
        go_simp
       simp only [Act.put,zA,zB,zC]
       refine wpAnyH_ready (rs:=[1]) (by kernel_rfl) (by simp) ?_
       refine AllReadyH.cons rfl (fun K hK=>?_) AllReadyH.nil
       go_simp
       refine (toValue_calls vl HG2.out.small (fun _=>True) _ _ ((HVL12.out.fr0 HFF14.out (fun _ _ h=>h)).fr0 ((Fr.refl _ w14).drew) (fun _ _ h=>h))).mono ?_
       rintro e15 w15 ⟨csr15,rfl,hv15,hf15⟩
       have HV15:=Hd (hv15.mono (B':=fun _=>True) (Nat.le_refl _) (fun b _ _=>⟨trivial,rfl⟩))
       have hf15:Fr0 w14 w15:=hf15.fromDrew
       have HF15:=Hd hf15
       obtain ⟨na15,nl15,nc15,ka15,nk15,kc15,sa15,ns15,sc15,rfl⟩:=hv15.lit
       clear hv15
       refine hK.out _ _ hf15 (fun _=>?_)
       try simp only [Act.put,zA,zB,zC]
       clear hf15
       refine wpAnyH_ready (rs:=[3]) (by kernel_rfl) (by simp) ?_
       refine AllReadyH.cons rfl (fun K hK=>?_) AllReadyH.nil
       go_simp
       rw [HII.out]
       refine (Build_calls sh id vl HG2.out.bld HK2.out HN2.out HSZ.out.2.2 szn (by have:=HSZ.out;omega) _ _ HV15.out).mono ?_
       rintro e16 w16 ⟨st16,hb16,hok16,rfl,hf16⟩
       obtain ⟨S16,hS16⟩:∃ S,S=strOf st16.m.bytes:=⟨_,rfl⟩
       rw [← hS16]
       rw [← HII.out]
       have HB16:=Hd hb16
       have HOK16:=Hd hok16
       have HS16:=Hd hS16
       have hf16:Fr0 w14 w16:=HF15.out.trans hf16
       clear hb16 hok16 hS16
       refine hK.out _ _ hf16 (fun _=>?_)
       try simp only [Act.put,zA,zB,zC]
       refine wpAnyH_take (i:=4) (v:=.tuple #[.string S16,.bool true]) rfl (by kernel_rfl) (by kernel_rfl) (by kernel_rfl) (fun _ _ _ h=>h) (Or.inl ⟨by rfl,?_⟩) (by assumption) ?_
       ·intro w' hc
        clear hc
        go_simp
       simp only [Act.put,zA,zB,zC]
       refine wpAnyH_take (i:=5) (v:=.string S16) rfl (by kernel_rfl) (by kernel_rfl) (by kernel_rfl) (fun _ _ _ h=>h) (Or.inl ⟨by rfl,?_⟩) (by assumption) ?_
       ·intro w' hc
        clear hc
        go_simp
       simp only [Act.put,zA,zB,zC]
       refine wpAnyH_take (i:=6) (v:=.bool true) rfl (by kernel_rfl) (by kernel_rfl) (by kernel_rfl) (fun _ _ _ h=>h) (Or.inl ⟨by rfl,?_⟩) (by assumption) ?_
       ·intro w' hc
        clear hc
        go_simp
       simp only [Act.put,zA,zB,zC]
       refine wpAnyH_take (i:=7) (v:=.string S16) rfl (by kernel_rfl) (by kernel_rfl) (by kernel_rfl) (fun _ _ _ h=>h) (Or.inl ⟨by rfl,?_⟩) (by assumption) ?_
       ·intro w' hc
        clear hc
        go_simp
       simp only [Act.put,zA,zB,zC]
       refine wpAnyH_take (i:=8) (v:=.bool true) rfl (by kernel_rfl) (by kernel_rfl) (by kernel_rfl) (fun _ _ _ h=>h) (Or.inl ⟨by rfl,?_⟩) (by assumption) ?_
       ·intro w' hc
        clear hc
        go_simp
       simp only [Act.put,zA,zB,zC]
       have HFF16:=Hd hf16
       have HL16:=Hd (HL14.out.next hf16)
       refine wpAnyH_done (by kernel_rfl) ?_ _
       show wpTail _ _ _ _ _ _ _
       refine wpTail_nil ?_
       have hs:S16=S14:=by
        have e1:=trim_built (v:=v) (long:=vl) (more:=List.replicate m s8) (by rw [HVL.out];rfl) (fun s hs=>by rw [(List.mem_replicate.1 hs).2];rfl) HB14.out
        rw [HB16.out] at e1
        injection e1 with e1
        rw [HS16.out,HS14.out,e1]
       subst hs
       clear a0 a1 a2 a3 a4 a5 a6 o0 o1 o2 n0 n1 n2 n3 n4 n5 n6
       go_wp2_with fail
       refine (valueAwake_calls _).mono ?_
       rintro eA wA ⟨rfl,hfA⟩
       have HLA:=Hd (HL16.out.next hfA)
       clear hfA
       go_wp2_with fail
       go_ret
       exact ⟨rfl,HLA.out.fr.below⟩
end Go.Proofs.YtcfblkkpclfmaaaGreat
