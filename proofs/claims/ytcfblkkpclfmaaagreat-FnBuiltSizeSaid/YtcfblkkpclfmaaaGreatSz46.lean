/- Part 46 of the proof of FnBuiltSize (FnBuiltSize). No condition is laid on the statement. -/
import Derived.Test.YtcfblkkpclfmaaaGreatSz45
set_option linter.unusedVariables false
set_option linter.unusedSimpArgs false
namespace Go.Proofs.YtcfblkkpclfmaaaGreat
open Go.RowKit
set_option maxRecDepth 100000 in
set_option maxHeartbeats 16000000 in
theorem FnBuiltSize_walk (v:Val) (cs:List Value) (sz:Int) (id:List UInt8) (sh:Bool) (u:Nat) (hu:u<65536) (w:World) (hv:VIs (fun _=>True) w cs v) :
  Calls Tryz.prog 8 #[.agg cs.toArray,.agg #[.int .i64 sz,.string (strOf id),.bool sh],.int .u16 u] w fun e w'=>e=.returned (.bool true)∧Below w.heap.size w w':=by
 obtain ⟨na,nl,nc,ka,nk,kc,sa,ns,sc,rfl⟩:=hv.lit
 obtain ⟨ii,hii⟩:∃ ii,ii=strOf id:=⟨_,rfl⟩
 have HZ8:=Hd (show ∀ w,Calls Tryz.prog 17 #[.agg #[.int .i64 sz,.string ii,.bool sh]] w fun e w'=>e=.returned (.bool (decide (id.length≤2147483647)))∧Fr0 w w' from fun w=>by rw [hii];exact zzFits8_calls sz id sh w)
 have HII:=Hd hii
 rw [← hii]
 have HST:=Hd (show LF w [.int .u8 v.kind,.int .u8 v.elem,.int .u64 v.num,.string (strOf v.text),.slice na nl nc,.slice ka nk kc,.slice sa ns sc] [.int .i64 sz,.string ii,.bool sh] ((w.alloc (.cells #[.int .u8 v.kind,.int .u8 v.elem,.int .u64 v.num,.string (strOf v.text),.slice na nl nc,.slice ka nk kc,.slice sa ns sc] 27)).alloc (.cells #[.int .i64 sz,.string ii,.bool sh] 29)) from LF.start w _ _)
 have HVV:=Hd hv
 clear hv hii
 go_enter Tryz.func8,Tryz.ntmps8
 go_upto_region 1 with fail
 generalize hw2:((w.alloc (.cells #[.int .u8 v.kind,.int .u8 v.elem,.int .u64 v.num,.string (strOf v.text),.slice na nl nc,.slice ka nk kc,.slice sa ns sc] 27)).alloc (.cells #[.int .i64 sz,.string ii,.bool sh] 29))=w2 at *
 clear hw2
 obtain ⟨a0,a1,a2,a3,a4,a5,a6⟩:=HST.out.v7
 obtain ⟨o0,o1,o2⟩:=HST.out.o3
 go_wp2_with fail
 refine (zzFits7_calls v _ w2 (HVV.out.fr0 HST.out.fr (fun _ _ h=>h))).mono ?_
 rintro e3 w3 ⟨⟨r7,rfl⟩,hf3⟩
 have HL3:=Hd (HST.out.next hf3)
 clear hf3 a0 a1 a2 a3 a4 a5 a6 o0 o1 o2
 obtain ⟨a0,a1,a2,a3,a4,a5,a6⟩:=HL3.out.v7
 obtain ⟨o0,o1,o2⟩:=HL3.out.o3
 cases r7 with
 | false =>
  go_wp2_with fail
  go_ret
  exact ⟨rfl,HL3.out.fr.below⟩
 | true =>
  go_wp2_with fail
  refine (HZ8.out _).mono ?_
  rintro e4 w4 ⟨rfl,hf4⟩
  have HL4:=Hd (HL3.out.next hf4)
  clear hf4 a0 a1 a2 a3 a4 a5 a6 o0 o1 o2
  obtain ⟨a0,a1,a2,a3,a4,a5,a6⟩:=HL4.out.v7
  obtain ⟨o0,o1,o2⟩:=HL4.out.o3
  by_cases hi8:¬ id.length≤2147483647
  ·rw [decide_eq_false hi8]
   go_wp2_with fail
   go_ret
   exact ⟨rfl,HL4.out.fr.below⟩
  rw [decide_eq_true (Decidable.not_not.1 hi8)]
  clear hi8
  obtain ⟨q,hq,hq2⟩:∃ q:Nat,(q:Int)=1+(u:Int) % 2000∧q≤2000:=⟨1+u % 2000,by omega,by omega⟩
  have HQ2:=Hd hq2
  go_upto_region 5 with fail
  rw [← hq]
  clear hq hq2
  have HX5:=Hd (show (w4.alloc (.cells #[.int .i64 q,.string ii,.bool sh] 29)).heap[w4.heap.size]?=some (.cells #[.int .i64 q,.string ii,.bool sh] 29) from heap_alloc_new _ _)
  have HL5:=Hd (HL4.out.next ((Fr.refl (fun _=>False) w4).alloc (.cells #[.int .i64 q,.string ii,.bool sh] 29)))
  clear a0 a1 a2 a3 a4 a5 a6 o0 o1 o2
  generalize hw5:(w4.alloc (.cells #[.int .i64 q,.string ii,.bool sh] 29))=w5 at *
  clear hw5
  obtain ⟨a0,a1,a2,a3,a4,a5,a6⟩:=HL5.out.v7
  obtain ⟨o0,o1,o2⟩:=HL5.out.o3
  have HFIT:=Hd (show ∀ (w:World) (cs:List Value) (hv:VIs (fun _=>True) w cs v),Calls Tryz.prog 18 #[.agg cs.toArray,.agg #[.int .i64 sz,.string ii,.bool sh]] w fun e w'=>(∃ r,e=.returned (.bool r)∧(r=true→Good v∧v.kind=15∧nodes v≤150∧1≤sz∧sz≤2000∧(id=[]∨id.length=4)))∧Fr0 w w' from fun w cs hv=>by rw [HII.out];exact valueFits_calls v cs sz id sh w hv)
  go_wp2_with fail
  refine (HFIT.out _ _ (HVV.out.fr0 HL5.out.fr (fun _ _ h=>h))).mono ?_
  rintro e6 w6 ⟨⟨r,rfl,hr⟩,hf6⟩
  have HL6:=Hd (HL5.out.next hf6)
  have HR:=Hd hr
  have HX6:=Hd ((hf6.block w4.heap.size (lt_of_block HX5.out) (fun x=>x)).trans HX5.out)
  clear hf6 hr a0 a1 a2 a3 a4 a5 a6 o0 o1 o2
  obtain ⟨a0,a1,a2,a3,a4,a5,a6⟩:=HL6.out.v7
  obtain ⟨o0,o1,o2⟩:=HL6.out.o3
  cases r with
  | false =>
   go_wp2_with fail
   refine (valueAwake_calls _).mono ?_
   rintro eA wA ⟨rfl,hfA⟩
   have HLA:=Hd (HL6.out.next hfA)
   clear hfA
   go_wp2_with fail
   go_ret
   exact ⟨rfl,HLA.out.fr.below⟩
  | true =>
   obtain ⟨hg,hk15,hn150,hsz1,hsz2,hid4⟩:=HR.out (by simp)
   obtain ⟨szn,rfl⟩:=Int.eq_ofNat_of_zero_le (show 0≤sz by omega)
   have HGD:=Hd hg
   have HK15:=Hd hk15
   have HN150:=Hd hn150
   have HSZ:=Hd (And.intro hsz1 (And.intro hsz2 hid4))
   clear hg hk15 hn150 hsz1 hsz2 hid4
   go_upto_region 7 with fail
   refine wp_region_tail_held 9 (S:=(fun w'=>Fr0 w6 w')) _ (by kernel_rfl) (by kernel_rfl) (by kernel_rfl) ((Fr.refl _ w6).drew) (fun hHeld=>?_)
   simp only [List.take_succ_cons,List.take_zero,List.drop_succ_cons,List.drop_zero,List.length_cons,List.length_nil,Nat.zero_add,Nat.reduceAdd]
   refine wpAnyH_take (i:=0) (v:=.agg #[.int .u8 v.kind,.int .u8 v.elem,.int .u64 v.num,.string (strOf v.text),.slice na nl nc,.slice ka nk kc,.slice sa ns sc]) rfl (by kernel_rfl) (by kernel_rfl) (by kernel_rfl) (fun _ _ _ h=>h) (Or.inl ⟨by rfl,?_⟩) (by assumption) ?_
   ·intro w' hc
    have b0:=keep_fr hc a0 (fun x=>x)
    have b1:=keep_fr hc a1 (fun x=>x)
    have b2:=keep_fr hc a2 (fun x=>x)
    have b3:=keep_fr hc a3 (fun x=>x)
    have b4:=keep_fr hc a4 (fun x=>x)
    have b5:=keep_fr hc a5 (fun x=>x)
    have b6:=keep_fr hc a6 (fun x=>x)
    clear hc
    go_simp
   simp only [Act.put,zA,zB,zC]
   refine wpAnyH_take (i:=2) (v:=.agg #[.int .i64 (szn:Int),.string ii,.bool sh]) rfl (by kernel_rfl) (by kernel_rfl) (by kernel_rfl) (fun _ _ _ h=>h) (Or.inl ⟨by rfl,?_⟩) (by assumption) ?_
   ·intro w' hc
    have p0:=keep_fr hc o0 (fun x=>x)
    have p1:=keep_fr hc o1 (fun x=>x)
    have p2:=keep_fr hc o2 (fun x=>x)
    clear hc
    go_simp
   simp only [Act.put,zA,zB,zC]
   refine wpAnyH_ready (rs:=[1]) (by kernel_rfl) (by simp) ?_
   refine AllReadyH.cons rfl (fun K hK=>?_) AllReadyH.nil
   go_simp
   refine (toValue_calls v HGD.out.small (fun _=>True) _ _ ((HVV.out.fr0 HL6.out.fr (fun _ _ h=>h)).fr0 ((Fr.refl _ w6).drew) (fun _ _ h=>h))).mono ?_
   rintro e7 w7 ⟨csr7,rfl,hv7,hf7⟩
   have HV7:=Hd (hv7.mono (B':=fun _=>True) (Nat.le_refl _) (fun b _ _=>⟨trivial,rfl⟩))
   have hf7:Fr0 w6 w7:=hf7.fromDrew
   have HF7:=Hd hf7
   obtain ⟨na7,nl7,nc7,ka7,nk7,kc7,sa7,ns7,sc7,rfl⟩:=hv7.lit
   clear hv7
   refine hK.out _ _ hf7 (fun _=>?_)
   try simp only [Act.put,zA,zB,zC]
   clear hf7
   refine wpAnyH_ready (rs:=[3]) (by kernel_rfl) (by simp) ?_
   refine AllReadyH.cons rfl (fun K hK=>?_) AllReadyH.nil
   go_simp
   rw [HII.out]
   refine (Build_calls sh id v HGD.out.bld HK15.out HN150.out HSZ.out.2.2 szn (by have:=HSZ.out;omega) _ _ HV7.out).mono ?_
   rintro e8 w8 ⟨st8,hb8,hok8,rfl,hf8⟩
   obtain ⟨S8,hS8⟩:∃ S,S=strOf st8.m.bytes:=⟨_,rfl⟩
   rw [← hS8]
   rw [← HII.out]
   have HB8:=Hd hb8
   have HOK8:=Hd hok8
   have HS8:=Hd hS8
   have hf8:Fr0 w6 w8:=HF7.out.trans hf8
   clear hb8 hok8 hS8
   refine hK.out _ _ hf8 (fun _=>?_)
   try simp only [Act.put,zA,zB,zC]
   refine wpAnyH_take (i:=4) (v:=.tuple #[.string S8,.bool true]) rfl (by kernel_rfl) (by kernel_rfl) (by kernel_rfl) (fun _ _ _ h=>h) (Or.inl ⟨by rfl,?_⟩) (by assumption) ?_
   ·intro w' hc
    clear hc
    go_simp
   simp only [Act.put,zA,zB,zC]
   refine wpAnyH_take (i:=5) (v:=.string S8) rfl (by kernel_rfl) (by kernel_rfl) (by kernel_rfl) (fun _ _ _ h=>h) (Or.inl ⟨by rfl,?_⟩) (by assumption) ?_
   ·intro w' hc
    clear hc
    go_simp
   simp only [Act.put,zA,zB,zC]
   refine wpAnyH_take (i:=6) (v:=.bool true) rfl (by kernel_rfl) (by kernel_rfl) (by kernel_rfl) (fun _ _ _ h=>h) (Or.inl ⟨by rfl,?_⟩) (by assumption) ?_
   ·intro w' hc
    clear hc
    go_simp
   simp only [Act.put,zA,zB,zC]
   refine wpAnyH_take (i:=7) (v:=.string S8) rfl (by kernel_rfl) (by kernel_rfl) (by kernel_rfl) (fun _ _ _ h=>h) (Or.inl ⟨by rfl,?_⟩) (by assumption) ?_
   ·intro w' hc
    clear hc
    go_simp
   simp only [Act.put,zA,zB,zC]
   refine wpAnyH_take (i:=8) (v:=.bool true) rfl (by kernel_rfl) (by kernel_rfl) (by kernel_rfl) (fun _ _ _ h=>h) (Or.inl ⟨by rfl,?_⟩) (by assumption) ?_
   ·intro w' hc
    clear hc
    go_simp
   simp only [Act.put,zA,zB,zC]
   have HFF8:=Hd hf8
   have HL8:=Hd (HL6.out.next hf8)
   refine wpAnyH_done (by kernel_rfl) ?_ _
   show wpTail _ _ _ _ _ _ _
   refine wpTail_nil ?_
   clear a0 a1 a2 a3 a4 a5 a6 o0 o1 o2
   obtain ⟨a0,a1,a2,a3,a4,a5,a6⟩:=HL8.out.v7
   obtain ⟨o0,o1,o2⟩:=HL8.out.o3
   have HX8:=Hd ((HFF8.out.block w4.heap.size (lt_of_block HX6.out) (fun x=>x)).trans HX6.out)
   have x0:=(cell_of HX8.out 0).trans rfl
   have x1:=(cell_of HX8.out 1).trans rfl
   have x2:=(cell_of HX8.out 2).trans rfl
   go_upto_region 8 with fail
   refine wp_region_tail_held 9 (S:=(fun w'=>Fr0 w8 w')) _ (by kernel_rfl) (by kernel_rfl) (by kernel_rfl) ((Fr.refl _ w8).drew) (fun hHeld=>?_)
   simp only [List.take_succ_cons,List.take_zero,List.drop_succ_cons,List.drop_zero,List.length_cons,List.length_nil,Nat.zero_add,Nat.reduceAdd]
   refine wpAnyH_take (i:=0) (v:=.agg #[.int .u8 v.kind,.int .u8 v.elem,.int .u64 v.num,.string (strOf v.text),.slice na nl nc,.slice ka nk kc,.slice sa ns sc]) rfl (by kernel_rfl) (by kernel_rfl) (by kernel_rfl) (fun _ _ _ h=>h) (Or.inl ⟨by rfl,?_⟩) (by assumption) ?_
   ·intro w' hc
    have b0:=keep_fr hc a0 (fun x=>x)
    have b1:=keep_fr hc a1 (fun x=>x)
    have b2:=keep_fr hc a2 (fun x=>x)
    have b3:=keep_fr hc a3 (fun x=>x)
    have b4:=keep_fr hc a4 (fun x=>x)
    have b5:=keep_fr hc a5 (fun x=>x)
    have b6:=keep_fr hc a6 (fun x=>x)
    clear hc
    go_simp
   simp only [Act.put,zA,zB,zC]
   refine wpAnyH_take (i:=2) (v:=.agg #[.int .i64 q,.string ii,.bool sh]) rfl (by kernel_rfl) (by kernel_rfl) (by kernel_rfl) (fun _ _ _ h=>h) (Or.inl ⟨by rfl,?_⟩) (by assumption) ?_
   ·intro w' hc
    have p0:=keep_fr hc x0 (fun x=>x)
    have p1:=keep_fr hc x1 (fun x=>x)
    have p2:=keep_fr hc x2 (fun x=>x)
    clear hc
    go_simp
   simp only [Act.put,zA,zB,zC]
   refine wpAnyH_ready (rs:=[1]) (by kernel_rfl) (by simp) ?_
   refine AllReadyH.cons rfl (fun K hK=>?_) AllReadyH.nil
   go_simp
   refine (toValue_calls v HGD.out.small (fun _=>True) _ _ ((HVV.out.fr0 HL8.out.fr (fun _ _ h=>h)).fr0 ((Fr.refl _ w8).drew) (fun _ _ h=>h))).mono ?_
   rintro e9 w9 ⟨csr9,rfl,hv9,hf9⟩
   have HV9:=Hd (hv9.mono (B':=fun _=>True) (Nat.le_refl _) (fun b _ _=>⟨trivial,rfl⟩))
   have hf9:Fr0 w8 w9:=hf9.fromDrew
   have HF9:=Hd hf9
   obtain ⟨na9,nl9,nc9,ka9,nk9,kc9,sa9,ns9,sc9,rfl⟩:=hv9.lit
   clear hv9
   refine hK.out _ _ hf9 (fun _=>?_)
   try simp only [Act.put,zA,zB,zC]
   clear hf9
   refine wpAnyH_ready (rs:=[3]) (by kernel_rfl) (by simp) ?_
   refine AllReadyH.cons rfl (fun K hK=>?_) AllReadyH.nil
   go_simp
   rw [HII.out]
   refine (Build_calls sh id v HGD.out.bld HK15.out HN150.out HSZ.out.2.2 q (by have:=HQ2.out;omega) _ _ HV9.out).mono ?_
   rintro e10 w10 ⟨st10,hb10,hok10,rfl,hf10⟩
   obtain ⟨S10,hS10⟩:∃ S,S=strOf st10.m.bytes:=⟨_,rfl⟩
   rw [← hS10]
   rw [← HII.out]
   have HB10:=Hd hb10
   have HOK10:=Hd hok10
   have HS10:=Hd hS10
   have hf10:Fr0 w8 w10:=HF9.out.trans hf10
   clear hb10 hok10 hS10
   refine hK.out _ _ hf10 (fun _=>?_)
   try simp only [Act.put,zA,zB,zC]
   refine wpAnyH_take (i:=4) (v:=.tuple #[.string S10,.bool true]) rfl (by kernel_rfl) (by kernel_rfl) (by kernel_rfl) (fun _ _ _ h=>h) (Or.inl ⟨by rfl,?_⟩) (by assumption) ?_
   ·intro w' hc
    clear hc
    go_simp
   simp only [Act.put,zA,zB,zC]
   refine wpAnyH_take (i:=5) (v:=.string S10) rfl (by kernel_rfl) (by kernel_rfl) (by kernel_rfl) (fun _ _ _ h=>h) (Or.inl ⟨by rfl,?_⟩) (by assumption) ?_
   ·intro w' hc
    clear hc
    go_simp
   simp only [Act.put,zA,zB,zC]
   refine wpAnyH_take (i:=6) (v:=.bool true) rfl (by kernel_rfl) (by kernel_rfl) (by kernel_rfl) (fun _ _ _ h=>h) (Or.inl ⟨by rfl,?_⟩) (by assumption) ?_
   ·intro w' hc
    clear hc
    go_simp
   simp only [Act.put,zA,zB,zC]
   refine wpAnyH_take (i:=7) (v:=.string S10) rfl (by kernel_rfl) (by kernel_rfl) (by kernel_rfl) (fun _ _ _ h=>h) (Or.inl ⟨by rfl,?_⟩) (by assumption) ?_
   ·intro w' hc
    clear hc
    go_simp
   simp only [Act.put,zA,zB,zC]
   refine wpAnyH_take (i:=8) (v:=.bool true) rfl (by kernel_rfl) (by kernel_rfl) (by kernel_rfl) (fun _ _ _ h=>h) (Or.inl ⟨by rfl,?_⟩) (by assumption) ?_
   ·intro w' hc
    clear hc
    go_simp
   simp only [Act.put,zA,zB,zC]
   have HFF10:=Hd hf10
   have HL10:=Hd (HL8.out.next hf10)
   refine wpAnyH_done (by kernel_rfl) ?_ _
   show wpTail _ _ _ _ _ _ _
   refine wpTail_nil ?_
   have hs:S10=S8:=by rw [HS10.out,HS8.out,built_same HB10.out HB8.out]
   subst hs
   clear a0 a1 a2 a3 a4 a5 a6 o0 o1 o2 x0 x1 x2
   go_wp2_with fail
   refine (valueAwake_calls _).mono ?_
   rintro eA wA ⟨rfl,hfA⟩
   have HLA:=Hd (HL10.out.next hfA)
   clear hfA
   go_wp2_with fail
   go_ret
   exact ⟨rfl,HLA.out.fr.below⟩
end Go.Proofs.YtcfblkkpclfmaaaGreat
