/- Part 2 of the proof of FnIdentifier (FnIdentifier). No condition is laid on the statement. -/
import Derived.Test.YtcfblkkpclfmaaaGreatQa44
import Derived.Test.YtcfblkkpclfmaaaGreatQa47
import Derived.Test.YtcfblkkpclfmaaaGreatQa38
import Derived.Test.YtcfblkkpclfmaaaGreatQa48
import Derived.Test.YtcfblkkpclfmaaaGreatQa49
import Derived.Test.YtcfblkkpclfmaaaGreatQb01
set_option linter.unusedVariables false
set_option linter.unusedSimpArgs false
set_option maxRecDepth 100000
set_option maxHeartbeats 16000000
namespace Go.Proofs.YtcfblkkpclfmaaaGreat
open Go.RowKit
theorem FnIdentifier_walk(v:Val)(cs:List Value)(sz:Int)(id:List UInt8)(sh:Bool)(nm:List UInt8)(hnm:nm.length=4)(w:World)(hv:VIs (λ_=>True) w cs v):
  Calls Tryz.prog 10 #[.agg cs.toArray,.agg #[.int .i64 sz,.string (strOf id),.bool sh],.agg (cellsOf nm).toArray] w λe w'=>e=.returned (.bool true)/\Below w.heap.size w w':=by
 obtain⟨n0,n1,n2,n3,rfl⟩:=list4 hnm;clear hnm;obtain⟨nb,hnb⟩:=exA (w.heap.size+2);obtain⟨na,nl,nc,ka,nk,kc,sa,ns,sc,rfl⟩:=hv.lit;obtain⟨ii,hii⟩:=exA (strOf id);obtain⟨jj,hjj⟩:=exA (strOf [n0,n1,n2,n3]);have HJJ:=Hd hjj;obtain⟨na4,hna4⟩:=exA (cellsOf [n0,n1,n2,n3]);have HN4:=Hd hna4;rw[<-hna4];clear hjj hna4;have HZ8:=Hd (show ∀w,Calls Tryz.prog 17 #[.agg #[.int .i64 sz,.string ii,.bool sh]] w λe w'=>e=.returned (.bool (decide (id.length<=2147483647)))/\Fr0 w w' from λw=>by rw[hii];exact zzFits8_calls sz id sh w);have HII:=Hd hii;rw[<-hii];have HST:=Hd (show LF w [.int .u8 v.kind,.int .u8 v.elem,.int .u64 v.num,.string (strOf v.text),.slice na nl nc,.slice ka nk kc,.slice sa ns sc] [.int .i64 sz,.string ii,.bool sh] (((w.alloc (.cells #[.int .u8 v.kind,.int .u8 v.elem,.int .u64 v.num,.string (strOf v.text),.slice na nl nc,.slice ka nk kc,.slice sa ns sc] 27)).alloc (.cells #[.int .i64 sz,.string ii,.bool sh] 29)).alloc (.cells na4.toArray 80)) from (LF.start w _ _).next ((Fr.refl _ _).alloc _));have HNM:=Hd (show (((w.alloc (.cells #[.int .u8 v.kind,.int .u8 v.elem,.int .u64 v.num,.string (strOf v.text),.slice na nl nc,.slice ka nk kc,.slice sa ns sc] 27)).alloc (.cells #[.int .i64 sz,.string ii,.bool sh] 29)).alloc (.cells na4.toArray 80)).heap[nb]?=some (.cells na4.toArray 80) from by rw[hnb];have hsz:((w.alloc (.cells #[.int .u8 v.kind,.int .u8 v.elem,.int .u64 v.num,.string (strOf v.text),.slice na nl nc,.slice ka nk kc,.slice sa ns sc] 27)).alloc (.cells #[.int .i64 sz,.string ii,.bool sh] 29)).heap.size=w.heap.size+2:=(by simp);rw[<-hsz];exact heap_alloc_new _ _);have HNB:=Hd hnb;have HVV:=Hd hv;clear hv hii;go_enter Tryz.func10,Tryz.ntmps10;go_upto_region 1 with fail;rw[show w.heap.size+1+1=nb from HNB.out.symm];generalize hw2:(((w.alloc (.cells #[.int .u8 v.kind,.int .u8 v.elem,.int .u64 v.num,.string (strOf v.text),.slice na nl nc,.slice ka nk kc,.slice sa ns sc] 27)).alloc (.cells #[.int .i64 sz,.string ii,.bool sh] 29)).alloc (.cells na4.toArray 80))=w2 at *;clear hw2 hnb;obtain⟨a0,a1,a2,a3,a4,a5,a6⟩:=HST.out.v7;obtain⟨o0,o1,o2⟩:=HST.out.o3;go_wp2_with fail;refine (zzFits7_calls v _ w2 (HVV.out.fr0 HST.out.fr (λ_ _ h=>h))).mono ?_;rintro e3 w3 ⟨⟨r7,rfl⟩,hf3⟩;have HL3:=Hd (HST.out.next hf3);have HM3:=Hd ((hf3.block nb (lt_of_block HNM.out) (λx=>x)).trans HNM.out);clear hf3 a0 a1 a2 a3 a4 a5 a6 o0 o1 o2;obtain⟨a0,a1,a2,a3,a4,a5,a6⟩:=HL3.out.v7;obtain⟨o0,o1,o2⟩:=HL3.out.o3;cases r7 with
 | false =>
  go_wp2_with fail;go_ret;exact⟨rfl,HL3.out.fr.below⟩
 | true =>
  go_wp2_with fail;refine (HZ8.out _).mono ?_;rintro e4 w4 ⟨rfl,hf4⟩;have HL4:=Hd (HL3.out.next hf4);have HM4:=Hd ((hf4.block nb (lt_of_block HM3.out) (λx=>x)).trans HM3.out);clear hf4 a0 a1 a2 a3 a4 a5 a6 o0 o1 o2;obtain⟨a0,a1,a2,a3,a4,a5,a6⟩:=HL4.out.v7;obtain⟨o0,o1,o2⟩:=HL4.out.o3;by_cases hi8:¬id.length<=2147483647
  ·rw[decide_eq_false hi8];go_wp2_with fail;go_ret;exact⟨rfl,HL4.out.fr.below⟩
  rw[decide_eq_true (Decidable.not_not.1 hi8)];clear hi8;have g1:=frozen_of HL4.out.ho 1;go_upto_region 4 with fail;clear g1;have HL5:=Hd (show LF w [.int .u8 v.kind,.int .u8 v.elem,.int .u64 v.num,.string (strOf v.text),.slice na nl nc,.slice ka nk kc,.slice sa ns sc] [.int .i64 sz,.string ⟨#[]⟩,.bool sh] (w4.setCell ⟨w.heap.size+1,1,none⟩ (.string ⟨#[]⟩)) from HL4.out.putO);have HM5:=Hd (show (w4.setCell ⟨w.heap.size+1,1,none⟩ (.string ⟨#[]⟩)).heap[nb]?=some (.cells na4.toArray 80) from by rw[heap_setCell_other _ _ _ _ (show nb≠w.heap.size+1 by have:=HNB.out;omega)];exact HM4.out);clear a0 a1 a2 a3 a4 a5 a6 o0 o1 o2;generalize hw5:(w4.setCell ⟨w.heap.size+1,1,none⟩ (.string ⟨#[]⟩))=w5 at *;clear hw5;obtain⟨a0,a1,a2,a3,a4,a5,a6⟩:=HL5.out.v7;obtain⟨o0,o1,o2⟩:=HL5.out.o3;have HFIT:=Hd (show ∀(w:World) (cs:List Value) (hv:VIs (λ_=>True) w cs v),Calls Tryz.prog 18 #[.agg cs.toArray,.agg #[.int .i64 sz,.string ⟨#[]⟩,.bool sh]] w λe w'=>(∃r,e=.returned (.bool r)/\(r=true->Good v/\v.kind=15/\nodes v<=150/\1<=sz/\sz<=2000/\(([]:List UInt8)=[]\/([]:List UInt8).length=4)))/\Fr0 w w' from λw cs hv=>valueFits_calls v cs sz [] sh w hv);go_wp2_with fail;refine (HFIT.out _ _ (HVV.out.fr0 HL5.out.fr (λ_ _ h=>h))).mono ?_;rintro e6 w6 ⟨⟨r,rfl,hr⟩,hf6⟩;have HL6:=Hd (HL5.out.next hf6);have HR:=Hd hr;have HM6:=Hd ((hf6.block nb (lt_of_block HM5.out) (λx=>x)).trans HM5.out);clear hf6 hr a0 a1 a2 a3 a4 a5 a6 o0 o1 o2;obtain⟨a0,a1,a2,a3,a4,a5,a6⟩:=HL6.out.v7;obtain⟨o0,o1,o2⟩:=HL6.out.o3;cases r with
  | false =>
   go_wp2_with fail;refine (valueAwake_calls _).mono ?_;rintro eA wA ⟨rfl,hfA⟩;have HLA:=Hd (HL6.out.next hfA);clear hfA;go_wp2_with fail;go_ret;exact⟨rfl,HLA.out.fr.below⟩
  | true =>
   obtain⟨hg,hk15,hn150,hsz1,hsz2,_⟩:=HR.out (by simp);obtain⟨szn,rfl⟩:=Int.eq_ofNat_of_zero_le (show 0<=sz by omega);have HGD:=Hd hg;have HK15:=Hd hk15;have HN150:=Hd hn150;have HSZ:=Hd (And.intro hsz1 (And.intro hsz2 (show [n0,n1,n2,n3]=[]\/[n0,n1,n2,n3].length=4 from Or.inr rfl)));clear hg hk15 hn150 hsz1 hsz2;have hcv:(convert 81 9 (.slice (some ⟨nb,0,none⟩) 4 4)).run Tryz.prog w6=.ok (.string jj) w6:=by
    rw[HJJ.out];exact run_bytes_string (Mem.of_block (by rw[<-HN4.out];exact HM6.out)) rfl Tryz.underlying81 Tryz.underlying5 Tryz.underlying9
   have g1:=frozen_of HL6.out.ho 1;go_upto_region 7 with fail;clear g1;have HL7:=Hd (show LF w [.int .u8 v.kind,.int .u8 v.elem,.int .u64 v.num,.string (strOf v.text),.slice na nl nc,.slice ka nk kc,.slice sa ns sc] [.int .i64 (szn:Int),.string jj,.bool sh] (w6.setCell ⟨w.heap.size+1,1,none⟩ (.string jj)) from HL6.out.putO);clear hcv a0 a1 a2 a3 a4 a5 a6 o0 o1 o2;generalize hw7:(w6.setCell ⟨w.heap.size+1,1,none⟩ (.string jj))=w7 at *;clear hw7;obtain⟨a0,a1,a2,a3,a4,a5,a6⟩:=HL7.out.v7;obtain⟨o0,o1,o2⟩:=HL7.out.o3;go_upto_region 7 with fail;refine wp_region_tail_held 9 (S:=(λw'=>Fr0 w7 w')) _ kr kr kr ((Fr.refl _ w7).drew) (λhHeld=>?_);simp only[List.take_succ_cons,List.take_zero,List.drop_succ_cons,List.drop_zero,List.length_cons,List.length_nil,Nat.zero_add,Nat.reduceAdd];refine tk 0 (.agg #[.int .u8 v.kind,.int .u8 v.elem,.int .u64 v.num,.string (strOf v.text),.slice na nl nc,.slice ka nk kc,.slice sa ns sc]) rfl ?_ ?_
   ·intro w' hc;have b0:=keep_fr hc a0 (λx=>x);have b1:=keep_fr hc a1 (λx=>x);have b2:=keep_fr hc a2 (λx=>x);have b3:=keep_fr hc a3 (λx=>x);have b4:=keep_fr hc a4 (λx=>x);have b5:=keep_fr hc a5 (λx=>x);have b6:=keep_fr hc a6 (λx=>x);clear hc;go_simp
   simp only[Act.put,zA,zB,zC];refine tk 2 (.agg #[.int .i64 (szn:Int),.string jj,.bool sh]) rfl ?_ ?_
   ·intro w' hc;have p0:=keep_fr hc o0 (λx=>x);have p1:=keep_fr hc o1 (λx=>x);have p2:=keep_fr hc o2 (λx=>x);clear hc;go_simp
   simp only[Act.put,zA,zB,zC];refine rd 1 rfl λK hK=>?_;go_simp;refine (toValue_calls v HGD.out.small (λ_=>True) _ _ ((HVV.out.fr0 HL7.out.fr (λ_ _ h=>h)).fr0 ((Fr.refl _ w7).drew) (λ_ _ h=>h))).mono ?_;rintro e8 w8 ⟨csr8,rfl,hv8,hf8⟩;have HV8:=Hd (hv8.mono (B':=λ_=>True) (Nat.le_refl _) (λb _ _=>⟨trivial,rfl⟩));have hf8:Fr0 w7 w8:=hf8.fromDrew;have HF8:=Hd hf8;obtain⟨na8,nl8,nc8,ka8,nk8,kc8,sa8,ns8,sc8,rfl⟩:=hv8.lit;clear hv8;refine hK.out _ _ hf8 (λ_=>?_);try simp only[Act.put,zA,zB,zC]
   clear hf8;refine rd 3 rfl λK hK=>?_;go_simp;rw[HJJ.out];refine (Build_calls sh [n0,n1,n2,n3] v HGD.out.bld HK15.out HN150.out HSZ.out.2.2 szn (by have:=HSZ.out;omega) _ _ HV8.out).mono ?_;rintro e9 w9 ⟨st9,hb9,hok9,rfl,hf9⟩;obtain⟨S9,hS9⟩:∃S,S=strOf st9.m.bytes:=⟨_,rfl⟩;rw[<-hS9];rw[<-HJJ.out];have HB9:=Hd hb9;have HOK9:=Hd hok9;have HS9:=Hd hS9;have hf9:Fr0 w7 w9:=HF8.out.trans hf9;clear hb9 hok9 hS9;refine hK.out _ _ hf9 (λ_=>?_);try simp only[Act.put,zA,zB,zC]
   refine tk 4 (.tuple #[.string S9,.bool true]) rfl ?_ ?_
   ·intro w' hc;clear hc;go_simp
   simp only[Act.put,zA,zB,zC];refine tk 5 (.string S9) rfl ?_ ?_
   ·intro w' hc;clear hc;go_simp
   simp only[Act.put,zA,zB,zC];refine tk 6 (.bool true) rfl ?_ ?_
   ·intro w' hc;clear hc;go_simp
   simp only[Act.put,zA,zB,zC];refine tk 7 (.string S9) rfl ?_ ?_
   ·intro w' hc;clear hc;go_simp
   simp only[Act.put,zA,zB,zC];refine tk 8 (.bool true) rfl ?_ ?_
   ·intro w' hc;clear hc;go_simp
   simp only[Act.put,zA,zB,zC];have HFF9:=Hd hf9;have HL9:=Hd (HL7.out.next hf9);refine wpAnyH_done kr ?_ _;show wpTail _ _ _ _ _ _ _;refine wpTail_nil ?_;have hid9:=ident_at (HOK9.out.id (by simp)) rfl;have HID:=Hd hid9;clear hid9;clear a0 a1 a2 a3 a4 a5 a6 o0 o1 o2;obtain⟨a0,a1,a2,a3,a4,a5,a6⟩:=HL9.out.v7;obtain⟨o0,o1,o2⟩:=HL9.out.o3;obtain⟨r0,hr0⟩:=exA (read0 v);have HR0:=Hd hr0;obtain⟨sv,hsv⟩:=exA (shape v);have HSV:=Hd hsv;clear hr0 hsv;have HRDS:=Hd (show ∀(w:World) (cs:List Value),VIs (λ_=>True) w cs sv->Calls Tryz.prog 29 #[.string S9,.agg cs.toArray] w λe w'=>∃cs',e=.returned (.tuple #[.agg cs'.toArray,.bool true])/\VIs (λb=>w.heap.size<=b) w' cs' r0/\Fr0 w w' from λw cs hv=>by rw[HS9.out,HR0.out];exact Read_calls true _ v sv ⟨by have:=HOK9.out.len;omega,HOK9.out.ref,HOK9.out.tab⟩ HGD.out.pure HK15.out (by rw[HSV.out];exact HGD.out.shape) w cs hv);have HSHP:=Hd (show ∀(w:World) (cs:List Value),VIs (λ_=>True) w cs v->Calls Tryz.prog 30 #[.agg cs.toArray] w (VRes (λ_=>True) sv w) from λw cs hv=>by rw[HSV.out];exact Shape_calls HGD.out (λ_=>True) cs w hv);go_wp2_with fail;refine (HSHP.out _ _ (HVV.out.fr0 HL9.out.fr (λ_ _ h=>h))).mono ?_;rintro e10 w10 ⟨cs10,rfl,hv10,hf10⟩;obtain⟨na10,nl10,nc10,ka10,nk10,kc10,sa10,ns10,sc10,rfl⟩:=hv10.lit;have HV10:=Hd (hv10.mono (B':=λ_=>True) (Nat.le_refl _) (λb _ _=>⟨trivial,rfl⟩));have HRF10:=Hd hf10;clear hv10 hf10 a0 a1 a2 a3 a4 a5 a6 o0 o1 o2;go_wp2_with fail;refine (toValue_calls sv (by rw[HSV.out];exact good_small_shape HGD.out) (λ_=>True) _ _ HV10.out).mono ?_;rintro e11 w11 ⟨cs11,rfl,hv11,hf11⟩;obtain⟨na11,nl11,nc11,ka11,nk11,kc11,sa11,ns11,sc11,rfl⟩:=hv11.lit;have HV11:=Hd (hv11.mono (B':=λ_=>True) (Nat.le_refl _) (λb _ _=>⟨trivial,rfl⟩));have HRF11:=Hd (HRF10.out.trans hf11);clear hv11 hf11;go_wp2_with fail;refine (HRDS.out _ _ HV11.out).mono ?_;rintro e12 w12 ⟨cs12,rfl,hv12,hf12⟩;obtain⟨na12,nl12,nc12,ka12,nk12,kc12,sa12,ns12,sc12,rfl⟩:=hv12.lit;have HV12:=Hd (hv12.mono (B':=λ_=>True) (Nat.le_refl _) (λb _ _=>⟨trivial,rfl⟩));have HRF12:=Hd (HRF11.out.trans hf12);clear hv12 hf12;have hL13:=(HL9.out.next HRF12.out).next ((Fr.refl (λ_=>False) w12).alloc (.cells #[.int .u8 r0.kind,.int .u8 r0.elem,.int .u64 r0.num,.string (strOf r0.text),.slice na12 nl12 nc12,.slice ka12 nk12 kc12,.slice sa12 ns12 sc12] 46));have HL13:=Hd hL13;have HD13:=Hd (show (w12.alloc (.cells #[.int .u8 r0.kind,.int .u8 r0.elem,.int .u64 r0.num,.string (strOf r0.text),.slice na12 nl12 nc12,.slice ka12 nk12 kc12,.slice sa12 ns12 sc12] 46)).heap[w12.heap.size]?=some (.cells #[.int .u8 r0.kind,.int .u8 r0.elem,.int .u64 r0.num,.string (strOf r0.text),.slice na12 nl12 nc12,.slice ka12 nk12 kc12,.slice sa12 ns12 sc12] 46) from heap_alloc_new _ _);have HV13:=Hd (HV12.out.fr0 (B':=λ_=>True) ((Fr.refl (λ_=>False) w12).alloc (.cells #[.int .u8 r0.kind,.int .u8 r0.elem,.int .u64 r0.num,.string (strOf r0.text),.slice na12 nl12 nc12,.slice ka12 nk12 kc12,.slice sa12 ns12 sc12] 46)) (λ_ _ h=>h));clear hL13;go_upto_region 9 with fail;generalize hw13:(w12.alloc (.cells #[.int .u8 r0.kind,.int .u8 r0.elem,.int .u64 r0.num,.string (strOf r0.text),.slice na12 nl12 nc12,.slice ka12 nk12 kc12,.slice sa12 ns12 sc12] 46))=w13 at *;clear hw13;obtain⟨a0,a1,a2,a3,a4,a5,a6⟩:=HL13.out.v7;obtain⟨o0,o1,o2⟩:=HL13.out.o3;have d0:=(cell_of HD13.out 0).trans rfl;have d1:=(cell_of HD13.out 1).trans rfl;have d2:=(cell_of HD13.out 2).trans rfl;have d3:=(cell_of HD13.out 3).trans rfl;have d4:=(cell_of HD13.out 4).trans rfl;have d5:=(cell_of HD13.out 5).trans rfl;have d6:=(cell_of HD13.out 6).trans rfl;have hof:∀(w':World),Fr0 w13 w'->Calls Tryz.prog 32 #[.agg #[.int .u8 r0.kind,.int .u8 r0.elem,.int .u64 r0.num,.string (strOf r0.text),.slice na12 nl12 nc12,.slice ka12 nk12 kc12,.slice sa12 ns12 sc12]] w' (VRes (λ_=>True) r0 w'):=λw' hf=>ofValue_calls r0 (by rw[HR0.out];exact small_read0 v HGD.out.small) (λ_=>True) _ w' (HV13.out.fr0 hf (λ_ _ h=>h));have hrd:∀(w':World),Fr0 w13 w'->Calls Tryz.prog 28 #[.agg #[.int .u8 v.kind,.int .u8 v.elem,.int .u64 v.num,.string (strOf v.text),.slice na nl nc,.slice ka nk kc,.slice sa ns sc]] w' (VRes (λ_=>True) r0 w'):=(λw' hf=>by rw[HR0.out];exact Read0_calls v HGD.out.small (λ_=>True) _ w' (HVV.out.fr0 (HL13.out.next hf).fr (λ_ _ h=>h)));have HOF:=Hd hof;have HRD:=Hd hrd;clear hof hrd;have hz9:8<=S9.size:=(by rw[HS9.out,strOf_size];exact HID.out.1);have hge:decide ((8:Int)<=(S9.size:Int))=true:=decide_eq_true (by omega);have hsl:∀w':World,(Instr.slice 9 (.string S9) (some (.int .i64 4)) (some (.int .i64 8)) none).run Tryz.prog w'=.ok (.string jj) w':=(λw'=>by have h:=run_slice_string (P:=Tryz.prog) w' 9 S9 .i64 .i64 4 8 Tryz.underlying9 (by omega) (by omega) (by omega);have e:S9.extract 4 8=jj:=(by rw[HS9.out,HJJ.out];exact HID.out.2);rw[<-e];exact h);refine wp_region_heldL (S:=(λw'=>Fr0 w13 w')) _ kr ((Fr.refl _ w13).drew) (λhHeld=>?_);simp only[List.length_cons,List.length_nil,Nat.zero_add,Nat.reduceAdd];refine rd 0 rfl λK hK=>?_;go_simp;refine (valueAwake_calls _).mono ?_;rintro eA wA ⟨rfl,hfA⟩;have hfA:Fr0 w13 wA:=hfA.fromDrew;refine hK.out _ _ hfA (λ_=>?_);try simp only[Act.put,zA,zB,zC]
   refine tk 1 (.bool true) rfl ?_ ?_
   ·intro w' hc;clear hc;go_simp
   simp only[Act.put,zA,zB,zC];refine tk 2 (.bool true) rfl ?_ ?_
   ·intro w' hc;clear hc;go_simp
   simp only[Act.put,zA,zB,zC];refine tk 3 (.bool true) rfl ?_ ?_
   ·intro w' hc;clear hc;go_simp
   simp only[Act.put,zA,zB,zC];refine tk 4 (.bool true) rfl ?_ ?_
   ·intro w' hc;clear hc;go_simp
   simp only[Act.put,zA,zB,zC];refine tk 5 (.bool true) rfl ?_ ?_
   ·intro w' hc;clear hc;go_simp
   simp only[Act.put,zA,zB,zC];refine tk 6 (.bool true) rfl ?_ ?_
   ·intro w' hc;clear hc;go_simp
   simp only[Act.put,zA,zB,zC];refine tk 7 (.bool true) rfl ?_ ?_
   ·intro w' hc;clear hc;go_simp
   simp only[Act.put,zA,zB,zC];refine tk 8 (.string S9) rfl ?_ ?_
   ·intro w' hc;clear hc;go_simp
   simp only[Act.put,zA,zB,zC];refine tk 9 (.int .i64 (S9.size:Int)) rfl ?_ ?_
   ·intro w' hc;clear hc;go_simp
   simp only[Act.put,zA,zB,zC];refine tk 10 (.bool true) rfl ?_ ?_
   ·intro w' hc;clear hc;go_simp
   simp only[Act.put,zA,zB,zC];refine tk 11 (.bool true) rfl ?_ ?_
   ·intro w' hc;clear hc;go_simp
   simp only[Act.put,zA,zB,zC];refine tk 12 (.bool true) rfl ?_ ?_
   ·intro w' hc;clear hc;go_simp
   simp only[Act.put,zA,zB,zC];refine tk 13 (.string S9) rfl ?_ ?_
   ·intro w' hc;clear hc;go_simp
   simp only[Act.put,zA,zB,zC];refine tk 14 (.string jj) rfl ?_ ?_
   ·intro w' hc;clear hc;go_simp
   simp only[Act.put,zA,zB,zC];refine tk 15 (.pointer (some ⟨w.heap.size+1,1,none⟩)) rfl ?_ ?_
   ·intro w' hc;clear hc;go_simp
   simp only[Act.put,zA,zB,zC];refine tk 16 (.string jj) rfl ?_ ?_
   ·intro w' hc;have p1:=keep_fr hc o1 (λx=>x);clear hc;go_simp
   simp only[Act.put,zA,zB,zC];refine tk 17 (.bool true) rfl ?_ ?_
   ·intro w' hc;clear hc;go_simp
   simp only[Act.put,zA,zB,zC];refine tk 18 (.bool true) rfl ?_ ?_
   ·intro w' hc;clear hc;go_simp
   simp only[Act.put,zA,zB,zC];refine tk 19 (.bool true) rfl ?_ ?_
   ·intro w' hc;clear hc;go_simp
   simp only[Act.put,zA,zB,zC];refine tk 20 (.agg #[.int .u8 r0.kind,.int .u8 r0.elem,.int .u64 r0.num,.string (strOf r0.text),.slice na12 nl12 nc12,.slice ka12 nk12 kc12,.slice sa12 ns12 sc12]) rfl ?_ ?_
   ·intro w' hc;have q0:=keep_fr hc d0 (λx=>x);have q1:=keep_fr hc d1 (λx=>x);have q2:=keep_fr hc d2 (λx=>x);have q3:=keep_fr hc d3 (λx=>x);have q4:=keep_fr hc d4 (λx=>x);have q5:=keep_fr hc d5 (λx=>x);have q6:=keep_fr hc d6 (λx=>x);clear hc;go_simp
   simp only[Act.put,zA,zB,zC];refine tk 22 (.agg #[.int .u8 v.kind,.int .u8 v.elem,.int .u64 v.num,.string (strOf v.text),.slice na nl nc,.slice ka nk kc,.slice sa ns sc]) rfl ?_ ?_
   ·intro w' hc;have q0:=keep_fr hc a0 (λx=>x);have q1:=keep_fr hc a1 (λx=>x);have q2:=keep_fr hc a2 (λx=>x);have q3:=keep_fr hc a3 (λx=>x);have q4:=keep_fr hc a4 (λx=>x);have q5:=keep_fr hc a5 (λx=>x);have q6:=keep_fr hc a6 (λx=>x);clear hc;go_simp
   simp only[Act.put,zA,zB,zC];refine rd 21 rfl λK hK=>?_;go_simp;refine (HOF.out _ hfA).mono ?_;rintro e14 w14 ⟨cs14,rfl,hv14,hf14⟩;obtain⟨na14,nl14,nc14,ka14,nk14,kc14,sa14,ns14,sc14,rfl⟩:=hv14.lit;have HV14:=Hd (hv14.mono (B':=λ_=>True) (Nat.le_refl _) (λb _ _=>⟨trivial,rfl⟩));have hS14:Fr0 w13 w14:=hfA.trans hf14;clear hv14 hf14;refine hK.out _ _ hS14 (λ_=>?_);try simp only[Act.put,zA,zB,zC]
   refine rd 23 rfl λK hK=>?_;go_simp;refine (HRD.out _ hS14).mono ?_;rintro e15 w15 ⟨cs15,rfl,hv15,hf15⟩;obtain⟨na15,nl15,nc15,ka15,nk15,kc15,sa15,ns15,sc15,rfl⟩:=hv15.lit;have HV15:=Hd (hv15.mono (B':=λ_=>True) (Nat.le_refl _) (λb _ _=>⟨trivial,rfl⟩));have HX15:=Hd (HV14.out.fr0 hf15 (λ_ _ h=>h));have hS15:Fr0 w13 w15:=hS14.trans hf15;clear hv15 hf15;refine hK.out _ _ hS15 (λ_=>?_);try simp only[Act.put,zA,zB,zC]
   refine rd 24 rfl λK hK=>?_;go_simp;refine (same_calls r0 (by rw[HR0.out];exact small_read0 v HGD.out.small) (λ_=>True) _ _ _ HX15.out HV15.out).mono ?_;rintro e16 w16 ⟨rfl,hf16⟩;have hS16:Fr0 w13 w16:=hS15.trans hf16;clear hf16;refine hK.out _ _ hS16 (λ_=>?_);try simp only[Act.put,zA,zB,zC]
   refine tk 25 (.bool true) rfl ?_ ?_
   ·intro w' hc;clear hc;go_simp
   simp only[Act.put,zA,zB,zC];refine tk 26 (.bool true) rfl ?_ ?_
   ·intro w' hc;clear hc;go_simp
   simp only[Act.put,zA,zB,zC];have HL16:=Hd (HL13.out.next hS16);refine wpAnyH_done kr ?_ _;simp only[Act.put,List.getElem_toArray,List.getElem_cons_zero,List.getElem_cons_succ,zA,zB,zC];go_wp2_with fail;go_ret;exact⟨rfl,HL16.out.fr.below⟩
end Go.Proofs.YtcfblkkpclfmaaaGreat
