/- Part 34 of the proof of FnEvolved; no condition. -/
import Derived.Test.YtcfblkkpclfmaaaGreatEb14
import Derived.Test.YtcfblkkpclfmaaaGreatEb21
set_option linter.unusedVariables false
set_option linter.unusedSimpArgs false
set_option maxRecDepth 100000
set_option maxHeartbeats 16000000
namespace Go.Proofs.YtcfblkkpclfmaaaGreat
open Go.RowKit
theorem clean_15(e n:Nat)(t:List UInt8)(ns:List Nat)(ks:List Val)(ss:List (Slt Val))(ihs:∀s∈ss,CleanC s.val):CleanC (.mk 15 e n t ns ks ss):=by
 intro B cs L left deep w hv hBL hL hl0 hl1 hd0 hd1;cases hv with
 | mk _ _ _ _ _ _ _ nv ka kc kg ko sa sc sg so hk he hn ht hnv hka hkc hks hsa hsc hsd hss =>
  obtain⟨tt,htt⟩:=exA (strOf t);have hszt:tt.size=t.length:=by rw[htt];exact strOf_size t
  obtain⟨na,nc,rfl,hnc1,hnc2,hnc3,hnc4⟩:=hnv.ok;obtain⟨nl,hnl⟩:=exA (ns.length);obtain⟨nk,hnk⟩:=exA (ks.length);obtain⟨nss,hnss⟩:=exA (ss.length);rw[<-htt,<-hnl,<-hnk,<-hnss];have hLs:=lt_of_block hL;have cL:w.cell? ⟨L,0,none⟩=some (.int .i64 left):=by rw[cell_of hL];rfl
  have fL:=frozen_of hL 0;have cL1:∀o,(w.alloc o).cell? ⟨L,0,none⟩=some (.int .i64 left):=λo=>keep_alloc o cL;have fL1:∀o,(w.alloc o).frozen? ⟨L,0,none⟩=false:=λo=>keep_allocF o cL fL;have hL1:(w.setCell ⟨L,0,none⟩ (.int .i64 (left-1))).heap[L]?=some (.cells #[.int .i64 (left-1)] 3):=heap_setCell_same hL 0 _;have cL2:∀o,((w.setCell ⟨L,0,none⟩ (.int .i64 (left-1))).alloc o).cell? ⟨L,0,none⟩=some (.int .i64 (left-1)):=λo=>keep_alloc o (by rw[cell_of hL1];rfl);have hCF:CF w [.int .u8 (15:Nat),.int .u8 e,.int .u64 n,.string tt,.slice na nl nc,.slice ka nk kc,.slice sa nss sc] L (left-1) ((w.setCell ⟨L,0,none⟩ (.int .i64 (left-1))).alloc (.cells (([.int .u8 (15:Nat),.int .u8 e,.int .u64 n,.string tt,.slice na nl nc,.slice ka nk kc,.slice sa nss sc]:List Value)).toArray 27)):=CF.start hL;have HCF:=Hd hCF;have HV:=Hd (And.intro hk (And.intro he (And.intro hn (And.intro ht (And.intro hnv hBL)))));have HK:=Hd (And.intro hka (And.intro hkc hks));have HS:=Hd (And.intro hsa (And.intro hsc (And.intro hsd hss)));have HN:=Hd (And.intro htt (And.intro hnl (And.intro hnk (And.intro hnss hszt))));have HL:=Hd hL;have HNUM:=Hd (And.intro hnc3 hnc4);have HT:=Hd (show tt.toList.isEmpty=decide (tt.size=0) by rw[hszt,htt];exact strE);clear hCF hL1 hk he hn ht hnv hka hkc hks hsa hsc hsd hss htt hnl hnk hnss cL fL hL hnc1 hnc2 hnc3 hnc4 hBL hszt;have IHS:=Hd ihs;clear ihs;by_cases h1:left-1<0
  ·go_enter Tryz.func25,Tryz.ntmps25;go_upto_region 3 with fail;go_wp2_with fail;go_ret;exact HCF.out.bad
  by_cases h2:deep<0
  ·go_enter Tryz.func25,Tryz.ntmps25;go_upto_region 3 with fail;go_wp2_with fail;go_ret;exact HCF.out.bad
  go_enter Tryz.func25,Tryz.ntmps25;go_upto_region 4 with fail;go_cut [115] (λc wx=>c=.bool (decide ((n≠0)\/(tt.size≠0)\/(0<nl)\/(0<nk)\/(e≠0)))/\CF w [.int .u8 (15:Nat),.int .u8 e,.int .u64 n,.string tt,.slice na nl nc,.slice ka nk kc,.slice sa nss sc] L (left-1) wx)
  case first =>
   iterate 15 (first|go_values|go_skip|go_guarded|go_step|go_upon|go_back)
   try simp only[List.append_eq,List.cons_append,List.nil_append]
   by_cases hn:n≠0
   ·have gn:((n:Int) != 0)=true:=(by simp;omega);as_aux_lemma =>
     go_wp2_with fail;go_meet
     exact⟨db (by omega),HCF.out⟩
   ·have gn:((n:Int) != 0)=false:=(by simp;omega);by_cases ht:tt.size≠0
    ·have gt:tt.toList.isEmpty=false:=(by rw[HT.out];exact decide_eq_false ht);as_aux_lemma =>
      go_wp2_with fail;go_meet
      exact⟨db (by omega),HCF.out⟩
    ·have gt:tt.toList.isEmpty=true:=(by rw[HT.out];exact decide_eq_true (by omega));by_cases hl:0<nl
     ·have gl:decide ((nl:Int) > 0)=true:=(by simp;omega);as_aux_lemma =>
       go_wp2_with fail;go_meet
       exact⟨db (by omega),HCF.out⟩
     ·have gl:decide ((nl:Int) > 0)=false:=(by simp;omega);by_cases hk:0<nk
      ·have gk:decide ((nk:Int) > 0)=true:=(by simp;omega);as_aux_lemma =>
        go_wp2_with fail;go_meet
        exact⟨db (by omega),HCF.out⟩
      ·have gk:decide ((nk:Int) > 0)=false:=(by simp;omega);by_cases he:e≠0
       ·have ge:((e:Int) != 0)=true:=(by simp;omega);as_aux_lemma =>
         go_wp2_with fail;go_meet
         exact⟨db (by omega),HCF.out⟩
       ·have ge:((e:Int) != 0)=false:=(by simp;omega);as_aux_lemma =>
         go_wp2_with fail;go_meet
         exact⟨df (by omega),HCF.out⟩
  case rest =>
   obtain⟨rfl,hcf⟩:=hcut;have HCG:=Hd hcf;obtain⟨b0,b1,b2,b3,b4,b5,b6⟩:=hcf.bx7;clear hcf cL1 fL1 cL2;by_cases hb:(n≠0)\/(tt.size≠0)\/(0<nl)\/(0<nk)\/(e≠0)
   ·rw[decide_eq_true hb];go_wp2_with fail;go_ret;exact HCG.out.bad
   rw[decide_eq_false hb];have HB:=Hd hb;clear hb;go_upto_region 6 with fail;go_cut [137] (λc wx=>c=.bool (decide ((1000<tt.size)\/(200<nl)\/(200<nk)\/(60<nss)))/\CF w [.int .u8 (15:Nat),.int .u8 e,.int .u64 n,.string tt,.slice na nl nc,.slice ka nk kc,.slice sa nss sc] L (left-1) wx)
   case first =>
    by_cases hx1:1000<tt.size
    ·have gx1:decide ((tt.size:Int) > 1000)=true:=(by simp;omega);as_aux_lemma =>
      go_wp2_with fail;go_meet
      exact⟨db (by omega),HCG.out⟩
    ·have gx1:decide ((tt.size:Int) > 1000)=false:=(by simp;omega);by_cases hx2:200<nl
     ·have gx2:decide ((nl:Int) > 200)=true:=(by simp;omega);as_aux_lemma =>
       go_wp2_with fail;go_meet
       exact⟨db (by omega),HCG.out⟩
     ·have gx2:decide ((nl:Int) > 200)=false:=(by simp;omega);by_cases hx3:200<nk
      ·have gx3:decide ((nk:Int) > 200)=true:=(by simp;omega);as_aux_lemma =>
        go_wp2_with fail;go_meet
        exact⟨db (by omega),HCG.out⟩
      ·have gx3:decide ((nk:Int) > 200)=false:=(by simp;omega);by_cases hx4:60<nss
       ·have gx4:decide ((nss:Int) > 60)=true:=(by simp;omega);as_aux_lemma =>
         go_wp2_with fail;go_meet
         exact⟨db (by omega),HCG.out⟩
       ·have gx4:decide ((nss:Int) > 60)=false:=(by simp;omega);as_aux_lemma =>
         go_wp2_with fail;go_meet
         exact⟨df (by omega),HCG.out⟩
   case rest =>
    obtain⟨rfl,hcf⟩:=hcut;have HCH:=Hd hcf;obtain⟨c0,c1,c2,c3,c4,c5,c6⟩:=hcf.bx7;clear hcf b0 b1 b2 b3 b4 b5 b6;by_cases hg:(1000<tt.size)\/(200<nl)\/(200<nk)\/(60<nss)
    ·rw[decide_eq_true hg];go_wp2_with fail;go_ret;exact HCH.out.bad
    rw[decide_eq_false hg];have HG:=Hd hg;have hgl:nl<=200/\nk<=200/\nss<=60:=(by omega);obtain⟨hgl,hgk,hgs⟩:=hgl;clear hg;go_wp2_with fail;go_loopw [240] (λiv wr=>∃i:Nat,i<=nss/\iv=.int .i64 i/\∃x:Int,CF w [.int .u8 (15:Nat),.int .u8 e,.int .u64 n,.string tt,.slice na nl nc,.slice ka nk kc,.slice sa nss sc] L x wr/\0<=x/\x+nodesS (ss.take i)<=left-1/\∀s∈ss.take i,Good s.val/\(s.val.kind > 10->s.dflt=0)/\(s.val.kind<=10->OkNum s.val.kind s.dflt)) (λiv _=>nss-(intOf iv).toNat)
    case atStart=>exact⟨0,Nat.zero_le _,rfl,left-1,HCH.out,by omega,by simp[nodesS],by simp⟩
    case round =>
     obtain⟨i,hi,rfl,x,hc,hx0,hxn,hok⟩:=hrel;have HC:=Hd hc;have HOK:=Hd hok;have HXN:=Hd hxn;have hx1:x<=1000:=(by omega);obtain⟨d0,d1,d2,d3,d4,d5,d6⟩:=hc.bx7;have hwr:=hc.size;clear hc hok hxn c0 c1 c2 c3 c4 c5 c6;by_cases hlt:i<nss
     ·have hik:i<ss.length:=(by have:=HN.out.2.2.2.1;omega);obtain⟨rfl,hsg,hBg⟩:=HS.out.1 (by intro h0;rw[h0] at hik;simp at hik);obtain⟨sl,hsl⟩:=exA (ss[i]);obtain⟨kid,hkid⟩:=exA (sl.val);have hsL:sg≠L:=λh=>HV.out.2.2.2.2.2 (h▸hBg);have hkv:VIs (λb=>B b/\b<w.heap.size) wr (cellsAt wr sg (so+i*9+1) 7) kid:=by
       rw[cellsAt_mono (HC.out.fr.block sg hsg hsL),hkid,hsl];exact (HS.out.2.2.2 i hik).fr HC.out.fr (λb hb hbb=>⟨⟨hbb,hb⟩,λh=>HV.out.2.2.2.2.2 (h▸hbb)⟩)
      obtain⟨na1,nl1,nc1,ka1,nk1,kc1,sa1,ns1,sc1,hlit,c1,c2,c3,c4,c5,c6,c7⟩:=hkv.at
      have c0:wr.cell? ⟨sg,so+i*9,none⟩=some (.bool sl.has):=(keep_fr HC.out.fr (HS.out.2.2.1 i hik).1 hsL).trans (by rw[hsl]);have c8:wr.cell? ⟨sg,so+i*9+8,none⟩=some (.int .u64 sl.dflt):=(keep_fr HC.out.fr (HS.out.2.2.1 i hik).2.1 hsL).trans (by rw[hsl]);have c2:wr.cell? ⟨sg,so+i*9+2,none⟩=some (.int .u8 kid.elem):=c2;have c3:wr.cell? ⟨sg,so+i*9+3,none⟩=some (.int .u64 kid.num):=c3;have c4:wr.cell? ⟨sg,so+i*9+4,none⟩=some (.string (strOf kid.text)):=c4;have c5:wr.cell? ⟨sg,so+i*9+5,none⟩=some (.slice na1 nl1 nc1):=c5;have c6:wr.cell? ⟨sg,so+i*9+6,none⟩=some (.slice ka1 nk1 kc1):=c6;have c7:wr.cell? ⟨sg,so+i*9+7,none⟩=some (.slice sa1 ns1 sc1):=c7;have HSLE:=Hd hsl;have HKD:=Hd hkid;have HMEM:=Hd (show sl∈ss by rw[hsl];exact List.getElem_mem hik);have HD64:=Hd (show sl.dflt<2^64 by rw[hsl];exact (HS.out.2.2.1 i hik).2.2);have hcf5:=HC.out.alloc hLs (.cells #[.bool sl.has,.int .u8 kid.kind,.int .u8 kid.elem,.int .u64 kid.num,.string (strOf kid.text),.slice na1 nl1 nc1,.slice ka1 nk1 kc1,.slice sa1 ns1 sc1,.int .u64 sl.dflt] 54);have hv5:=hlit.fr0 (B':=λb=>B b/\b<w.heap.size) ((Fr.refl (λ_=>False) wr).alloc (.cells #[.bool sl.has,.int .u8 kid.kind,.int .u8 kid.elem,.int .u64 kid.num,.string (strOf kid.text),.slice na1 nl1 nc1,.slice ka1 nk1 kc1,.slice sa1 ns1 sc1,.int .u64 sl.dflt] 54)) (λ_ _ h=>h);have hy5:(wr.alloc (.cells #[.bool sl.has,.int .u8 kid.kind,.int .u8 kid.elem,.int .u64 kid.num,.string (strOf kid.text),.slice na1 nl1 nc1,.slice ka1 nk1 kc1,.slice sa1 ns1 sc1,.int .u64 sl.dflt] 54)).heap[wr.heap.size]?=some (.cells #[.bool sl.has,.int .u8 kid.kind,.int .u8 kid.elem,.int .u64 kid.num,.string (strOf kid.text),.slice na1 nl1 nc1,.slice ka1 nk1 kc1,.slice sa1 ns1 sc1,.int .u64 sl.dflt] 54):=heap_alloc_new _ _;have HCF5:=Hd hcf5;have HV5:=Hd hv5;have HY5:=Hd hy5;clear hsl hkid hkv hlit hcf5 hv5 hy5 hsL;go_upto_region 41 with fail;generalize hw5:(wr.alloc (.cells #[.bool sl.has,.int .u8 kid.kind,.int .u8 kid.elem,.int .u64 kid.num,.string (strOf kid.text),.slice na1 nl1 nc1,.slice ka1 nk1 kc1,.slice sa1 ns1 sc1,.int .u64 sl.dflt] 54))=w5 at *;clear hw5 c0 c1 c2 c3 c4 c5 c6 c7 c8;have yy:=λj u (hu:(#[.bool sl.has,.int .u8 kid.kind,.int .u8 kid.elem,.int .u64 kid.num,.string (strOf kid.text),.slice na1 nl1 nc1,.slice ka1 nk1 kc1,.slice sa1 ns1 sc1,.int .u64 sl.dflt]:Array Value)[j]?=some u)=>(cell_of HY5.out j).trans hu;have y0:=yy 0 _ rfl;have y1:=yy 1 _ rfl;have y2:=yy 2 _ rfl;have y3:=yy 3 _ rfl;have y4:=yy 4 _ rfl;have y5:=yy 5 _ rfl;have y6:=yy 6 _ rfl;have y7:=yy 7 _ rfl;have y8:=yy 8 _ rfl;clear yy;obtain⟨kk,hkk⟩:=exA (kid.kind);have HKK:=Hd hkk;have HIH:=Hd ((IHS.out sl HMEM.out) (λb=>B b/\b<w.heap.size) [.int .u8 kid.kind,.int .u8 kid.elem,.int .u64 kid.num,.string (strOf kid.text),.slice na1 nl1 nc1,.slice ka1 nk1 kc1,.slice sa1 ns1 sc1] L x (deep-1) w5 (HKD.out▸HV5.out) (λh=>HV.out.2.2.2.2.2 h.1) HCF5.out.cell (by omega) (by omega) (by omega) (by omega));clear hkk;by_cases hsc:kid.kind<=10
      ·have HSC:=Hd (show kid.kind<=10 from hsc);have gs:decide ((kid.kind:Int)<=10)=true:=(by simp;omega);have HR2:=Hd (λw=>specRight_calls kid.kind sl.dflt hsc HD64.out w);clear hsc;go_wp2_with fail;refine HIH.out.mono ?_;rintro e6 w6 ⟨r,rfl,hf6,x6,hx6,hr⟩;have HCF6:=Hd (HCF5.out.next hLs hf6 hx6);have HRR:=Hd hr;have z1:=keep_fr hf6 y1 (by omega);have z8:=keep_fr hf6 y8 (by omega);clear hf6 hx6 hr y0 y1 y2 y3 y4 y5 y6 y7 y8;cases r with
       | false =>
        as_aux_lemma =>
         go_wp2_with fail;go_ret;exact HCF6.out.bad
       | true =>
        go_wp2_with fail;refine (HR2.out _).mono ?_;rintro e7 w7 ⟨⟨r,rfl,hr⟩,rfl⟩;have HR3:=Hd hr;clear hr;cases r with
        | false =>
         as_aux_lemma =>
          go_wp2_with fail;go_ret;exact HCF6.out.bad
        | true =>
         go_wp2_with fail;go_roundw
         case rel =>
          have hik:i<ss.length:=(by have:=HN.out.2.2.2.1;omega);have htk:ss.take (i+1)=ss.take i++[sl]:=(by rw[List.take_succ_eq_append_getElem hik,HSLE.out]);obtain⟨r1,r2,r3⟩:=HRR.out (by simp);refine⟨i+1,by omega,by go_num,x6,HCF6.out,r3,?_,?_⟩
          ·have:=HXN.out;have:=nodesT_le sl;rw[htk,nodesS_snoc];omega
          ·intro v hv;rw[htk] at hv;rcases List.mem_append.1 hv with hv|hv
           ·exact HOK.out v hv
           ·rw[List.mem_singleton.1 hv];refine⟨r1,λhk=>?_,λhk=>?_⟩
            ·have:=HSC.out;rw[HKD.out] at this;omega
            ·have:=HR3.out (by simp);rwa [HKD.out] at this
         case measure=>simp[intOf];omega
      ·have HSC:=Hd (show ¬kid.kind<=10 from hsc);have gs:decide ((kid.kind:Int)<=10)=false:=(by simp;omega);clear hsc;go_wp2_with fail;refine HIH.out.mono ?_;rintro e6 w6 ⟨r,rfl,hf6,x6,hx6,hr⟩;have HCF6:=Hd (HCF5.out.next hLs hf6 hx6);have HRR:=Hd hr;have z1:=keep_fr hf6 y1 (by omega);have z8:=keep_fr hf6 y8 (by omega);clear hf6 hx6 hr y0 y1 y2 y3 y4 y5 y6 y7 y8;cases r with
       | false =>
        as_aux_lemma =>
         go_wp2_with fail;go_ret;exact HCF6.out.bad
       | true =>
        by_cases hd0:sl.dflt=0
        ·have gd:((sl.dflt:Int) != 0)=false:=(by simp;omega);have HD0:=Hd hd0;clear hd0;go_wp2_with fail;go_roundw
         case rel =>
          have hik:i<ss.length:=(by have:=HN.out.2.2.2.1;omega);have htk:ss.take (i+1)=ss.take i++[sl]:=(by rw[List.take_succ_eq_append_getElem hik,HSLE.out]);obtain⟨r1,r2,r3⟩:=HRR.out (by simp);refine⟨i+1,by omega,by go_num,x6,HCF6.out,r3,?_,?_⟩
          ·have:=HXN.out;have:=nodesT_le sl;rw[htk,nodesS_snoc];omega
          ·intro v hv;rw[htk] at hv;rcases List.mem_append.1 hv with hv|hv
           ·exact HOK.out v hv
           ·rw[List.mem_singleton.1 hv];refine⟨r1,λhk=>?_,λhk=>?_⟩
            ·exact HD0.out
            ·have:=HSC.out;rw[HKD.out] at this;omega
         case measure=>simp[intOf];omega
        ·have gd:((sl.dflt:Int) != 0)=true:=(by simp;omega);as_aux_lemma =>
          go_wp2_with fail;go_ret;exact HCF6.out.bad
     ·go_wp2_with fail;go_ret;have hall:∀s∈ss,Good s.val/\(s.val.kind > 10->s.dflt=0)/\(s.val.kind<=10->OkNum s.val.kind s.dflt):=by
       have:=HN.out.2.2.2.1
       have e:ss.take i=ss:=List.take_of_length_le (by omega);have h:=HOK.out;rwa [e] at h
      have hxe:x+nodesS ss<=left-1:=by
       have:=HN.out.2.2.2.1
       have e:ss.take i=ss:=List.take_of_length_le (by omega);have h:=HXN.out;rwa [e] at h
      obtain⟨htt,hnl,hnk,hnss,hsz⟩:=HN.out;have hb:=HB.out;have hg:=HG.out;obtain rfl:n=0:=(by omega);obtain rfl:t=[]:=List.eq_nil_of_length_eq_zero (by omega);obtain rfl:ns=[]:=List.eq_nil_of_length_eq_zero (by omega);obtain rfl:ks=[]:=List.eq_nil_of_length_eq_zero (by omega);obtain rfl:e=0:=(by omega);exact HC.out.good (good_tab hall (by omega)) (by simp[nodes,nodesL];omega) (by omega)
end Go.Proofs.YtcfblkkpclfmaaaGreat
