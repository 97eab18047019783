/- Part 33 of the proof of FnEvolved; no condition. -/
import Derived.Test.YtcfblkkpclfmaaaGreatEb14
import Derived.Test.YtcfblkkpclfmaaaGreatEb32
set_option linter.unusedVariables false
set_option linter.unusedSimpArgs false
set_option maxRecDepth 100000
set_option maxHeartbeats 16000000
namespace Go.Proofs.YtcfblkkpclfmaaaGreat
open Go.RowKit
theorem clean_14(e n:Nat)(t:List UInt8)(ns:List Nat)(ks:List Val)(ss:List (Slt Val))(ihk:∀v∈ks,CleanC v):CleanC (.mk 14 e n t ns ks ss):=by
 intro B cs L left deep w hv hBL hL hl0 hl1 hd0 hd1;cases hv with
 | mk _ _ _ _ _ _ _ nv ka kc kg ko sa sc sg so hk he hn ht hnv hka hkc hks hsa hsc hsd hss =>
  obtain⟨tt,htt⟩:=exA (strOf t);have hszt:tt.size=t.length:=by rw[htt];exact strOf_size t
  obtain⟨na,nc,rfl,hnc1,hnc2,hnc3,hnc4⟩:=hnv.ok;obtain⟨nl,hnl⟩:=exA (ns.length);obtain⟨nk,hnk⟩:=exA (ks.length);obtain⟨nss,hnss⟩:=exA (ss.length);rw[<-htt,<-hnl,<-hnk,<-hnss];have hLs:=lt_of_block hL;have cL:w.cell? ⟨L,0,none⟩=some (.int .i64 left):=by rw[cell_of hL];rfl
  have fL:=frozen_of hL 0;have cL1:∀o,(w.alloc o).cell? ⟨L,0,none⟩=some (.int .i64 left):=λo=>keep_alloc o cL;have fL1:∀o,(w.alloc o).frozen? ⟨L,0,none⟩=false:=λo=>keep_allocF o cL fL;have hL1:(w.setCell ⟨L,0,none⟩ (.int .i64 (left-1))).heap[L]?=some (.cells #[.int .i64 (left-1)] 3):=heap_setCell_same hL 0 _;have cL2:∀o,((w.setCell ⟨L,0,none⟩ (.int .i64 (left-1))).alloc o).cell? ⟨L,0,none⟩=some (.int .i64 (left-1)):=λo=>keep_alloc o (by rw[cell_of hL1];rfl);have hCF:CF w [.int .u8 (14:Nat),.int .u8 e,.int .u64 n,.string tt,.slice na nl nc,.slice ka nk kc,.slice sa nss sc] L (left-1) ((w.setCell ⟨L,0,none⟩ (.int .i64 (left-1))).alloc (.cells (([.int .u8 (14:Nat),.int .u8 e,.int .u64 n,.string tt,.slice na nl nc,.slice ka nk kc,.slice sa nss sc]:List Value)).toArray 27)):=CF.start hL;have HCF:=Hd hCF;have HV:=Hd (And.intro hk (And.intro he (And.intro hn (And.intro ht (And.intro hnv hBL)))));have HK:=Hd (And.intro hka (And.intro hkc hks));have HS:=Hd (And.intro hsa (And.intro hsc (And.intro hsd hss)));have HN:=Hd (And.intro htt (And.intro hnl (And.intro hnk (And.intro hnss hszt))));have HL:=Hd hL;have HNUM:=Hd (And.intro hnc3 hnc4);have HT:=Hd (show tt.toList.isEmpty=decide (tt.size=0) by rw[hszt,htt];exact strE);clear hCF hL1 hk he hn ht hnv hka hkc hks hsa hsc hsd hss htt hnl hnk hnss cL fL hL hnc1 hnc2 hnc3 hnc4 hBL hszt;have IHK:=Hd ihk;clear ihk;by_cases h1:left-1<0
  ·go_enter Tryz.func25,Tryz.ntmps25;go_upto_region 3 with fail;go_wp2_with fail;go_ret;exact HCF.out.bad
  by_cases h2:deep<0
  ·go_enter Tryz.func25,Tryz.ntmps25;go_upto_region 3 with fail;go_wp2_with fail;go_ret;exact HCF.out.bad
  go_enter Tryz.func25,Tryz.ntmps25;go_upto_region 4 with fail;go_cut [115] (λc wx=>c=.bool (decide ((n≠0)\/(tt.size≠0)\/(0<nl)\/(0<nss)\/(e≠0)))/\CF w [.int .u8 (14:Nat),.int .u8 e,.int .u64 n,.string tt,.slice na nl nc,.slice ka nk kc,.slice sa nss sc] L (left-1) wx)
  case first =>
   iterate 15 (first|go_values|go_skip|go_guarded|go_step|go_upon|go_back)
   try simp only[List.append_eq,List.cons_append,List.nil_append]
   by_cases hn:n≠0
   ·have gn:((n:Int) != 0)=true:=(by simp;omega);as_aux_lemma =>
     go_wp2_with fail;go_meet
     exact⟨db (by omega),HCF.out⟩
   ·have gn:((n:Int) != 0)=false:=(by simp;omega);by_cases ht:tt.size≠0
    ·have gt:tt.toList.isEmpty=false:=(by rw[HT.out];exact decide_eq_false ht);as_aux_lemma =>
      go_wp2_with fail;go_meet
      exact⟨db (by omega),HCF.out⟩
    ·have gt:tt.toList.isEmpty=true:=(by rw[HT.out];exact decide_eq_true (by omega));by_cases hl:0<nl
     ·have gl:decide ((nl:Int) > 0)=true:=(by simp;omega);as_aux_lemma =>
       go_wp2_with fail;go_meet
       exact⟨db (by omega),HCF.out⟩
     ·have gl:decide ((nl:Int) > 0)=false:=(by simp;omega);by_cases hs:0<nss
      ·have gs:decide ((nss:Int) > 0)=true:=(by simp;omega);as_aux_lemma =>
        go_wp2_with fail;go_meet
        exact⟨db (by omega),HCF.out⟩
      ·have gs:decide ((nss:Int) > 0)=false:=(by simp;omega);by_cases he:e≠0
       ·have ge:((e:Int) != 0)=true:=(by simp;omega);as_aux_lemma =>
         go_wp2_with fail;go_meet
         exact⟨db (by omega),HCF.out⟩
       ·have ge:((e:Int) != 0)=false:=(by simp;omega);as_aux_lemma =>
         go_wp2_with fail;go_meet
         exact⟨df (by omega),HCF.out⟩
  case rest =>
   obtain⟨rfl,hcf⟩:=hcut;have HCG:=Hd hcf;obtain⟨b0,b1,b2,b3,b4,b5,b6⟩:=hcf.bx7;clear hcf cL1 fL1 cL2;by_cases hb:(n≠0)\/(tt.size≠0)\/(0<nl)\/(0<nss)\/(e≠0)
   ·rw[decide_eq_true hb];go_wp2_with fail;go_ret;exact HCG.out.bad
   rw[decide_eq_false hb];have HB:=Hd hb;clear hb;go_upto_region 6 with fail;go_cut [137] (λc wx=>c=.bool (decide ((1000<tt.size)\/(200<nl)\/(200<nk)\/(60<nss)))/\CF w [.int .u8 (14:Nat),.int .u8 e,.int .u64 n,.string tt,.slice na nl nc,.slice ka nk kc,.slice sa nss sc] L (left-1) wx)
   case first =>
    by_cases hx1:1000<tt.size
    ·have gx1:decide ((tt.size:Int) > 1000)=true:=(by simp;omega);as_aux_lemma =>
      go_wp2_with fail;go_meet
      exact⟨db (by omega),HCG.out⟩
    ·have gx1:decide ((tt.size:Int) > 1000)=false:=(by simp;omega);by_cases hx2:200<nl
     ·have gx2:decide ((nl:Int) > 200)=true:=(by simp;omega);as_aux_lemma =>
       go_wp2_with fail;go_meet
       exact⟨db (by omega),HCG.out⟩
     ·have gx2:decide ((nl:Int) > 200)=false:=(by simp;omega);by_cases hx3:200<nk
      ·have gx3:decide ((nk:Int) > 200)=true:=(by simp;omega);as_aux_lemma =>
        go_wp2_with fail;go_meet
        exact⟨db (by omega),HCG.out⟩
      ·have gx3:decide ((nk:Int) > 200)=false:=(by simp;omega);by_cases hx4:60<nss
       ·have gx4:decide ((nss:Int) > 60)=true:=(by simp;omega);as_aux_lemma =>
         go_wp2_with fail;go_meet
         exact⟨db (by omega),HCG.out⟩
       ·have gx4:decide ((nss:Int) > 60)=false:=(by simp;omega);as_aux_lemma =>
         go_wp2_with fail;go_meet
         exact⟨df (by omega),HCG.out⟩
   case rest =>
    obtain⟨rfl,hcf⟩:=hcut;have HCH:=Hd hcf;obtain⟨c0,c1,c2,c3,c4,c5,c6⟩:=hcf.bx7;clear hcf b0 b1 b2 b3 b4 b5 b6;by_cases hg:(1000<tt.size)\/(200<nl)\/(200<nk)\/(60<nss)
    ·rw[decide_eq_true hg];go_wp2_with fail;go_ret;exact HCH.out.bad
    rw[decide_eq_false hg];have HG:=Hd hg;have hgl:nl<=200/\nk<=200/\nss<=60:=(by omega);obtain⟨hgl,hgk,hgs⟩:=hgl;clear hg;go_wp2_with fail;go_loopw [211] (λiv wr=>∃i:Nat,i<=nk/\iv=.int .i64 i/\∃x:Int,CF w [.int .u8 (14:Nat),.int .u8 e,.int .u64 n,.string tt,.slice na nl nc,.slice ka nk kc,.slice sa nss sc] L x wr/\0<=x/\x+nodesL (ks.take i)<=left-1/\∀v∈ks.take i,v.kind=11/\Good v) (λiv _=>nk-(intOf iv).toNat)
    case atStart=>exact⟨0,Nat.zero_le _,rfl,left-1,HCH.out,by omega,by simp[nodesL],by simp⟩
    case round =>
     obtain⟨i,hi,rfl,x,hc,hx0,hxn,hok⟩:=hrel;have HC:=Hd hc;have HOK:=Hd hok;have HXN:=Hd hxn;have hx1:x<=1000:=(by omega);obtain⟨d0,d1,d2,d3,d4,d5,d6⟩:=hc.bx7;have hwr:=hc.size;clear hc hok hxn c0 c1 c2 c3 c4 c5 c6;by_cases hlt:i<nk
     ·have hik:i<ks.length:=(by have:=HN.out.2.2.1;omega);obtain⟨rfl,hkg,hBg⟩:=HK.out.1 (by intro h0;rw[h0] at hik;simp at hik);obtain⟨kid,hkid⟩:=exA (ks[i]);have hkv:VIs (λb=>B b/\b<w.heap.size) wr (cellsAt wr kg (ko+i*7) 7) kid:=by
       rw[cellsAt_mono (HC.out.fr.block kg hkg (λh=>HV.out.2.2.2.2.2 (h▸hBg))),hkid];exact (HK.out.2.2 i hik).fr HC.out.fr (λb hb hbb=>⟨⟨hbb,hb⟩,λh=>HV.out.2.2.2.2.2 (h▸hbb)⟩)
      obtain⟨na1,nl1,nc1,ka1,nk1,kc1,sa1,ns1,sc1,hlit,c0,c1,c2,c3,c4,c5,c6⟩:=hkv.at
      have HKD:=Hd hkid;have HMEM:=Hd (show kid∈ks by rw[hkid];exact List.getElem_mem hik);have hcf5:=HC.out.alloc hLs (.cells #[.int .u8 kid.kind,.int .u8 kid.elem,.int .u64 kid.num,.string (strOf kid.text),.slice na1 nl1 nc1,.slice ka1 nk1 kc1,.slice sa1 ns1 sc1] 27);have hv5:=hlit.fr0 (B':=λb=>B b/\b<w.heap.size) ((Fr.refl (λ_=>False) wr).alloc (.cells #[.int .u8 kid.kind,.int .u8 kid.elem,.int .u64 kid.num,.string (strOf kid.text),.slice na1 nl1 nc1,.slice ka1 nk1 kc1,.slice sa1 ns1 sc1] 27)) (λ_ _ h=>h);have hy5:(wr.alloc (.cells #[.int .u8 kid.kind,.int .u8 kid.elem,.int .u64 kid.num,.string (strOf kid.text),.slice na1 nl1 nc1,.slice ka1 nk1 kc1,.slice sa1 ns1 sc1] 27)).heap[wr.heap.size]?=some (.cells #[.int .u8 kid.kind,.int .u8 kid.elem,.int .u64 kid.num,.string (strOf kid.text),.slice na1 nl1 nc1,.slice ka1 nk1 kc1,.slice sa1 ns1 sc1] 27):=heap_alloc_new _ _;have HCF5:=Hd hcf5;have HV5:=Hd hv5;have HY5:=Hd hy5;clear hkid hkv hlit hcf5 hv5 hy5;go_upto_region 32 with fail;generalize hw5:(wr.alloc (.cells #[.int .u8 kid.kind,.int .u8 kid.elem,.int .u64 kid.num,.string (strOf kid.text),.slice na1 nl1 nc1,.slice ka1 nk1 kc1,.slice sa1 ns1 sc1] 27))=w5 at *;clear hw5 c0 c1 c2 c3 c4 c5 c6;have yy:=λj u (hu:(#[.int .u8 kid.kind,.int .u8 kid.elem,.int .u64 kid.num,.string (strOf kid.text),.slice na1 nl1 nc1,.slice ka1 nk1 kc1,.slice sa1 ns1 sc1]:Array Value)[j]?=some u)=>(cell_of HY5.out j).trans hu;have y0:=yy 0 _ rfl;have y1:=yy 1 _ rfl;have y2:=yy 2 _ rfl;have y3:=yy 3 _ rfl;have y4:=yy 4 _ rfl;have y5:=yy 5 _ rfl;have y6:=yy 6 _ rfl;clear yy;by_cases hkk:kid.kind=11
      ·have gk:((kid.kind:Int) != 11)=false:=(by simp;omega);have HKK:=Hd hkk;clear hkk;go_wp2_with fail;refine (IHK.out kid HMEM.out (λb=>B b/\b<w.heap.size) [.int .u8 kid.kind,.int .u8 kid.elem,.int .u64 kid.num,.string (strOf kid.text),.slice na1 nl1 nc1,.slice ka1 nk1 kc1,.slice sa1 ns1 sc1] L x (deep-1) w5 HV5.out (λh=>HV.out.2.2.2.2.2 h.1) HCF5.out.cell (by omega) (by omega) (by omega) (by omega)).mono ?_;rintro e6 w6 ⟨r,rfl,hf6,x6,hx6,hr⟩;have HCF6:=Hd (HCF5.out.next hLs hf6 hx6);have HRR:=Hd hr;clear hf6 hx6 hr y0 y1 y2 y3 y4 y5 y6;cases r with
       | false =>
        as_aux_lemma =>
         go_wp2_with fail;go_ret;exact HCF6.out.bad
       | true =>
        go_wp2_with fail;go_roundw
        case rel =>
         have hik:i<ks.length:=(by have:=HN.out.2.2.1;omega);have htk:ks.take (i+1)=ks.take i++[kid]:=(by rw[List.take_succ_eq_append_getElem hik,HKD.out]);obtain⟨r1,r2,r3⟩:=HRR.out (by simp);refine⟨i+1,by omega,by go_num,x6,HCF6.out,r3,?_,?_⟩
         ·have:=HXN.out;rw[htk,nodesL_snoc];omega
         ·intro v hv;rw[htk] at hv;rcases List.mem_append.1 hv with hv|hv
          ·exact HOK.out v hv
          ·rw[List.mem_singleton.1 hv];exact⟨HKK.out,r1⟩
        case measure=>simp[intOf];omega
      ·have gk:((kid.kind:Int) != 11)=true:=(by simp;omega);as_aux_lemma =>
        go_wp2_with fail;go_ret;exact HCF5.out.bad
     ·have hall:∀v∈ks,v.kind=11/\Good v:=by
       have:=HN.out.2.2.1
       have e:ks.take i=ks:=List.take_of_length_le (by omega);have h:=HOK.out;rwa [e] at h
      have hxe:x+nodesL ks<=left-1:=by
       have:=HN.out.2.2.1
       have e:ks.take i=ks:=List.take_of_length_le (by omega);have h:=HXN.out;rwa [e] at h
      have hM:Calls Tryz.prog 47 #[.slice ka nk kc] wr (BothRes (λb=>B b/\b<w.heap.size) (merged ks) wr):=by
       have hnk:=HN.out.2.2.1;rw[hnk];refine merged_calls (λv hv=>(hall v hv).2) _ ka kc kg ko wr (λh=>?_) HK.out.2.1 (λj hj=>?_)
       ·obtain⟨h1,h2,h3⟩:=HK.out.1 h;exact⟨h1,by have:=HC.out.fr.size;omega,h3,h2⟩
       ·obtain⟨h1,h2,h3⟩:=HK.out.1 (by intro h0;rw[h0] at hj;simp at hj);rw[cellsAt_mono (HC.out.fr.block kg h2 (λh=>HV.out.2.2.2.2.2 (h▸h3)))];exact (HK.out.2.2 j hj).fr HC.out.fr (λb hb hbb=>⟨⟨hbb,hb⟩,λh=>HV.out.2.2.2.2.2 (h▸hbb)⟩)
      have HALL:=Hd hall;have HXE:=Hd hxe;have HM:=Hd hM;clear hall hxe hM;go_wp2_with fail;refine HM.out.mono ?_;rintro e6 w6 ⟨hf6,hres⟩;have HCF6:=Hd (HC.out.next hLs (hf6.mono (λ_ _ x=>x.elim)) ((hf6.block L (lt_of_block HC.out.cell) (λx=>x)).trans HC.out.cell));clear hf6;cases hm:merged ks with
      | none =>
       rw[hm] at hres;have hres:=hres;subst hres;clear hm;go_wp2_with fail;go_ret;exact (HCF6.out.alloc hLs _).bad
      | some c =>
       rw[hm] at hres;obtain⟨cs9,rfl,hv9⟩:=hres;obtain⟨na9,nl9,nc9,ka9,nk9,kc9,sa9,ns9,sc9,rfl⟩:=hv9.lit;have HMS:=Hd (show (merged ks).isSome by rw[hm];rfl);clear hv9 hm;go_wp2_with fail;go_ret;have hxe:=HXE.out;obtain⟨htt,hnl,hnk,hnss,hsz⟩:=HN.out;have hb:=HB.out;have hg:=HG.out;obtain rfl:n=0:=(by omega);obtain rfl:t=[]:=List.eq_nil_of_length_eq_zero (by omega);obtain rfl:ns=[]:=List.eq_nil_of_length_eq_zero (by omega);obtain rfl:ss=[]:=List.eq_nil_of_length_eq_zero (by omega);obtain rfl:e=0:=(by omega);exact (HCF6.out.alloc hLs _).good (good_kids14 HALL.out (by omega)) (by simp[nodes,nodesS];omega) (by omega)
end Go.Proofs.YtcfblkkpclfmaaaGreat
