/- Part 36 of the proof of FnEvolved; no condition. -/
import Derived.Test.YtcfblkkpclfmaaaGreatEb14
set_option linter.unusedVariables false
set_option linter.unusedSimpArgs false
set_option maxRecDepth 100000
set_option maxHeartbeats 16000000
namespace Go.Proofs.YtcfblkkpclfmaaaGreat
open Go.RowKit
theorem clean_17(e n:Nat)(t:List UInt8)(ns:List Nat)(ks:List Val)(ss:List (Slt Val)):CleanC (.mk 17 e n t ns ks ss):=by
 intro B cs L left deep w hv hBL hL hl0 hl1 hd0 hd1;cases hv with
 | mk _ _ _ _ _ _ _ nv ka kc kg ko sa sc sg so hk he hn ht hnv hka hkc hks hsa hsc hsd hss =>
  obtain⟨tt,htt⟩:=exA (strOf t);have hszt:tt.size=t.length:=by rw[htt];exact strOf_size t
  obtain⟨na,nc,rfl,hnc1,hnc2,hnc3,hnc4⟩:=hnv.ok;obtain⟨nl,hnl⟩:=exA (ns.length);obtain⟨nk,hnk⟩:=exA (ks.length);obtain⟨nss,hnss⟩:=exA (ss.length);rw[<-htt,<-hnl,<-hnk,<-hnss];have hLs:=lt_of_block hL;have cL:w.cell? ⟨L,0,none⟩=some (.int .i64 left):=by rw[cell_of hL];rfl
  have fL:=frozen_of hL 0;have cL1:∀o,(w.alloc o).cell? ⟨L,0,none⟩=some (.int .i64 left):=λo=>keep_alloc o cL;have fL1:∀o,(w.alloc o).frozen? ⟨L,0,none⟩=false:=λo=>keep_allocF o cL fL;have hL1:(w.setCell ⟨L,0,none⟩ (.int .i64 (left-1))).heap[L]?=some (.cells #[.int .i64 (left-1)] 3):=heap_setCell_same hL 0 _;have cL2:∀o,((w.setCell ⟨L,0,none⟩ (.int .i64 (left-1))).alloc o).cell? ⟨L,0,none⟩=some (.int .i64 (left-1)):=λo=>keep_alloc o (by rw[cell_of hL1];rfl);have hCF:CF w [.int .u8 (17:Nat),.int .u8 e,.int .u64 n,.string tt,.slice na nl nc,.slice ka nk kc,.slice sa nss sc] L (left-1) ((w.setCell ⟨L,0,none⟩ (.int .i64 (left-1))).alloc (.cells (([.int .u8 (17:Nat),.int .u8 e,.int .u64 n,.string tt,.slice na nl nc,.slice ka nk kc,.slice sa nss sc]:List Value)).toArray 27)):=CF.start hL;have HCF:=Hd hCF;have HV:=Hd (And.intro hk (And.intro he (And.intro hn (And.intro ht (And.intro hnv hBL)))));have HK:=Hd (And.intro hka (And.intro hkc hks));have HS:=Hd (And.intro hsa (And.intro hsc (And.intro hsd hss)));have HN:=Hd (And.intro htt (And.intro hnl (And.intro hnk (And.intro hnss hszt))));have HL:=Hd hL;have HNUM:=Hd (And.intro hnc3 hnc4);have HT:=Hd (show tt.toList.isEmpty=decide (tt.size=0) by rw[hszt,htt];exact strE);clear hCF hL1 hk he hn ht hnv hka hkc hks hsa hsc hsd hss htt hnl hnk hnss cL fL hL hnc1 hnc2 hnc3 hnc4 hBL hszt;by_cases h1:left-1<0
  ·go_enter Tryz.func25,Tryz.ntmps25;go_upto_region 3 with fail;go_wp2_with fail;go_ret;exact HCF.out.bad
  by_cases h2:deep<0
  ·go_enter Tryz.func25,Tryz.ntmps25;go_upto_region 3 with fail;go_wp2_with fail;go_ret;exact HCF.out.bad
  go_enter Tryz.func25,Tryz.ntmps25;go_upto_region 4 with fail;go_cut [115] (λc wx=>c=.bool (decide ((n≠0)\/(0<nl)\/(0<nk)\/(0<nss)))/\CF w [.int .u8 (17:Nat),.int .u8 e,.int .u64 n,.string tt,.slice na nl nc,.slice ka nk kc,.slice sa nss sc] L (left-1) wx)
  case first =>
   iterate 15 (first|go_values|go_skip|go_guarded|go_step|go_upon|go_back)
   try simp only[List.append_eq,List.cons_append,List.nil_append]
   by_cases hn:n≠0
   ·have gn:((n:Int) != 0)=true:=(by simp;omega);as_aux_lemma =>
     go_wp2_with fail;go_meet
     exact⟨db (by omega),HCF.out⟩
   ·have gn:((n:Int) != 0)=false:=(by simp;omega);by_cases hl:0<nl
    ·have gl:decide ((nl:Int) > 0)=true:=(by simp;omega);as_aux_lemma =>
      go_wp2_with fail;go_meet
      exact⟨db (by omega),HCF.out⟩
    ·have gl:decide ((nl:Int) > 0)=false:=(by simp;omega);by_cases hk:0<nk
     ·have gk:decide ((nk:Int) > 0)=true:=(by simp;omega);as_aux_lemma =>
       go_wp2_with fail;go_meet
       exact⟨db (by omega),HCF.out⟩
     ·have gk:decide ((nk:Int) > 0)=false:=(by simp;omega);by_cases hs:0<nss
      ·have gs:decide ((nss:Int) > 0)=true:=(by simp;omega);as_aux_lemma =>
        go_wp2_with fail;go_meet
        exact⟨db (by omega),HCF.out⟩
      ·have gs:decide ((nss:Int) > 0)=false:=(by simp;omega);as_aux_lemma =>
        go_wp2_with fail;go_meet
        exact⟨df (by omega),HCF.out⟩
  case rest =>
   obtain⟨rfl,hcf⟩:=hcut;have HCG:=Hd hcf;obtain⟨b0,b1,b2,b3,b4,b5,b6⟩:=hcf.bx7;clear hcf cL1 fL1 cL2;by_cases hb:(n≠0)\/(0<nl)\/(0<nk)\/(0<nss)
   ·rw[decide_eq_true hb];go_wp2_with fail;go_ret;exact HCG.out.bad
   rw[decide_eq_false hb];have HB:=Hd hb;clear hb;go_upto_region 6 with fail;go_cut [137] (λc wx=>c=.bool (decide ((1000<tt.size)\/(200<nl)\/(200<nk)\/(60<nss)))/\CF w [.int .u8 (17:Nat),.int .u8 e,.int .u64 n,.string tt,.slice na nl nc,.slice ka nk kc,.slice sa nss sc] L (left-1) wx)
   case first =>
    by_cases hx1:1000<tt.size
    ·have gx1:decide ((tt.size:Int) > 1000)=true:=(by simp;omega);as_aux_lemma =>
      go_wp2_with fail;go_meet
      exact⟨db (by omega),HCG.out⟩
    ·have gx1:decide ((tt.size:Int) > 1000)=false:=(by simp;omega);by_cases hx2:200<nl
     ·have gx2:decide ((nl:Int) > 200)=true:=(by simp;omega);as_aux_lemma =>
       go_wp2_with fail;go_meet
       exact⟨db (by omega),HCG.out⟩
     ·have gx2:decide ((nl:Int) > 200)=false:=(by simp;omega);by_cases hx3:200<nk
      ·have gx3:decide ((nk:Int) > 200)=true:=(by simp;omega);as_aux_lemma =>
        go_wp2_with fail;go_meet
        exact⟨db (by omega),HCG.out⟩
      ·have gx3:decide ((nk:Int) > 200)=false:=(by simp;omega);by_cases hx4:60<nss
       ·have gx4:decide ((nss:Int) > 60)=true:=(by simp;omega);as_aux_lemma =>
         go_wp2_with fail;go_meet
         exact⟨db (by omega),HCG.out⟩
       ·have gx4:decide ((nss:Int) > 60)=false:=(by simp;omega);as_aux_lemma =>
         go_wp2_with fail;go_meet
         exact⟨df (by omega),HCG.out⟩
   case rest =>
    obtain⟨rfl,hcf⟩:=hcut;have HCH:=Hd hcf;obtain⟨c0,c1,c2,c3,c4,c5,c6⟩:=hcf.bx7;clear hcf b0 b1 b2 b3 b4 b5 b6;by_cases hg:(1000<tt.size)\/(200<nl)\/(200<nk)\/(60<nss)
    ·rw[decide_eq_true hg];go_wp2_with fail;go_ret;exact HCH.out.bad
    rw[decide_eq_false hg];have HG:=Hd hg;have hgl:nl<=200/\nk<=200/\nss<=60:=(by omega);obtain⟨hgl,hgk,hgs⟩:=hgl;clear hg;by_cases he1:e=1
    ·subst he1;by_cases ht0:tt.size=0
     ·have gt:tt.toList.isEmpty=true:=(by rw[HT.out];exact decide_eq_true ht0);as_aux_lemma =>
       go_wp2_with fail;go_ret;exact HCH.out.bad
     have gt:tt.toList.isEmpty=false:=(by rw[HT.out];exact decide_eq_false ht0);by_cases ht64:64<tt.size
     ·go_wp2_with fail;go_ret;exact HCH.out.bad
     go_wp2_with fail;go_ret;refine HCH.out.gives _ (λh=>?_);obtain⟨htt,hnl,hnk,hnss,hsz⟩:=HN.out;have hb:=HB.out;have hg:=HG.out;obtain rfl:n=0:=(by omega);obtain rfl:ns=[]:=List.eq_nil_of_length_eq_zero (by omega);obtain rfl:ks=[]:=List.eq_nil_of_length_eq_zero (by omega);obtain rfl:ss=[]:=List.eq_nil_of_length_eq_zero (by omega);have hm:t.length%1=0:=by
      rw[<-hsz];simp at h;omega
     exact⟨good_struct (by omega) (by omega) (by omega) hm,(by simp[nodes,nodesL,nodesS]),by omega⟩
    by_cases he2:e=2
    ·subst he2;by_cases ht0:tt.size=0
     ·have gt:tt.toList.isEmpty=true:=(by rw[HT.out];exact decide_eq_true ht0);as_aux_lemma =>
       go_wp2_with fail;go_ret;exact HCH.out.bad
     have gt:tt.toList.isEmpty=false:=(by rw[HT.out];exact decide_eq_false ht0);by_cases ht64:64<tt.size
     ·go_wp2_with fail;go_ret;exact HCH.out.bad
     go_wp2_with fail;go_ret;refine HCH.out.gives _ (λh=>?_);obtain⟨htt,hnl,hnk,hnss,hsz⟩:=HN.out;have hb:=HB.out;have hg:=HG.out;obtain rfl:n=0:=(by omega);obtain rfl:ns=[]:=List.eq_nil_of_length_eq_zero (by omega);obtain rfl:ks=[]:=List.eq_nil_of_length_eq_zero (by omega);obtain rfl:ss=[]:=List.eq_nil_of_length_eq_zero (by omega);have hm:t.length%2=0:=by
      rw[<-hsz];simp at h;omega
     exact⟨good_struct (by omega) (by omega) (by omega) hm,(by simp[nodes,nodesL,nodesS]),by omega⟩
    by_cases he4:e=4
    ·subst he4;by_cases ht0:tt.size=0
     ·have gt:tt.toList.isEmpty=true:=(by rw[HT.out];exact decide_eq_true ht0);as_aux_lemma =>
       go_wp2_with fail;go_ret;exact HCH.out.bad
     have gt:tt.toList.isEmpty=false:=(by rw[HT.out];exact decide_eq_false ht0);by_cases ht64:64<tt.size
     ·go_wp2_with fail;go_ret;exact HCH.out.bad
     go_wp2_with fail;go_ret;refine HCH.out.gives _ (λh=>?_);obtain⟨htt,hnl,hnk,hnss,hsz⟩:=HN.out;have hb:=HB.out;have hg:=HG.out;obtain rfl:n=0:=(by omega);obtain rfl:ns=[]:=List.eq_nil_of_length_eq_zero (by omega);obtain rfl:ks=[]:=List.eq_nil_of_length_eq_zero (by omega);obtain rfl:ss=[]:=List.eq_nil_of_length_eq_zero (by omega);have hm:t.length%4=0:=by
      rw[<-hsz];simp at h;omega
     exact⟨good_struct (by omega) (by omega) (by omega) hm,(by simp[nodes,nodesL,nodesS]),by omega⟩
    by_cases he8:e=8
    ·subst he8;by_cases ht0:tt.size=0
     ·have gt:tt.toList.isEmpty=true:=(by rw[HT.out];exact decide_eq_true ht0);as_aux_lemma =>
       go_wp2_with fail;go_ret;exact HCH.out.bad
     have gt:tt.toList.isEmpty=false:=(by rw[HT.out];exact decide_eq_false ht0);by_cases ht64:64<tt.size
     ·go_wp2_with fail;go_ret;exact HCH.out.bad
     go_wp2_with fail;go_ret;refine HCH.out.gives _ (λh=>?_);obtain⟨htt,hnl,hnk,hnss,hsz⟩:=HN.out;have hb:=HB.out;have hg:=HG.out;obtain rfl:n=0:=(by omega);obtain rfl:ns=[]:=List.eq_nil_of_length_eq_zero (by omega);obtain rfl:ks=[]:=List.eq_nil_of_length_eq_zero (by omega);obtain rfl:ss=[]:=List.eq_nil_of_length_eq_zero (by omega);have hm:t.length%8=0:=by
      rw[<-hsz];simp at h;omega
     exact⟨good_struct (by omega) (by omega) (by omega) hm,(by simp[nodes,nodesL,nodesS]),by omega⟩
    have g1:((e:Int)==1)=false:=(by simp;omega);have g2:((e:Int)==2)=false:=(by simp;omega);have g4:((e:Int)==4)=false:=(by simp;omega);have g8:((e:Int)==8)=false:=(by simp;omega);as_aux_lemma =>
     go_wp2_with fail;go_ret;exact HCH.out.bad
end Go.Proofs.YtcfblkkpclfmaaaGreat
