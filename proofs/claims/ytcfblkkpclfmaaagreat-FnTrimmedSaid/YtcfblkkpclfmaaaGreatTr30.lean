/- Part 30 of the proof of FnTrimmed (BElse2, Built, Thrown). No condition is laid on the statement. -/
import Derived.Test.YtcfblkkpclfmaaaGreatTr29
import Derived.Test.YtcfblkkpclfmaaaGreatTr18
import Derived.Test.YtcfblkkpclfmaaaGreatProg
import Derived.Test.YtcfblkkpclfmaaaGreatTr01
import Derived.Recover
import Derived.Laws.Pointers
import Derived.WalkLawsBesides
import Derived.Lib.Hide
set_option linter.unusedVariables false
set_option linter.unusedSimpArgs false
namespace Go.Proofs.YtcfblkkpclfmaaaGreat
open Go.RowKit
set_option maxRecDepth 100000 in
set_option maxHeartbeats 8000000 in
theorem be14 (sh:Bool) (e n:Nat) (t:List UInt8) (ns:List Nat) (ks:List Val) (ss:List (Slt Val)) (ih:∀ v∈ks,ElseC sh v):ElseC sh (.mk 14 e n t ns ks ss):=by
 intro hb st i0 b F w cs hok hbd hrep hv
 obtain ⟨lt,ln,lk,ls⟩:=hb.lens
 have lt:t.length≤1000:=lt
 have ln:ns.length≤200:=ln
 have lk:ks.length≤200:=lk
 have hu:=hok.inv.len
 have hnd:1≤nodes (.mk 14 e n t ns ks ss):=nodes_pos _
 have hfl:=hrep.below
 have hgk:∀ c∈ks,Bld c:=hb.kid
 have hkk:∀ c∈ks,c.kind=11:=hb.k14 rfl
 have hk15:14≠14→∀ c∈ks,c.kind=15:=fun h=>absurd rfl h
 have hnb:i0+2*nodesL ks≤300:=by rw [nodes] at hbd;omega
 obtain ⟨os0,sx,hit,hout0,hol0,hos0⟩:=items_laid sh 14 ks st i0 hgk hk15 hok hnb
 have hlx:=hout0.inv.len
 obtain ⟨ro,sr,hvec,-⟩:=vec_laid sx os0 hout0.nested hos0 (by omega)
 have e1:bElse sh (.mk 14 e n t ns ks ss) st=some (ro,sr):=by
  have h0:bElse sh (.mk 14 e n t ns ks ss) st=(bItems sh 14 ks st).bind fun p=>bVec p.1 p.2:=by rw [bElse];rfl
  rw [h0,hit];exact hvec
 rw [e1]
 cases hv with
 | mk _ _ _ _ _ _ _ nv ka kc kg ko sa sc sg so hk' he' hn ht hnv hka hkc hks hsa hsc hsd hss =>
  obtain ⟨na,nc,rfl,_⟩:=hnv.ok
  obtain ⟨T,hT⟩:∃ T,T=strOf t:=⟨_,rfl⟩
  obtain ⟨nl,hnl⟩:∃ nl,nl=ns.length:=⟨_,rfl⟩
  obtain ⟨nk,hnk⟩:∃ nk,nk=ks.length:=⟨_,rfl⟩
  obtain ⟨nss,hnss⟩:∃ nss,nss=ss.length:=⟨_,rfl⟩
  have hkm:kc≤maxLen:=hkc.2
  unfold maxLen at hkm
  have hkc1:=hkc.1
  rw [← hnk] at hkc1
  rw [← hT,← hnl,← hnk,← hnss]
  show Calls Tryz.prog 108 #[.pointer (some ⟨b,0,none⟩),.agg #[.int .u8 14,.int .u8 e,.int .u64 n,.string T,.slice na nl nc,.slice ka nk kc,.slice sa nss sc],.bool sh] w _
  have HNK:=Hd hnk
  have HKA:=Hd hka
  have HKS:=Hd hks
  have HFL:=Hd hfl
  have HREP:=Hd hrep
  have HOK:=Hd hok
  have HNB:=Hd hnb
  have IH:=Hd ih
  have HGK:=Hd hgk
  have HKK:=Hd hkk
  have HK15:=Hd hk15
  have HIT:=Hd hit
  have HVEC:=Hd hvec
  have HLX:=Hd hlx
  have HOS0:=Hd hos0
  have HOUT0:=Hd hout0
  have HOL:=Hd (hol0.trans hnk.symm)
  have hnk2:nk≤200:=by omega
  obtain ⟨i1,hj,hy0,hy1,hy2⟩:=info_parts infoU32o
  clear hka hks hfl hrep hok hnb ih hgk hkk hk15 hit hvec hlx hos0 hout0 hol0 hT hnl hnk hnss hkc hsa hsc hsd hss hnv e1 hu hnd hbd hb lk ht hn he' hk'
  go_enter Tryz.func108,Tryz.ntmps108
  go_wp2_with fail
  have hstart:BIR1 sh 14 b F st i0 w [.int .u8 14,.int .u8 e,.int .u64 n,.string T,.slice na nl nc,.slice ka nk kc,.slice sa nss sc] ks 0 (.slice none 0 0) (w.alloc (.cells #[.int .u8 14,.int .u8 e,.int .u64 n,.string T,.slice na nl nc,.slice ka nk kc,.slice sa nss sc] 46)):=by
   have hO:=HOK.out
   refine ⟨F,st,[],⟨Adv.alloc _,HREP.out.keep ((Fr.refl (fun _=>False) w).alloc _) (fun _ _ x=>x),rfl,⟨hO.nested,hO.pi,Put.refl _,hO.inv.le (by omega)⟩,by simp,heap_alloc_new _ _,⟨rfl,.inl ⟨rfl,rfl⟩⟩,(fun g hg=>by cases hg),rfl,fun hm=>by have:=HFL.out _ hm;omega⟩⟩
  have HST:=Hd hstart
  clear hstart
  go_loopw [9,73] (fun ov iv wr=>∃ i:Nat,i≤nk∧iv=.int .i64 i∧BIR1 sh 14 b F st i0 w [.int .u8 14,.int .u8 e,.int .u64 n,.string T,.slice na nl nc,.slice ka nk kc,.slice sa nss sc] ks i ov wr) (fun _ iv _=>nk-(intOf iv).toNat)
  case atStart=>exact ⟨0,Nat.zero_le _,rfl,HST.out⟩
  case round =>
   obtain ⟨i,hi,rfl,F1,st1,os1,hR⟩:=hrel
   have hsz:=hR.size
   have hbox:=hR.box
   have bx0:wr.cell? ⟨w.heap.size,0,none⟩=some (.int .u8 14):=by rw [cell_of hbox];rfl
   have HR:=Hd hR
   clear HST hbox
   by_cases hlt:i<nk
   ·have hik:i<ks.length:=by have:=HNK.out;omega
    obtain ⟨rfl,hkg,hBg⟩:=HKA.out (by intro h0;rw [h0] at hik;simp at hik)
    obtain ⟨kid,hkid⟩:∃ kid,kid=ks[i]:=⟨_,rfl⟩
    obtain ⟨hgF,hgh⟩:=hR.adv.out hkg hBg
    have hkv:VIs (fun x=>x ∉ F1) wr (cellsAt wr kg (ko+i*7) 7) kid:=by
     rw [cellsAt_mono hgh,hkid]
     exact (HKS.out i hik).adv hR.adv
    obtain ⟨na1,nl1,nc1,ka1,nk1,kc1,sa1,ns1,sc1,hlit,c0,c1,c2,c3,c4,c5,c6⟩:=hkv.at
    have hmem:kid∈ks:=by rw [hkid];exact List.getElem_mem hik
    have hk11:kid.kind=11:=HKK.out kid hmem
    rw [hk11] at hlit c0
    obtain ⟨o,st2,hbi,hrun2,hout2⟩:=hR.more HOK.out HNB.out HGK.out HK15.out hik
    rw [← hkid] at hbi
    have hnb2:i0+2*nodesL (ks.take i)+2*nodes kid≤300:=by
     have h2:=nodesL_take ks (i+1)
     rw [List.take_succ_eq_append_getElem hik,nodesL_snoc,← hkid] at h2
     have:=HNB.out
     omega
    have hbk:some (.cells #[.int .u8 11,.int .u8 kid.elem,.int .u64 kid.num,.string (strOf kid.text),.slice na1 nl1 nc1,.slice ka1 nk1 kc1,.slice sa1 ns1 sc1] 46)=(wr.alloc (.cells #[.int .u8 11,.int .u8 kid.elem,.int .u64 kid.num,.string (strOf kid.text),.slice na1 nl1 nc1,.slice ka1 nk1 kc1,.slice sa1 ns1 sc1] 46)).heap[wr.heap.size]?:=by
     rw [heap_alloc_new wr (.cells #[.int .u8 11,.int .u8 kid.elem,.int .u64 kid.num,.string (strOf kid.text),.slice na1 nl1 nc1,.slice ka1 nk1 kc1,.slice sa1 ns1 sc1] 46)]
    have hfa:Adv wr (wr.alloc (.cells #[.int .u8 11,.int .u8 kid.elem,.int .u64 kid.num,.string (strOf kid.text),.slice na1 nl1 nc1,.slice ka1 nk1 kc1,.slice sa1 ns1 sc1] 46)) F1 F1:=Adv.alloc _
    have hra:BRep (wr.alloc (.cells #[.int .u8 11,.int .u8 kid.elem,.int .u64 kid.num,.string (strOf kid.text),.slice na1 nl1 nc1,.slice ka1 nk1 kc1,.slice sa1 ns1 sc1] 46)) b F1 st1:=hR.rep.keep ((Fr.refl (fun _=>False) wr).alloc _) (fun _ _ x=>x)
    have hva:VIs (fun x=>x ∉ F1) (wr.alloc (.cells #[.int .u8 11,.int .u8 kid.elem,.int .u64 kid.num,.string (strOf kid.text),.slice na1 nl1 nc1,.slice ka1 nk1 kc1,.slice sa1 ns1 sc1] 46)) [.int .u8 11,.int .u8 kid.elem,.int .u64 kid.num,.string (strOf kid.text),.slice na1 nl1 nc1,.slice ka1 nk1 kc1,.slice sa1 ns1 sc1] kid:=hlit.adv hfa
    have hcl:=IH.out kid hmem (HGK.out kid hmem) st1 (i0+2*nodesL (ks.take i)) b F1 (wr.alloc (.cells #[.int .u8 11,.int .u8 kid.elem,.int .u64 kid.num,.string (strOf kid.text),.slice na1 nl1 nc1,.slice ka1 nk1 kc1,.slice sa1 ns1 sc1] 46)) _ hR.out.ok hnb2 hra hva
    rw [bElse_text sh kid st1 hk11,show bText sh kid.text st1=some (o,st2) from hbi] at hcl
    have HCL:=Hd hcl
    have HFA:=Hd hfa
    have HRUN2:=Hd hrun2
    have HOUT2:=Hd hout2
    have bx1:=keep_alloc (.cells #[.int .u8 11,.int .u8 kid.elem,.int .u64 kid.num,.string (strOf kid.text),.slice na1 nl1 nc1,.slice ka1 nk1 kc1,.slice sa1 ns1 sc1] 46) bx0
    clear hcl hfa hrun2 hout2 hbi hlit hkv hgF hgh hmem hk11 hbk hra hva hkid hnb2 hR
    go_wp2_with fail
    refine HCL.out.mono ?_
    rintro e2 w2 ⟨rfl,F2,hb2,ha2⟩
    have haa:=HFA.out.trans ha2
    have hown2:=ownFr HR.out.row haa.1 (fun g hg=>HR.out.rowF g hg)
    have HAA:=Hd haa
    have HB2:=Hd hb2
    have HSZ2:=Hd (show w.heap.size+1≤w2.heap.size by have:=haa.1.size;omega)
    clear haa hb2 ha2
    go_wp2_with (at_builtin;refine wpList_append_lies _ rfl (.tmp 81) (.tmp 86) 100 rfl (w.heap.size+1) 98 i1 (.int .u32 0) 1 4 Tryz.underlying100 hj hy0 hy1 hy2 rfl (by decide) _ i (u32s os1) rfl (hown2.alloc _) ⟨w2.heap.size,0,none⟩ 1 1 [.int .u32 o] rfl rfl (newsL _ _ _ _ rfl) (by intro u hu;rw [List.mem_singleton.1 hu];rfl) (by omega) (by unfold maxLen;omega) (by omega) (by have:=HSZ2.out;simp;omega) (w2.heap.size+1) (by simp) ?_;intro g7 cap7 w7 hown7 hgrow7 hat7 hlt7)
    have hnx:=HR.out.next HAA.out HB2.out HRUN2.out HOUT2.out hgrow7 hown7 hat7
    have HNX:=Hd hnx
    clear hnx hown7 hgrow7 hat7 hown2
    go_roundw
    case rel=>exact ⟨i+1,by omega,by go_num,_,_,_,HNX.out⟩
    case measure=>simp [intOf];omega
   ·have hie:i=nk:=by omega
    subst hie
    have hrun:=hR.run
    rw [HNK.out,List.take_length,HIT.out] at hrun
    injection hrun with hrun
    injection hrun with ho1 ho2
    subst ho1 ho2
    obtain ⟨oa,ocap,rfl,hoc1,hoc2⟩:=row_form hR.row
    obtain ⟨s1,hs1⟩:∃ s1,s1=({ sx with m:=(sx.m.prep 4 (4*os0.length)).prep 4 (4*os0.length),nested:=true }:BSt):=⟨_,rfl⟩
    have hsv:=startVec_eq sx 4 os0.length HOUT0.out.nested
    rw [← hs1] at hsv
    have hev:bVec os0 sx=(bOffs os0 s1).bind fun s=>s.endVec os0.length:=by unfold bVec;rw [hsv,Option.bind_some]
    rw [HVEC.out] at hev
    obtain ⟨_,_,hmod,kz,hkz,hbz⟩:=startVec_m sx.m 4 os0.length (by unfold algn;omega)
    have h4:s1.m.bytes.length % 4=0:=by
     rw [hs1];show ((sx.m.prep 4 (4*os0.length)).prep 4 (4*os0.length)).bytes.length % 4=0
     omega
    have hsub:sx.m.bytes.length≤s1.m.bytes.length∧s1.m.bytes.length≤sx.m.bytes.length+22:=by
     rw [hs1];show sx.m.bytes.length≤((sx.m.prep 4 (4*os0.length)).prep 4 (4*os0.length)).bytes.length∧((sx.m.prep 4 (4*os0.length)).prep 4 (4*os0.length)).bytes.length≤_
     rw [hbz,List.length_append,List.length_replicate];omega
    have hoo:=fun q=>offs_some (os:=os0) (st1:=s1) h4 (fun o ho=>by have:=HOS0.out o ho;omega) (by have:=HLX.out;have:=HOL.out;have:=hsub.2;have:=HNB.out;omega) q
    have hstv:=StartVector_calls b F1 sx 4 os0.length 4 wr hR.rep (by unfold algn;omega) (by omega) (by have:=HOL.out;omega) (by have:=HLX.out;have:=HNB.out;omega)
    rw [hsv,HOL.out] at hstv
    have HSV:=Hd hstv
    have HEV:=Hd hev
    have HOO:=Hd hoo
    have HSUB:=Hd hsub
    unfold maxLen at hoc2
    clear hstv hev hoo hsub h4 hsv hs1 hR hmod hbz hkz bx0
    go_wp2_with fail
    refine HSV.out.mono ?_
    rintro e2 w2 ⟨rfl,F2,hb2,ha2⟩
    have hown2:w2.ownsRow (w.heap.size+1) 98 1 (.slice oa i ocap) i (u32s os0):=ownFr HR.out.row ha2.1 (fun g hg=>HR.out.rowF g hg)
    have hoF:∀ g,(Value.slice oa i ocap).ownBlock=some g→g ∉ F2:=by
     intro g hg hm
     rcases ha2.2 g hm with h1 | h1
     ·exact HR.out.rowF g hg h1
     ·have:=(ownBlock_lt HR.out.row g hg).2;omega
    have hst2:BIR2 b F2 w2 s1 os0 ((i:Int)-1) w2:=by
     refine ⟨F2,s1,hb2,?_,Adv.refl _ _⟩
     rw [show ((i:Int)-1+1).toNat=os0.length by rw [HOL.out];omega,List.drop_length];rfl
    have HOWN:=Hd hown2
    have HOF:=Hd hoF
    have HST:=Hd hst2
    have HAW:=Hd (HR.out.adv.trans ha2)
    clear hown2 hoF hst2 hb2 ha2
    go_wp2_with fail
    go_loopw [12] (fun iv w3=>∃ q:Int,-1≤q∧q<i∧iv=.int .i64 q∧BIR2 b F2 w2 s1 os0 q w3) (fun iv _=>(intOf iv+1).toNat)
    case atStart=>exact ⟨(i:Int)-1,by omega,by omega,rfl,HST.out⟩
    case round =>
     obtain ⟨q,hq1,hq2,rfl,F5,sq,hb5,hbo5,ha5⟩:=hrel
     clear HST
     by_cases hlq:q<0
     ·have hqe:q=-1:=by omega
      subst hqe
      rw [show ((-1:Int)+1).toNat=0 by omega,List.drop_zero] at hbo5
      have hev2:=EndVector_calls b F5 sq os0.length wr hb5 (by have:=HOL.out;omega)
      have hev3:=HEV.out
      rw [hbo5,Option.bind_some] at hev3
      rw [← hev3,HOL.out] at hev2
      have HE:=Hd hev2
      have HA5:=Hd (HAW.out.trans ha5)
      clear hev2 hev3 hb5 ha5 hbo5
      go_wp2_with fail
      refine HE.out.mono ?_
      rintro e6 w6 ⟨rfl,F6,hb6,ha6⟩
      have HB6:=Hd (And.intro hb6 (HA5.out.trans ha6))
      clear hb6 ha6
      go_wp2_with fail
      go_ret
      exact ⟨rfl,F6,HB6.out.1,HB6.out.2⟩
     ·obtain ⟨p,rfl⟩:∃ p:Nat,q=p:=⟨q.toNat,by omega⟩
      have hp:p<os0.length:=by rw [HOL.out];omega
      obtain ⟨g,cap,hge,_,hgl,_,_,hcell⟩:=row_cell HOWN.out hp
      have hgn:=HOF.out g (by rw [hge];rfl)
      obtain ⟨_,hgh⟩:=ha5.out hgl hgn
      injection hge with hge _ hge2
      subst hge hge2
      have c5:wr.cell? ⟨g,p,none⟩=some (.int .u32 os0[p]):=by rw [World.cell?_of_block (w:=w2) hgh];exact hcell
      obtain ⟨x,hx⟩:∃ x,x=os0[p]:=⟨_,rfl⟩
      rw [← hx] at c5
      have hxo:=HOS0.out os0[p] (List.getElem_mem hp)
      rw [← hx] at hxo
      rw [show ((p:Int)+1).toNat=p+1 by omega] at hbo5
      obtain ⟨s2,hb6,hl6,_⟩:=HOO.out p
      obtain ⟨s5,hb7,hl7,_⟩:=HOO.out (p+1)
      rw [hb7] at hbo5
      injection hbo5 with hbo5
      subst hbo5
      have hdr:os0.drop p=x :: os0.drop (p+1):=by rw [hx];exact List.drop_eq_getElem_cons hp
      have hrf:s5.refer x=some s2:=by
       have h0:=hb6
       rw [hdr] at h0
       have h0:(bOffs (os0.drop (p+1)) s1).bind (fun s=>s.refer x)=some s2:=h0
       rw [hb7] at h0
       exact h0
      have hpc:=PrependUOffsetT_b b F5 s5 x wr hb5 hl7 (by have:=HLX.out;have:=HNB.out;omega)
      rw [hrf] at hpc
      have HPC:=Hd hpc
      have HA5:=Hd ha5
      have HB6:=Hd hb6
      clear hpc hb5 ha5 hb6 hb7 hl6 hl7 hdr hrf hx hxo hcell hgh hgn hgl
      go_wp2_with fail
      refine HPC.out.mono ?_
      rintro e6 w6 ⟨rfl,F6,hb6,ha6⟩
      have hnx:BIR2 b F2 w2 s1 os0 ((p:Int)-1) w6:=by
       refine ⟨F6,s2,hb6,?_,HA5.out.trans ha6⟩
       rw [show ((p:Int)-1+1).toNat=p by omega];exact HB6.out
      have HNX:=Hd hnx
      clear hnx hb6 ha6
      go_wp2_with fail
      go_roundw
      case rel=>exact ⟨(p:Int)-1,by omega,by omega,rfl,HNX.out⟩
      case measure=>simp [intOf]
set_option maxRecDepth 100000 in
set_option maxHeartbeats 8000000 in
theorem be16 (sh:Bool) (e n:Nat) (t:List UInt8) (ns:List Nat) (ks:List Val) (ss:List (Slt Val)) (ih:∀ v∈ks,TabC sh v):ElseC sh (.mk 16 e n t ns ks ss):=by
 intro hb st i0 b F w cs hok hbd hrep hv
 obtain ⟨lt,ln,lk,ls⟩:=hb.lens
 have lt:t.length≤1000:=lt
 have ln:ns.length≤200:=ln
 have lk:ks.length≤200:=lk
 have hu:=hok.inv.len
 have hnd:1≤nodes (.mk 16 e n t ns ks ss):=nodes_pos _
 have hfl:=hrep.below
 have hgk:∀ c∈ks,Bld c:=hb.kid
 have hkk:∀ c∈ks,c.kind=15:=hb.k16 rfl
 have hk15:16≠14→∀ c∈ks,c.kind=15:=fun _=>hkk
 have hnb:i0+2*nodesL ks≤300:=by rw [nodes] at hbd;omega
 obtain ⟨os0,sx,hit,hout0,hol0,hos0⟩:=items_laid sh 16 ks st i0 hgk hk15 hok hnb
 have hlx:=hout0.inv.len
 obtain ⟨ro,sr,hvec,-⟩:=vec_laid sx os0 hout0.nested hos0 (by omega)
 have e1:bElse sh (.mk 16 e n t ns ks ss) st=some (ro,sr):=by
  have h0:bElse sh (.mk 16 e n t ns ks ss) st=(bItems sh 16 ks st).bind fun p=>bVec p.1 p.2:=by rw [bElse];rfl
  rw [h0,hit];exact hvec
 rw [e1]
 cases hv with
 | mk _ _ _ _ _ _ _ nv ka kc kg ko sa sc sg so hk' he' hn ht hnv hka hkc hks hsa hsc hsd hss =>
  obtain ⟨na,nc,rfl,_⟩:=hnv.ok
  obtain ⟨T,hT⟩:∃ T,T=strOf t:=⟨_,rfl⟩
  obtain ⟨nl,hnl⟩:∃ nl,nl=ns.length:=⟨_,rfl⟩
  obtain ⟨nk,hnk⟩:∃ nk,nk=ks.length:=⟨_,rfl⟩
  obtain ⟨nss,hnss⟩:∃ nss,nss=ss.length:=⟨_,rfl⟩
  have hkm:kc≤maxLen:=hkc.2
  unfold maxLen at hkm
  have hkc1:=hkc.1
  rw [← hnk] at hkc1
  rw [← hT,← hnl,← hnk,← hnss]
  show Calls Tryz.prog 108 #[.pointer (some ⟨b,0,none⟩),.agg #[.int .u8 16,.int .u8 e,.int .u64 n,.string T,.slice na nl nc,.slice ka nk kc,.slice sa nss sc],.bool sh] w _
  have HNK:=Hd hnk
  have HKA:=Hd hka
  have HKS:=Hd hks
  have HFL:=Hd hfl
  have HREP:=Hd hrep
  have HOK:=Hd hok
  have HNB:=Hd hnb
  have IH:=Hd ih
  have HGK:=Hd hgk
  have HKK:=Hd hkk
  have HK15:=Hd hk15
  have HIT:=Hd hit
  have HVEC:=Hd hvec
  have HLX:=Hd hlx
  have HOS0:=Hd hos0
  have HOUT0:=Hd hout0
  have HOL:=Hd (hol0.trans hnk.symm)
  have hnk2:nk≤200:=by omega
  obtain ⟨i1,hj,hy0,hy1,hy2⟩:=info_parts infoU32o
  clear hka hks hfl hrep hok hnb ih hgk hkk hk15 hit hvec hlx hos0 hout0 hol0 hT hnl hnk hnss hkc hsa hsc hsd hss hnv e1 hu hnd hbd hb lk ht hn he' hk'
  go_enter Tryz.func108,Tryz.ntmps108
  go_wp2_with fail
  have hstart:BIR1 sh 16 b F st i0 w [.int .u8 16,.int .u8 e,.int .u64 n,.string T,.slice na nl nc,.slice ka nk kc,.slice sa nss sc] ks 0 (.slice none 0 0) (w.alloc (.cells #[.int .u8 16,.int .u8 e,.int .u64 n,.string T,.slice na nl nc,.slice ka nk kc,.slice sa nss sc] 46)):=by
   have hO:=HOK.out
   refine ⟨F,st,[],⟨Adv.alloc _,HREP.out.keep ((Fr.refl (fun _=>False) w).alloc _) (fun _ _ x=>x),rfl,⟨hO.nested,hO.pi,Put.refl _,hO.inv.le (by omega)⟩,by simp,heap_alloc_new _ _,⟨rfl,.inl ⟨rfl,rfl⟩⟩,(fun g hg=>by cases hg),rfl,fun hm=>by have:=HFL.out _ hm;omega⟩⟩
  have HST:=Hd hstart
  clear hstart
  go_loopw [9,73] (fun ov iv wr=>∃ i:Nat,i≤nk∧iv=.int .i64 i∧BIR1 sh 16 b F st i0 w [.int .u8 16,.int .u8 e,.int .u64 n,.string T,.slice na nl nc,.slice ka nk kc,.slice sa nss sc] ks i ov wr) (fun _ iv _=>nk-(intOf iv).toNat)
  case atStart=>exact ⟨0,Nat.zero_le _,rfl,HST.out⟩
  case round =>
   obtain ⟨i,hi,rfl,F1,st1,os1,hR⟩:=hrel
   have hsz:=hR.size
   have hbox:=hR.box
   have bx0:wr.cell? ⟨w.heap.size,0,none⟩=some (.int .u8 16):=by rw [cell_of hbox];rfl
   have HR:=Hd hR
   clear HST hbox
   by_cases hlt:i<nk
   ·have hik:i<ks.length:=by have:=HNK.out;omega
    obtain ⟨rfl,hkg,hBg⟩:=HKA.out (by intro h0;rw [h0] at hik;simp at hik)
    obtain ⟨kid,hkid⟩:∃ kid,kid=ks[i]:=⟨_,rfl⟩
    obtain ⟨hgF,hgh⟩:=hR.adv.out hkg hBg
    have hkv:VIs (fun x=>x ∉ F1) wr (cellsAt wr kg (ko+i*7) 7) kid:=by
     rw [cellsAt_mono hgh,hkid]
     exact (HKS.out i hik).adv hR.adv
    obtain ⟨na1,nl1,nc1,ka1,nk1,kc1,sa1,ns1,sc1,hlit,c0,c1,c2,c3,c4,c5,c6⟩:=hkv.at
    have hmem:kid∈ks:=by rw [hkid];exact List.getElem_mem hik
    have hk11:kid.kind=15:=HKK.out kid hmem
    rw [hk11] at hlit c0
    obtain ⟨o,st2,hbi,hrun2,hout2⟩:=hR.more HOK.out HNB.out HGK.out HK15.out hik
    rw [← hkid] at hbi
    have hnb2:i0+2*nodesL (ks.take i)+2*nodes kid≤300:=by
     have h2:=nodesL_take ks (i+1)
     rw [List.take_succ_eq_append_getElem hik,nodesL_snoc,← hkid] at h2
     have:=HNB.out
     omega
    have hbk:some (.cells #[.int .u8 15,.int .u8 kid.elem,.int .u64 kid.num,.string (strOf kid.text),.slice na1 nl1 nc1,.slice ka1 nk1 kc1,.slice sa1 ns1 sc1] 46)=(wr.alloc (.cells #[.int .u8 15,.int .u8 kid.elem,.int .u64 kid.num,.string (strOf kid.text),.slice na1 nl1 nc1,.slice ka1 nk1 kc1,.slice sa1 ns1 sc1] 46)).heap[wr.heap.size]?:=by
     rw [heap_alloc_new wr (.cells #[.int .u8 15,.int .u8 kid.elem,.int .u64 kid.num,.string (strOf kid.text),.slice na1 nl1 nc1,.slice ka1 nk1 kc1,.slice sa1 ns1 sc1] 46)]
    have hfa:Adv wr (wr.alloc (.cells #[.int .u8 15,.int .u8 kid.elem,.int .u64 kid.num,.string (strOf kid.text),.slice na1 nl1 nc1,.slice ka1 nk1 kc1,.slice sa1 ns1 sc1] 46)) F1 F1:=Adv.alloc _
    have hra:BRep (wr.alloc (.cells #[.int .u8 15,.int .u8 kid.elem,.int .u64 kid.num,.string (strOf kid.text),.slice na1 nl1 nc1,.slice ka1 nk1 kc1,.slice sa1 ns1 sc1] 46)) b F1 st1:=hR.rep.keep ((Fr.refl (fun _=>False) wr).alloc _) (fun _ _ x=>x)
    have hva:VIs (fun x=>x ∉ F1) (wr.alloc (.cells #[.int .u8 15,.int .u8 kid.elem,.int .u64 kid.num,.string (strOf kid.text),.slice na1 nl1 nc1,.slice ka1 nk1 kc1,.slice sa1 ns1 sc1] 46)) [.int .u8 15,.int .u8 kid.elem,.int .u64 kid.num,.string (strOf kid.text),.slice na1 nl1 nc1,.slice ka1 nk1 kc1,.slice sa1 ns1 sc1] kid:=hlit.adv hfa
    have hcl:=IH.out kid hmem (HGK.out kid hmem) st1 (i0+2*nodesL (ks.take i)) b F1 (wr.alloc (.cells #[.int .u8 15,.int .u8 kid.elem,.int .u64 kid.num,.string (strOf kid.text),.slice na1 nl1 nc1,.slice ka1 nk1 kc1,.slice sa1 ns1 sc1] 46)) _ hR.out.ok hnb2 hra hva
    rw [show bTab sh kid st1=some (o,st2) from hbi] at hcl
    have HCL:=Hd hcl
    have HFA:=Hd hfa
    have HRUN2:=Hd hrun2
    have HOUT2:=Hd hout2
    have bx1:=keep_alloc (.cells #[.int .u8 15,.int .u8 kid.elem,.int .u64 kid.num,.string (strOf kid.text),.slice na1 nl1 nc1,.slice ka1 nk1 kc1,.slice sa1 ns1 sc1] 46) bx0
    clear hcl hfa hrun2 hout2 hbi hlit hkv hgF hgh hmem hk11 hbk hra hva hkid hnb2 hR
    go_wp2_with fail
    refine HCL.out.mono ?_
    rintro e2 w2 ⟨rfl,F2,hb2,ha2⟩
    have haa:=HFA.out.trans ha2
    have hown2:=ownFr HR.out.row haa.1 (fun g hg=>HR.out.rowF g hg)
    have HAA:=Hd haa
    have HB2:=Hd hb2
    have HSZ2:=Hd (show w.heap.size+1≤w2.heap.size by have:=haa.1.size;omega)
    clear haa hb2 ha2
    go_wp2_with (at_builtin;refine wpList_append_lies _ rfl (.tmp 88) (.tmp 93) 100 rfl (w.heap.size+1) 98 i1 (.int .u32 0) 1 4 Tryz.underlying100 hj hy0 hy1 hy2 rfl (by decide) _ i (u32s os1) rfl (hown2.alloc _) ⟨w2.heap.size,0,none⟩ 1 1 [.int .u32 o] rfl rfl (newsL _ _ _ _ rfl) (by intro u hu;rw [List.mem_singleton.1 hu];rfl) (by omega) (by unfold maxLen;omega) (by omega) (by have:=HSZ2.out;simp;omega) (w2.heap.size+1) (by simp) ?_;intro g7 cap7 w7 hown7 hgrow7 hat7 hlt7)
    have hnx:=HR.out.next HAA.out HB2.out HRUN2.out HOUT2.out hgrow7 hown7 hat7
    have HNX:=Hd hnx
    clear hnx hown7 hgrow7 hat7 hown2
    go_roundw
    case rel=>exact ⟨i+1,by omega,by go_num,_,_,_,HNX.out⟩
    case measure=>simp [intOf];omega
   ·have hie:i=nk:=by omega
    subst hie
    have hrun:=hR.run
    rw [HNK.out,List.take_length,HIT.out] at hrun
    injection hrun with hrun
    injection hrun with ho1 ho2
    subst ho1 ho2
    obtain ⟨oa,ocap,rfl,hoc1,hoc2⟩:=row_form hR.row
    obtain ⟨s1,hs1⟩:∃ s1,s1=({ sx with m:=(sx.m.prep 4 (4*os0.length)).prep 4 (4*os0.length),nested:=true }:BSt):=⟨_,rfl⟩
    have hsv:=startVec_eq sx 4 os0.length HOUT0.out.nested
    rw [← hs1] at hsv
    have hev:bVec os0 sx=(bOffs os0 s1).bind fun s=>s.endVec os0.length:=by unfold bVec;rw [hsv,Option.bind_some]
    rw [HVEC.out] at hev
    obtain ⟨_,_,hmod,kz,hkz,hbz⟩:=startVec_m sx.m 4 os0.length (by unfold algn;omega)
    have h4:s1.m.bytes.length % 4=0:=by
     rw [hs1];show ((sx.m.prep 4 (4*os0.length)).prep 4 (4*os0.length)).bytes.length % 4=0
     omega
    have hsub:sx.m.bytes.length≤s1.m.bytes.length∧s1.m.bytes.length≤sx.m.bytes.length+22:=by
     rw [hs1];show sx.m.bytes.length≤((sx.m.prep 4 (4*os0.length)).prep 4 (4*os0.length)).bytes.length∧((sx.m.prep 4 (4*os0.length)).prep 4 (4*os0.length)).bytes.length≤_
     rw [hbz,List.length_append,List.length_replicate];omega
    have hoo:=fun q=>offs_some (os:=os0) (st1:=s1) h4 (fun o ho=>by have:=HOS0.out o ho;omega) (by have:=HLX.out;have:=HOL.out;have:=hsub.2;have:=HNB.out;omega) q
    have hstv:=StartVector_calls b F1 sx 4 os0.length 4 wr hR.rep (by unfold algn;omega) (by omega) (by have:=HOL.out;omega) (by have:=HLX.out;have:=HNB.out;omega)
    rw [hsv,HOL.out] at hstv
    have HSV:=Hd hstv
    have HEV:=Hd hev
    have HOO:=Hd hoo
    have HSUB:=Hd hsub
    unfold maxLen at hoc2
    clear hstv hev hoo hsub h4 hsv hs1 hR hmod hbz hkz bx0
    go_wp2_with fail
    refine HSV.out.mono ?_
    rintro e2 w2 ⟨rfl,F2,hb2,ha2⟩
    have hown2:w2.ownsRow (w.heap.size+1) 98 1 (.slice oa i ocap) i (u32s os0):=ownFr HR.out.row ha2.1 (fun g hg=>HR.out.rowF g hg)
    have hoF:∀ g,(Value.slice oa i ocap).ownBlock=some g→g ∉ F2:=by
     intro g hg hm
     rcases ha2.2 g hm with h1 | h1
     ·exact HR.out.rowF g hg h1
     ·have:=(ownBlock_lt HR.out.row g hg).2;omega
    have hst2:BIR2 b F2 w2 s1 os0 ((i:Int)-1) w2:=by
     refine ⟨F2,s1,hb2,?_,Adv.refl _ _⟩
     rw [show ((i:Int)-1+1).toNat=os0.length by rw [HOL.out];omega,List.drop_length];rfl
    have HOWN:=Hd hown2
    have HOF:=Hd hoF
    have HST:=Hd hst2
    have HAW:=Hd (HR.out.adv.trans ha2)
    clear hown2 hoF hst2 hb2 ha2
    go_wp2_with fail
    go_loopw [12] (fun iv w3=>∃ q:Int,-1≤q∧q<i∧iv=.int .i64 q∧BIR2 b F2 w2 s1 os0 q w3) (fun iv _=>(intOf iv+1).toNat)
    case atStart=>exact ⟨(i:Int)-1,by omega,by omega,rfl,HST.out⟩
    case round =>
     obtain ⟨q,hq1,hq2,rfl,F5,sq,hb5,hbo5,ha5⟩:=hrel
     clear HST
     by_cases hlq:q<0
     ·have hqe:q=-1:=by omega
      subst hqe
      rw [show ((-1:Int)+1).toNat=0 by omega,List.drop_zero] at hbo5
      have hev2:=EndVector_calls b F5 sq os0.length wr hb5 (by have:=HOL.out;omega)
      have hev3:=HEV.out
      rw [hbo5,Option.bind_some] at hev3
      rw [← hev3,HOL.out] at hev2
      have HE:=Hd hev2
      have HA5:=Hd (HAW.out.trans ha5)
      clear hev2 hev3 hb5 ha5 hbo5
      go_wp2_with fail
      refine HE.out.mono ?_
      rintro e6 w6 ⟨rfl,F6,hb6,ha6⟩
      have HB6:=Hd (And.intro hb6 (HA5.out.trans ha6))
      clear hb6 ha6
      go_wp2_with fail
      go_ret
      exact ⟨rfl,F6,HB6.out.1,HB6.out.2⟩
     ·obtain ⟨p,rfl⟩:∃ p:Nat,q=p:=⟨q.toNat,by omega⟩
      have hp:p<os0.length:=by rw [HOL.out];omega
      obtain ⟨g,cap,hge,_,hgl,_,_,hcell⟩:=row_cell HOWN.out hp
      have hgn:=HOF.out g (by rw [hge];rfl)
      obtain ⟨_,hgh⟩:=ha5.out hgl hgn
      injection hge with hge _ hge2
      subst hge hge2
      have c5:wr.cell? ⟨g,p,none⟩=some (.int .u32 os0[p]):=by rw [World.cell?_of_block (w:=w2) hgh];exact hcell
      obtain ⟨x,hx⟩:∃ x,x=os0[p]:=⟨_,rfl⟩
      rw [← hx] at c5
      have hxo:=HOS0.out os0[p] (List.getElem_mem hp)
      rw [← hx] at hxo
      rw [show ((p:Int)+1).toNat=p+1 by omega] at hbo5
      obtain ⟨s2,hb6,hl6,_⟩:=HOO.out p
      obtain ⟨s5,hb7,hl7,_⟩:=HOO.out (p+1)
      rw [hb7] at hbo5
      injection hbo5 with hbo5
      subst hbo5
      have hdr:os0.drop p=x :: os0.drop (p+1):=by rw [hx];exact List.drop_eq_getElem_cons hp
      have hrf:s5.refer x=some s2:=by
       have h0:=hb6
       rw [hdr] at h0
       have h0:(bOffs (os0.drop (p+1)) s1).bind (fun s=>s.refer x)=some s2:=h0
       rw [hb7] at h0
       exact h0
      have hpc:=PrependUOffsetT_b b F5 s5 x wr hb5 hl7 (by have:=HLX.out;have:=HNB.out;omega)
      rw [hrf] at hpc
      have HPC:=Hd hpc
      have HA5:=Hd ha5
      have HB6:=Hd hb6
      clear hpc hb5 ha5 hb6 hb7 hl6 hl7 hdr hrf hx hxo hcell hgh hgn hgl
      go_wp2_with fail
      refine HPC.out.mono ?_
      rintro e6 w6 ⟨rfl,F6,hb6,ha6⟩
      have hnx:BIR2 b F2 w2 s1 os0 ((p:Int)-1) w6:=by
       refine ⟨F6,s2,hb6,?_,HA5.out.trans ha6⟩
       rw [show ((p:Int)-1+1).toNat=p by omega];exact HB6.out
      have HNX:=Hd hnx
      clear hnx hb6 ha6
      go_wp2_with fail
      go_roundw
      case rel=>exact ⟨(p:Int)-1,by omega,by omega,rfl,HNX.out⟩
      case measure=>simp [intOf]
/-- impl.buildElse and impl.buildTable. -/
theorem build_val (sh:Bool):∀ v,ElseC sh v∧TabC sh v:=by
 intro v
 induction v using Val.ind with
 | h k e n t ns ks ss ihk ihs =>
  have ht:TabC sh (.mk k e n t ns ks ss):=buildTable_of sh k e n t ns ks ss (fun s hs _=>(ihs s hs).1)
  refine ⟨?_,ht⟩
  by_cases h1:k=11
  ·subst h1;exact be11 sh e n t ns ks ss
  by_cases h2:k=12
  ·subst h2;exact be12 sh e n t ns ks ss
  by_cases h3:k=13
  ·subst h3;exact be13 sh e n t ns ks ss
  by_cases h4:k=14
  ·subst h4;exact be14 sh e n t ns ks ss (fun v hv=>(ihk v hv).1)
  by_cases h5:k=15
  ·subst h5;exact be15 sh e n t ns ks ss ht
  by_cases h6:k=16
  ·subst h6;exact be16 sh e n t ns ks ss (fun v hv=>(ihk v hv).2)
  exact be0 sh e n t ns ks ss k h1 h2 h3 h4 h5 h6
end Go.Proofs.YtcfblkkpclfmaaaGreat
namespace Go.Proofs.YtcfblkkpclfmaaaGreat
open Go.RowKit Go.Maps
theorem endObj_least {st st':BSt} {o:Nat} (h:st.endObj=some (o,st')):st'.m.least=max st.m.least 4:=by
 have hn:st.nested=true:=by
  cases hn:st.nested with
  | true=>rfl
  | false=>unfold BSt.endObj at h;rw [hn] at h;simp at h
 cases hf:vtFind st.vt1 st.vt1.bytes.length (trimZ (st.vtab.getD [])) st.vts with
 | none =>
  obtain ⟨s,p,_,e,_,_,hl,_⟩:=endObj_fresh st hn hf
  rw [h] at e
  injection e with e
  injection e with _ e
  rw [e];exact hl
 | some v =>
  obtain ⟨s,p,_,e,_,_,hl,_⟩:=endObj_found st v hn hf
  rw [h] at e
  injection e with e
  injection e with _ e
  rw [e];exact hl
theorem bTab_least {sh:Bool} {v:Val} {st st':BSt} {o:Nat} (h:bTab sh v st=some (o,st')):4≤st'.m.least:=by
 rw [bTab_def] at h
 cases h1:bSlots sh v.slots st with
 | none=>rw [h1] at h;cases h
 | some p =>
  rw [h1,Option.bind_some] at h
  cases h2:p.2.startObj v.slots.length with
  | none=>rw [h2] at h;cases h
  | some st1 =>
   rw [h2,Option.bind_some] at h
   cases h3:bFields 0 v.slots p.1 st1 with
   | none=>rw [h3] at h;cases h
   | some st2 =>
    rw [h3,Option.bind_some] at h
    rw [endObj_least h];omega
theorem algn_dvd4 {s:Nat} (h:algn s) (h4:4≤s):∀ n,n % s=0→n % 4=0:=by
 unfold algn at h
 intro n hn
 rcases h with rfl | rfl | rfl | rfl | rfl <;> omega
/-- Finished. -/
structure Fini (B B':List UInt8) (off L:Nat):Prop where
 bytes:∃ xs,B'=xs ++ B∧xs.length≤60
 ref:RefOk true B' B'.length
 dst:refE B' B'.length=off
 mod:B'.length % L=0
theorem finish_laid (st:BSt) (off:Nat) (hn:st.nested=false) (h0:0<off) (ho:off≤st.m.bytes.length) (hl:algn st.m.least) (h4:4≤st.m.least) (hb:st.m.bytes.length<1700000) :
  ∃ st',st.finish off=some st'∧st'.fin=true∧Fini st.m.bytes st'.m.bytes off st'.m.least∧st'.m.least=st.m.least∧∃ k,k<16∧st'.m.bytes=leB 4 (st'.m.bytes.length-off) ++ (List.replicate k 0 ++ st.m.bytes):=by
 obtain ⟨m1,hm1⟩:∃ m1,m1=st.m.prep st.m.least 4:=⟨_,rfl⟩
 have hp:(m1.bytes.length+4) % st.m.least=0:=by rw [hm1];exact prep_mod st.m st.m.least 4 hl
 have hk:=st.m.pad_lt st.m.least 4 hl
 have hlt:=algn_le hl
 have hb1:m1.bytes=List.replicate (st.m.pad st.m.least 4) 0 ++ st.m.bytes:=by rw [hm1];rfl
 have hlen:m1.bytes.length=st.m.pad st.m.least 4+st.m.bytes.length:=by rw [hb1];simp
 have h44:m1.bytes.length % 4=0:=by have:=algn_dvd4 hl h4 _ hp;omega
 have hleast:m1.least=st.m.least:=by rw [hm1];show max st.m.least st.m.least=_;omega
 have e4:=prep_id m1 4 0 (by unfold algn;omega) (by simpa using h44)
 have hb':((m1.prep 4 0).put (leB 4 ((m1.prep 4 0).bytes.length-off+4))).bytes=leB 4 (m1.bytes.length-off+4) ++ m1.bytes:=by
  show leB 4 _ ++ (m1.prep 4 0).bytes=_
  rw [e4]
 have hl':((m1.prep 4 0).put (leB 4 ((m1.prep 4 0).bytes.length-off+4))).bytes.length=4+m1.bytes.length:=by rw [hb',List.length_append,leB_length]
 obtain ⟨r1,r2⟩:=ref_front hb' (by omega) h0 h44 (by omega)
 refine ⟨{ st with m:=(m1.prep 4 0).put (leB 4 ((m1.prep 4 0).bytes.length-off+4)),fin:=true },?_,rfl,⟨?_,r1,r2,?_⟩,?_,st.m.pad st.m.least 4,by omega,?_⟩
 ·unfold BSt.finish
  rw [if_neg (by rw [hn];simp),← hm1]
  unfold BSt.refer BM.refer
  rw [if_pos (by show off≤(m1.prep 4 0).bytes.length;rw [e4];omega)]
  rfl
 ·refine ⟨leB 4 (m1.bytes.length-off+4) ++ List.replicate (st.m.pad st.m.least 4) 0,?_,?_⟩
  ·show ((m1.prep 4 0).put (leB 4 ((m1.prep 4 0).bytes.length-off+4))).bytes=_
   rw [hb',hb1,List.append_assoc]
  ·simp [leB_length];omega
 ·show ((m1.prep 4 0).put (leB 4 ((m1.prep 4 0).bytes.length-off+4))).bytes.length % max m1.least 4=0
  rw [hl',hleast,Nat.max_eq_left h4,Nat.add_comm];exact hp
 ·show max m1.least 4=_
  rw [hleast,Nat.max_eq_left h4]
 ·show ((m1.prep 4 0).put (leB 4 ((m1.prep 4 0).bytes.length-off+4))).bytes=leB 4 (((m1.prep 4 0).put (leB 4 ((m1.prep 4 0).bytes.length-off+4))).bytes.length-off) ++ _
  rw [hl',hb',hb1,show 4+(List.replicate (st.m.pad st.m.least 4) (0:UInt8) ++ st.m.bytes).length-off=(List.replicate (st.m.pad st.m.least 4) (0:UInt8) ++ st.m.bytes).length-off+4 by rw [← hb1];omega]
/-- A buffer that is built. -/
structure BuiltOk (sh:Bool) (id:List UInt8) (v:Val) (st':BSt):Prop where
 fin:st'.fin=true
 ref:RefOk true st'.m.bytes st'.m.bytes.length
 tab:LTab true st'.m.bytes v (refE st'.m.bytes st'.m.bytes.length)
 mod:st'.m.bytes.length % st'.m.least=0
 algn:algn st'.m.least
 four:4≤st'.m.least
 len:st'.m.bytes.length<1700000
 id:id≠[]→BytesAt st'.m.bytes (st'.m.bytes.length-4) id
/-- What is known of a root that is built. -/
theorem root_laid (sh:Bool) (v:Val) (hg:Bld v) (hk:v.kind=15) (hn:nodes v≤150) (size:Nat):∃ o st1,bTab sh v (st0 size)=some (o,st1)∧Out (st0 size) st1 (2*nodes v)∧0<o∧o≤st1.m.bytes.length∧LTab true st1.m.bytes v o∧algn st1.m.least∧4≤st1.m.least:=by
 have hinv:StInv (st0 size) 0:=StInv.start size
 obtain ⟨o,st1,e1,ho,h0,hle,hl⟩:=else_laid sh v hg (by omega) (by omega) (st0 size) 0 rfl (PI.start size) hinv (by omega)
 rw [bElse_tab sh v _ hk] at e1
 refine ⟨o,st1,e1,by simpa using ho,h0,hle,?_,ho.inv.least,bTab_least e1⟩
 cases v with
 | mk k e n t ns ks ss =>
  have hk':k=15:=hk
  subst hk'
  simpa [LObj,LTab] using hl
theorem built_laid (sh:Bool) (id:List UInt8) (v:Val) (hg:Bld v) (hk:v.kind=15) (hn:nodes v≤150) (hid:id=[]∨id.length=4) (size:Nat):∃ st',bBuilt sh id v (st0 size)=some st'∧BuiltOk sh id v st':=by
 obtain ⟨o,st1,e1,ho,h0,hle,hl,hal,h4⟩:=root_laid sh v hg hk hn size
 have hlen:=ho.inv.len
 rw [bBuilt,e1,Option.bind_some]
 by_cases hi:id=[]
 ·rw [if_pos hi]
  obtain ⟨st',e2,hf,⟨⟨xs,hx,hxl⟩,f2,f3,f4⟩,hls,_⟩:=finish_laid st1 o ho.nested h0 hle hal h4 (by omega)
  refine ⟨st',e2,hf,f2,?_,f4,by rw [hls];exact hal,by rw [hls];exact h4,?_,fun h=>absurd hi h⟩
  ·rw [f3,hx];exact LTab_app true _ xs v o hl
  ·rw [hx,List.length_append];omega
 ·rw [if_neg hi]
  have hi4:id.length=4:=by rcases hid with h | h;exact absurd h hi;exact h
  obtain ⟨m1,hm1⟩:∃ m1,m1=(st1.m.prep st1.m.least 8).put id:=⟨_,rfl⟩
  have hp:((st1.m.prep st1.m.least 8).bytes.length+8) % st1.m.least=0:=prep_mod st1.m st1.m.least 8 hal
  have hk:=st1.m.pad_lt st1.m.least 8 hal
  have hlt:=algn_le hal
  have hb1:m1.bytes=id ++ (List.replicate (st1.m.pad st1.m.least 8) 0 ++ st1.m.bytes):=by rw [hm1];rfl
  have hpl:(st1.m.prep st1.m.least 8).bytes.length=st1.m.pad st1.m.least 8+st1.m.bytes.length:=by show (List.replicate _ _ ++ st1.m.bytes).length=_;simp
  have hml:m1.bytes.length=4+(st1.m.pad st1.m.least 8+st1.m.bytes.length):=by rw [hb1];simp [hi4]
  have hleast:m1.least=st1.m.least:=by rw [hm1];show max st1.m.least st1.m.least=_;omega
  have hz:m1.pad m1.least 4=0:=by
   unfold BM.pad padB
   have:(m1.bytes.length+4) % m1.least=0:=by rw [hleast,hml];rw [hpl] at hp;rw [← hp];congr 1;omega
   rw [this,Nat.sub_zero,Nat.mod_self]
  obtain ⟨st',e2,hf,⟨⟨xs,hx,hxl⟩,f2,f3,f4⟩,hls,k,hk16,hbk⟩:=finish_laid { st1 with m:=m1 } o ho.nested h0 (by show o≤m1.bytes.length;omega) (by rw [show ({ st1 with m:=m1 }:BSt).m.least=st1.m.least from hleast];exact hal) (by rw [show ({ st1 with m:=m1 }:BSt).m.least=st1.m.least from hleast];exact h4) (by show m1.bytes.length<_;omega)
  have hls':st'.m.least=st1.m.least:=by rw [hls];exact hleast
  have hx2:st'.m.bytes=(xs ++ (id ++ List.replicate (st1.m.pad st1.m.least 8) 0)) ++ st1.m.bytes:=by
   rw [hx];show xs ++ m1.bytes=_;rw [hb1];simp only [List.append_assoc]
  refine ⟨st',?_,hf,f2,?_,f4,by rw [hls'];exact hal,by rw [hls'];exact h4,?_,fun _=>?_⟩
  ·unfold BSt.finishId
   rw [if_pos hi4,← hm1];exact e2
  ·rw [f3,hx2];exact LTab_app true _ _ v o hl
  ·rw [hx2];simp only [List.length_append,List.length_replicate];omega
  ·have hxs:xs.length=4:=by
    have hfin:=e2
    unfold BSt.finish at hfin
    rw [if_neg (by show ¬ st1.nested=true;rw [ho.nested];simp)] at hfin
    have hb2:(m1.prep m1.least 4).bytes=m1.bytes:=by show List.replicate (m1.pad m1.least 4) 0 ++ m1.bytes=_;rw [hz];rfl
    have h44:m1.bytes.length % 4=0:=by
     have:(m1.bytes.length+4) % st1.m.least=0:=by rw [hml];rw [hpl] at hp;rw [← hp];congr 1;omega
     have:=algn_dvd4 hal h4 _ this;omega
    have e4:=prep_id (m1.prep m1.least 4) 4 0 (by unfold algn;omega) (by rw [hb2];simpa using h44)
    unfold BSt.refer BM.refer at hfin
    rw [if_pos (by show o≤((m1.prep m1.least 4).prep 4 0).bytes.length;rw [e4,hb2];omega)] at hfin
    have hfin2:some st'=some _:=hfin.symm
    injection hfin2 with hfin2
    have hln:st'.m.bytes.length=4+m1.bytes.length:=by
     rw [hfin2]
     show (leB 4 _ ++ ((m1.prep m1.least 4).prep 4 0).bytes).length=_
     rw [e4,hb2,List.length_append,leB_length]
    rw [hx] at hln
    have:(xs ++ m1.bytes).length=4+m1.bytes.length:=hln
    rw [List.length_append] at this
    omega
   have hbb:BytesAt st'.m.bytes st'.m.bytes.length (xs ++ id):=BytesAt.front (rest:=List.replicate (st1.m.pad st1.m.least 8) 0 ++ st1.m.bytes) (by rw [hx];show xs ++ m1.bytes=_;rw [hb1];simp only [List.append_assoc])
   have:=hbb.right
   rw [hxs] at this
   exact this
end Go.Proofs.YtcfblkkpclfmaaaGreat
namespace Go.Proofs.YtcfblkkpclfmaaaGreat
open Go.RowKit
theorem catch_idle (p:Addr) (x:Bool) (w:World) (hc:w.cell? p=some (.bool x)) (hz:w.frozen? p=false) :
  CallsD Tryz.prog 64 #[.pointer (some p)] .returning w fun e u' w'=>e=.returned (.tuple #[])∧u'=.returning∧w'=w.setCell p (.bool false):=by
 refine callsD_of_wpS Tryz.func64 rfl fun c₀ cs hu=>?_
 apply wpS_region
 simp [wpOpsS,go_sem,recoverD,hu,Tryz.ntmps64,hc,hz,bodyPostS,results,Tryz.results64]
 rw [← hu]
/-- The variable that says whether it panicked. -/
def thrownVar:Obj:=.cells #[.bool false] 4
theorem thrown_ok {g:Nat} {caps:Array Value} {w:World} {S:Nat→Prop} {R:World→Prop} (hen:∀ w,(callFunc g caps).run Tryz.prog w=.ok (.enter g caps) w)
  (h:Calls Tryz.prog g caps (w.alloc thrownVar) fun e w1=>e=.returned (.tuple #[])∧R w1) (hR:∀ w1,R w1→Fr S (w.alloc thrownVar) w1) (hS:¬ S w.heap.size) :
  Calls Tryz.prog 38 #[.func (.func g) #[] caps] w fun e w'=>e=.returned (.bool false)∧∃ w1,R w1∧Fr (·=w.heap.size) w1 w':=by
 have hmf:∀ (fn:Fn) (first cap:Array Value) (w:World),(Instr.makeFunc fn first cap).run Tryz.prog w=.ok (.func fn first cap) w:=fun _ _ _ _=>rfl
 have h2:∀ w1,R w1→w1.heap[w.heap.size]?=some (.cells #[.bool false] 4):=fun w1 hr=>by
  rw [(hR w1 hr).block w.heap.size (by simp) hS];exact heap_alloc_new w thrownVar
 have H2:=Hd h2;clear h2
 have HC:=Hd h;clear h
 go_enter_defers Tryz.func38,Tryz.ntmps38
 go_wp2_with fail
 refine HC.out.mono ?_
 rintro e w1 ⟨rfl,hr⟩
 have hb:=H2.out w1 hr
 have hc:w1.cell? ⟨w.heap.size,0,none⟩=some (.bool false):=by rw [cell_of hb];rfl
 have hf:w1.frozen? ⟨w.heap.size,0,none⟩=false:=frozen_of hb 0
 clear hb
 have HR:=Hd hr;clear hr
 go_wp2_with fail
 refine leaves_cons (f:=64) (args:=#[.pointer (some ⟨w.heap.size,0,none⟩)]) (by simp) (by simp [go_sem]) ?_
 refine (catch_idle ⟨w.heap.size,0,none⟩ false _ ?_ ?_).mono ?_
 ·simp [go_sem,hc]
 ·simp [go_sem,hf]
 rintro e u' w'' ⟨rfl,rfl,rfl⟩
 simp [Leaves,settle,results,Tryz.results38,go_sem,hc]
 exact ⟨w1,HR.out,((Fr.refl (fun x=>x=w.heap.size) _).setCell (fun _=>rfl) _).setCell (fun _=>rfl) _⟩
end Go.Proofs.YtcfblkkpclfmaaaGreat
