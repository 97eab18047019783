/- Part 26 of the proof of FnTrimmed (RdT). No condition is laid on the statement. -/
import Derived.Test.YtcfblkkpclfmaaaGreatTr25
set_option linter.unusedVariables false
set_option linter.unusedSimpArgs false
namespace Go.Proofs.YtcfblkkpclfmaaaGreat
open Go.RowKit
theorem ShOk.eqs {v s:Val} (h:ShOk v s):s.kind=v.kind∧s.elem=v.elem:=by cases h;exact ⟨by assumption,by assumption⟩
theorem VIs.bounds {B:Nat→Prop} {w:World} {cs:List Value} {v:Val} (h:VIs B w cs v):v.kind<256∧v.elem<256∧v.num<2 ^ 64:=by cases h;exact ⟨by assumption,by assumption,by assumption⟩
/-- The slots that are read so far. -/
def RTR (w:World) (BX:List Value) (k e:Nat) (us:List (Slt Val)) (wr:World):Prop:=TVR2 (fun _=>False) w BX 46 46 84 k e 0 ⟨#[]⟩ (.slice none 0 0) 3 (.slice none 0 0) [] us wr
set_option maxRecDepth 100000 in
set_option maxHeartbeats 16000000 in
theorem readTable_of (k0 e0 n0:Nat) (t0:List UInt8) (ns0:List Nat) (ks0:List Val) (ss:List (Slt Val)) (ihs:∀ s∈ss,RdE s.val):RdT (.mk k0 e0 n0 t0 ns0 ks0 ss):=by
 intro hpu hk15 shp al T B o l w cs hsh hT hTl hlt hv
 have hk15:k0=15:=hk15
 subst hk15
 cases hpu with
 | mk _ _ _ _ _ _ _ hkx hnum htext hnums hkids hslots helem lt ln lk ls h13 hk14 hk16 hgk hgs hkk hd2 h10 =>
  obtain rfl:=hnum (by omega)
  obtain rfl:=htext (by omega) (by omega) (by omega)
  obtain rfl:=hnums (by omega)
  obtain rfl:=hkids (by omega) (by omega)
  obtain rfl:=helem (by omega) (by omega)
  cases hsh with
  | mk _ _ _ _ _ _ _ _ hshk hshe h17 h16 h16b hshl hshd hshs =>
   rw [LTab_def] at hlt
   obtain ⟨hth,hls⟩:=hlt
   have hls:=LSlots_get ss 0 o hls
   have hol:=hth.len
   have hl9:=hT.hl
   cases hv with
   | mk k e n t ns ks ssh nv ka kc kg ko sa sc sg so hk he hn ht hnv hka hkc hks hsa hsc hsd hss =>
    have hshk:k=15:=hshk
    have hshe:e=0:=hshe
    have hshl:ssh.length=ss.length:=hshl
    obtain ⟨na,nc,rfl,_⟩:=hnv.ok
    obtain ⟨tt,htt⟩:∃ tt,tt=strOf t:=⟨_,rfl⟩
    obtain ⟨nl,hnl⟩:∃ nl,nl=ns.length:=⟨_,rfl⟩
    obtain ⟨nk,hnk⟩:∃ nk,nk=ks.length:=⟨_,rfl⟩
    obtain ⟨nss,hnss⟩:∃ nss,nss=ssh.length:=⟨_,rfl⟩
    have hms:sc≤maxLen:=hsc.2
    unfold maxLen at hms
    have hsc1:=hsc.1
    rw [← htt,← hnl,← hnk,← hnss]
    rw [← hnss] at hsc1
    show Calls Tryz.prog 56 #[.pointer (some ⟨T,0,none⟩),.agg #[.int .u8 k,.int .u8 e,.int .u64 n,.string tt,.slice na nl nc,.slice ka nk kc,.slice sa nss sc]] w _
    obtain ⟨BX,hBX⟩:∃ BX:List Value,BX=[.int .u8 k,.int .u8 e,.int .u64 n,.string tt,.slice na nl nc,.slice ka nk kc,.slice sa nss sc]:=⟨_,rfl⟩
    have hn100:nss≤100:=by omega
    have HNS:=Hd hnss
    have HSL:=Hd hshl
    have HSA:=Hd hsa
    have HSD:=Hd hsd
    have HSS:=Hd hss
    have HSHD:=Hd (show ∀ i (h:i<ss.length) (h2:i<ssh.length),ssh[i].dflt=ss[i].dflt from hshd)
    have HSHS:=Hd (show ∀ i (h:i<ss.length) (h2:i<ssh.length),ShOk ss[i].val ssh[i].val from hshs)
    have HLS:=Hd hls
    have HTH:=Hd hth
    have HGS:=Hd hgs
    have HKK:=Hd hkk
    have HD2:=Hd hd2
    have IHS:=Hd ihs
    have HT:=Hd hT
    have HBX:=Hd hBX
    obtain ⟨i1,hj,hy0,hy1,hy2⟩:=info_parts infoISlt
    clear hnss hshl hsa hsd hss hshd hshs hls hth hgs hkk hd2 ihs hT hsc hka hkc hks hnv htt hnl hnk hkx hslots lt ln lk h13 hk14 hk16 hgk h10 h17 h16 h16b hnums hkids htext hnum helem
    have HKE0:=Hd (And.intro hshk hshe)
    clear hshk hshe
    go_enter Tryz.func56,Tryz.ntmps56
    go_wp2_with fail
    have hst:RTR w BX k e ((ss.take 0).map read0T) (((w.alloc (.cells #[.int .u8 k,.int .u8 e,.int .u64 n,.string tt,.slice na nl nc,.slice ka nk kc,.slice sa nss sc] 46)).alloc (.cells #[.int .u8 0,.int .u8 0,.int .u64 0,.string ⟨#[]⟩,.slice none 0 0,.slice none 0 0,.slice none 0 0] 46)).alloc (.cells #[.int .u8 k,.int .u8 e,.int .u64 0,.string ⟨#[]⟩,.slice none 0 0,.slice none 0 0,.slice none 0 0] 46)):=by
     rw [HBX.out]
     refine ⟨.slice none 0 0,[],⟨(((Fr.refl _ w).alloc _).alloc _).alloc _,by omega,by simp,?_,?_,⟨#[.int .u8 0,.int .u8 0,.int .u64 0,.string ⟨#[]⟩,.slice none 0 0,.slice none 0 0,.slice none 0 0],rfl,?_⟩,ItRow.nil _ _ _ _ _ _ _,(fun g hg=>by cases hg),ItRow.nil _ _ _ _ _ _ _⟩,rfl⟩
     ·simp only [heap_alloc_get,size_alloc];rw [if_neg (by omega),if_neg (by omega),if_pos trivial]
     ·simp only [heap_alloc_get,size_alloc];rw [if_pos trivial];rfl
     ·simp only [heap_alloc_get,size_alloc];rw [if_neg (by omega),if_pos trivial]
    have HST:=Hd hst
    clear hst
    go_loopw [19] (fun iv wr=>∃ i:Nat,i≤nss∧iv=.int .i64 i∧RTR w BX k e ((ss.take i).map read0T) wr) (fun iv _=>nss-(intOf iv).toNat)
    case atStart=>exact ⟨0,Nat.zero_le _,rfl,HST.out⟩
    case round =>
     obtain ⟨i,hi,rfl,sv,sits,hR,hsits⟩:=hrel
     have HR:=Hd hR
     have HSI:=Hd hsits
     have hsz:=hR.size
     clear HST
     by_cases hlt:i<nss
     ·have hik:i<ssh.length:=by have:=HNS.out;omega
      have hiv:i<ss.length:=by have:=HSL.out;omega
      obtain ⟨rfl,hsg,_⟩:=HSA.out (by intro h0;rw [h0] at hik;simp at hik)
      obtain ⟨sl,hsl⟩:∃ sl,sl=ssh[i]:=⟨_,rfl⟩
      obtain ⟨kid,hkid⟩:∃ kid,kid=sl.val:=⟨_,rfl⟩
      obtain ⟨so0,hso0⟩:∃ so0,so0=ss[i]:=⟨_,rfl⟩
      have hkv:VIs (fun _=>True) wr (cellsAt wr sg (so+i*9+1) 7) kid:=by
       rw [cellsAt_mono (hR.fr.block sg hsg (fun x=>x)),hkid,hsl]
       exact (HSS.out i hik).fr0 hR.fr (fun b hb hbb=>trivial)
      obtain ⟨na1,nl1,nc1,ka1,nk1,kc1,sa1,ns1,sc1,hlit,c1,c2,c3,c4,c5,c6,c7⟩:=hkv.at
      have c0:wr.cell? ⟨sg,so+i*9,none⟩=some (.bool sl.has):=(keep_fr hR.fr (HSD.out i hik).1 (fun x=>x)).trans (by rw [hsl])
      have c8:wr.cell? ⟨sg,so+i*9+8,none⟩=some (.int .u64 sl.dflt):=(keep_fr hR.fr (HSD.out i hik).2.1 (fun x=>x)).trans (by rw [hsl])
      have c2:wr.cell? ⟨sg,so+i*9+2,none⟩=some (.int .u8 kid.elem):=c2
      have c3:wr.cell? ⟨sg,so+i*9+3,none⟩=some (.int .u64 kid.num):=c3
      have c4:wr.cell? ⟨sg,so+i*9+4,none⟩=some (.string (strOf kid.text)):=c4
      have c5:wr.cell? ⟨sg,so+i*9+5,none⟩=some (.slice na1 nl1 nc1):=c5
      have c6:wr.cell? ⟨sg,so+i*9+6,none⟩=some (.slice ka1 nk1 kc1):=c6
      have c7:wr.cell? ⟨sg,so+i*9+7,none⟩=some (.slice sa1 ns1 sc1):=c7
      have hmem:so0∈ss:=by rw [hso0];exact List.getElem_mem hiv
      have hsok:ShOk so0.val kid:=by rw [hkid,hsl,hso0];exact HSHS.out i hiv hik
      have hkk1:=hsok.eqs.1
      have hke1:=hsok.eqs.2
      have hdd:sl.dflt=so0.dflt:=by rw [hsl,hso0];exact HSHD.out i hiv hik
      have hd64:sl.dflt<2 ^ 64:=by rw [hsl];exact (HSD.out i hik).2.2
      have hke256:=hlit.bounds.2.1
      have hls0:LSlot al l so0 i o:=by have:=HLS.out i hiv;rw [Nat.zero_add] at this;rw [hso0];exact this
      obtain ⟨hf1,hf2,hf3,hf4⟩:=slot_fld hls0 HTH.out
      have hpu0:=HGS.out so0 hmem
      obtain ⟨f,hff⟩:∃ f,f=fldOf l o i:=⟨_,rfl⟩
      have hTr:Tab wr T B l (l.length-o):=HT.out.keep0 hR.fr hTl
      have hsr:=hR.fr.size
      have hofc:=fun w' (h:Tab w' T B l (l.length-o))=>Offset_ok T B (l.length-o) (4+2*i) f l w' h (by omega) (by rw [hff];exact mOffset_fld (i:=i) HTH.out hl9)
      have hlen:sits.length=i:=by have:=congrArg List.length hsits;rw [List.length_map,List.length_map,List.length_take] at this;omega
      have hown0:=hR.srow.own
      rw [hlen] at hown0
      have HLEN:=Hd hlen
      have HOWN:=Hd hown0
      rw [← hff] at hf1 hf2 hf3 hf4
      have HRB:=Hd (fun (b:Nat) (hb:b<w.heap.size+3∨wr.heap.size≤b) (e:some b=sv.ownBlock)=>(by have:=ownBlock_lt hown0 b e.symm;omega:False))
      have hwo:Tab (wr.alloc (.cells #[.bool sl.has,.int .u8 kid.kind,.int .u8 kid.elem,.int .u64 kid.num,.string (strOf kid.text),.slice na1 nl1 nc1,.slice ka1 nk1 kc1,.slice sa1 ns1 sc1,.int .u64 sl.dflt] 84)) T B l (l.length-o):=hTr.keep0 ((Fr.refl _ wr).alloc _) (by omega)
      have hof1:=hofc _ hwo
      rw [show ((4+2*i:Nat):Int)=4+2*(i:Int) by omega] at hof1
      have HOF:=Hd hof1
      have HWO:=Hd hwo
      have HLIT:=Hd hlit
      have HX:=Hd (And.intro hmem (And.intro hsok (And.intro hls0 (And.intro hpu0 (And.intro hso0 (And.intro hdd (And.intro hd64 hke256)))))))
      have HF:=Hd (And.intro hf1 (And.intro hf2 (And.intro hf3 hf4)))
      have HKE:=Hd (And.intro hkk1 hke1)
      have hf65:f<65536:=hf2
      clear hlit hkid hsl hlen hown0 hkv hsits hR hmem hsok hls0 hpu0 hso0 hdd hd64 hke256 hf1 hf2 hf3 hf4 hff hTr hofc hof1 hwo hkk1 hke1
      go_wp2_with fail
      refine HOF.out.mono ?_
      rintro e2 w2 ⟨rfl,nn,hw2⟩
      have hx7:w2.heap[wr.heap.size]?=some (.cells #[.bool sl.has,.int .u8 kid.kind,.int .u8 kid.elem,.int .u64 kid.num,.string (strOf kid.text),.slice na1 nl1 nc1,.slice ka1 nk1 kc1,.slice sa1 ns1 sc1,.int .u64 sl.dflt] 84):=by rw [hw2];exact heap_alloc_new wr _
      have hs2:w2.heap.size=wr.heap.size+1:=by rw [hw2];exact size_alloc wr _
      have hf2:Fr0 wr w2:=by rw [hw2];exact ((Fr.refl _ wr).alloc _).drewN nn
      have hfa2:Fr0 (wr.alloc (.cells #[.bool sl.has,.int .u8 kid.kind,.int .u8 kid.elem,.int .u64 kid.num,.string (strOf kid.text),.slice na1 nl1 nc1,.slice ka1 nk1 kc1,.slice sa1 ns1 sc1,.int .u64 sl.dflt] 84)) w2:=by rw [hw2];exact (Fr.refl _ _).drewN nn
      have hT2:Tab w2 T B l (l.length-o):=by rw [hw2];exact HWO.out.drewN nn
      have hout:=(hf2.block (w.heap.size+1+1) (by omega) (fun x=>x)).trans HR.out.out
      have cO:w2.cell? ⟨w.heap.size+1+1,6,none⟩=some sv:=by rw [cell_of hout];rfl
      have fO:=frozen_of hout 6
      have dx:=fun j u (hu:(#[.bool sl.has,.int .u8 kid.kind,.int .u8 kid.elem,.int .u64 kid.num,.string (strOf kid.text),.slice na1 nl1 nc1,.slice ka1 nk1 kc1,.slice sa1 ns1 sc1,.int .u64 sl.dflt]:Array Value)[j]?=some u)=>(cell_of hx7 j).trans hu
      have d0:=dx 0 _ rfl
      have d1:=dx 1 _ rfl
      have d2:=dx 2 _ rfl
      have d3:=dx 3 _ rfl
      have d4:=dx 4 _ rfl
      have d5:=dx 5 _ rfl
      have d6:=dx 6 _ rfl
      have d7:=dx 7 _ rfl
      have d8:=dx 8 _ rfl
      have hlt2:wr.heap.size<w2.heap.size:=by omega
      have HF2:=Hd (And.intro hf2 (And.intro hfa2 (And.intro hT2 hs2)))
      clear hw2 hs2 hf2 hfa2 hT2 hout dx c0 c1 c2 c3 c4 c5 c6 c7 c8
      go_upto_region 8 with fail
      have hx3:(w2.alloc (.cells #[.bool ((f:Int) != 0),.int .u8 kid.kind,.int .u8 kid.elem,.int .u64 0,.string ⟨#[]⟩,.slice none 0 0,.slice none 0 0,.slice none 0 0,.int .u64 sl.dflt] 84)).heap[w2.heap.size]?=some (.cells #[.bool ((f:Int) != 0),.int .u8 kid.kind,.int .u8 kid.elem,.int .u64 0,.string ⟨#[]⟩,.slice none 0 0,.slice none 0 0,.slice none 0 0,.int .u64 sl.dflt] 84):=heap_alloc_new w2 _
      have hs3:(w2.alloc (.cells #[.bool ((f:Int) != 0),.int .u8 kid.kind,.int .u8 kid.elem,.int .u64 0,.string ⟨#[]⟩,.slice none 0 0,.slice none 0 0,.slice none 0 0,.int .u64 sl.dflt] 84)).heap.size=w2.heap.size+1:=size_alloc w2 _
      have hf3:Fr0 w2 (w2.alloc (.cells #[.bool ((f:Int) != 0),.int .u8 kid.kind,.int .u8 kid.elem,.int .u64 0,.string ⟨#[]⟩,.slice none 0 0,.slice none 0 0,.slice none 0 0,.int .u64 sl.dflt] 84)):=(Fr.refl _ w2).alloc _
      generalize hw3:w2.alloc (.cells #[.bool ((f:Int) != 0),.int .u8 kid.kind,.int .u8 kid.elem,.int .u64 0,.string ⟨#[]⟩,.slice none 0 0,.slice none 0 0,.slice none 0 0,.int .u64 sl.dflt] 84)=w3 at *
      clear hw3
      have hlt3:w2.heap.size<w3.heap.size:=by omega
      have d1:=keep_fr hf3 d1 (fun x=>x)
      have d2:=keep_fr hf3 d2 (fun x=>x)
      have d3:=keep_fr hf3 d3 (fun x=>x)
      have d4:=keep_fr hf3 d4 (fun x=>x)
      have d5:=keep_fr hf3 d5 (fun x=>x)
      have d6:=keep_fr hf3 d6 (fun x=>x)
      have d7:=keep_fr hf3 d7 (fun x=>x)
      have d8:=keep_fr hf3 d8 (fun x=>x)
      have cO3:=keep_fr hf3 cO (fun x=>x)
      have fO3:=keep_frF hf3 cO fO (fun x=>x)
      have hT3:=HF2.out.2.2.1.keep0 hf3 (by have:=HF2.out.2.2.2;omega)
      have HX3:=Hd hx3
      have HT3:=Hd hT3
      have HF3:=Hd (And.intro (HF2.out.1.trans hf3) (HF2.out.2.1.trans hf3))
      have HCO:=Hd (And.intro cO3 fO3)
      have HS3:=Hd (show w2.heap.size=wr.heap.size+1 from HF2.out.2.2.2)
      clear hx3 hs3 hf3 hT3 d0 cO fO cO3 fO3 hx7
      by_cases hk10:kid.kind≤10
      ·have hkb:so0.val.kind≤10:=by rw [← HKE.out.1];exact hk10
       obtain ⟨hmem,hsok,hls0,hpu0,hso0,hdd,hd64,hke256⟩:=HX.out
       have hnum:=slotNum_calls hls0 HTH.out hkb hpu0 (HD2.out so0 hmem hkb).1 (by omega) w3 HT3.out
       obtain ⟨X,hX⟩:∃ X,X=(if present so0 then so0.val.num else so0.dflt):=⟨_,rfl⟩
       have hX64:X<2 ^ 64:=by
        have hok:OkNum so0.val.kind X:=by
         rw [hX]
         split
         ·rename_i hp
          have hpv:=hpu0 hp
          cases hv:so0.val with
          | mk ka ea na ta nsa ksa ssa =>
           rw [hv] at hpv hkb
           cases hpv with
           | mk _ _ _ _ _ _ _ hk' hnum htext hnums hkids hslots helem lt ln lk ls h13 hk14 hk16 hgk hgs hkk hd2 h10=>exact h10 hkb
         ·exact (HD2.out so0 hmem hkb).1
        exact Nat.lt_of_lt_of_le hok.2.1 (Nat.pow_le_pow_right (by omega) (by have:=numSize_le so0.val.kind;omega))
       rw [← hX,← HKE.out.1,← hdd,show ((4+2*i:Nat):Int)=4+2*(i:Int) by omega] at hnum
       have HNUM:=Hd hnum
       have hnew:read0T so0=⟨((f:Int) != 0),.mk kid.kind kid.elem X [] [] [] [],sl.dflt⟩:=by
        rw [read0T_scalar hkb (HD2.out so0 hmem hkb).2 hpu0,← hX,HKE.out.1,HKE.out.2,(HD2.out so0 hmem hkb).2,hdd]
        have hpe:present so0=((f:Int) != 0):=by
         have h1:=HF.out.1
         cases hp:present so0 with
         | true=>have:=h1.2 hp;simp;omega
         | false =>
          have:f=0:=by
           by_cases h0:f=0
           ·exact h0
           ·have:=h1.1 h0;rw [hp] at this;cases this
          rw [this];rfl
        rw [hpe]
       have HNEW:=Hd hnew
       have HX64:=Hd hX64
       have HKE2:=Hd hke256
       clear hnum hX hX64 hnew hmem hsok hls0 hpu0 hso0 hdd hd64 hke256 hkb
       go_wp2_with fail
       refine HNUM.out.mono ?_
       rintro e4 w4 ⟨rfl,mm,hw4⟩
       have hf4:Fr0 w3 w4:=by rw [hw4];exact (Fr.refl _ _).drewN mm
       have hx4:=(hf4.block w2.heap.size (by omega) (fun x=>x)).trans HX3.out
       have x3:w4.cell? ⟨w2.heap.size,3,none⟩=some (.int .u64 0):=by rw [cell_of hx4];rfl
       have z3:=frozen_of hx4 3
       have HX4:=Hd hx4
       have HF4:=Hd hf4
       clear hw4 hf4 hx4 d1 d2 d3 d4 d5 d6 d7 d8
       go_upto_region 12 with fail
       have hx5:(w4.setCell ⟨w2.heap.size,3,none⟩ (.int .u64 X)).heap[w2.heap.size]?=some (.cells #[.bool ((f:Int) != 0),.int .u8 kid.kind,.int .u8 kid.elem,.int .u64 X,.string ⟨#[]⟩,.slice none 0 0,.slice none 0 0,.slice none 0 0,.int .u64 sl.dflt] 84):=by
        have:=heap_setCell_same HX4.out 3 (.int .u64 X)
        rw [this];rfl
       have hf5:Fr (fun b=>b=w2.heap.size) w3 (w4.setCell ⟨w2.heap.size,3,none⟩ (.int .u64 X)):=(HF4.out.mono (S':=fun b=>b=w2.heap.size) (fun _ _ x=>x.elim)).setCell (p:=⟨w2.heap.size,3,none⟩) (fun _=>rfl) _
       generalize hw5:w4.setCell ⟨w2.heap.size,3,none⟩ (.int .u64 X)=w5 at *
       have hvi:VIs (fun b=>(False∧b<w.heap.size)∨(wr.alloc (.cells #[.bool sl.has,.int .u8 kid.kind,.int .u8 kid.elem,.int .u64 kid.num,.string (strOf kid.text),.slice na1 nl1 nc1,.slice ka1 nk1 kc1,.slice sa1 ns1 sc1,.int .u64 sl.dflt] 84)).heap.size≤b) w5 [.int .u8 kid.kind,.int .u8 kid.elem,.int .u64 X,.string ⟨#[]⟩,.slice none 0 0,.slice none 0 0,.slice none 0 0] (.mk kid.kind kid.elem X [] [] [] []):=VIs.plain (by omega) HKE2.out HX64.out
       clear hw5 x3 z3
       have y:=fun j u (hu:(#[.bool ((f:Int) != 0),.int .u8 kid.kind,.int .u8 kid.elem,.int .u64 X,.string ⟨#[]⟩,.slice none 0 0,.slice none 0 0,.slice none 0 0,.int .u64 sl.dflt]:Array Value)[j]?=some u)=>(cell_of hx5 j).trans hu
       have y0:=y 0 _ rfl
       have y1:=y 1 _ rfl
       have y2:=y 2 _ rfl
       have y3:=y 3 _ rfl
       have y4:=y 4 _ rfl
       have y5:=y 5 _ rfl
       have y6:=y 6 _ rfl
       have y7:=y 7 _ rfl
       have y8:=y 8 _ rfl
       have hs5:=hf5.size
       have hf35:Fr0 (wr.alloc (.cells #[.bool sl.has,.int .u8 kid.kind,.int .u8 kid.elem,.int .u64 kid.num,.string (strOf kid.text),.slice na1 nl1 nc1,.slice ka1 nk1 kc1,.slice sa1 ns1 sc1,.int .u64 sl.dflt] 84)) w5:=HF3.out.2.trans2 hf5 (fun b hb e=>by rw [size_alloc] at hb;have:=HS3.out;omega)
       have cO:=keep_fr hf5 HCO.out.1 (fun e=>by have:=HS3.out;omega)
       have fO:=keep_frF hf5 HCO.out.1 HCO.out.2 (fun e=>by have:=HS3.out;omega)
       have hown5:=ownFr (ownFr HOWN.out HF3.out.1 (fun _ _ x=>x)) hf5 (fun g hg e=>HRB.out g (.inr (by have:=HS3.out;omega)) hg.symm)
       have HSF:=Hd (fun (oo:Obj) (w7:World) (hg:(w5.alloc oo).grownBy w7 sv.ownBlock)=>(And.intro (keep_fr (((Fr.refl (fun b=>some b=sv.ownBlock) w5).alloc oo).trans (grown_fr' hg)) cO (fun e=>HRB.out _ (.inl (by omega)) e)) (keep_frF (((Fr.refl (fun b=>some b=sv.ownBlock) w5).alloc oo).trans (grown_fr' hg)) cO fO (fun e=>HRB.out _ (.inl (by omega)) e)):w7.cell? ⟨w.heap.size+1+1,6,none⟩=some sv∧w7.frozen? ⟨w.heap.size+1+1,6,none⟩=false))
       have HVI:=Hd hvi
       have HF35:=Hd hf35
       have hone:=hvi.one
       have HON:=Hd hone
       have hw35:w.heap.size+3≤w5.heap.size:=by have:=hf35.size;rw [size_alloc] at this;omega
       have HSB:=Hd hw35
       clear y hx5 hf5 hs5 hf35 hvi fO hone hw35
       go_wp2_with (at_builtin;refine wpList_append_lies _ rfl (.tmp 69) (.tmp 71) 44 rfl (w.heap.size+3) 84 i1 _ 9 120 Tryz.underlying44 hj hy0 hy1 hy2 rfl (by decide) sv i (sits.map fun x=>slotC x.2 x.1).flatten rfl (hown5.alloc _) ⟨w5.heap.size,0,none⟩ 1 1 (slotC ⟨((f:Int) != 0),.mk kid.kind kid.elem X [] [] [] [],sl.dflt⟩ [.int .u8 kid.kind,.int .u8 kid.elem,.int .u64 X,.string ⟨#[]⟩,.slice none 0 0,.slice none 0 0,.slice none 0 0]) rfl rfl (newsL _ _ _ _ rfl) (slotC_one HON.out) (by omega) (by unfold maxLen;omega) (by omega) (by have:=HSB.out;simp;omega) (w5.heap.size+1) (by simp) ?_;intro g7 cap7 w7 hown7 hgrow7 hat7 hlt7;have s1:=(HSF.out _ _ hgrow7).1;have s2:=(HSF.out _ _ hgrow7).2)
       have hnext:RTR w BX k e ((ss.take (i+1)).map read0T) (w7.setCell ⟨w.heap.size+1+1,6,none⟩ (.slice (some ⟨g7,0,none⟩) (i+1) cap7)):=by
        refine ⟨_,_,HR.out.next (sl:=⟨((f:Int) != 0),.mk kid.kind kid.elem X [] [] [] [],sl.dflt⟩) (o':=.cells #[.bool sl.has,.int .u8 kid.kind,.int .u8 kid.elem,.int .u64 kid.num,.string (strOf kid.text),.slice na1 nl1 nc1,.slice ka1 nk1 kc1,.slice sa1 ns1 sc1,.int .u64 sl.dflt] 84) HF35.out HVI.out HX.out.2.2.2.2.2.2.1 hgrow7 (by rw [HLEN.out]) hown7 hat7,?_⟩
        have hiv:i<ss.length:=by have:=HSL.out;have:=HNS.out;omega
        rw [List.map_append,HSI.out,List.take_succ_eq_append_getElem hiv,List.map_append,← HX.out.2.2.2.2.1]
        show _ ++ [_]=_ ++ [read0T so0]
        rw [HNEW.out]
       have HNX:=Hd hnext
       clear hnext s1 s2
       go_roundw
       case rel=>exact ⟨i+1,by omega,by go_num,HNX.out⟩
       case measure=>simp [intOf];omega
      ·have hkb:¬ so0.val.kind≤10:=by rw [← HKE.out.1];exact hk10
       obtain ⟨hmem,hsok,hls0,hpu0,hso0,hdd,hd64,hke256⟩:=HX.out
       by_cases hf0:f=0
       ·have hz:((f:Int) != 0)=false:=by rw [hf0];rfl
        have hpr:present so0=false:=by
         cases hp:present so0 with
         | false=>rfl
         | true=>exact absurd hf0 (HF.out.1.2 hp)
        have hnew:read0T so0=⟨false,.mk kid.kind kid.elem 0 [] [] [] [],sl.dflt⟩:=by
         rw [read0T_else hkb,hpr,if_neg (by simp),hdd]
         unfold Val.absent
         rw [HKE.out.1,HKE.out.2]
        have HNEW:=Hd hnew
        have HKE2:=Hd hke256
        clear hnew hmem hsok hls0 hpu0 hso0 hdd hd64 hke256 hkb hpr
        go_upto_region 12 with fail
        have hx5:=HX3.out
        rw [hz] at hx5
        have hf5:Fr (fun b=>b=w2.heap.size) w3 w3:=Fr.refl _ _
        have hvi:VIs (fun b=>(False∧b<w.heap.size)∨(wr.alloc (.cells #[.bool sl.has,.int .u8 kid.kind,.int .u8 kid.elem,.int .u64 kid.num,.string (strOf kid.text),.slice na1 nl1 nc1,.slice ka1 nk1 kc1,.slice sa1 ns1 sc1,.int .u64 sl.dflt] 84)).heap.size≤b) w3 [.int .u8 kid.kind,.int .u8 kid.elem,.int .u64 (0:Nat),.string ⟨#[]⟩,.slice none 0 0,.slice none 0 0,.slice none 0 0] (.mk kid.kind kid.elem 0 [] [] [] []):=VIs.plain (by have:=HKE.out.1;have:=HKK.out so0 HX.out.1;omega) HKE2.out (by omega)
        obtain ⟨w5,hw5⟩:∃ w5,w5=w3:=⟨_,rfl⟩
        rw [← hw5] at hx5 hvi
        have hf5:Fr (fun b=>b=w2.heap.size) w3 w5:=by rw [hw5];exact hf5
        rw [← hw5]
        clear d1 d2 d3 d4 d5 d6 d7 d8 hw5
        have y:=fun j u (hu:(#[.bool false,.int .u8 kid.kind,.int .u8 kid.elem,.int .u64 0,.string ⟨#[]⟩,.slice none 0 0,.slice none 0 0,.slice none 0 0,.int .u64 sl.dflt]:Array Value)[j]?=some u)=>(cell_of hx5 j).trans hu
        have y0:=y 0 _ rfl
        have y1:=y 1 _ rfl
        have y2:=y 2 _ rfl
        have y3:=y 3 _ rfl
        have y4:=y 4 _ rfl
        have y5:=y 5 _ rfl
        have y6:=y 6 _ rfl
        have y7:=y 7 _ rfl
        have y8:=y 8 _ rfl
        have hs5:=hf5.size
        have hf35:Fr0 (wr.alloc (.cells #[.bool sl.has,.int .u8 kid.kind,.int .u8 kid.elem,.int .u64 kid.num,.string (strOf kid.text),.slice na1 nl1 nc1,.slice ka1 nk1 kc1,.slice sa1 ns1 sc1,.int .u64 sl.dflt] 84)) w5:=HF3.out.2.trans2 hf5 (fun b hb e=>by rw [size_alloc] at hb;have:=HS3.out;omega)
        have cO:=keep_fr hf5 HCO.out.1 (fun e=>by have:=HS3.out;omega)
        have fO:=keep_frF hf5 HCO.out.1 HCO.out.2 (fun e=>by have:=HS3.out;omega)
        have hown5:=ownFr (ownFr HOWN.out HF3.out.1 (fun _ _ x=>x)) hf5 (fun g hg e=>HRB.out g (.inr (by have:=HS3.out;omega)) hg.symm)
        have HSF:=Hd (fun (oo:Obj) (w7:World) (hg:(w5.alloc oo).grownBy w7 sv.ownBlock)=>(And.intro (keep_fr (((Fr.refl (fun b=>some b=sv.ownBlock) w5).alloc oo).trans (grown_fr' hg)) cO (fun e=>HRB.out _ (.inl (by omega)) e)) (keep_frF (((Fr.refl (fun b=>some b=sv.ownBlock) w5).alloc oo).trans (grown_fr' hg)) cO fO (fun e=>HRB.out _ (.inl (by omega)) e)):w7.cell? ⟨w.heap.size+1+1,6,none⟩=some sv∧w7.frozen? ⟨w.heap.size+1+1,6,none⟩=false))
        have HVI:=Hd hvi
        have HF35:=Hd hf35
        have hone:=hvi.one
        have HON:=Hd hone
        have hw35:w.heap.size+3≤w5.heap.size:=by have:=hf35.size;rw [size_alloc] at this;omega
        have HSB:=Hd hw35
        clear y hx5 hf5 hs5 hf35 hvi fO hone hw35
        go_wp2_with (at_builtin;refine wpList_append_lies _ rfl (.tmp 69) (.tmp 71) 44 rfl (w.heap.size+3) 84 i1 _ 9 120 Tryz.underlying44 hj hy0 hy1 hy2 rfl (by decide) sv i (sits.map fun x=>slotC x.2 x.1).flatten rfl (hown5.alloc _) ⟨w5.heap.size,0,none⟩ 1 1 (slotC ⟨false,.mk kid.kind kid.elem 0 [] [] [] [],sl.dflt⟩ [.int .u8 kid.kind,.int .u8 kid.elem,.int .u64 0,.string ⟨#[]⟩,.slice none 0 0,.slice none 0 0,.slice none 0 0]) rfl rfl (newsL _ _ _ _ rfl) (slotC_one HON.out) (by omega) (by unfold maxLen;omega) (by omega) (by have:=HSB.out;simp;omega) (w5.heap.size+1) (by simp) ?_;intro g7 cap7 w7 hown7 hgrow7 hat7 hlt7;have s1:=(HSF.out _ _ hgrow7).1;have s2:=(HSF.out _ _ hgrow7).2)
        have hnext:RTR w BX k e ((ss.take (i+1)).map read0T) (w7.setCell ⟨w.heap.size+1+1,6,none⟩ (.slice (some ⟨g7,0,none⟩) (i+1) cap7)):=by
         refine ⟨_,_,HR.out.next (sl:=⟨false,.mk kid.kind kid.elem 0 [] [] [] [],sl.dflt⟩) (o':=.cells #[.bool sl.has,.int .u8 kid.kind,.int .u8 kid.elem,.int .u64 kid.num,.string (strOf kid.text),.slice na1 nl1 nc1,.slice ka1 nk1 kc1,.slice sa1 ns1 sc1,.int .u64 sl.dflt] 84) HF35.out HVI.out HX.out.2.2.2.2.2.2.1 hgrow7 (by rw [HLEN.out]) hown7 hat7,?_⟩
         have hiv:i<ss.length:=by have:=HSL.out;have:=HNS.out;omega
         rw [List.map_append,HSI.out,List.take_succ_eq_append_getElem hiv,List.map_append,← HX.out.2.2.2.2.1]
         show _ ++ [_]=_ ++ [read0T so0]
         rw [HNEW.out]
        have HNX:=Hd hnext
        clear hnext s1 s2
        go_roundw
        case rel=>exact ⟨i+1,by omega,by go_num,HNX.out⟩
        case measure=>simp [intOf];omega
       ·have hz:((f:Int) != 0)=true:=by simp;omega
        have hpr:present so0=true:=HF.out.1.1 hf0
        have hre:=IHS.out so0 hmem (hpu0 hpr) kid al T B o f l w3 [.int .u8 kid.kind,.int .u8 kid.elem,.int .u64 kid.num,.string (strOf kid.text),.slice na1 nl1 nc1,.slice ka1 nk1 kc1,.slice sa1 ns1 sc1] hsok (by omega) HT3.out (by have:=HF3.out.1.size;omega) HF.out.2.2.1 hol HF.out.2.1 (HF.out.2.2.2 hpr) (HLIT.out.fr0 HF3.out.1 (fun _ _ _=>trivial))
        have hnew:read0T so0=⟨true,read0 so0.val,sl.dflt⟩:=by
         rw [read0T_else hkb,hpr,if_pos rfl,hdd]
        have HRE:=Hd hre
        have HNEW:=Hd hnew
        clear hre hnew hmem hsok hls0 hpu0 hso0 hdd hd64 hke256 hkb hpr
        go_wp2_with fail
        refine HRE.out.mono ?_
        rintro e4 w4 ⟨cs4,rfl,hv4,hf4⟩
        obtain ⟨na6,nl6,nc6,ka6,nk6,kc6,sa6,ns6,sc6,rfl⟩:=hv4.lit
        obtain ⟨rv,hrv⟩:∃ rv,rv=read0 so0.val:=⟨_,rfl⟩
        rw [← hrv] at hv4
        have HRV:=Hd hrv
        have hx4:=(hf4.block w2.heap.size (by omega) (fun x=>x)).trans HX3.out
        rw [hz] at hx4
        have dx:=fun j u (hu:(#[.bool true,.int .u8 kid.kind,.int .u8 kid.elem,.int .u64 0,.string ⟨#[]⟩,.slice none 0 0,.slice none 0 0,.slice none 0 0,.int .u64 sl.dflt]:Array Value)[j]?=some u)=>(cell_of hx4 j).trans hu
        have x1:=dx 1 _ rfl
        have x2:=dx 2 _ rfl
        have x3:=dx 3 _ rfl
        have x4:=dx 4 _ rfl
        have x5:=dx 5 _ rfl
        have x6:=dx 6 _ rfl
        have x7:=dx 7 _ rfl
        have z1:=frozen_of hx4 1
        have z2:=frozen_of hx4 2
        have z3:=frozen_of hx4 3
        have z4:=frozen_of hx4 4
        have z5:=frozen_of hx4 5
        have z6:=frozen_of hx4 6
        have z7:=frozen_of hx4 7
        have HX4:=Hd hx4
        have HV4:=Hd hv4
        have HF4:=Hd hf4
        clear hf4 hx4 hv4 dx d1 d2 d3 d4 d5 d6 d7 d8
        rw [← hrv]
        clear hrv
        go_upto_region 12 with fail
        have hx5:(((((((w4.setCell ⟨w2.heap.size,1,none⟩ (.int .u8 rv.kind)).setCell ⟨w2.heap.size,2,none⟩ (.int .u8 rv.elem)).setCell ⟨w2.heap.size,3,none⟩ (.int .u64 rv.num)).setCell ⟨w2.heap.size,4,none⟩ (.string (strOf rv.text))).setCell ⟨w2.heap.size,5,none⟩ (.slice na6 nl6 nc6)).setCell ⟨w2.heap.size,6,none⟩ (.slice ka6 nk6 kc6)).setCell ⟨w2.heap.size,7,none⟩ (.slice sa6 ns6 sc6)).heap[w2.heap.size]?=some (.cells #[.bool true,.int .u8 rv.kind,.int .u8 rv.elem,.int .u64 rv.num,.string (strOf rv.text),.slice na6 nl6 nc6,.slice ka6 nk6 kc6,.slice sa6 ns6 sc6,.int .u64 sl.dflt] 84):=by
         have:=heap_setCell_same (heap_setCell_same (heap_setCell_same (heap_setCell_same (heap_setCell_same (heap_setCell_same (heap_setCell_same HX4.out 1 (.int .u8 rv.kind)) 2 (.int .u8 rv.elem)) 3 (.int .u64 rv.num)) 4 (.string (strOf rv.text))) 5 (.slice na6 nl6 nc6)) 6 (.slice ka6 nk6 kc6)) 7 (.slice sa6 ns6 sc6)
         rw [this];rfl
        have hf45:Fr (fun b=>b=w2.heap.size) w4 (((((((w4.setCell ⟨w2.heap.size,1,none⟩ (.int .u8 rv.kind)).setCell ⟨w2.heap.size,2,none⟩ (.int .u8 rv.elem)).setCell ⟨w2.heap.size,3,none⟩ (.int .u64 rv.num)).setCell ⟨w2.heap.size,4,none⟩ (.string (strOf rv.text))).setCell ⟨w2.heap.size,5,none⟩ (.slice na6 nl6 nc6)).setCell ⟨w2.heap.size,6,none⟩ (.slice ka6 nk6 kc6)).setCell ⟨w2.heap.size,7,none⟩ (.slice sa6 ns6 sc6)):=((((((Fr.set1 w4 _ 1 (.int .u8 rv.kind)).trans (Fr.set1 _ _ 2 (.int .u8 rv.elem))).trans (Fr.set1 _ _ 3 (.int .u64 rv.num))).trans (Fr.set1 _ _ 4 (.string (strOf rv.text)))).trans (Fr.set1 _ _ 5 (.slice na6 nl6 nc6))).trans (Fr.set1 _ _ 6 (.slice ka6 nk6 kc6))).trans (Fr.set1 _ _ 7 (.slice sa6 ns6 sc6))
        have hf5:Fr (fun b=>b=w2.heap.size) w3 (((((((w4.setCell ⟨w2.heap.size,1,none⟩ (.int .u8 rv.kind)).setCell ⟨w2.heap.size,2,none⟩ (.int .u8 rv.elem)).setCell ⟨w2.heap.size,3,none⟩ (.int .u64 rv.num)).setCell ⟨w2.heap.size,4,none⟩ (.string (strOf rv.text))).setCell ⟨w2.heap.size,5,none⟩ (.slice na6 nl6 nc6)).setCell ⟨w2.heap.size,6,none⟩ (.slice ka6 nk6 kc6)).setCell ⟨w2.heap.size,7,none⟩ (.slice sa6 ns6 sc6)):=(HF4.out.mono (S':=fun b=>b=w2.heap.size) (fun _ _ x=>x.elim)).trans hf45
        generalize hw5:(((((((w4.setCell ⟨w2.heap.size,1,none⟩ (.int .u8 rv.kind)).setCell ⟨w2.heap.size,2,none⟩ (.int .u8 rv.elem)).setCell ⟨w2.heap.size,3,none⟩ (.int .u64 rv.num)).setCell ⟨w2.heap.size,4,none⟩ (.string (strOf rv.text))).setCell ⟨w2.heap.size,5,none⟩ (.slice na6 nl6 nc6)).setCell ⟨w2.heap.size,6,none⟩ (.slice ka6 nk6 kc6)).setCell ⟨w2.heap.size,7,none⟩ (.slice sa6 ns6 sc6))=w5 at *
        have hvi:VIs (fun b=>(False∧b<w.heap.size)∨(wr.alloc (.cells #[.bool sl.has,.int .u8 kid.kind,.int .u8 kid.elem,.int .u64 kid.num,.string (strOf kid.text),.slice na1 nl1 nc1,.slice ka1 nk1 kc1,.slice sa1 ns1 sc1,.int .u64 sl.dflt] 84)).heap.size≤b) w5 [.int .u8 rv.kind,.int .u8 rv.elem,.int .u64 rv.num,.string (strOf rv.text),.slice na6 nl6 nc6,.slice ka6 nk6 kc6,.slice sa6 ns6 sc6] rv:=HV4.out.fr hf45 (fun b hb hbb=>⟨.inr (by rcases hbb with h | h;exact h.elim;rw [size_alloc];have:=HS3.out;omega),fun e=>by rcases hbb with h | h;exact h;omega⟩)
        rw [← HRV.out] at HNEW
        clear hw5 x1 x2 x3 x4 x5 x6 x7 z1 z2 z3 z4 z5 z6 z7 hf45
        have y:=fun j u (hu:(#[.bool true,.int .u8 rv.kind,.int .u8 rv.elem,.int .u64 rv.num,.string (strOf rv.text),.slice na6 nl6 nc6,.slice ka6 nk6 kc6,.slice sa6 ns6 sc6,.int .u64 sl.dflt]:Array Value)[j]?=some u)=>(cell_of hx5 j).trans hu
        have y0:=y 0 _ rfl
        have y1:=y 1 _ rfl
        have y2:=y 2 _ rfl
        have y3:=y 3 _ rfl
        have y4:=y 4 _ rfl
        have y5:=y 5 _ rfl
        have y6:=y 6 _ rfl
        have y7:=y 7 _ rfl
        have y8:=y 8 _ rfl
        have hs5:=hf5.size
        have hf35:Fr0 (wr.alloc (.cells #[.bool sl.has,.int .u8 kid.kind,.int .u8 kid.elem,.int .u64 kid.num,.string (strOf kid.text),.slice na1 nl1 nc1,.slice ka1 nk1 kc1,.slice sa1 ns1 sc1,.int .u64 sl.dflt] 84)) w5:=HF3.out.2.trans2 hf5 (fun b hb e=>by rw [size_alloc] at hb;have:=HS3.out;omega)
        have cO:=keep_fr hf5 HCO.out.1 (fun e=>by have:=HS3.out;omega)
        have fO:=keep_frF hf5 HCO.out.1 HCO.out.2 (fun e=>by have:=HS3.out;omega)
        have hown5:=ownFr (ownFr HOWN.out HF3.out.1 (fun _ _ x=>x)) hf5 (fun g hg e=>HRB.out g (.inr (by have:=HS3.out;omega)) hg.symm)
        have HSF:=Hd (fun (oo:Obj) (w7:World) (hg:(w5.alloc oo).grownBy w7 sv.ownBlock)=>(And.intro (keep_fr (((Fr.refl (fun b=>some b=sv.ownBlock) w5).alloc oo).trans (grown_fr' hg)) cO (fun e=>HRB.out _ (.inl (by omega)) e)) (keep_frF (((Fr.refl (fun b=>some b=sv.ownBlock) w5).alloc oo).trans (grown_fr' hg)) cO fO (fun e=>HRB.out _ (.inl (by omega)) e)):w7.cell? ⟨w.heap.size+1+1,6,none⟩=some sv∧w7.frozen? ⟨w.heap.size+1+1,6,none⟩=false))
        have HVI:=Hd hvi
        have HF35:=Hd hf35
        have hone:=hvi.one
        have HON:=Hd hone
        have hw35:w.heap.size+3≤w5.heap.size:=by have:=hf35.size;rw [size_alloc] at this;omega
        have HSB:=Hd hw35
        clear y hx5 hf5 hs5 hf35 hvi fO hone hw35
        go_wp2_with (at_builtin;refine wpList_append_lies _ rfl (.tmp 69) (.tmp 71) 44 rfl (w.heap.size+3) 84 i1 _ 9 120 Tryz.underlying44 hj hy0 hy1 hy2 rfl (by decide) sv i (sits.map fun x=>slotC x.2 x.1).flatten rfl (hown5.alloc _) ⟨w5.heap.size,0,none⟩ 1 1 (slotC ⟨true,rv,sl.dflt⟩ [.int .u8 rv.kind,.int .u8 rv.elem,.int .u64 rv.num,.string (strOf rv.text),.slice na6 nl6 nc6,.slice ka6 nk6 kc6,.slice sa6 ns6 sc6]) rfl rfl (newsL _ _ _ _ rfl) (slotC_one HON.out) (by omega) (by unfold maxLen;omega) (by omega) (by have:=HSB.out;simp;omega) (w5.heap.size+1) (by simp) ?_;intro g7 cap7 w7 hown7 hgrow7 hat7 hlt7;have s1:=(HSF.out _ _ hgrow7).1;have s2:=(HSF.out _ _ hgrow7).2)
        have hnext:RTR w BX k e ((ss.take (i+1)).map read0T) (w7.setCell ⟨w.heap.size+1+1,6,none⟩ (.slice (some ⟨g7,0,none⟩) (i+1) cap7)):=by
         refine ⟨_,_,HR.out.next (sl:=⟨true,rv,sl.dflt⟩) (o':=.cells #[.bool sl.has,.int .u8 kid.kind,.int .u8 kid.elem,.int .u64 kid.num,.string (strOf kid.text),.slice na1 nl1 nc1,.slice ka1 nk1 kc1,.slice sa1 ns1 sc1,.int .u64 sl.dflt] 84) HF35.out HVI.out HX.out.2.2.2.2.2.2.1 hgrow7 (by rw [HLEN.out]) hown7 hat7,?_⟩
         have hiv:i<ss.length:=by have:=HSL.out;have:=HNS.out;omega
         rw [List.map_append,HSI.out,List.take_succ_eq_append_getElem hiv,List.map_append,← HX.out.2.2.2.2.1]
         show _ ++ [_]=_ ++ [read0T so0]
         rw [HNEW.out]
        have HNX:=Hd hnext
        clear hnext s1 s2
        go_roundw
        case rel=>exact ⟨i+1,by omega,by go_num,HNX.out⟩
        case measure=>simp [intOf];omega
     ·have hie:i=nss:=by omega
      have hall:(ss.take i).map read0T=ss.map read0T:=by rw [hie,HNS.out,HSL.out,List.take_length]
      rw [hall] at hsits
      have HSF:=Hd hsits
      have o0:wr.cell? ⟨w.heap.size+1+1,0,none⟩=some (.int .u8 k):=by rw [cell_of hR.out];rfl
      have o1:wr.cell? ⟨w.heap.size+1+1,1,none⟩=some (.int .u8 e):=by rw [cell_of hR.out];rfl
      have o2:wr.cell? ⟨w.heap.size+1+1,2,none⟩=some (.int .u64 0):=by rw [cell_of hR.out];rfl
      have o3:wr.cell? ⟨w.heap.size+1+1,3,none⟩=some (.string ⟨#[]⟩):=by rw [cell_of hR.out];rfl
      have o4:wr.cell? ⟨w.heap.size+1+1,4,none⟩=some (.slice none 0 0):=by rw [cell_of hR.out];rfl
      have o5:wr.cell? ⟨w.heap.size+1+1,5,none⟩=some (.slice none 0 0):=by rw [cell_of hR.out];rfl
      have o6:wr.cell? ⟨w.heap.size+1+1,6,none⟩=some sv:=by rw [cell_of hR.out];rfl
      obtain ⟨ask,bsk,gsk,rfl,_⟩:=own_form hR.srow.own
      obtain ⟨rc,hrc,hres⟩:=hR.res
      have q:∀ j,j<7→∃ u,wr.cell? ⟨w.heap.size+1,j,none⟩=some u:=fun j hj=>⟨_,by rw [cell_of hres];exact Array.getElem?_eq_getElem (by omega)⟩
      obtain ⟨u0,q0⟩:=q 0 (by omega)
      obtain ⟨u1,q1⟩:=q 1 (by omega)
      obtain ⟨u2,q2⟩:=q 2 (by omega)
      obtain ⟨u3,q3⟩:=q 3 (by omega)
      obtain ⟨u4,q4⟩:=q 4 (by omega)
      obtain ⟨u5',q5⟩:=q 5 (by omega)
      obtain ⟨u6,q6⟩:=q 6 (by omega)
      have f0:=frozen_of hres 0
      have f1:=frozen_of hres 1
      have f2:=frozen_of hres 2
      have f3:=frozen_of hres 3
      have f4:=frozen_of hres 4
      have f5:=frozen_of hres 5
      have f6:=frozen_of hres 6
      have HRS:=Hd hres
      have HRC:=Hd hrc
      clear hall hsits hR hres q hrc
      go_wp2_with fail
      obtain ⟨a0,a1,a2,a3,a4,a5,a6,rfl⟩:=arr7 HRC.out
      refine bodyPost_ret (results_row (P:=Tryz.prog) rfl _ _ (w.heap.size+1) 46 _ (0,0) _ rfl (heap_setCell_same (heap_setCell_same (heap_setCell_same (heap_setCell_same (heap_setCell_same (heap_setCell_same (heap_setCell_same HRS.out 0 _) 1 _) 2 _) 3 _) 4 _) 5 _) 6 _) Tryz.underlying46 rfl infoIVs) rfl ?_
      have hrd:read0 (.mk 15 0 0 [] [] [] ss)=.mk k e 0 [] [] [] (ss.map read0T):=by
       rw [read0,read0S_eq,HKE0.out.1,HKE0.out.2];rfl
      rw [hrd]
      exact TV2.last (t:=[]) (ns:=[]) (nl:=0) (na:=none) (nc:=0) HR.out (ks:=[]) rfl HSF.out rfl rfl ⟨none,0,rfl,Nat.le_refl _,Nat.zero_le _,fun h=>absurd rfl h,fun n hn=>by cases hn⟩ hk he (by omega) (Nat.zero_le _) (fr_set7 _ _ _ _ _ _ _ _ _)
end Go.Proofs.YtcfblkkpclfmaaaGreat
