/- Part 34 of the proof of FnTrimmed (Merged). No condition is laid on the statement. -/
import Derived.Test.YtcfblkkpclfmaaaGreatTr32
import Derived.Test.YtcfblkkpclfmaaaGreatTr33
set_option linter.unusedVariables false
set_option linter.unusedSimpArgs false
namespace Go.Proofs.YtcfblkkpclfmaaaGreat
open Go.RowKit
def ShapeC (v:Val):Prop:=∀ (B:Nat→Prop) (cs:List Value) (w:World),VIs B w cs v→Calls Tryz.prog 30 #[.agg cs.toArray] w (VRes B (shape v) w)
theorem runSliceFrom1 (g o n c:Nat) (hn:0<n) (hc:n≤c) (w:World):(Instr.slice 24 (.slice (some ⟨g,o,none⟩) n c) (some (.int .i64 1)) none none).run Tryz.prog w=.ok (.slice (some ⟨g,if c=1 then o else o+7,none⟩) (n-1) (c-1)) w:=by
 obtain ⟨i0,hi,hz0,hz1,hz2⟩:=info_parts infoSVal
 have h1:1≤n:=hn
 simp [Instr.slice,run_underlying Tryz.underlying24,Instr.sliceBounds,Instr.sliceBound,asIntOf,sizeOf,typeInfo,hi,hz1,h1]
 rw [if_pos (show (1:Int)≤n by omega)]
 split
 ·rfl
 ·unfold Addr.add;simp
/-- What holds ahead of each round: the shape so far. -/
structure MR (B:Nat→Prop) (w:World) (X:Nat) (acc:Val) (wr:World) (cs:List Value):Prop where
 fr:Fr0 w wr
 xlt:X<wr.heap.size
 xge:w.heap.size<X
 out:wr.heap[X]?=some (.cells cs.toArray 27)
 val:VIs (fun b=>(B b∧b<w.heap.size)∨(w.heap.size<b∧b≠X)) wr cs acc
 res:∃ c:Array Value,c.size=7∧wr.heap[w.heap.size]?=some (.cells c 27)
theorem foldlM_take_none:∀ (r:List Val) (a:Val) (i:Nat),(r.take i).foldlM both a=none→r.foldlM both a=none
 | [],a,i,h=>by simp at h
 | b :: r,a,0,h=>by simp at h
 | b :: r,a,i+1,h=>by
  rw [List.take_succ_cons,List.foldlM_cons] at h
  rw [List.foldlM_cons]
  cases hab:both a b with
  | none=>rfl
  | some c =>
   rw [hab] at h
   exact foldlM_take_none r c i h
theorem foldlM_snoc (r:List Val) (a x:Val):(r ++ [x]).foldlM both a=(r.foldlM both a).bind fun c=>both c x:=by
 induction r generalizing a with
 | nil=>simp [List.foldlM_cons]
 | cons b r ih =>
  rw [List.cons_append,List.foldlM_cons,List.foldlM_cons]
  cases hab:both a b with
  | none=>rfl
  | some c=>exact ih c
theorem MR.next {B:Nat→Prop} {w:World} {X:Nat} {acc nx:Val} {wr w9:World} {cs:List Value} {x0 x1 x2 x3 x4 x5 x6:Value} (h:MR B w X acc wr cs) (hf:Fr0 wr w9) (hv:VIs (fun b=>((B b∧b<w.heap.size)∨(w.heap.size<b∧b≠X))∨wr.heap.size≤b) w9 [x0,x1,x2,x3,x4,x5,x6] nx) :
  MR B w X nx (((((((w9.setCell ⟨X,0,none⟩ x0).setCell ⟨X,1,none⟩ x1).setCell ⟨X,2,none⟩ x2).setCell ⟨X,3,none⟩ x3).setCell ⟨X,4,none⟩ x4).setCell ⟨X,5,none⟩ x5).setCell ⟨X,6,none⟩ x6) [x0,x1,x2,x3,x4,x5,x6]:=by
 have h7:=fr_set7 w9 X x0 x1 x2 x3 x4 x5 x6
 have hlt:=h.xlt
 have hge:=h.xge
 have hsz:=hf.size
 have hs7:=h7.size
 obtain ⟨a0,a1,a2,a3,a4,a5,a6,hcs⟩:∃ a0 a1 a2 a3 a4 a5 a6,cs.toArray=#[a0,a1,a2,a3,a4,a5,a6]:=arr7 (by have:=h.val.length;simpa using this)
 have hx9:=(hf.block X hlt (fun x=>x)).trans h.out
 rw [hcs] at hx9
 have hx:=heap_setCell_same (heap_setCell_same (heap_setCell_same (heap_setCell_same (heap_setCell_same (heap_setCell_same (heap_setCell_same hx9 0 x0) 1 x1) 2 x2) 3 x3) 4 x4) 5 x5) 6 x6
 rw [set7_all] at hx
 refine ⟨(h.fr.trans hf).trans2 h7 (fun b hb e=>by omega),by omega,hge,hx,?_,?_⟩
 ·refine hv.fr h7 (fun b hb hbb=>⟨?_,fun e=>?_⟩)
  ·rcases hbb with (hb1 | hb1) | hb1
   ·exact .inl hb1
   ·exact .inr hb1
   ·exact .inr ⟨by omega,by omega⟩
  ·rcases hbb with (hb1 | hb1) | hb1 <;> omega
 ·obtain ⟨c,h1,h2⟩:=h.res
  exact ⟨c,h1,(h7.block _ (by omega) (by omega)).trans ((hf.block _ (by omega) (fun x=>x)).trans h2)⟩
/-- Where a round's values may lie. -/
def BY (B:Nat→Prop) (s q X Y:Nat):Nat→Prop:=fun b=>(((B b∧b<s)∨(s<b∧b≠X))∧b<q)∨(q≤b∧b≠Y)
theorem by_shape {B:Nat→Prop} {s q X Y n:Nat} {w6 W:World} {cs:List Value} {v:Val} (h:VIs (fun b=>(B b∧b<s)∨n≤b) w6 cs v) (hf:Fr0 w6 W) (hsq:s<q) (hn:∀ b,n≤b→b<w6.heap.size→q≤b∧b≠Y):VIs (BY B s q X Y) W cs v :=
 h.fr0 hf (fun b hb hbb=>hbb.elim (fun h=>.inl ⟨.inl h,by have:=h.2;omega⟩) (fun h=>.inr (hn b h hb)))
theorem by_acc {B:Nat→Prop} {s X Y:Nat} {wr W:World} {cs:List Value} {v:Val} (h:VIs (fun b=>(B b∧b<s)∨(s<b∧b≠X)) wr cs v) (hf:Fr0 wr W):VIs (BY B s wr.heap.size X Y) W cs v :=
 h.fr0 hf (fun b hb hbb=>.inl ⟨hbb,hb⟩)
theorem by_end {B:Nat→Prop} {s q X Y n:Nat} {w7 W:World} {cs:List Value} {v:Val} (h:VIs (fun b=>BY B s q X Y b∨n≤b) w7 cs v) (hf:Fr (fun b=>b=Y) w7 W) (hqn:q≤n) (hYn:Y<n) (hqY:q≤Y):VIs (fun b=>((B b∧b<s)∨(s<b∧b≠X))∨q≤b) W cs v:=by
 refine h.fr hf (fun b hb hbb=>⟨?_,fun e=>?_⟩)
 ·rcases hbb with (hb1 | hb1) | hb1
  ·exact .inl hb1.1
  ·exact .inr hb1.1
  ·exact .inr (by omega)
 ·rcases hbb with (hb1 | hb1) | hb1
  ·have:=hb1.2;omega
  ·exact hb1.2 e
  ·omega
theorem by_end0 {B:Nat→Prop} {s q X Y n:Nat} {w7 W:World} {cs:List Value} {v:Val} (h:VIs (fun b=>BY B s q X Y b∨n≤b) w7 cs v) (hf:Fr0 w7 W) (hqn:q≤n):VIs (fun b=>((B b∧b<s)∨(s<b∧b≠X))∨q≤b) W cs v:=by
 refine h.fr0 hf (fun b hb hbb=>?_)
 rcases hbb with (hb1 | hb1) | hb1
 ·exact .inl hb1.1
 ·exact .inr hb1.1
 ·exact .inr (by omega)
def MergedC (ks:List Val):Prop:=∀ (B:Nat→Prop) (ka:Option Addr) (kc kg ko:Nat) (w:World),(ks≠[]→ka=some ⟨kg,ko,none⟩∧kg<w.heap.size∧B kg)→(ks.length≤kc∧kc≤maxLen)→(∀ i (h:i<ks.length),VIs B w (cellsAt w kg (ko+i*7) 7) ks[i]) →
 Calls Tryz.prog 47 #[.slice ka ks.length kc] w (BothRes B (merged ks) w)
set_option maxRecDepth 100000 in
set_option maxHeartbeats 16000000 in
theorem merged_of (ks:List Val) (hS:∀ v∈ks,ShapeC v) (hsm:∀ v∈ks,Small (shape v)):MergedC ks:=by
 intro B ka kc kg ko w hka hkc hks
 by_cases hne:ks=[]
 ·subst hne
  have hf:=(Fr.refl (fun _=>False) w).alloc (.cells #[.int .u8 0,.int .u8 0,.int .u64 0,.string ⟨#[]⟩,.slice none 0 0,.slice none 0 0,.slice none 0 0] 27)
  have HF:=Hd hf
  clear hf hka hkc hks hS hsm
  show Calls Tryz.prog 47 #[.slice ka 0 kc] w _
  go_enter Tryz.func47,Tryz.ntmps47
  go_wp2_with fail
  refine bodyPost_ret (results_cell_tmp (P:=Tryz.prog) rfl _ _ ⟨w.heap.size,0,none⟩ _ rfl (run_loadVar_row _ (w.heap.size) 27 27 #[.int .u8 0,.int .u8 0,.int .u64 0,.string ⟨#[]⟩,.slice none 0 0,.slice none 0 0,.slice none 0 0] (0,0) _ (heap_alloc_new _ _) Tryz.underlying27 rfl infoSVs)) rfl ?_
  exact ⟨HF.out,[.int .u8 0,.int .u8 0,.int .u64 0,.string ⟨#[]⟩,.slice none 0 0,.slice none 0 0,.slice none 0 0],rfl,VIs.plain (k:=0) (e:=0) (n:=0) (by omega) (by omega) (Nat.two_pow_pos 64)⟩
 ·obtain ⟨rfl,hkg,hBk⟩:=hka hne
  obtain ⟨a,r,hks1⟩:=List.exists_cons_of_ne_nil hne
  obtain ⟨nk,hnk⟩:∃ nk,nk=ks.length:=⟨_,rfl⟩
  have hkc1:=hkc.1
  have hkm:=hkc.2
  unfold maxLen at hkm
  rw [← hnk] at hkc1 ⊢
  have hnk1:0<nk:=by rw [hnk,hks1];simp
  have gk:((nk:Int) == 0)=false:=by simp;omega
  have hka0:VIs B w (cellsAt w kg ko 7) a:=by
   have h0:=hks 0 (by rw [← hnk];omega)
   rw [Nat.zero_mul,Nat.add_zero] at h0
   have e0:ks[0]'(by rw [← hnk];omega)=a:=by simp [hks1]
   rw [e0] at h0;exact h0
  obtain ⟨na1,nl1,nc1,ka1,nk1,kc1,sa1,ns1,sc1,hlit,a0,a1,a2,a3,a4,a5,a6⟩:=hka0.at
  have hal:Fr0 w (w.alloc (.cells #[.int .u8 0,.int .u8 0,.int .u64 0,.string ⟨#[]⟩,.slice none 0 0,.slice none 0 0,.slice none 0 0] 27)):=(Fr.refl _ w).alloc _
  have hcl:=hS a (by rw [hks1];exact List.mem_cons_self ..) (fun b=>B b∧b<w.heap.size) [.int .u8 a.kind,.int .u8 a.elem,.int .u64 a.num,.string (strOf a.text),.slice na1 nl1 nc1,.slice ka1 nk1 kc1,.slice sa1 ns1 sc1] _ (hlit.fr0 hal (fun b hb h=>⟨h,hb⟩))
  obtain ⟨sv,hsv⟩:∃ sv,sv=shape a:=⟨_,rfl⟩
  rw [← hsv] at hcl
  have hsl:=runSliceFrom1 kg ko nk kc hnk1 hkc1
  obtain ⟨ko1,hko1⟩:∃ ko1,ko1=(if kc=1 then ko else ko+7):=⟨_,rfl⟩
  rw [← hko1] at hsl
  obtain ⟨m,hm⟩:∃ m,m=nk-1:=⟨_,rfl⟩
  obtain ⟨c1,hc1⟩:∃ c1,c1=kc-1:=⟨_,rfl⟩
  rw [← hm,← hc1] at hsl
  have hmc:m≤c1:=by omega
  have hc63:c1<9223372036854775808:=by omega
  have hmr:r.length=m:=by rw [hm,hnk,hks1];simp
  have hko2:∀ i,i<m→ko1+i*7=ko+(i+1)*7:=by intro i hi;rw [hko1,if_neg (by omega)];omega
  have HCL:=Hd hcl
  have HK:=Hd (And.intro hks1 (And.intro hmr (And.intro hko2 hsv)))
  have hks3:∀ i (hi:i<r.length),VIs B w (cellsAt w kg (ko1+i*7) 7) r[i]:=by
   intro i hi
   have h0:=hks (i+1) (by rw [← hnk];omega)
   have e0:ks[i+1]'(by rw [← hnk];omega)=r[i]:=by simp [hks1]
   rw [e0,← hko2 i (by omega)] at h0
   exact h0
  have HKS:=Hd hks3
  have HS:=Hd (show ∀ v∈r,ShapeC v from fun v hv=>hS v (by rw [hks1];exact List.mem_cons_of_mem _ hv))
  have HSM:=Hd (And.intro (show Small sv from hsv ▸ hsm a (by rw [hks1];exact List.mem_cons_self ..)) (show ∀ v∈r,Small (shape v) from fun v hv=>hsm v (by rw [hks1];exact List.mem_cons_of_mem _ hv)))
  have HME:=Hd (show merged ks=(r.map shape).foldlM both sv by unfold merged;rw [hks1,List.map_cons,foldBoth,hsv])
  have HAL:=Hd hal
  have HHK:=Hd (And.intro hm hc1)
  clear hcl hks hks3 hS hsm hka hkc hks1 hmr hko1 hko2 hnk hne hlit hka0 hal hsv hm hc1
  go_enter Tryz.func47,Tryz.ntmps47
  go_wp2_with fail
  refine HCL.out.mono ?_
  rintro e2 w2 ⟨cs2,rfl,hv2,hf2⟩
  obtain ⟨na3,nl3,nc3,ka3,nk3,kc3,sa3,ns3,sc3,rfl⟩:=hv2.lit
  have hs2:=hf2.size
  rw [size_alloc] at hs2
  have hst:MR B w w2.heap.size sv (w2.alloc (.cells #[.int .u8 sv.kind,.int .u8 sv.elem,.int .u64 sv.num,.string (strOf sv.text),.slice na3 nl3 nc3,.slice ka3 nk3 kc3,.slice sa3 ns3 sc3] 27)) [.int .u8 sv.kind,.int .u8 sv.elem,.int .u64 sv.num,.string (strOf sv.text),.slice na3 nl3 nc3,.slice ka3 nk3 kc3,.slice sa3 ns3 sc3]:=by
   refine ⟨(HAL.out.trans hf2).alloc _,by simp,by omega,heap_alloc_new _ _,?_,⟨#[.int .u8 0,.int .u8 0,.int .u64 0,.string ⟨#[]⟩,.slice none 0 0,.slice none 0 0,.slice none 0 0],rfl,?_⟩⟩
   ·exact hv2.mono (by simp) (fun b hb hbb=>⟨by rcases hbb with h | h;exact .inl h;exact .inr ⟨by rw [size_alloc] at h;omega,by omega⟩,heap_alloc_old _ _ _ hb⟩)
   ·rw [heap_alloc_old _ _ _ (by omega),hf2.block _ (by simp) (fun x=>x)];exact heap_alloc_new _ _
  have HST:=Hd hst
  clear hst hv2 hf2 hs2 HCL HAL
  go_wp2_with fail
  go_loopw [20] (fun iv wr=>∃ i:Nat,i≤m∧iv=.int .i64 i∧∃ acc cs,MR B w w2.heap.size acc wr cs∧((r.map shape).take i).foldlM both sv=some acc∧Small acc) (fun iv _=>m-(intOf iv).toNat)
  case atStart=>exact ⟨0,Nat.zero_le _,rfl,_,_,HST.out,rfl,HSM.out.1⟩
  case round =>
   obtain ⟨i,hi,rfl,acc,cs,hR,hacc,hsma⟩:=hrel
   obtain ⟨na1,nl1,nc1,ka1,nk1,kc1,sa1,ns1,sc1,rfl⟩:=hR.val.lit
   have HR:=Hd hR
   have HACC:=Hd hacc
   have HSA:=Hd hsma
   have HFW:=Hd hR.fr
   have hxl:=hR.xlt
   have hxg:=hR.xge
   clear HST hacc hsma
   have xx:=fun j u (hu:(#[.int .u8 acc.kind,.int .u8 acc.elem,.int .u64 acc.num,.string (strOf acc.text),.slice na1 nl1 nc1,.slice ka1 nk1 kc1,.slice sa1 ns1 sc1]:Array Value)[j]?=some u)=>(cell_of hR.out j).trans hu
   have x0:=xx 0 _ rfl
   have x1:=xx 1 _ rfl
   have x2:=xx 2 _ rfl
   have x3:=xx 3 _ rfl
   have x4:=xx 4 _ rfl
   have x5:=xx 5 _ rfl
   have x6:=xx 6 _ rfl
   clear xx
   by_cases hlt:i<m
   ·have hir:i<r.length:=by have:=HK.out.2.1;omega
    obtain ⟨v,hv⟩:∃ v,v=r[i]:=⟨_,rfl⟩
    have hkv:VIs (fun b=>B b∧b<w.heap.size) wr (cellsAt wr kg (ko1+i*7) 7) v:=by
     rw [cellsAt_mono (hR.fr.block kg hkg (fun x=>x)),hv]
     exact (HKS.out i hir).fr0 hR.fr (fun b hb hbb=>⟨hbb,hb⟩)
    obtain ⟨na2,nl2,nc2,ka2,nk2,kc2,sa2,ns2,sc2,hlit,b0,b1,b2,b3,b4,b5,b6⟩:=hkv.at
    have hw5f:Fr0 wr (wr.alloc (.cells #[.int .u8 v.kind,.int .u8 v.elem,.int .u64 v.num,.string (strOf v.text),.slice na2 nl2 nc2,.slice ka2 nk2 kc2,.slice sa2 ns2 sc2] 27)):=(Fr.refl _ wr).alloc _
    have hy5:(wr.alloc (.cells #[.int .u8 v.kind,.int .u8 v.elem,.int .u64 v.num,.string (strOf v.text),.slice na2 nl2 nc2,.slice ka2 nk2 kc2,.slice sa2 ns2 sc2] 27)).heap[wr.heap.size]?=some (.cells #[.int .u8 v.kind,.int .u8 v.elem,.int .u64 v.num,.string (strOf v.text),.slice na2 nl2 nc2,.slice ka2 nk2 kc2,.slice sa2 ns2 sc2] 27):=heap_alloc_new _ _
    have hb5:wr.heap.size<(wr.alloc (.cells #[.int .u8 v.kind,.int .u8 v.elem,.int .u64 v.num,.string (strOf v.text),.slice na2 nl2 nc2,.slice ka2 nk2 kc2,.slice sa2 ns2 sc2] 27)).heap.size:=by simp
    have hsh:=fun (w':World) (h:Fr0 (wr.alloc (.cells #[.int .u8 v.kind,.int .u8 v.elem,.int .u64 v.num,.string (strOf v.text),.slice na2 nl2 nc2,.slice ka2 nk2 kc2,.slice sa2 ns2 sc2] 27)) w')=>HS.out v (by rw [hv];exact List.getElem_mem hir) (fun b=>B b∧b<w.heap.size) [.int .u8 v.kind,.int .u8 v.elem,.int .u64 v.num,.string (strOf v.text),.slice na2 nl2 nc2,.slice ka2 nk2 kc2,.slice sa2 ns2 sc2] w' (hlit.fr0 (hw5f.trans h) (fun _ _ h=>h))
    have hc0:=fun (Y:Nat) (w':World) (csn:List Value) (h:Fr0 (wr.alloc (.cells #[.int .u8 v.kind,.int .u8 v.elem,.int .u64 v.num,.string (strOf v.text),.slice na2 nl2 nc2,.slice ka2 nk2 kc2,.slice sa2 ns2 sc2] 27)) w') (hv:VIs (BY B w.heap.size wr.heap.size w2.heap.size Y) w' csn (shape v))=>both_calls acc HSA.out (BY B w.heap.size wr.heap.size w2.heap.size Y) (shape v) [.int .u8 acc.kind,.int .u8 acc.elem,.int .u64 acc.num,.string (strOf acc.text),.slice na1 nl1 nc1,.slice ka1 nk1 kc1,.slice sa1 ns1 sc1] csn w' (by_acc HR.out.val (hw5f.trans h)) hv
    have hfo:((r.map shape).take (i+1)).foldlM both sv=both acc (shape v):=by
     rw [List.take_add_one,List.getElem?_map,List.getElem?_eq_getElem hir,← hv]
     show ((r.map shape).take i ++ [shape v]).foldlM both sv=_
     rw [foldlM_snoc,HACC.out];rfl
    have HSH:=Hd hsh
    have HFO:=Hd hfo
    have HF5:=Hd hw5f
    have HY5:=Hd hy5
    have hssm:Small (shape v):=HSM.out.2 v (by rw [hv];exact List.getElem_mem hir)
    have HSS:=Hd hssm
    clear hsh hfo hw5f hssm hR hkv hlit hv
    go_upto_region 7 with fail
    generalize hw5:(wr.alloc (.cells #[.int .u8 v.kind,.int .u8 v.elem,.int .u64 v.num,.string (strOf v.text),.slice na2 nl2 nc2,.slice ka2 nk2 kc2,.slice sa2 ns2 sc2] 27))=w5 at *
    clear hw5
    have yy:=fun j u (hu:(#[.int .u8 v.kind,.int .u8 v.elem,.int .u64 v.num,.string (strOf v.text),.slice na2 nl2 nc2,.slice ka2 nk2 kc2,.slice sa2 ns2 sc2]:Array Value)[j]?=some u)=>(cell_of HY5.out j).trans hu
    have y0:=yy 0 _ rfl
    have y1:=yy 1 _ rfl
    have y2:=yy 2 _ rfl
    have y3:=yy 3 _ rfl
    have y4:=yy 4 _ rfl
    have y5:=yy 5 _ rfl
    have y6:=yy 6 _ rfl
    have x0:=keep_fr HF5.out x0 (fun x=>x)
    have x1:=keep_fr HF5.out x1 (fun x=>x)
    have x2:=keep_fr HF5.out x2 (fun x=>x)
    have x3:=keep_fr HF5.out x3 (fun x=>x)
    have x4:=keep_fr HF5.out x4 (fun x=>x)
    have x5:=keep_fr HF5.out x5 (fun x=>x)
    have x6:=keep_fr HF5.out x6 (fun x=>x)
    clear yy b0 b1 b2 b3 b4 b5 b6
    have hxl5:w2.heap.size<w5.heap.size:=by omega
    cases hbo:both acc (shape v) with
    | none =>
     rw [hbo] at hc0
     have HC:=Hd hc0
     have HNONE:=Hd (show merged ks=none by rw [HME.out];exact foldlM_take_none _ _ (i+1) (by rw [HFO.out,hbo]))
     clear hc0 hbo
     refine wp_region_tail_held 10 (S:=(fun w'=>Fr0 w5 w')) _ (by kernel_rfl) (by kernel_rfl) (by kernel_rfl) ((Fr.refl _ w5).drew) (fun hHeld=>?_)
     simp only [List.take_succ_cons,List.take_zero,List.drop_succ_cons,List.drop_zero,List.length_cons,List.length_nil,Nat.zero_add,Nat.reduceAdd]
     refine wpAnyH_take (i:=0) (v:=.agg #[.int .u8 acc.kind,.int .u8 acc.elem,.int .u64 acc.num,.string (strOf acc.text),.slice na1 nl1 nc1,.slice ka1 nk1 kc1,.slice sa1 ns1 sc1]) rfl (by kernel_rfl) (by kernel_rfl) (by kernel_rfl) (fun _ _ _ h=>h) (Or.inl ⟨by rfl,?_⟩) (by assumption) ?_
     ·intro w' hc
      have c0:=keep_fr hc x0 (fun x=>x)
      have c1:=keep_fr hc x1 (fun x=>x)
      have c2:=keep_fr hc x2 (fun x=>x)
      have c3:=keep_fr hc x3 (fun x=>x)
      have c4:=keep_fr hc x4 (fun x=>x)
      have c5:=keep_fr hc x5 (fun x=>x)
      have c6:=keep_fr hc x6 (fun x=>x)
      clear hc
      go_simp
     simp only [Act.put,zA,zB,zC]
     refine wpAnyH_take (i:=1) (v:=.agg #[.int .u8 v.kind,.int .u8 v.elem,.int .u64 v.num,.string (strOf v.text),.slice na2 nl2 nc2,.slice ka2 nk2 kc2,.slice sa2 ns2 sc2]) rfl (by kernel_rfl) (by kernel_rfl) (by kernel_rfl) (fun _ _ _ h=>h) (Or.inl ⟨by rfl,?_⟩) (by assumption) ?_
     ·intro w' hc
      have c0:=keep_fr hc y0 (fun x=>x)
      have c1:=keep_fr hc y1 (fun x=>x)
      have c2:=keep_fr hc y2 (fun x=>x)
      have c3:=keep_fr hc y3 (fun x=>x)
      have c4:=keep_fr hc y4 (fun x=>x)
      have c5:=keep_fr hc y5 (fun x=>x)
      have c6:=keep_fr hc y6 (fun x=>x)
      clear hc
      go_simp
     simp only [Act.put,zA,zB,zC]
     refine wpAnyH_ready (rs:=[2,7]) (by kernel_rfl) (by simp) ?_
     refine AllReadyH.cons rfl (fun K hK=>?_) (AllReadyH.cons rfl (fun K hK=>?_) AllReadyH.nil)
     ·go_simp
      refine (HSH.out _ ((Fr.refl _ w5).drew)).mono ?_
      rintro e6 w6 ⟨cs6,rfl,hv6,hf6⟩
      obtain ⟨na3,nl3,nc3,ka3,nk3,kc3,sa3,ns3,sc3,rfl⟩:=hv6.lit
      have hS6:Fr0 w5 w6:=((Fr.refl _ w5).drew).trans hf6
      have HV6:=Hd hv6
      clear hv6
      refine hK.out _ _ hS6 (fun _=>?_)
      try simp only [Act.put,zA,zB,zC]
      refine wpAnyH_ready (rs:=[3,7]) (by kernel_rfl) (by simp) ?_
      refine AllReadyH.cons rfl (fun K hK=>?_) (AllReadyH.cons rfl (fun K hK=>?_) AllReadyH.nil)
      ·go_simp
       refine (HC.out (w2.heap.size) w6 _ (hS6) ((by_shape HV6.out (Fr.refl _ _) (by omega) (fun b h1 h2=>⟨by simp at h1;omega,by simp at h1;omega⟩)))).mono ?_
       rintro e7 w7 ⟨hf7,rfl⟩
       have hS7:Fr0 w5 w7:=(hS6).trans hf7
       refine hK.out _ _ hS7 (fun _=>?_)
       try simp only [Act.put,zA,zB,zC]
       refine wpAnyH_take (i:=4) (v:=.tuple #[.agg #[.int .u8 0,.int .u8 0,.int .u64 0,.string ⟨#[]⟩,.slice none 0 0,.slice none 0 0,.slice none 0 0],.bool false]) rfl (by kernel_rfl) (by kernel_rfl) (by kernel_rfl) (fun _ _ _ h=>h) (Or.inl ⟨by rfl,?_⟩) (by assumption) ?_
       ·intro w' hc
        clear hc
        go_simp
       simp only [Act.put,zA,zB,zC]
       refine wpAnyH_take (i:=5) (v:=.agg #[.int .u8 0,.int .u8 0,.int .u64 0,.string ⟨#[]⟩,.slice none 0 0,.slice none 0 0,.slice none 0 0]) rfl (by kernel_rfl) (by kernel_rfl) (by kernel_rfl) (fun _ _ _ h=>h) (Or.inl ⟨by rfl,?_⟩) (by assumption) ?_
       ·intro w' hc
        clear hc
        go_simp
       simp only [Act.put,zA,zB,zC]
       refine wpAnyH_take (i:=6) (v:=.bool false) rfl (by kernel_rfl) (by kernel_rfl) (by kernel_rfl) (fun _ _ _ h=>h) (Or.inl ⟨by rfl,?_⟩) (by assumption) ?_
       ·intro w' hc
        clear hc
        go_simp
       simp only [Act.put,zA,zB,zC]
       refine wpAnyH_ready (rs:=[7]) (by kernel_rfl) (by simp) ?_
       refine AllReadyH.cons rfl (fun K hK=>?_) AllReadyH.nil
       go_simp
       have hS8:Fr0 w5 (w7.alloc (.cells #[.int .u8 0,.int .u8 0,.int .u64 0,.string ⟨#[]⟩,.slice none 0 0,.slice none 0 0,.slice none 0 0] 27)):=hS7.alloc _
       refine hK.out _ _ hS8 (fun _=>?_)
       try simp only [Act.put,zA,zB,zC]
       refine wpAnyH_ready (rs:=[8]) (by kernel_rfl) (by simp) ?_
       refine AllReadyH.cons rfl (fun K hK=>?_) AllReadyH.nil
       go_simp
       have hS8:Fr0 w5 (w7.alloc (.cells #[.int .u8 0,.int .u8 0,.int .u64 0,.string ⟨#[]⟩,.slice none 0 0,.slice none 0 0,.slice none 0 0] 27)):=hS7.alloc _
       refine hK.out _ _ hS8 (fun _=>?_)
       try simp only [Act.put,zA,zB,zC]
       refine wpAnyH_take (i:=9) (v:=.bool false) rfl (by kernel_rfl) (by kernel_rfl) (by kernel_rfl) (fun _ _ _ h=>h) (Or.inl ⟨by rfl,?_⟩) (by assumption) ?_
       ·intro w' hc
        clear hc
        go_simp
       simp only [Act.put,zA,zB,zC]
       refine wpAnyH_done (by kernel_rfl) ?_ _
       show wpTail _ _ _ _ _ _ _
       refine wpTail_nil ?_
       try simp only [Act.put,zA,zB,zC]
       clear hK K
       have hx9:(w7.alloc (.cells #[.int .u8 0,.int .u8 0,.int .u64 0,.string ⟨#[]⟩,.slice none 0 0,.slice none 0 0,.slice none 0 0] 27)).heap[w7.heap.size]?=some (.cells #[.int .u8 0,.int .u8 0,.int .u64 0,.string ⟨#[]⟩,.slice none 0 0,.slice none 0 0,.slice none 0 0] 27):=heap_alloc_new _ _
       have hs9:w7.heap.size<(w7.alloc (.cells #[.int .u8 0,.int .u8 0,.int .u64 0,.string ⟨#[]⟩,.slice none 0 0,.slice none 0 0,.slice none 0 0] 27)).heap.size:=by simp
       have hS9:=hS8
       generalize hw9:(w7.alloc (.cells #[.int .u8 0,.int .u8 0,.int .u64 0,.string ⟨#[]⟩,.slice none 0 0,.slice none 0 0,.slice none 0 0] 27))=w9 at *
       obtain ⟨Y,hY⟩:∃ Y,Y=w7.heap.size:=⟨_,rfl⟩
       rw [← hY] at hx9 hs9 ⊢
       have HS9:=Hd hS9
       have HX9:=Hd hx9
       clear hw9 hS9 hx9 x0 x1 x2 x3 x4 x5 x6 y0 y1 y2 y3 y4 y5 y6
       have hres9:∃ c:Array Value,c.size=7∧w9.heap[w.heap.size]?=some (.cells c 27):=by
        obtain ⟨c,h1,h2⟩:=HR.out.res
        exact ⟨c,h1,((HF5.out.trans HS9.out).block _ (by omega) (fun x=>x)).trans h2⟩
       obtain ⟨rc,hrc,hres⟩:=hres9
       have qx:∀ j,j<7→∃ u,w9.cell? ⟨w.heap.size,j,none⟩=some u:=fun j hj=>⟨_,by rw [cell_of hres];exact Array.getElem?_eq_getElem (by omega)⟩
       obtain ⟨u0',q0⟩:=qx 0 (by omega)
       obtain ⟨u1',q1⟩:=qx 1 (by omega)
       obtain ⟨u2',q2⟩:=qx 2 (by omega)
       obtain ⟨u3',q3⟩:=qx 3 (by omega)
       obtain ⟨u4',q4⟩:=qx 4 (by omega)
       obtain ⟨u5',q5⟩:=qx 5 (by omega)
       obtain ⟨u6',q6⟩:=qx 6 (by omega)
       have f0:=frozen_of hres 0
       have f1:=frozen_of hres 1
       have f2:=frozen_of hres 2
       have f3:=frozen_of hres 3
       have f4:=frozen_of hres 4
       have f5:=frozen_of hres 5
       have f6:=frozen_of hres 6
       have HRS:=Hd hres
       have HRC:=Hd hrc
       clear hres qx hrc
       have HFR:=Hd (HFW.out.trans (HF5.out.trans HS9.out))
       clear hY
       go_wp2_with fail
       refine bodyPost_ret (results_cell_tmp7 (P:=Tryz.prog) rfl _ _ (w.heap.size) 27 _ _ _ _ _ _ _ _ _ rfl HRC.out HRS.out Tryz.underlying27 rfl infoSVs) rfl ?_
       refine ⟨HFR.out.trans2 (fr_set7 w9 (w.heap.size) (.int .u8 0) (.int .u8 0) (.int .u64 0) (.string ⟨#[]⟩) (.slice none 0 0) (.slice none 0 0) (.slice none 0 0)) (fun b hb e=>by omega),?_⟩
       rw [HNONE.out]
       exact rfl
      ·go_simp
       have hS5:Fr0 w5 (w6.alloc (.cells #[.int .u8 0,.int .u8 0,.int .u64 0,.string ⟨#[]⟩,.slice none 0 0,.slice none 0 0,.slice none 0 0] 27)):=hS6.alloc _
       refine hK.out _ _ hS5 (fun _=>?_)
       try simp only [Act.put,zA,zB,zC]
       refine wpAnyH_ready (rs:=[3]) (by kernel_rfl) (by simp) ?_
       refine AllReadyH.cons rfl (fun K hK=>?_) AllReadyH.nil
       go_simp
       refine (HC.out (w6.heap.size) _ _ (hS5) ((by_shape HV6.out ((Fr.refl _ w6).alloc _) (by omega) (fun b h1 h2=>⟨by simp at h1;omega,by simp at h1;omega⟩)))).mono ?_
       rintro e7 w7 ⟨hf7,rfl⟩
       have hS7:Fr0 w5 w7:=(hS5).trans hf7
       refine hK.out _ _ hS7 (fun _=>?_)
       try simp only [Act.put,zA,zB,zC]
       refine wpAnyH_take (i:=4) (v:=.tuple #[.agg #[.int .u8 0,.int .u8 0,.int .u64 0,.string ⟨#[]⟩,.slice none 0 0,.slice none 0 0,.slice none 0 0],.bool false]) rfl (by kernel_rfl) (by kernel_rfl) (by kernel_rfl) (fun _ _ _ h=>h) (Or.inl ⟨by rfl,?_⟩) (by assumption) ?_
       ·intro w' hc
        clear hc
        go_simp
       simp only [Act.put,zA,zB,zC]
       refine wpAnyH_take (i:=5) (v:=.agg #[.int .u8 0,.int .u8 0,.int .u64 0,.string ⟨#[]⟩,.slice none 0 0,.slice none 0 0,.slice none 0 0]) rfl (by kernel_rfl) (by kernel_rfl) (by kernel_rfl) (fun _ _ _ h=>h) (Or.inl ⟨by rfl,?_⟩) (by assumption) ?_
       ·intro w' hc
        clear hc
        go_simp
       simp only [Act.put,zA,zB,zC]
       refine wpAnyH_take (i:=6) (v:=.bool false) rfl (by kernel_rfl) (by kernel_rfl) (by kernel_rfl) (fun _ _ _ h=>h) (Or.inl ⟨by rfl,?_⟩) (by assumption) ?_
       ·intro w' hc
        clear hc
        go_simp
       simp only [Act.put,zA,zB,zC]
       have HZN:=Hd (True.intro)
       have HS6:=Hd hS6.size
       have HZ5:=Hd (show w5.heap.size≤w6.heap.size from hS6.size)
       have hz5:(w6.alloc (.cells #[.int .u8 0,.int .u8 0,.int .u64 0,.string ⟨#[]⟩,.slice none 0 0,.slice none 0 0,.slice none 0 0] 27)).heap[w6.heap.size]?=some (.cells #[.int .u8 0,.int .u8 0,.int .u64 0,.string ⟨#[]⟩,.slice none 0 0,.slice none 0 0,.slice none 0 0] 27):=heap_alloc_new _ _
       have hz7:=(hf7.block (w6.heap.size) (by first | omega | (simp;done) | (simp;omega)) (fun x=>x)).trans hz5
       have zx:=fun j u (hu:(#[.int .u8 0,.int .u8 0,.int .u64 0,.string ⟨#[]⟩,.slice none 0 0,.slice none 0 0,.slice none 0 0]:Array Value)[j]?=some u)=>(cell_of hz7 j).trans hu
       have z0:=zx 0 _ rfl
       have z1:=zx 1 _ rfl
       have z2:=zx 2 _ rfl
       have z3:=zx 3 _ rfl
       have z4:=zx 4 _ rfl
       have z5:=zx 5 _ rfl
       have z6:=zx 6 _ rfl
       have f0:=frozen_of hz7 0
       have f1:=frozen_of hz7 1
       have f2:=frozen_of hz7 2
       have f3:=frozen_of hz7 3
       have f4:=frozen_of hz7 4
       have f5:=frozen_of hz7 5
       have f6:=frozen_of hz7 6
       have h7:=fr_set7 w7 (w6.heap.size) (.int .u8 0) (.int .u8 0) (.int .u64 0) (.string ⟨#[]⟩) (.slice none 0 0) (.slice none 0 0) (.slice none 0 0)
       have hzs:w6.heap.size<w7.heap.size:=by have:=hf7.size;(try simp at this);omega
       have hS8:Fr0 w5 (((((((w7.setCell ⟨w6.heap.size,0,none⟩ (.int .u8 0)).setCell ⟨w6.heap.size,1,none⟩ (.int .u8 0)).setCell ⟨w6.heap.size,2,none⟩ (.int .u64 0)).setCell ⟨w6.heap.size,3,none⟩ (.string ⟨#[]⟩)).setCell ⟨w6.heap.size,4,none⟩ (.slice none 0 0)).setCell ⟨w6.heap.size,5,none⟩ (.slice none 0 0)).setCell ⟨w6.heap.size,6,none⟩ (.slice none 0 0)):=hS7.trans2 h7 (fun b hb e=>by have:=HZ5.out;omega)
       have hx9:=(heap_setCell_same (heap_setCell_same (heap_setCell_same (heap_setCell_same (heap_setCell_same (heap_setCell_same (heap_setCell_same hz7 0 (.int .u8 0)) 1 (.int .u8 0)) 2 (.int .u64 0)) 3 (.string ⟨#[]⟩)) 4 (.slice none 0 0)) 5 (.slice none 0 0)) 6 (.slice none 0 0))
       rw [set7_all] at hx9
       clear zx
       refine wpAnyH_ready (rs:=[8]) (by kernel_rfl) (by simp) ?_
       refine AllReadyH.cons rfl (fun K hK=>?_) AllReadyH.nil
       go_simp
       refine hK.out _ _ hS8 (fun _=>?_)
       try simp only [Act.put,zA,zB,zC]
       refine wpAnyH_take (i:=9) (v:=.bool false) rfl (by kernel_rfl) (by kernel_rfl) (by kernel_rfl) (fun _ _ _ h=>h) (Or.inl ⟨by rfl,?_⟩) (by assumption) ?_
       ·intro w' hc
        clear hc
        go_simp
       simp only [Act.put,zA,zB,zC]
       refine wpAnyH_done (by kernel_rfl) ?_ _
       show wpTail _ _ _ _ _ _ _
       refine wpTail_nil ?_
       try simp only [Act.put,zA,zB,zC]
       clear hK K
       clear z0 z1 z2 z3 z4 z5 z6 f0 f1 f2 f3 f4 f5 f6
       have hs9:w6.heap.size<(((((((w7.setCell ⟨w6.heap.size,0,none⟩ (.int .u8 0)).setCell ⟨w6.heap.size,1,none⟩ (.int .u8 0)).setCell ⟨w6.heap.size,2,none⟩ (.int .u64 0)).setCell ⟨w6.heap.size,3,none⟩ (.string ⟨#[]⟩)).setCell ⟨w6.heap.size,4,none⟩ (.slice none 0 0)).setCell ⟨w6.heap.size,5,none⟩ (.slice none 0 0)).setCell ⟨w6.heap.size,6,none⟩ (.slice none 0 0)).heap.size:=by simp [World.setCell];omega
       have hS9:=hS8
       generalize hw9:(((((((w7.setCell ⟨w6.heap.size,0,none⟩ (.int .u8 0)).setCell ⟨w6.heap.size,1,none⟩ (.int .u8 0)).setCell ⟨w6.heap.size,2,none⟩ (.int .u64 0)).setCell ⟨w6.heap.size,3,none⟩ (.string ⟨#[]⟩)).setCell ⟨w6.heap.size,4,none⟩ (.slice none 0 0)).setCell ⟨w6.heap.size,5,none⟩ (.slice none 0 0)).setCell ⟨w6.heap.size,6,none⟩ (.slice none 0 0))=w9 at *
       obtain ⟨Y,hY⟩:∃ Y,Y=w6.heap.size:=⟨_,rfl⟩
       rw [← hY] at hx9 hs9 ⊢
       have HS9:=Hd hS9
       have HX9:=Hd hx9
       clear hw9 hS9 hx9 x0 x1 x2 x3 x4 x5 x6 y0 y1 y2 y3 y4 y5 y6
       have hres9:∃ c:Array Value,c.size=7∧w9.heap[w.heap.size]?=some (.cells c 27):=by
        obtain ⟨c,h1,h2⟩:=HR.out.res
        exact ⟨c,h1,((HF5.out.trans HS9.out).block _ (by omega) (fun x=>x)).trans h2⟩
       obtain ⟨rc,hrc,hres⟩:=hres9
       have qx:∀ j,j<7→∃ u,w9.cell? ⟨w.heap.size,j,none⟩=some u:=fun j hj=>⟨_,by rw [cell_of hres];exact Array.getElem?_eq_getElem (by omega)⟩
       obtain ⟨u0',q0⟩:=qx 0 (by omega)
       obtain ⟨u1',q1⟩:=qx 1 (by omega)
       obtain ⟨u2',q2⟩:=qx 2 (by omega)
       obtain ⟨u3',q3⟩:=qx 3 (by omega)
       obtain ⟨u4',q4⟩:=qx 4 (by omega)
       obtain ⟨u5',q5⟩:=qx 5 (by omega)
       obtain ⟨u6',q6⟩:=qx 6 (by omega)
       have f0:=frozen_of hres 0
       have f1:=frozen_of hres 1
       have f2:=frozen_of hres 2
       have f3:=frozen_of hres 3
       have f4:=frozen_of hres 4
       have f5:=frozen_of hres 5
       have f6:=frozen_of hres 6
       have HRS:=Hd hres
       have HRC:=Hd hrc
       clear hres qx hrc
       have HFR:=Hd (HFW.out.trans (HF5.out.trans HS9.out))
       clear hY
       go_wp2_with fail
       refine bodyPost_ret (results_cell_tmp7 (P:=Tryz.prog) rfl _ _ (w.heap.size) 27 _ _ _ _ _ _ _ _ _ rfl HRC.out HRS.out Tryz.underlying27 rfl infoSVs) rfl ?_
       refine ⟨HFR.out.trans2 (fr_set7 w9 (w.heap.size) (.int .u8 0) (.int .u8 0) (.int .u64 0) (.string ⟨#[]⟩) (.slice none 0 0) (.slice none 0 0) (.slice none 0 0)) (fun b hb e=>by omega),?_⟩
       rw [HNONE.out]
       exact rfl
     ·go_simp
      have hS5:Fr0 w5 (w5.drew.alloc (.cells #[.int .u8 0,.int .u8 0,.int .u64 0,.string ⟨#[]⟩,.slice none 0 0,.slice none 0 0,.slice none 0 0] 27)):=((Fr.refl _ w5).drew).alloc _
      refine hK.out _ _ hS5 (fun _=>?_)
      try simp only [Act.put,zA,zB,zC]
      refine wpAnyH_ready (rs:=[2]) (by kernel_rfl) (by simp) ?_
      refine AllReadyH.cons rfl (fun K hK=>?_) AllReadyH.nil
      go_simp
      refine (HSH.out _ (hS5)).mono ?_
      rintro e6 w6 ⟨cs6,rfl,hv6,hf6⟩
      obtain ⟨na3,nl3,nc3,ka3,nk3,kc3,sa3,ns3,sc3,rfl⟩:=hv6.lit
      have hS6:Fr0 w5 w6:=(hS5).trans hf6
      have HV6:=Hd hv6
      clear hv6
      refine hK.out _ _ hS6 (fun _=>?_)
      try simp only [Act.put,zA,zB,zC]
      have hz65:w5.heap.size<w6.heap.size:=by have:=hf6.size;simp at this;omega
      refine wpAnyH_ready (rs:=[3]) (by kernel_rfl) (by simp) ?_
      refine AllReadyH.cons rfl (fun K hK=>?_) AllReadyH.nil
      go_simp
      refine (HC.out (w5.heap.size) w6 _ (hS6) ((by_shape HV6.out (Fr.refl _ _) (by omega) (fun b h1 h2=>⟨by simp at h1;omega,by simp at h1;omega⟩)))).mono ?_
      rintro e7 w7 ⟨hf7,rfl⟩
      have hS7:Fr0 w5 w7:=(hS6).trans hf7
      refine hK.out _ _ hS7 (fun _=>?_)
      try simp only [Act.put,zA,zB,zC]
      refine wpAnyH_take (i:=4) (v:=.tuple #[.agg #[.int .u8 0,.int .u8 0,.int .u64 0,.string ⟨#[]⟩,.slice none 0 0,.slice none 0 0,.slice none 0 0],.bool false]) rfl (by kernel_rfl) (by kernel_rfl) (by kernel_rfl) (fun _ _ _ h=>h) (Or.inl ⟨by rfl,?_⟩) (by assumption) ?_
      ·intro w' hc
       clear hc
       go_simp
      simp only [Act.put,zA,zB,zC]
      refine wpAnyH_take (i:=5) (v:=.agg #[.int .u8 0,.int .u8 0,.int .u64 0,.string ⟨#[]⟩,.slice none 0 0,.slice none 0 0,.slice none 0 0]) rfl (by kernel_rfl) (by kernel_rfl) (by kernel_rfl) (fun _ _ _ h=>h) (Or.inl ⟨by rfl,?_⟩) (by assumption) ?_
      ·intro w' hc
       clear hc
       go_simp
      simp only [Act.put,zA,zB,zC]
      refine wpAnyH_take (i:=6) (v:=.bool false) rfl (by kernel_rfl) (by kernel_rfl) (by kernel_rfl) (fun _ _ _ h=>h) (Or.inl ⟨by rfl,?_⟩) (by assumption) ?_
      ·intro w' hc
       clear hc
       go_simp
      simp only [Act.put,zA,zB,zC]
      have HZN:=Hd (True.intro)
      have HS6:=Hd hS6.size
      have HZ5:=Hd (show w5.heap.size≤w5.heap.size from Nat.le_refl _)
      have hz5:w6.heap[w5.heap.size]?=some (.cells #[.int .u8 0,.int .u8 0,.int .u64 0,.string ⟨#[]⟩,.slice none 0 0,.slice none 0 0,.slice none 0 0] 27):=(hf6.block w5.heap.size (by simp) (fun x=>x)).trans (heap_alloc_new w5.drew _)
      have hz7:=(hf7.block (w5.heap.size) (by first | omega | (simp;done) | (simp;omega)) (fun x=>x)).trans hz5
      have zx:=fun j u (hu:(#[.int .u8 0,.int .u8 0,.int .u64 0,.string ⟨#[]⟩,.slice none 0 0,.slice none 0 0,.slice none 0 0]:Array Value)[j]?=some u)=>(cell_of hz7 j).trans hu
      have z0:=zx 0 _ rfl
      have z1:=zx 1 _ rfl
      have z2:=zx 2 _ rfl
      have z3:=zx 3 _ rfl
      have z4:=zx 4 _ rfl
      have z5:=zx 5 _ rfl
      have z6:=zx 6 _ rfl
      have f0:=frozen_of hz7 0
      have f1:=frozen_of hz7 1
      have f2:=frozen_of hz7 2
      have f3:=frozen_of hz7 3
      have f4:=frozen_of hz7 4
      have f5:=frozen_of hz7 5
      have f6:=frozen_of hz7 6
      have h7:=fr_set7 w7 (w5.heap.size) (.int .u8 0) (.int .u8 0) (.int .u64 0) (.string ⟨#[]⟩) (.slice none 0 0) (.slice none 0 0) (.slice none 0 0)
      have hzs:w5.heap.size<w7.heap.size:=by have:=hf7.size;(try simp at this);omega
      have hS8:Fr0 w5 (((((((w7.setCell ⟨w5.heap.size,0,none⟩ (.int .u8 0)).setCell ⟨w5.heap.size,1,none⟩ (.int .u8 0)).setCell ⟨w5.heap.size,2,none⟩ (.int .u64 0)).setCell ⟨w5.heap.size,3,none⟩ (.string ⟨#[]⟩)).setCell ⟨w5.heap.size,4,none⟩ (.slice none 0 0)).setCell ⟨w5.heap.size,5,none⟩ (.slice none 0 0)).setCell ⟨w5.heap.size,6,none⟩ (.slice none 0 0)):=hS7.trans2 h7 (fun b hb e=>by have:=HZ5.out;omega)
      have hx9:=(heap_setCell_same (heap_setCell_same (heap_setCell_same (heap_setCell_same (heap_setCell_same (heap_setCell_same (heap_setCell_same hz7 0 (.int .u8 0)) 1 (.int .u8 0)) 2 (.int .u64 0)) 3 (.string ⟨#[]⟩)) 4 (.slice none 0 0)) 5 (.slice none 0 0)) 6 (.slice none 0 0))
      rw [set7_all] at hx9
      clear zx
      refine wpAnyH_ready (rs:=[8]) (by kernel_rfl) (by simp) ?_
      refine AllReadyH.cons rfl (fun K hK=>?_) AllReadyH.nil
      go_simp
      refine hK.out _ _ hS8 (fun _=>?_)
      try simp only [Act.put,zA,zB,zC]
      refine wpAnyH_take (i:=9) (v:=.bool false) rfl (by kernel_rfl) (by kernel_rfl) (by kernel_rfl) (fun _ _ _ h=>h) (Or.inl ⟨by rfl,?_⟩) (by assumption) ?_
      ·intro w' hc
       clear hc
       go_simp
      simp only [Act.put,zA,zB,zC]
      refine wpAnyH_done (by kernel_rfl) ?_ _
      show wpTail _ _ _ _ _ _ _
      refine wpTail_nil ?_
      try simp only [Act.put,zA,zB,zC]
      clear hK K
      clear z0 z1 z2 z3 z4 z5 z6 f0 f1 f2 f3 f4 f5 f6
      have hs9:w5.heap.size<(((((((w7.setCell ⟨w5.heap.size,0,none⟩ (.int .u8 0)).setCell ⟨w5.heap.size,1,none⟩ (.int .u8 0)).setCell ⟨w5.heap.size,2,none⟩ (.int .u64 0)).setCell ⟨w5.heap.size,3,none⟩ (.string ⟨#[]⟩)).setCell ⟨w5.heap.size,4,none⟩ (.slice none 0 0)).setCell ⟨w5.heap.size,5,none⟩ (.slice none 0 0)).setCell ⟨w5.heap.size,6,none⟩ (.slice none 0 0)).heap.size:=by simp [World.setCell];omega
      have hS9:=hS8
      generalize hw9:(((((((w7.setCell ⟨w5.heap.size,0,none⟩ (.int .u8 0)).setCell ⟨w5.heap.size,1,none⟩ (.int .u8 0)).setCell ⟨w5.heap.size,2,none⟩ (.int .u64 0)).setCell ⟨w5.heap.size,3,none⟩ (.string ⟨#[]⟩)).setCell ⟨w5.heap.size,4,none⟩ (.slice none 0 0)).setCell ⟨w5.heap.size,5,none⟩ (.slice none 0 0)).setCell ⟨w5.heap.size,6,none⟩ (.slice none 0 0))=w9 at *
      obtain ⟨Y,hY⟩:∃ Y,Y=w5.heap.size:=⟨_,rfl⟩
      rw [← hY] at hx9 hs9 ⊢
      have HS9:=Hd hS9
      have HX9:=Hd hx9
      clear hw9 hS9 hx9 x0 x1 x2 x3 x4 x5 x6 y0 y1 y2 y3 y4 y5 y6
      have hres9:∃ c:Array Value,c.size=7∧w9.heap[w.heap.size]?=some (.cells c 27):=by
       obtain ⟨c,h1,h2⟩:=HR.out.res
       exact ⟨c,h1,((HF5.out.trans HS9.out).block _ (by omega) (fun x=>x)).trans h2⟩
      obtain ⟨rc,hrc,hres⟩:=hres9
      have qx:∀ j,j<7→∃ u,w9.cell? ⟨w.heap.size,j,none⟩=some u:=fun j hj=>⟨_,by rw [cell_of hres];exact Array.getElem?_eq_getElem (by omega)⟩
      obtain ⟨u0',q0⟩:=qx 0 (by omega)
      obtain ⟨u1',q1⟩:=qx 1 (by omega)
      obtain ⟨u2',q2⟩:=qx 2 (by omega)
      obtain ⟨u3',q3⟩:=qx 3 (by omega)
      obtain ⟨u4',q4⟩:=qx 4 (by omega)
      obtain ⟨u5',q5⟩:=qx 5 (by omega)
      obtain ⟨u6',q6⟩:=qx 6 (by omega)
      have f0:=frozen_of hres 0
      have f1:=frozen_of hres 1
      have f2:=frozen_of hres 2
      have f3:=frozen_of hres 3
      have f4:=frozen_of hres 4
      have f5:=frozen_of hres 5
      have f6:=frozen_of hres 6
      have HRS:=Hd hres
      have HRC:=Hd hrc
      clear hres qx hrc
      have HFR:=Hd (HFW.out.trans (HF5.out.trans HS9.out))
      clear hY
      go_wp2_with fail
      refine bodyPost_ret (results_cell_tmp7 (P:=Tryz.prog) rfl _ _ (w.heap.size) 27 _ _ _ _ _ _ _ _ _ rfl HRC.out HRS.out Tryz.underlying27 rfl infoSVs) rfl ?_
      refine ⟨HFR.out.trans2 (fr_set7 w9 (w.heap.size) (.int .u8 0) (.int .u8 0) (.int .u64 0) (.string ⟨#[]⟩) (.slice none 0 0) (.slice none 0 0) (.slice none 0 0)) (fun b hb e=>by omega),?_⟩
      rw [HNONE.out]
      exact rfl
    | some nx =>
     have hsn:Small nx:=both_small _ _ _ HSA.out HSS.out hbo
     rw [hbo] at hc0
     have HC:=Hd hc0
     have HSN:=Hd hsn
     have HNX:=Hd (show ((r.map shape).take (i+1)).foldlM both sv=some nx by rw [HFO.out,hbo])
     clear hc0 hbo hsn
     refine wp_region_tail_held 10 (S:=(fun w'=>Fr0 w5 w')) _ (by kernel_rfl) (by kernel_rfl) (by kernel_rfl) ((Fr.refl _ w5).drew) (fun hHeld=>?_)
     simp only [List.take_succ_cons,List.take_zero,List.drop_succ_cons,List.drop_zero,List.length_cons,List.length_nil,Nat.zero_add,Nat.reduceAdd]
     refine wpAnyH_take (i:=0) (v:=.agg #[.int .u8 acc.kind,.int .u8 acc.elem,.int .u64 acc.num,.string (strOf acc.text),.slice na1 nl1 nc1,.slice ka1 nk1 kc1,.slice sa1 ns1 sc1]) rfl (by kernel_rfl) (by kernel_rfl) (by kernel_rfl) (fun _ _ _ h=>h) (Or.inl ⟨by rfl,?_⟩) (by assumption) ?_
     ·intro w' hc
      have c0:=keep_fr hc x0 (fun x=>x)
      have c1:=keep_fr hc x1 (fun x=>x)
      have c2:=keep_fr hc x2 (fun x=>x)
      have c3:=keep_fr hc x3 (fun x=>x)
      have c4:=keep_fr hc x4 (fun x=>x)
      have c5:=keep_fr hc x5 (fun x=>x)
      have c6:=keep_fr hc x6 (fun x=>x)
      clear hc
      go_simp
     simp only [Act.put,zA,zB,zC]
     refine wpAnyH_take (i:=1) (v:=.agg #[.int .u8 v.kind,.int .u8 v.elem,.int .u64 v.num,.string (strOf v.text),.slice na2 nl2 nc2,.slice ka2 nk2 kc2,.slice sa2 ns2 sc2]) rfl (by kernel_rfl) (by kernel_rfl) (by kernel_rfl) (fun _ _ _ h=>h) (Or.inl ⟨by rfl,?_⟩) (by assumption) ?_
     ·intro w' hc
      have c0:=keep_fr hc y0 (fun x=>x)
      have c1:=keep_fr hc y1 (fun x=>x)
      have c2:=keep_fr hc y2 (fun x=>x)
      have c3:=keep_fr hc y3 (fun x=>x)
      have c4:=keep_fr hc y4 (fun x=>x)
      have c5:=keep_fr hc y5 (fun x=>x)
      have c6:=keep_fr hc y6 (fun x=>x)
      clear hc
      go_simp
     simp only [Act.put,zA,zB,zC]
     refine wpAnyH_ready (rs:=[2,7]) (by kernel_rfl) (by simp) ?_
     refine AllReadyH.cons rfl (fun K hK=>?_) (AllReadyH.cons rfl (fun K hK=>?_) AllReadyH.nil)
     ·go_simp
      refine (HSH.out _ ((Fr.refl _ w5).drew)).mono ?_
      rintro e6 w6 ⟨cs6,rfl,hv6,hf6⟩
      obtain ⟨na3,nl3,nc3,ka3,nk3,kc3,sa3,ns3,sc3,rfl⟩:=hv6.lit
      have hS6:Fr0 w5 w6:=((Fr.refl _ w5).drew).trans hf6
      have HV6:=Hd hv6
      clear hv6
      refine hK.out _ _ hS6 (fun _=>?_)
      try simp only [Act.put,zA,zB,zC]
      refine wpAnyH_ready (rs:=[3,7]) (by kernel_rfl) (by simp) ?_
      refine AllReadyH.cons rfl (fun K hK=>?_) (AllReadyH.cons rfl (fun K hK=>?_) AllReadyH.nil)
      ·go_simp
       refine (HC.out (w2.heap.size) w6 _ (hS6) ((by_shape HV6.out (Fr.refl _ _) (by omega) (fun b h1 h2=>⟨by simp at h1;omega,by simp at h1;omega⟩)))).mono ?_
       rintro e7 w7 ⟨hf7,cs7,rfl,hv7⟩
       obtain ⟨na4,nl4,nc4,ka4,nk4,kc4,sa4,ns4,sc4,rfl⟩:=hv7.lit
       have HV7:=Hd hv7
       clear hv7
       have hS7:Fr0 w5 w7:=(hS6).trans hf7
       refine hK.out _ _ hS7 (fun _=>?_)
       try simp only [Act.put,zA,zB,zC]
       refine wpAnyH_take (i:=4) (v:=.tuple #[.agg #[.int .u8 nx.kind,.int .u8 nx.elem,.int .u64 nx.num,.string (strOf nx.text),.slice na4 nl4 nc4,.slice ka4 nk4 kc4,.slice sa4 ns4 sc4],.bool true]) rfl (by kernel_rfl) (by kernel_rfl) (by kernel_rfl) (fun _ _ _ h=>h) (Or.inl ⟨by rfl,?_⟩) (by assumption) ?_
       ·intro w' hc
        clear hc
        go_simp
       simp only [Act.put,zA,zB,zC]
       refine wpAnyH_take (i:=5) (v:=.agg #[.int .u8 nx.kind,.int .u8 nx.elem,.int .u64 nx.num,.string (strOf nx.text),.slice na4 nl4 nc4,.slice ka4 nk4 kc4,.slice sa4 ns4 sc4]) rfl (by kernel_rfl) (by kernel_rfl) (by kernel_rfl) (fun _ _ _ h=>h) (Or.inl ⟨by rfl,?_⟩) (by assumption) ?_
       ·intro w' hc
        clear hc
        go_simp
       simp only [Act.put,zA,zB,zC]
       refine wpAnyH_take (i:=6) (v:=.bool true) rfl (by kernel_rfl) (by kernel_rfl) (by kernel_rfl) (fun _ _ _ h=>h) (Or.inl ⟨by rfl,?_⟩) (by assumption) ?_
       ·intro w' hc
        clear hc
        go_simp
       simp only [Act.put,zA,zB,zC]
       refine wpAnyH_ready (rs:=[7]) (by kernel_rfl) (by simp) ?_
       refine AllReadyH.cons rfl (fun K hK=>?_) AllReadyH.nil
       go_simp
       have hS8:Fr0 w5 (w7.alloc (.cells #[.int .u8 0,.int .u8 0,.int .u64 0,.string ⟨#[]⟩,.slice none 0 0,.slice none 0 0,.slice none 0 0] 27)):=hS7.alloc _
       refine hK.out _ _ hS8 (fun _=>?_)
       try simp only [Act.put,zA,zB,zC]
       refine wpAnyH_ready (rs:=[8]) (by kernel_rfl) (by simp) ?_
       refine AllReadyH.cons rfl (fun K hK=>?_) AllReadyH.nil
       go_simp
       have hS8:Fr0 w5 (w7.alloc (.cells #[.int .u8 nx.kind,.int .u8 nx.elem,.int .u64 nx.num,.string (strOf nx.text),.slice na4 nl4 nc4,.slice ka4 nk4 kc4,.slice sa4 ns4 sc4] 27)):=hS7.alloc _
       refine hK.out _ _ hS8 (fun _=>?_)
       try simp only [Act.put,zA,zB,zC]
       refine wpAnyH_take (i:=9) (v:=.bool true) rfl (by kernel_rfl) (by kernel_rfl) (by kernel_rfl) (fun _ _ _ h=>h) (Or.inl ⟨by rfl,?_⟩) (by assumption) ?_
       ·intro w' hc
        clear hc
        go_simp
       simp only [Act.put,zA,zB,zC]
       refine wpAnyH_done (by kernel_rfl) ?_ _
       show wpTail _ _ _ _ _ _ _
       refine wpTail_nil ?_
       try simp only [Act.put,zA,zB,zC]
       clear hK K
       have hx9:(w7.alloc (.cells #[.int .u8 nx.kind,.int .u8 nx.elem,.int .u64 nx.num,.string (strOf nx.text),.slice na4 nl4 nc4,.slice ka4 nk4 kc4,.slice sa4 ns4 sc4] 27)).heap[w7.heap.size]?=some (.cells #[.int .u8 nx.kind,.int .u8 nx.elem,.int .u64 nx.num,.string (strOf nx.text),.slice na4 nl4 nc4,.slice ka4 nk4 kc4,.slice sa4 ns4 sc4] 27):=heap_alloc_new _ _
       have hs9:w7.heap.size<(w7.alloc (.cells #[.int .u8 nx.kind,.int .u8 nx.elem,.int .u64 nx.num,.string (strOf nx.text),.slice na4 nl4 nc4,.slice ka4 nk4 kc4,.slice sa4 ns4 sc4] 27)).heap.size:=by simp
       have hv9:VIs (fun b=>((B b∧b<w.heap.size)∨(w.heap.size<b∧b≠w2.heap.size))∨wr.heap.size≤b) (w7.alloc (.cells #[.int .u8 nx.kind,.int .u8 nx.elem,.int .u64 nx.num,.string (strOf nx.text),.slice na4 nl4 nc4,.slice ka4 nk4 kc4,.slice sa4 ns4 sc4] 27)) [.int .u8 nx.kind,.int .u8 nx.elem,.int .u64 nx.num,.string (strOf nx.text),.slice na4 nl4 nc4,.slice ka4 nk4 kc4,.slice sa4 ns4 sc4] nx:=by_end0 HV7.out ((Fr.refl _ w7).alloc _) (by have:=hS6.size;omega)
       have hS9:=hS8
       generalize hw9:(w7.alloc (.cells #[.int .u8 nx.kind,.int .u8 nx.elem,.int .u64 nx.num,.string (strOf nx.text),.slice na4 nl4 nc4,.slice ka4 nk4 kc4,.slice sa4 ns4 sc4] 27))=w9 at *
       obtain ⟨Y,hY⟩:∃ Y,Y=w7.heap.size:=⟨_,rfl⟩
       rw [← hY] at hx9 hs9 ⊢
       have HS9:=Hd hS9
       have HX9:=Hd hx9
       have HV9:=Hd hv9
       clear hv9
       clear hw9 hS9 hx9 x0 x1 x2 x3 x4 x5 x6 y0 y1 y2 y3 y4 y5 y6
       have gx:=fun j u (hu:(#[.int .u8 nx.kind,.int .u8 nx.elem,.int .u64 nx.num,.string (strOf nx.text),.slice na4 nl4 nc4,.slice ka4 nk4 kc4,.slice sa4 ns4 sc4]:Array Value)[j]?=some u)=>(cell_of HX9.out j).trans hu
       have g0:=gx 0 _ rfl
       have g1:=gx 1 _ rfl
       have g2:=gx 2 _ rfl
       have g3:=gx 3 _ rfl
       have g4:=gx 4 _ rfl
       have g5:=gx 5 _ rfl
       have g6:=gx 6 _ rfl
       have hout9:=((HF5.out.trans HS9.out).block (w2.heap.size) (by omega) (fun x=>x)).trans HR.out.out
       have ox:=fun j u (hu:(#[.int .u8 acc.kind,.int .u8 acc.elem,.int .u64 acc.num,.string (strOf acc.text),.slice na1 nl1 nc1,.slice ka1 nk1 kc1,.slice sa1 ns1 sc1]:Array Value)[j]?=some u)=>(cell_of hout9 j).trans hu
       have o0:=ox 0 _ rfl
       have o1:=ox 1 _ rfl
       have o2:=ox 2 _ rfl
       have o3:=ox 3 _ rfl
       have o4:=ox 4 _ rfl
       have o5:=ox 5 _ rfl
       have o6:=ox 6 _ rfl
       have f0:=frozen_of hout9 0
       have f1:=frozen_of hout9 1
       have f2:=frozen_of hout9 2
       have f3:=frozen_of hout9 3
       have f4:=frozen_of hout9 4
       have f5:=frozen_of hout9 5
       have f6:=frozen_of hout9 6
       clear gx ox hout9 hY
       have HNXT:=Hd (HR.out.next (HF5.out.trans HS9.out) HV9.out)
       go_wp2_with fail
       go_roundw
       case rel=>exact ⟨i+1,by omega,by go_num,nx,_,HNXT.out,HNX.out,HSN.out⟩
       case measure=>simp [intOf];omega
      ·go_simp
       have hS5:Fr0 w5 (w6.alloc (.cells #[.int .u8 0,.int .u8 0,.int .u64 0,.string ⟨#[]⟩,.slice none 0 0,.slice none 0 0,.slice none 0 0] 27)):=hS6.alloc _
       refine hK.out _ _ hS5 (fun _=>?_)
       try simp only [Act.put,zA,zB,zC]
       refine wpAnyH_ready (rs:=[3]) (by kernel_rfl) (by simp) ?_
       refine AllReadyH.cons rfl (fun K hK=>?_) AllReadyH.nil
       go_simp
       refine (HC.out (w6.heap.size) _ _ (hS5) ((by_shape HV6.out ((Fr.refl _ w6).alloc _) (by omega) (fun b h1 h2=>⟨by simp at h1;omega,by simp at h1;omega⟩)))).mono ?_
       rintro e7 w7 ⟨hf7,cs7,rfl,hv7⟩
       obtain ⟨na4,nl4,nc4,ka4,nk4,kc4,sa4,ns4,sc4,rfl⟩:=hv7.lit
       have HV7:=Hd hv7
       clear hv7
       have hS7:Fr0 w5 w7:=(hS5).trans hf7
       refine hK.out _ _ hS7 (fun _=>?_)
       try simp only [Act.put,zA,zB,zC]
       refine wpAnyH_take (i:=4) (v:=.tuple #[.agg #[.int .u8 nx.kind,.int .u8 nx.elem,.int .u64 nx.num,.string (strOf nx.text),.slice na4 nl4 nc4,.slice ka4 nk4 kc4,.slice sa4 ns4 sc4],.bool true]) rfl (by kernel_rfl) (by kernel_rfl) (by kernel_rfl) (fun _ _ _ h=>h) (Or.inl ⟨by rfl,?_⟩) (by assumption) ?_
       ·intro w' hc
        clear hc
        go_simp
       simp only [Act.put,zA,zB,zC]
       refine wpAnyH_take (i:=5) (v:=.agg #[.int .u8 nx.kind,.int .u8 nx.elem,.int .u64 nx.num,.string (strOf nx.text),.slice na4 nl4 nc4,.slice ka4 nk4 kc4,.slice sa4 ns4 sc4]) rfl (by kernel_rfl) (by kernel_rfl) (by kernel_rfl) (fun _ _ _ h=>h) (Or.inl ⟨by rfl,?_⟩) (by assumption) ?_
       ·intro w' hc
        clear hc
        go_simp
       simp only [Act.put,zA,zB,zC]
       refine wpAnyH_take (i:=6) (v:=.bool true) rfl (by kernel_rfl) (by kernel_rfl) (by kernel_rfl) (fun _ _ _ h=>h) (Or.inl ⟨by rfl,?_⟩) (by assumption) ?_
       ·intro w' hc
        clear hc
        go_simp
       simp only [Act.put,zA,zB,zC]
       have HZN:=Hd (True.intro)
       have HS6:=Hd hS6.size
       have HZ5:=Hd (show w5.heap.size≤w6.heap.size from hS6.size)
       have hz5:(w6.alloc (.cells #[.int .u8 0,.int .u8 0,.int .u64 0,.string ⟨#[]⟩,.slice none 0 0,.slice none 0 0,.slice none 0 0] 27)).heap[w6.heap.size]?=some (.cells #[.int .u8 0,.int .u8 0,.int .u64 0,.string ⟨#[]⟩,.slice none 0 0,.slice none 0 0,.slice none 0 0] 27):=heap_alloc_new _ _
       have hz7:=(hf7.block (w6.heap.size) (by first | omega | (simp;done) | (simp;omega)) (fun x=>x)).trans hz5
       have zx:=fun j u (hu:(#[.int .u8 0,.int .u8 0,.int .u64 0,.string ⟨#[]⟩,.slice none 0 0,.slice none 0 0,.slice none 0 0]:Array Value)[j]?=some u)=>(cell_of hz7 j).trans hu
       have z0:=zx 0 _ rfl
       have z1:=zx 1 _ rfl
       have z2:=zx 2 _ rfl
       have z3:=zx 3 _ rfl
       have z4:=zx 4 _ rfl
       have z5:=zx 5 _ rfl
       have z6:=zx 6 _ rfl
       have f0:=frozen_of hz7 0
       have f1:=frozen_of hz7 1
       have f2:=frozen_of hz7 2
       have f3:=frozen_of hz7 3
       have f4:=frozen_of hz7 4
       have f5:=frozen_of hz7 5
       have f6:=frozen_of hz7 6
       have h7:=fr_set7 w7 (w6.heap.size) (.int .u8 nx.kind) (.int .u8 nx.elem) (.int .u64 nx.num) (.string (strOf nx.text)) (.slice na4 nl4 nc4) (.slice ka4 nk4 kc4) (.slice sa4 ns4 sc4)
       have hzs:w6.heap.size<w7.heap.size:=by have:=hf7.size;(try simp at this);omega
       have hS8:Fr0 w5 (((((((w7.setCell ⟨w6.heap.size,0,none⟩ (.int .u8 nx.kind)).setCell ⟨w6.heap.size,1,none⟩ (.int .u8 nx.elem)).setCell ⟨w6.heap.size,2,none⟩ (.int .u64 nx.num)).setCell ⟨w6.heap.size,3,none⟩ (.string (strOf nx.text))).setCell ⟨w6.heap.size,4,none⟩ (.slice na4 nl4 nc4)).setCell ⟨w6.heap.size,5,none⟩ (.slice ka4 nk4 kc4)).setCell ⟨w6.heap.size,6,none⟩ (.slice sa4 ns4 sc4)):=hS7.trans2 h7 (fun b hb e=>by have:=HZ5.out;omega)
       have hx9:=(heap_setCell_same (heap_setCell_same (heap_setCell_same (heap_setCell_same (heap_setCell_same (heap_setCell_same (heap_setCell_same hz7 0 (.int .u8 nx.kind)) 1 (.int .u8 nx.elem)) 2 (.int .u64 nx.num)) 3 (.string (strOf nx.text))) 4 (.slice na4 nl4 nc4)) 5 (.slice ka4 nk4 kc4)) 6 (.slice sa4 ns4 sc4))
       rw [set7_all] at hx9
       clear zx
       refine wpAnyH_ready (rs:=[8]) (by kernel_rfl) (by simp) ?_
       refine AllReadyH.cons rfl (fun K hK=>?_) AllReadyH.nil
       go_simp
       refine hK.out _ _ hS8 (fun _=>?_)
       try simp only [Act.put,zA,zB,zC]
       refine wpAnyH_take (i:=9) (v:=.bool true) rfl (by kernel_rfl) (by kernel_rfl) (by kernel_rfl) (fun _ _ _ h=>h) (Or.inl ⟨by rfl,?_⟩) (by assumption) ?_
       ·intro w' hc
        clear hc
        go_simp
       simp only [Act.put,zA,zB,zC]
       refine wpAnyH_done (by kernel_rfl) ?_ _
       show wpTail _ _ _ _ _ _ _
       refine wpTail_nil ?_
       try simp only [Act.put,zA,zB,zC]
       clear hK K
       clear z0 z1 z2 z3 z4 z5 z6 f0 f1 f2 f3 f4 f5 f6
       have hs9:w6.heap.size<(((((((w7.setCell ⟨w6.heap.size,0,none⟩ (.int .u8 nx.kind)).setCell ⟨w6.heap.size,1,none⟩ (.int .u8 nx.elem)).setCell ⟨w6.heap.size,2,none⟩ (.int .u64 nx.num)).setCell ⟨w6.heap.size,3,none⟩ (.string (strOf nx.text))).setCell ⟨w6.heap.size,4,none⟩ (.slice na4 nl4 nc4)).setCell ⟨w6.heap.size,5,none⟩ (.slice ka4 nk4 kc4)).setCell ⟨w6.heap.size,6,none⟩ (.slice sa4 ns4 sc4)).heap.size:=by simp [World.setCell];omega
       have hv9:VIs (fun b=>((B b∧b<w.heap.size)∨(w.heap.size<b∧b≠w2.heap.size))∨wr.heap.size≤b) (((((((w7.setCell ⟨w6.heap.size,0,none⟩ (.int .u8 nx.kind)).setCell ⟨w6.heap.size,1,none⟩ (.int .u8 nx.elem)).setCell ⟨w6.heap.size,2,none⟩ (.int .u64 nx.num)).setCell ⟨w6.heap.size,3,none⟩ (.string (strOf nx.text))).setCell ⟨w6.heap.size,4,none⟩ (.slice na4 nl4 nc4)).setCell ⟨w6.heap.size,5,none⟩ (.slice ka4 nk4 kc4)).setCell ⟨w6.heap.size,6,none⟩ (.slice sa4 ns4 sc4)) [.int .u8 nx.kind,.int .u8 nx.elem,.int .u64 nx.num,.string (strOf nx.text),.slice na4 nl4 nc4,.slice ka4 nk4 kc4,.slice sa4 ns4 sc4] nx:=by_end HV7.out h7 (by have:=HS6.out;first | omega | (simp;done) | (simp;omega)) (by first | omega | (simp;done) | (simp;omega)) (by have:=HZ5.out;omega)
       have hS9:=hS8
       generalize hw9:(((((((w7.setCell ⟨w6.heap.size,0,none⟩ (.int .u8 nx.kind)).setCell ⟨w6.heap.size,1,none⟩ (.int .u8 nx.elem)).setCell ⟨w6.heap.size,2,none⟩ (.int .u64 nx.num)).setCell ⟨w6.heap.size,3,none⟩ (.string (strOf nx.text))).setCell ⟨w6.heap.size,4,none⟩ (.slice na4 nl4 nc4)).setCell ⟨w6.heap.size,5,none⟩ (.slice ka4 nk4 kc4)).setCell ⟨w6.heap.size,6,none⟩ (.slice sa4 ns4 sc4))=w9 at *
       obtain ⟨Y,hY⟩:∃ Y,Y=w6.heap.size:=⟨_,rfl⟩
       rw [← hY] at hx9 hs9 ⊢
       have HS9:=Hd hS9
       have HX9:=Hd hx9
       have HV9:=Hd hv9
       clear hv9
       clear hw9 hS9 hx9 x0 x1 x2 x3 x4 x5 x6 y0 y1 y2 y3 y4 y5 y6
       have gx:=fun j u (hu:(#[.int .u8 nx.kind,.int .u8 nx.elem,.int .u64 nx.num,.string (strOf nx.text),.slice na4 nl4 nc4,.slice ka4 nk4 kc4,.slice sa4 ns4 sc4]:Array Value)[j]?=some u)=>(cell_of HX9.out j).trans hu
       have g0:=gx 0 _ rfl
       have g1:=gx 1 _ rfl
       have g2:=gx 2 _ rfl
       have g3:=gx 3 _ rfl
       have g4:=gx 4 _ rfl
       have g5:=gx 5 _ rfl
       have g6:=gx 6 _ rfl
       have hout9:=((HF5.out.trans HS9.out).block (w2.heap.size) (by omega) (fun x=>x)).trans HR.out.out
       have ox:=fun j u (hu:(#[.int .u8 acc.kind,.int .u8 acc.elem,.int .u64 acc.num,.string (strOf acc.text),.slice na1 nl1 nc1,.slice ka1 nk1 kc1,.slice sa1 ns1 sc1]:Array Value)[j]?=some u)=>(cell_of hout9 j).trans hu
       have o0:=ox 0 _ rfl
       have o1:=ox 1 _ rfl
       have o2:=ox 2 _ rfl
       have o3:=ox 3 _ rfl
       have o4:=ox 4 _ rfl
       have o5:=ox 5 _ rfl
       have o6:=ox 6 _ rfl
       have f0:=frozen_of hout9 0
       have f1:=frozen_of hout9 1
       have f2:=frozen_of hout9 2
       have f3:=frozen_of hout9 3
       have f4:=frozen_of hout9 4
       have f5:=frozen_of hout9 5
       have f6:=frozen_of hout9 6
       clear gx ox hout9 hY
       have HNXT:=Hd (HR.out.next (HF5.out.trans HS9.out) HV9.out)
       go_wp2_with fail
       go_roundw
       case rel=>exact ⟨i+1,by omega,by go_num,nx,_,HNXT.out,HNX.out,HSN.out⟩
       case measure=>simp [intOf];omega
     ·go_simp
      have hS5:Fr0 w5 (w5.drew.alloc (.cells #[.int .u8 0,.int .u8 0,.int .u64 0,.string ⟨#[]⟩,.slice none 0 0,.slice none 0 0,.slice none 0 0] 27)):=((Fr.refl _ w5).drew).alloc _
      refine hK.out _ _ hS5 (fun _=>?_)
      try simp only [Act.put,zA,zB,zC]
      refine wpAnyH_ready (rs:=[2]) (by kernel_rfl) (by simp) ?_
      refine AllReadyH.cons rfl (fun K hK=>?_) AllReadyH.nil
      go_simp
      refine (HSH.out _ (hS5)).mono ?_
      rintro e6 w6 ⟨cs6,rfl,hv6,hf6⟩
      obtain ⟨na3,nl3,nc3,ka3,nk3,kc3,sa3,ns3,sc3,rfl⟩:=hv6.lit
      have hS6:Fr0 w5 w6:=(hS5).trans hf6
      have HV6:=Hd hv6
      clear hv6
      refine hK.out _ _ hS6 (fun _=>?_)
      try simp only [Act.put,zA,zB,zC]
      have hz65:w5.heap.size<w6.heap.size:=by have:=hf6.size;simp at this;omega
      refine wpAnyH_ready (rs:=[3]) (by kernel_rfl) (by simp) ?_
      refine AllReadyH.cons rfl (fun K hK=>?_) AllReadyH.nil
      go_simp
      refine (HC.out (w5.heap.size) w6 _ (hS6) ((by_shape HV6.out (Fr.refl _ _) (by omega) (fun b h1 h2=>⟨by simp at h1;omega,by simp at h1;omega⟩)))).mono ?_
      rintro e7 w7 ⟨hf7,cs7,rfl,hv7⟩
      obtain ⟨na4,nl4,nc4,ka4,nk4,kc4,sa4,ns4,sc4,rfl⟩:=hv7.lit
      have HV7:=Hd hv7
      clear hv7
      have hS7:Fr0 w5 w7:=(hS6).trans hf7
      refine hK.out _ _ hS7 (fun _=>?_)
      try simp only [Act.put,zA,zB,zC]
      refine wpAnyH_take (i:=4) (v:=.tuple #[.agg #[.int .u8 nx.kind,.int .u8 nx.elem,.int .u64 nx.num,.string (strOf nx.text),.slice na4 nl4 nc4,.slice ka4 nk4 kc4,.slice sa4 ns4 sc4],.bool true]) rfl (by kernel_rfl) (by kernel_rfl) (by kernel_rfl) (fun _ _ _ h=>h) (Or.inl ⟨by rfl,?_⟩) (by assumption) ?_
      ·intro w' hc
       clear hc
       go_simp
      simp only [Act.put,zA,zB,zC]
      refine wpAnyH_take (i:=5) (v:=.agg #[.int .u8 nx.kind,.int .u8 nx.elem,.int .u64 nx.num,.string (strOf nx.text),.slice na4 nl4 nc4,.slice ka4 nk4 kc4,.slice sa4 ns4 sc4]) rfl (by kernel_rfl) (by kernel_rfl) (by kernel_rfl) (fun _ _ _ h=>h) (Or.inl ⟨by rfl,?_⟩) (by assumption) ?_
      ·intro w' hc
       clear hc
       go_simp
      simp only [Act.put,zA,zB,zC]
      refine wpAnyH_take (i:=6) (v:=.bool true) rfl (by kernel_rfl) (by kernel_rfl) (by kernel_rfl) (fun _ _ _ h=>h) (Or.inl ⟨by rfl,?_⟩) (by assumption) ?_
      ·intro w' hc
       clear hc
       go_simp
      simp only [Act.put,zA,zB,zC]
      have HZN:=Hd (True.intro)
      have HS6:=Hd hS6.size
      have HZ5:=Hd (show w5.heap.size≤w5.heap.size from Nat.le_refl _)
      have hz5:w6.heap[w5.heap.size]?=some (.cells #[.int .u8 0,.int .u8 0,.int .u64 0,.string ⟨#[]⟩,.slice none 0 0,.slice none 0 0,.slice none 0 0] 27):=(hf6.block w5.heap.size (by simp) (fun x=>x)).trans (heap_alloc_new w5.drew _)
      have hz7:=(hf7.block (w5.heap.size) (by first | omega | (simp;done) | (simp;omega)) (fun x=>x)).trans hz5
      have zx:=fun j u (hu:(#[.int .u8 0,.int .u8 0,.int .u64 0,.string ⟨#[]⟩,.slice none 0 0,.slice none 0 0,.slice none 0 0]:Array Value)[j]?=some u)=>(cell_of hz7 j).trans hu
      have z0:=zx 0 _ rfl
      have z1:=zx 1 _ rfl
      have z2:=zx 2 _ rfl
      have z3:=zx 3 _ rfl
      have z4:=zx 4 _ rfl
      have z5:=zx 5 _ rfl
      have z6:=zx 6 _ rfl
      have f0:=frozen_of hz7 0
      have f1:=frozen_of hz7 1
      have f2:=frozen_of hz7 2
      have f3:=frozen_of hz7 3
      have f4:=frozen_of hz7 4
      have f5:=frozen_of hz7 5
      have f6:=frozen_of hz7 6
      have h7:=fr_set7 w7 (w5.heap.size) (.int .u8 nx.kind) (.int .u8 nx.elem) (.int .u64 nx.num) (.string (strOf nx.text)) (.slice na4 nl4 nc4) (.slice ka4 nk4 kc4) (.slice sa4 ns4 sc4)
      have hzs:w5.heap.size<w7.heap.size:=by have:=hf7.size;(try simp at this);omega
      have hS8:Fr0 w5 (((((((w7.setCell ⟨w5.heap.size,0,none⟩ (.int .u8 nx.kind)).setCell ⟨w5.heap.size,1,none⟩ (.int .u8 nx.elem)).setCell ⟨w5.heap.size,2,none⟩ (.int .u64 nx.num)).setCell ⟨w5.heap.size,3,none⟩ (.string (strOf nx.text))).setCell ⟨w5.heap.size,4,none⟩ (.slice na4 nl4 nc4)).setCell ⟨w5.heap.size,5,none⟩ (.slice ka4 nk4 kc4)).setCell ⟨w5.heap.size,6,none⟩ (.slice sa4 ns4 sc4)):=hS7.trans2 h7 (fun b hb e=>by have:=HZ5.out;omega)
      have hx9:=(heap_setCell_same (heap_setCell_same (heap_setCell_same (heap_setCell_same (heap_setCell_same (heap_setCell_same (heap_setCell_same hz7 0 (.int .u8 nx.kind)) 1 (.int .u8 nx.elem)) 2 (.int .u64 nx.num)) 3 (.string (strOf nx.text))) 4 (.slice na4 nl4 nc4)) 5 (.slice ka4 nk4 kc4)) 6 (.slice sa4 ns4 sc4))
      rw [set7_all] at hx9
      clear zx
      refine wpAnyH_ready (rs:=[8]) (by kernel_rfl) (by simp) ?_
      refine AllReadyH.cons rfl (fun K hK=>?_) AllReadyH.nil
      go_simp
      refine hK.out _ _ hS8 (fun _=>?_)
      try simp only [Act.put,zA,zB,zC]
      refine wpAnyH_take (i:=9) (v:=.bool true) rfl (by kernel_rfl) (by kernel_rfl) (by kernel_rfl) (fun _ _ _ h=>h) (Or.inl ⟨by rfl,?_⟩) (by assumption) ?_
      ·intro w' hc
       clear hc
       go_simp
      simp only [Act.put,zA,zB,zC]
      refine wpAnyH_done (by kernel_rfl) ?_ _
      show wpTail _ _ _ _ _ _ _
      refine wpTail_nil ?_
      try simp only [Act.put,zA,zB,zC]
      clear hK K
      clear z0 z1 z2 z3 z4 z5 z6 f0 f1 f2 f3 f4 f5 f6
      have hs9:w5.heap.size<(((((((w7.setCell ⟨w5.heap.size,0,none⟩ (.int .u8 nx.kind)).setCell ⟨w5.heap.size,1,none⟩ (.int .u8 nx.elem)).setCell ⟨w5.heap.size,2,none⟩ (.int .u64 nx.num)).setCell ⟨w5.heap.size,3,none⟩ (.string (strOf nx.text))).setCell ⟨w5.heap.size,4,none⟩ (.slice na4 nl4 nc4)).setCell ⟨w5.heap.size,5,none⟩ (.slice ka4 nk4 kc4)).setCell ⟨w5.heap.size,6,none⟩ (.slice sa4 ns4 sc4)).heap.size:=by simp [World.setCell];omega
      have hv9:VIs (fun b=>((B b∧b<w.heap.size)∨(w.heap.size<b∧b≠w2.heap.size))∨wr.heap.size≤b) (((((((w7.setCell ⟨w5.heap.size,0,none⟩ (.int .u8 nx.kind)).setCell ⟨w5.heap.size,1,none⟩ (.int .u8 nx.elem)).setCell ⟨w5.heap.size,2,none⟩ (.int .u64 nx.num)).setCell ⟨w5.heap.size,3,none⟩ (.string (strOf nx.text))).setCell ⟨w5.heap.size,4,none⟩ (.slice na4 nl4 nc4)).setCell ⟨w5.heap.size,5,none⟩ (.slice ka4 nk4 kc4)).setCell ⟨w5.heap.size,6,none⟩ (.slice sa4 ns4 sc4)) [.int .u8 nx.kind,.int .u8 nx.elem,.int .u64 nx.num,.string (strOf nx.text),.slice na4 nl4 nc4,.slice ka4 nk4 kc4,.slice sa4 ns4 sc4] nx:=by_end HV7.out h7 (by have:=HS6.out;first | omega | (simp;done) | (simp;omega)) (by first | omega | (simp;done) | (simp;omega)) (by have:=HZ5.out;omega)
      have hS9:=hS8
      generalize hw9:(((((((w7.setCell ⟨w5.heap.size,0,none⟩ (.int .u8 nx.kind)).setCell ⟨w5.heap.size,1,none⟩ (.int .u8 nx.elem)).setCell ⟨w5.heap.size,2,none⟩ (.int .u64 nx.num)).setCell ⟨w5.heap.size,3,none⟩ (.string (strOf nx.text))).setCell ⟨w5.heap.size,4,none⟩ (.slice na4 nl4 nc4)).setCell ⟨w5.heap.size,5,none⟩ (.slice ka4 nk4 kc4)).setCell ⟨w5.heap.size,6,none⟩ (.slice sa4 ns4 sc4))=w9 at *
      obtain ⟨Y,hY⟩:∃ Y,Y=w5.heap.size:=⟨_,rfl⟩
      rw [← hY] at hx9 hs9 ⊢
      have HS9:=Hd hS9
      have HX9:=Hd hx9
      have HV9:=Hd hv9
      clear hv9
      clear hw9 hS9 hx9 x0 x1 x2 x3 x4 x5 x6 y0 y1 y2 y3 y4 y5 y6
      have gx:=fun j u (hu:(#[.int .u8 nx.kind,.int .u8 nx.elem,.int .u64 nx.num,.string (strOf nx.text),.slice na4 nl4 nc4,.slice ka4 nk4 kc4,.slice sa4 ns4 sc4]:Array Value)[j]?=some u)=>(cell_of HX9.out j).trans hu
      have g0:=gx 0 _ rfl
      have g1:=gx 1 _ rfl
      have g2:=gx 2 _ rfl
      have g3:=gx 3 _ rfl
      have g4:=gx 4 _ rfl
      have g5:=gx 5 _ rfl
      have g6:=gx 6 _ rfl
      have hout9:=((HF5.out.trans HS9.out).block (w2.heap.size) (by omega) (fun x=>x)).trans HR.out.out
      have ox:=fun j u (hu:(#[.int .u8 acc.kind,.int .u8 acc.elem,.int .u64 acc.num,.string (strOf acc.text),.slice na1 nl1 nc1,.slice ka1 nk1 kc1,.slice sa1 ns1 sc1]:Array Value)[j]?=some u)=>(cell_of hout9 j).trans hu
      have o0:=ox 0 _ rfl
      have o1:=ox 1 _ rfl
      have o2:=ox 2 _ rfl
      have o3:=ox 3 _ rfl
      have o4:=ox 4 _ rfl
      have o5:=ox 5 _ rfl
      have o6:=ox 6 _ rfl
      have f0:=frozen_of hout9 0
      have f1:=frozen_of hout9 1
      have f2:=frozen_of hout9 2
      have f3:=frozen_of hout9 3
      have f4:=frozen_of hout9 4
      have f5:=frozen_of hout9 5
      have f6:=frozen_of hout9 6
      clear gx ox hout9 hY
      have HNXT:=Hd (HR.out.next (HF5.out.trans HS9.out) HV9.out)
      go_wp2_with fail
      go_roundw
      case rel=>exact ⟨i+1,by omega,by go_num,nx,_,HNXT.out,HNX.out,HSN.out⟩
      case measure=>simp [intOf];omega
   ·have him:i=m:=by omega
    have HSOME:=Hd (show merged ks=some acc by rw [HME.out,← HACC.out,List.take_of_length_le (by have:=HK.out.2.1;rw [List.length_map];omega)])
    have hres9:=HR.out.res
    obtain ⟨rc,hrc,hres⟩:=hres9
    have qx:∀ j,j<7→∃ u,wr.cell? ⟨w.heap.size,j,none⟩=some u:=fun j hj=>⟨_,by rw [cell_of hres];exact Array.getElem?_eq_getElem (by omega)⟩
    obtain ⟨u0',q0⟩:=qx 0 (by omega)
    obtain ⟨u1',q1⟩:=qx 1 (by omega)
    obtain ⟨u2',q2⟩:=qx 2 (by omega)
    obtain ⟨u3',q3⟩:=qx 3 (by omega)
    obtain ⟨u4',q4⟩:=qx 4 (by omega)
    obtain ⟨u5',q5⟩:=qx 5 (by omega)
    obtain ⟨u6',q6⟩:=qx 6 (by omega)
    have f0:=frozen_of hres 0
    have f1:=frozen_of hres 1
    have f2:=frozen_of hres 2
    have f3:=frozen_of hres 3
    have f4:=frozen_of hres 4
    have f5:=frozen_of hres 5
    have f6:=frozen_of hres 6
    have HRS:=Hd hres
    have HRC:=Hd hrc
    clear hres qx hrc
    clear him hR
    go_wp2_with fail
    refine bodyPost_ret (results_cell_tmp7 (P:=Tryz.prog) rfl _ _ (w.heap.size) 27 _ _ _ _ _ _ _ _ _ rfl HRC.out HRS.out Tryz.underlying27 rfl infoSVs) rfl ?_
    have h7:=fr_set7 wr (w.heap.size) (.int .u8 acc.kind) (.int .u8 acc.elem) (.int .u64 acc.num) (.string (strOf acc.text)) (.slice na1 nl1 nc1) (.slice ka1 nk1 kc1) (.slice sa1 ns1 sc1)
    refine ⟨HFW.out.trans2 h7 (fun b hb e=>by omega),?_⟩
    rw [HSOME.out]
    refine ⟨[.int .u8 acc.kind,.int .u8 acc.elem,.int .u64 acc.num,.string (strOf acc.text),.slice na1 nl1 nc1,.slice ka1 nk1 kc1,.slice sa1 ns1 sc1],rfl,HR.out.val.fr h7 (fun b hb hbb=>⟨by rcases hbb with h | h;exact .inl h.1;exact .inr (by omega),fun e=>by rcases hbb with h | h <;> omega⟩)⟩
end Go.Proofs.YtcfblkkpclfmaaaGreat
