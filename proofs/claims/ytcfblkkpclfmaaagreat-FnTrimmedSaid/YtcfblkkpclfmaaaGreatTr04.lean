/- Part 4 of the proof of FnTrimmed (ToVal). No condition is laid on the statement. -/
import Derived.Test.YtcfblkkpclfmaaaGreatTr02
import Derived.Test.YtcfblkkpclfmaaaGreatProg
import Derived.Test.YtcfblkkpclfmaaaGreatTr03
import Derived.KernelRfl
import Derived.Deep.RegionHeld3
import Derived.Deep.AppendLies
import Derived.Deep.DrawnRows
import Derived.RegionTactic
import Derived.Lib.Hide
import Derived.IntWalk
import Derived.Deep.CutRange
import Derived.Deep.CutBlock
set_option linter.unusedVariables false
set_option linter.unusedSimpArgs false
namespace Go.Proofs.YtcfblkkpclfmaaaGreat
open Go.RowKit
/-- No list in a value is long. -/
inductive Small:Val→Prop
 | mk (k e n:Nat) (t:List UInt8) (ns:List Nat) (ks:List Val) (ss:List (Slt Val)) (hk:ks.length≤1000) (hs:ss.length≤1000) (hgk:∀ v∈ks,Small v) (hgs:∀ s∈ss,Small s.val):Small (.mk k e n t ns ks ss)
/-- What a function that makes a value gives. -/
def VRes (B:Nat→Prop) (v:Val) (w:World) (e:Ending) (w':World):Prop:=∃ cs,e=.returned (.agg cs.toArray)∧VIs (fun b=>B b∨w.heap.size≤b) w' cs v∧Fr0 w w'
theorem grown_fr' {w w3:World} {r:Option Nat} (hg:w.grownBy w3 r):Fr (fun k=>some k=r) w w3:=⟨hg.os,hg.tape,hg.output,hg.size,fun k hk hn=>hg.block k hk hn⟩
theorem infoIVal:(Tryz.prog.info? 46).map (fun i=>(i.zero,i.size,i.bytes))=some (some (.agg #[.int .u8 0,.int .u8 0,.int .u64 0,.string ⟨#[]⟩,.slice none 0 0,.slice none 0 0,.slice none 0 0]),7,104):=by kernel_rfl
theorem infoSVal:(Tryz.prog.info? 27).map (fun i=>(i.zero,i.size,i.bytes))=some (some (.agg #[.int .u8 0,.int .u8 0,.int .u64 0,.string ⟨#[]⟩,.slice none 0 0,.slice none 0 0,.slice none 0 0]),7,104):=by kernel_rfl
theorem infoISlt:(Tryz.prog.info? 84).map (fun i=>(i.zero,i.size,i.bytes))=some (some (.agg #[.bool false,.int .u8 0,.int .u8 0,.int .u64 0,.string ⟨#[]⟩,.slice none 0 0,.slice none 0 0,.slice none 0 0,.int .u64 0]),9,120):=by kernel_rfl
theorem infoSSlt:(Tryz.prog.info? 54).map (fun i=>(i.zero,i.size,i.bytes))=some (some (.agg #[.bool false,.int .u8 0,.int .u8 0,.int .u64 0,.string ⟨#[]⟩,.slice none 0 0,.slice none 0 0,.slice none 0 0,.int .u64 0]),9,120):=by kernel_rfl
theorem slotC_one {s:Slt Val} {cs:List Value} (h:∀ u∈cs,u.oneCell'=true):∀ u∈slotC s cs,u.oneCell'=true:=by
 intro u hu
 unfold slotC at hu
 rcases List.mem_cons.1 hu with rfl | hu
 ·rfl
 ·rcases List.mem_append.1 hu with hu | hu
  ·exact h u hu
  ·rw [List.mem_singleton.1 hu];rfl
/-- What holds ahead of each round of the first loop: the maker's cells, the row of items so far. -/
structure TV1 (B:Nat→Prop) (w:World) (bx:List Value) (TI TO:TypeId) (k e n:Nat) (t:ByteArray) (nv:Value) (wr:World) (kv:Value) (kits:List (List Value × Val)):Prop where
 fr:Fr0 w wr
 size:w.heap.size+3≤wr.heap.size
 box:wr.heap[w.heap.size]?=some (.cells bx.toArray TI)
 out:wr.heap[w.heap.size+1+1]?=some (.cells #[.int .u8 k,.int .u8 e,.int .u64 n,.string t,nv,kv,.slice none 0 0] TO)
 res:∃ c:Array Value,c.size=7∧wr.heap[w.heap.size+1]?=some (.cells c TO)
 krow:VRow (BI B w.heap.size 3 kv) (w.heap.size+3) TO wr kv kits
def TVR1 (B:Nat→Prop) (w:World) (bx:List Value) (TI TO:TypeId) (k e n:Nat) (t:ByteArray) (nv:Value) (ks:List Val) (wr:World):Prop:=∃ kv kits,TV1 B w bx TI TO k e n t nv wr kv kits∧kits.map (·.2)=ks
/-- The same of the second loop, where c blocks were there when it began. -/
structure TV2 (B:Nat→Prop) (w:World) (bx:List Value) (TI TO TS:TypeId) (k e n:Nat) (t:ByteArray) (nv:Value) (c:Nat) (kv:Value) (kits:List (List Value × Val)) (wr:World) (sv:Value) (sits:List (List Value × Slt Val)):Prop where
 fr:Fr0 w wr
 c3:3≤c
 size:w.heap.size+c≤wr.heap.size
 box:wr.heap[w.heap.size]?=some (.cells bx.toArray TI)
 out:wr.heap[w.heap.size+1+1]?=some (.cells #[.int .u8 k,.int .u8 e,.int .u64 n,.string t,nv,kv,sv] TO)
 res:∃ c:Array Value,c.size=7∧wr.heap[w.heap.size+1]?=some (.cells c TO)
 krow:VRow (fun b=>BI B w.heap.size 3 kv b∧b<w.heap.size+c) (w.heap.size+3) TO wr kv kits
 kin:∀ g,kv.ownBlock=some g→g<w.heap.size+c
 srow:SRow (BI B w.heap.size c sv) (w.heap.size+c) TS wr sv sits
def TVR2 (B:Nat→Prop) (w:World) (bx:List Value) (TI TO TS:TypeId) (k e n:Nat) (t:ByteArray) (nv:Value) (c:Nat) (kv:Value) (kits:List (List Value × Val)) (ss:List (Slt Val)) (wr:World):Prop:=∃ sv sits,TV2 B w bx TI TO TS k e n t nv c kv kits wr sv sits∧sits.map (·.2)=ss
theorem TV1.to2 {B:Nat→Prop} {w:World} {bx:List Value} {TI TO TS:TypeId} {k e n:Nat} {t:ByteArray} {nv:Value} {wr:World} {kv:Value} {kits:List (List Value × Val)} (h:TV1 B w bx TI TO k e n t nv wr kv kits):∃ c,TV2 B w bx TI TO TS k e n t nv c kv kits wr (.slice none 0 0) []:=by
 have hs:=h.size
 refine ⟨wr.heap.size-w.heap.size,h.fr,by omega,by omega,h.box,h.out,h.res,h.krow.fr valP_mono (S:=fun _=>False) (Fr.refl _ _) (fun _ _ x=>x) (fun b hb hbb=>⟨⟨hbb,by omega⟩,fun x=>x⟩),fun g hg=>?_,ItRow.nil _ _ _ _ _ _ _⟩
 have:=(ownBlock_lt h.krow.own g hg).2
 omega
theorem TV1.next {B:Nat→Prop} {w:World} {bx:List Value} {TI TO:TypeId} {k e n n':Nat} {t:ByteArray} {nv:Value} {wr w6 w7:World} {kv:Value} {kits:List (List Value × Val)} {kid:Val} {csr:List Value} {o o':Obj} {g7 cap7:Nat} (h:TV1 B w bx TI TO k e n t nv wr kv kits)
  (hf6:Fr0 (wr.alloc o') w6) (hv6:VIs (fun b=>(B b∧b<w.heap.size)∨(wr.alloc o').heap.size≤b) w6 csr kid) (hgrow:(w6.alloc o).grownBy w7 kv.ownBlock) (hn:n'=kits.length+1)
  (hown7:w7.ownsRow (w.heap.size+3) TO 7 (.slice (some ⟨g7,0,none⟩) n' cap7) n' ((kits.map fun x=>x.1).flatten ++ csr)) (hat7:kv.ownBlock=some g7∨g7=w6.heap.size+1) :
  TV1 B w bx TI TO k e n t nv (w7.setCell ⟨w.heap.size+1+1,5,none⟩ (.slice (some ⟨g7,0,none⟩) n' cap7)) (.slice (some ⟨g7,0,none⟩) n' cap7) (kits ++ [(csr,kid)]):=by
 have hs:=h.size
 have h56:Fr0 wr w6:=((Fr.refl (fun _=>False) wr).alloc o').trans hf6
 have hs6:=h56.size
 have hs7:=hgrow.size
 rw [size_alloc] at hs7
 have hrl:=ownBlock_lt h.krow.own
 have hfr7:Fr (fun b=>some b=kv.ownBlock) wr w7:=((h56.mono (S':=fun b=>some b=kv.ownBlock) (fun _ _ x=>x.elim)).alloc o).trans (grown_fr' hgrow)
 have hkeep:∀ b,b<w.heap.size+3→w7.heap[b]?=wr.heap[b]?:=fun b hb=>hfr7.block b (by omega) (fun e=>by have:=(hrl b e.symm).1;omega)
 have hset:∀ b,b≠w.heap.size+1+1→∀ u,(w7.setCell ⟨w.heap.size+1+1,5,none⟩ u).heap[b]?=w7.heap[b]?:=fun b hb u=>heap_setCell_other w7 _ u b hb
 have hssz:∀ u,(w7.setCell ⟨w.heap.size+1+1,5,none⟩ u).heap.size=w7.heap.size:=fun u=>by simp [World.setCell]
 refine ⟨?_,by rw [hssz];omega,?_,?_,?_,?_⟩
 ·refine (h.fr.trans2 hfr7 (fun b hb e=>?_)).setCell (fun hb=>?_) _
  ·have:=(hrl b e.symm).1;omega
  ·have:w.heap.size+1+1<w.heap.size:=hb
   omega
 ·rw [hset _ (by omega),hkeep _ (by omega)];exact h.box
 ·have h1:w7.heap[w.heap.size+1+1]?=some (.cells #[.int .u8 k,.int .u8 e,.int .u64 n,.string t,nv,kv,.slice none 0 0] TO):=by rw [hkeep _ (by omega)];exact h.out
  exact heap_setCell_same h1 5 _
 ·rw [hset _ (by omega),hkeep _ (by omega)];exact h.res
 ·refine h.krow.snoc valP_mono hs h56 (x:=(csr,kid)) (VIs.mono (Nat.le_refl _) (fun b _ hb=>⟨hb.imp id (fun x=>by rw [size_alloc] at x;omega),rfl⟩) hv6) hgrow hown7 hn hat7 (by omega)
theorem TV2.next {B:Nat→Prop} {w:World} {bx:List Value} {TI TO TS:TypeId} {k e n n' c:Nat} {t:ByteArray} {nv:Value} {wr w6 w7:World} {kv sv:Value} {kits:List (List Value × Val)} {sits:List (List Value × Slt Val)} {sl:Slt Val} {csr:List Value} {o o':Obj} {g7 cap7:Nat} (h:TV2 B w bx TI TO TS k e n t nv c kv kits wr sv sits)
  (hf6:Fr0 (wr.alloc o') w6) (hv6:VIs (fun b=>(B b∧b<w.heap.size)∨(wr.alloc o').heap.size≤b) w6 csr sl.val) (hd:sl.dflt<2 ^ 64) (hgrow:(w6.alloc o).grownBy w7 sv.ownBlock) (hn:n'=sits.length+1)
  (hown7:w7.ownsRow (w.heap.size+c) TS 9 (.slice (some ⟨g7,0,none⟩) n' cap7) n' ((sits.map fun x=>slotC x.2 x.1).flatten ++ slotC sl csr)) (hat7:sv.ownBlock=some g7∨g7=w6.heap.size+1) :
  TV2 B w bx TI TO TS k e n t nv c kv kits (w7.setCell ⟨w.heap.size+1+1,6,none⟩ (.slice (some ⟨g7,0,none⟩) n' cap7)) (.slice (some ⟨g7,0,none⟩) n' cap7) (sits ++ [(csr,sl)]):=by
 have hs:=h.size
 have hc3:=h.c3
 have h56:Fr0 wr w6:=((Fr.refl (fun _=>False) wr).alloc o').trans hf6
 have hs6:=h56.size
 have hs7:=hgrow.size
 rw [size_alloc] at hs7
 have hrl:=ownBlock_lt h.srow.own
 have hfr7:Fr (fun b=>some b=sv.ownBlock) wr w7:=((h56.mono (S':=fun b=>some b=sv.ownBlock) (fun _ _ x=>x.elim)).alloc o).trans (grown_fr' hgrow)
 have hkeep:∀ b,b<w.heap.size+c→w7.heap[b]?=wr.heap[b]?:=fun b hb=>hfr7.block b (by omega) (fun e=>by have:=(hrl b e.symm).1;omega)
 have hset:∀ b,b≠w.heap.size+1+1→∀ u,(w7.setCell ⟨w.heap.size+1+1,6,none⟩ u).heap[b]?=w7.heap[b]?:=fun b hb u=>heap_setCell_other w7 _ u b hb
 have hssz:∀ u,(w7.setCell ⟨w.heap.size+1+1,6,none⟩ u).heap.size=w7.heap.size:=fun u=>by simp [World.setCell]
 have hfr8:∀ u,Fr (fun b=>some b=sv.ownBlock∨b=w.heap.size+1+1) wr (w7.setCell ⟨w.heap.size+1+1,6,none⟩ u):=fun u=>(hfr7.mono (S':=fun b=>some b=sv.ownBlock∨b=w.heap.size+1+1) (fun _ _ x=>.inl x)).setCell (fun _=>.inr rfl) u
 refine ⟨?_,hc3,by rw [hssz];omega,?_,?_,?_,?_,h.kin,?_⟩
 ·refine (h.fr.trans2 hfr7 (fun b hb e=>?_)).setCell (fun hb=>?_) _
  ·have:=(hrl b e.symm).1;omega
  ·have:w.heap.size+1+1<w.heap.size:=hb
   omega
 ·rw [hset _ (by omega),hkeep _ (by omega)];exact h.box
 ·have h1:w7.heap[w.heap.size+1+1]?=some (.cells #[.int .u8 k,.int .u8 e,.int .u64 n,.string t,nv,kv,sv] TO):=by rw [hkeep _ (by omega)];exact h.out
  exact heap_setCell_same h1 6 _
 ·rw [hset _ (by omega),hkeep _ (by omega)];exact h.res
 ·refine h.krow.fr valP_mono (hfr8 _) (fun g hg hx=>?_) (fun b hb hbb=>⟨hbb,fun hx=>?_⟩)
  ·have:=h.kin g hg
   have:=(ownBlock_lt h.krow.own g hg).1
   rcases hx with hx | hx
   ·have:=(hrl g hx.symm).1;omega
   ·omega
  ·obtain ⟨hb1,hb2⟩:=hbb
   rcases hx with hx | hx
   ·have:=(hrl b hx.symm).1;omega
   ·rcases hb1 with hb1 | hb1 <;> omega
 ·refine h.srow.snoc sltP_mono hs h56 (x:=(csr,sl)) ⟨VIs.mono (Nat.le_refl _) (fun b _ hb=>⟨hb.imp id (fun x=>by rw [size_alloc] at x;omega),rfl⟩) hv6,hd⟩ hgrow hown7 hn hat7 (by omega)
theorem infoIVs:(Tryz.prog.info? 46).map (·.size)=some 7:=by kernel_rfl
theorem infoSVs:(Tryz.prog.info? 27).map (·.size)=some 7:=by kernel_rfl
theorem results_row {P:Program} {fn:Func} {p:Tmp} {ty:TypeId} (h:fn.results=#[.cell p ty]) (tmps:Array Value) (w:World) (g:Nat) (t:TypeId) (cs:Array Value) (fr:Nat × Nat) (d:TypeDesc)
  (hp:tmps.getD p undef=.pointer (some ⟨g,0,none⟩)) (hg:w.heap[g]?=some (.cells cs t fr))
  (hu:P.underlying ty=some d) (hd:(match d with | .struct _ | .array _ _=>true | _=>false)=true) (hi:(P.info? ty).map (·.size)=some cs.size) :
  (results fn tmps).run P w=.ok (.agg cs) w:=by
 have e:(results fn tmps).run P w=((asAddr (tmps.getD p undef)).run P w).andThen fun a w₁=>(loadVar ty a).run P w₁:=by
  simp only [results,h]
  simp [Sem.run_bind,Result.andThen]
 rw [e,hp]
 simp [asAddr,run_loadVar_row w g t ty cs fr d hg hu hd hi,Result.andThen]
theorem fr_set7 (w:World) (q:Nat) (x0 x1 x2 x3 x4 x5 x6:Value):Fr (fun b=>b=q) w (((((((w.setCell ⟨q,0,none⟩ x0).setCell ⟨q,1,none⟩ x1).setCell ⟨q,2,none⟩ x2).setCell ⟨q,3,none⟩ x3).setCell ⟨q,4,none⟩ x4).setCell ⟨q,5,none⟩ x5).setCell ⟨q,6,none⟩ x6) :=
 ((((((Fr.set1 w q 0 x0).trans (Fr.set1 _ q 1 x1)).trans (Fr.set1 _ q 2 x2)).trans (Fr.set1 _ q 3 x3)).trans (Fr.set1 _ q 4 x4)).trans (Fr.set1 _ q 5 x5)).trans (Fr.set1 _ q 6 x6)
theorem arr7 {α:Type} {c:Array α} (h:c.size=7):∃ a0 a1 a2 a3 a4 a5 a6,c=#[a0,a1,a2,a3,a4,a5,a6]:=by
 obtain ⟨l⟩:=c
 match l,h with
 | [a0,a1,a2,a3,a4,a5,a6],_=>exact ⟨a0,a1,a2,a3,a4,a5,a6,rfl⟩
theorem TV2.last {B:Nat→Prop} {w w8:World} {bx:List Value} {TI TO TS:TypeId} {k e n c nl:Nat} {t:List UInt8} {T:ByteArray} {na:Option Addr} {nc:Nat} {ns:List Nat} {kv sv:Value} {kits:List (List Value × Val)} {sits:List (List Value × Slt Val)} {ks:List Val} {ss:List (Slt Val)} {wr:World} (h:TV2 B w bx TI TO TS k e n T (.slice na nl nc) c kv kits wr sv sits) (hks:kits.map (·.2)=ks) (hss:sits.map (·.2)=ss) (hT:T=strOf t) (hnl:nl=ns.length) (hnv:NumsIs B w (.slice na nl nc) ns)
  (hk:k<256) (he:e<256) (hn:n<2 ^ 64) (ht:t.length≤maxLen) (hf:Fr (fun b=>b=w.heap.size+1) wr w8) :
  VRes B (.mk k e n t ns ks ss) w (.returned (.agg #[.int .u8 k,.int .u8 e,.int .u64 n,.string T,.slice na nl nc,kv,sv])) w8:=by
 have hs:=h.size
 have hc3:=h.c3
 refine ⟨_,rfl,?_,h.fr.trans2 hf (fun b hb e=>by omega)⟩
 subst hks hss hT
 have hf0:Fr0 w w8:=h.fr.trans2 hf (fun b hb e=>by omega)
 refine VIs.of_rows (Bk:=fun b=>BI B w.heap.size 3 kv b∧b<w.heap.size+c) (Bs:=BI B w.heap.size c sv) (base:=w.heap.size+3) (base':=w.heap.size+c) (T:=TO) (T':=TS) hk he hn ht (hnv.mono hf0.size (fun b hb hbb=>⟨.inl hbb,hf0.block b hb (fun x=>x)⟩)) ?_ ?_ ?_ ?_ ?_
 ·refine h.krow.fr valP_mono hf (fun g hg e=>?_) (fun b hb hbb=>⟨hbb,fun e=>?_⟩)
  ·have:=(ownBlock_lt h.krow.own g hg).1;omega
  ·obtain ⟨hb1,hb2⟩:=hbb
   rcases hb1 with hb1 | hb1 <;> omega
 ·refine h.srow.fr sltP_mono hf (fun g hg e=>?_) (fun b hb hbb=>⟨hbb,fun e=>?_⟩)
  ·have:=(ownBlock_lt h.srow.own g hg).1;omega
  ·rcases hbb with hb1 | hb1 <;> omega
 ·rintro g (hg | hg)
  ·have:=(ownBlock_lt h.krow.own g hg).1;right;omega
  ·have:=(ownBlock_lt h.srow.own g hg).1;right;omega
 ·rintro b _ ⟨hb1,_⟩
  rcases hb1 with hb1 | hb1
  ·exact .inl hb1.1
  ·right;omega
 ·rintro b _ hb1
  rcases hb1 with hb1 | hb1
  ·exact .inl hb1.1
  ·right;omega
set_option maxRecDepth 100000 in
set_option maxHeartbeats 8000000 in
theorem toValue_calls:∀ (v:Val),Small v→∀ (B:Nat→Prop) (cs:List Value) (w:World),VIs B w cs v→Calls Tryz.prog 22 #[.agg cs.toArray] w (VRes B v w):=by
 intro v
 induction v using Val.ind with
 | h k e n t ns ks ss ihk ihs =>
  intro hsm B cs w hv
  cases hv with
  | mk _ _ _ _ _ _ _ nv ka kc kg ko sa sc sg so hk he hn ht hnv hka hkc hks hsa hsc hsd hss =>
   cases hsm with
   | mk _ _ _ _ _ _ _ hks0 hss0 hsk hsss =>
    obtain ⟨i0,hi,hz0,hz1,hz2⟩:=info_parts infoIVal
    obtain ⟨i1,hj,hy0,hy1,hy2⟩:=info_parts infoISlt
    obtain ⟨T,hT⟩:∃ T,T=strOf t:=⟨_,rfl⟩
    rw [← hT]
    have HT:=Hd hT
    have HKA:=Hd hka
    have HKS:=Hd hks
    have HSA:=Hd hsa
    have HSD:=Hd hsd
    have HSS:=Hd hss
    have HNV:=Hd hnv
    have HTL:=Hd ht
    obtain ⟨na,nc,rfl,hnc1,hnc2,hnc3,hnc4⟩:=hnv.ok
    obtain ⟨nl,hnl⟩:∃ nl,nl=ns.length:=⟨_,rfl⟩
    rw [← hnl] at HNV ⊢
    have HNL:=Hd hnl
    clear hnl hnc1 hnc2 hnc3 hnc4 ht
    have IHK:=Hd ihk
    have IHS:=Hd ihs
    have HSK:=Hd hsk
    have HSL:=Hd hsss
    have hmk:kc≤maxLen:=hkc.2
    have hms:sc≤maxLen:=hsc.2
    unfold maxLen at hmk hms
    obtain ⟨nk,hnk⟩:∃ nk,nk=ks.length:=⟨_,rfl⟩
    obtain ⟨nss,hnss⟩:∃ nss,nss=ss.length:=⟨_,rfl⟩
    have hkc1:=hkc.1
    have hsc1:=hsc.1
    rw [← hnk] at hks0 hkc1 ⊢
    rw [← hnss] at hss0 hsc1 ⊢
    have HNK:=Hd hnk
    have HNS:=Hd hnss
    clear hT hka hks hsa hsd hss hnv ihk ihs hsk hsss hkc hsc hnk hnss
    go_enter Tryz.func22,Tryz.ntmps22
    go_wp2_with fail
    have hst:TVR1 B w [.int .u8 k,.int .u8 e,.int .u64 n,.string T,.slice na nl nc,.slice ka nk kc,.slice sa nss sc] 27 46 k e n T (.slice na nl nc) (ks.take 0) (((w.alloc (.cells #[.int .u8 k,.int .u8 e,.int .u64 n,.string T,.slice na nl nc,.slice ka nk kc,.slice sa nss sc] 27)).alloc (.cells #[.int .u8 0,.int .u8 0,.int .u64 0,.string ⟨#[]⟩,.slice none 0 0,.slice none 0 0,.slice none 0 0] 46)).alloc (.cells #[.int .u8 k,.int .u8 e,.int .u64 n,.string T,.slice na nl nc,.slice none 0 0,.slice none 0 0] 46)):=by
     refine ⟨.slice none 0 0,[],⟨(((Fr.refl _ w).alloc _).alloc _).alloc _,by simp,?_,?_,⟨#[.int .u8 0,.int .u8 0,.int .u64 0,.string ⟨#[]⟩,.slice none 0 0,.slice none 0 0,.slice none 0 0],rfl,?_⟩,ItRow.nil _ _ _ _ _ _ _⟩,rfl⟩
     ·simp only [heap_alloc_get,size_alloc];rw [if_neg (by omega),if_neg (by omega),if_pos trivial]
     ·simp only [heap_alloc_get,size_alloc];rw [if_pos trivial]
     ·simp only [heap_alloc_get,size_alloc];rw [if_neg (by omega),if_pos trivial]
    have HST:=Hd hst
    clear hst
    go_loopw [22] (fun iv wr=>∃ i:Nat,i≤nk∧iv=.int .i64 i∧TVR1 B w [.int .u8 k,.int .u8 e,.int .u64 n,.string T,.slice na nl nc,.slice ka nk kc,.slice sa nss sc] 27 46 k e n T (.slice na nl nc) (ks.take i) wr) (fun iv _=>nk-(intOf iv).toNat)
    case atStart=>exact ⟨0,Nat.zero_le _,rfl,HST.out⟩
    case round =>
     obtain ⟨i,hi1,rfl,kv,kits,hR,hkits⟩:=hrel
     have HR:=Hd hR
     have HKI:=Hd hkits
     have hsz:=hR.size
     clear HST
     by_cases hlt:i<nk
     ·have hik:i<ks.length:=by have:=HNK.out;omega
      obtain ⟨rfl,hkg,hBg⟩:=HKA.out (by intro h0;rw [h0] at hik;simp at hik)
      obtain ⟨kid,hkid⟩:∃ kid,kid=ks[i]:=⟨_,rfl⟩
      have hkv:VIs (fun b=>B b∧b<w.heap.size) wr (cellsAt wr kg (ko+i*7) 7) kid:=by
       rw [cellsAt_mono (hR.fr.block kg hkg (fun x=>x)),hkid]
       exact (HKS.out i hik).fr0 hR.fr (fun b hb hbb=>⟨hbb,hb⟩)
      obtain ⟨na1,nl1,nc1,ka1,nk1,kc1,sa1,ns1,sc1,hlit,c0,c1,c2,c3,c4,c5,c6⟩:=hkv.at
      have HLIT:=Hd hlit
      have HMEM:=Hd (show kid∈ks by rw [hkid];exact List.getElem_mem hik)
      have HKD:=Hd hkid
      have cO:wr.cell? ⟨w.heap.size+1+1,5,none⟩=some kv:=by rw [cell_of hR.out];rfl
      have fO:wr.frozen? ⟨w.heap.size+1+1,5,none⟩=false:=frozen_of hR.out 5
      have hlen:kits.length=i:=by have:=congrArg List.length hkits;rw [List.length_map,List.length_take] at this;omega
      have hown0:=hR.krow.own
      rw [hlen] at hown0
      have HLEN:=Hd hlen
      have HOWN:=Hd hown0
      have HRB:=Hd (fun (b:Nat) (hb:b<w.heap.size+3∨wr.heap.size≤b) (e:some b=kv.ownBlock)=>(by have:=ownBlock_lt hown0 b e.symm;omega:False))
      clear hlit hkid hlen hown0 hkv hkits hR
      go_upto_region 5 with fail
      have d0:∀ j u,[.int .u8 kid.kind,.int .u8 kid.elem,.int .u64 kid.num,.string (strOf kid.text),.slice na1 nl1 nc1,.slice ka1 nk1 kc1,.slice sa1 ns1 sc1][j]?=some u→(wr.alloc (.cells #[.int .u8 kid.kind,.int .u8 kid.elem,.int .u64 kid.num,.string (strOf kid.text),.slice na1 nl1 nc1,.slice ka1 nk1 kc1,.slice sa1 ns1 sc1] 27)).cell? ⟨wr.heap.size,j,none⟩=some u:=by
       intro j u hu
       rw [cell_of (heap_alloc_new wr _)]
       simpa using hu
      have dO:=keep_alloc (.cells #[.int .u8 kid.kind,.int .u8 kid.elem,.int .u64 kid.num,.string (strOf kid.text),.slice na1 nl1 nc1,.slice ka1 nk1 kc1,.slice sa1 ns1 sc1] 27) cO
      have gO:=keep_allocF (.cells #[.int .u8 kid.kind,.int .u8 kid.elem,.int .u64 kid.num,.string (strOf kid.text),.slice na1 nl1 nc1,.slice ka1 nk1 kc1,.slice sa1 ns1 sc1] 27) cO fO
      have dd0:=d0 0 _ rfl
      have dd1:=d0 1 _ rfl
      have dd2:=d0 2 _ rfl
      have dd3:=d0 3 _ rfl
      have dd4:=d0 4 _ rfl
      have dd5:=d0 5 _ rfl
      have dd6:=d0 6 _ rfl
      have HFA:=Hd (((Fr.refl (fun _=>False) wr).alloc (.cells #[.int .u8 kid.kind,.int .u8 kid.elem,.int .u64 kid.num,.string (strOf kid.text),.slice na1 nl1 nc1,.slice ka1 nk1 kc1,.slice sa1 ns1 sc1] 27)))
      have HS5:=Hd (show (wr.alloc (.cells #[.int .u8 kid.kind,.int .u8 kid.elem,.int .u64 kid.num,.string (strOf kid.text),.slice na1 nl1 nc1,.slice ka1 nk1 kc1,.slice sa1 ns1 sc1] 27)).heap.size=wr.heap.size+1 by simp)
      have HOW:=Hd (HOWN.out.alloc (.cells #[.int .u8 kid.kind,.int .u8 kid.elem,.int .u64 kid.num,.string (strOf kid.text),.slice na1 nl1 nc1,.slice ka1 nk1 kc1,.slice sa1 ns1 sc1] 27))
      clear d0 c0 c1 c2 c3 c4 c5 c6 cO fO
      generalize hw5:wr.alloc (.cells #[.int .u8 kid.kind,.int .u8 kid.elem,.int .u64 kid.num,.string (strOf kid.text),.slice na1 nl1 nc1,.slice ka1 nk1 kc1,.slice sa1 ns1 sc1] 27)=w5 at *
      have HW:=Hd hw5
      clear hw5
      have hlt5:wr.heap.size<w5.heap.size:=by have:=HS5.out;omega
      refine wp_region_tail_held 6 (S:=(fun w'=>Fr (fun b=>some b=kv.ownBlock) w5 w')) _ (by kernel_rfl) (by kernel_rfl) (by kernel_rfl) ((Fr.refl _ w5).drew) (fun hHeld=>?_)
      simp only [List.take_succ_cons,List.take_zero,List.drop_succ_cons,List.drop_zero,List.length_cons,List.length_nil,Nat.zero_add,Nat.reduceAdd]
      refine wpAnyH_take (i:=0) (v:=.pointer (some ⟨w.heap.size+1+1,5,none⟩)) rfl (by kernel_rfl) (by kernel_rfl) (by kernel_rfl) (fun _ _ _ h=>h) (Or.inl ⟨by rfl,?_⟩) (by assumption) ?_
      ·intro w' hc
       clear hc
       go_simp
      simp only [Act.put,zA,zB,zC]
      refine wpAnyH_take (i:=1) (v:=kv) rfl (by kernel_rfl) (by kernel_rfl) (by kernel_rfl) (fun _ _ _ h=>h) (Or.inl ⟨by rfl,?_⟩) (by assumption) ?_
      ·intro w' hc
       have a1:=keep_fr hc dO (HRB.out _ (by omega))
       clear hc
       go_simp
      simp only [Act.put,zA,zB,zC]
      refine wpAnyH_take (i:=2) (v:=.agg #[.int .u8 kid.kind,.int .u8 kid.elem,.int .u64 kid.num,.string (strOf kid.text),.slice na1 nl1 nc1,.slice ka1 nk1 kc1,.slice sa1 ns1 sc1]) rfl (by kernel_rfl) (by kernel_rfl) (by kernel_rfl) (fun _ _ _ h=>h) (Or.inl ⟨by rfl,?_⟩) (by assumption) ?_
      ·intro w' hc
       have a0:=keep_fr hc dd0 (HRB.out _ (by omega))
       have a1:=keep_fr hc dd1 (HRB.out _ (by omega))
       have a2:=keep_fr hc dd2 (HRB.out _ (by omega))
       have a3:=keep_fr hc dd3 (HRB.out _ (by omega))
       have a4:=keep_fr hc dd4 (HRB.out _ (by omega))
       have a5:=keep_fr hc dd5 (HRB.out _ (by omega))
       have a6:=keep_fr hc dd6 (HRB.out _ (by omega))
       clear hc
       go_simp
      simp only [Act.put,zA,zB,zC]
      refine wpAnyH_ready (rs:=[3]) (by kernel_rfl) (by simp) ?_
      refine AllReadyH.cons rfl (fun K hK=>?_) AllReadyH.nil
      go_simp
      refine (IHK.out kid HMEM.out (HSK.out kid HMEM.out) (fun b=>B b∧b<w.heap.size) [.int .u8 kid.kind,.int .u8 kid.elem,.int .u64 kid.num,.string (strOf kid.text),.slice na1 nl1 nc1,.slice ka1 nk1 kc1,.slice sa1 ns1 sc1] _ ((HLIT.out.fr0 HFA.out (fun _ _ x=>x)).fr0 ((Fr.refl _ w5).drew) (fun _ _ x=>x))).mono ?_
      rintro e6 w6 ⟨csr,rfl,hv6,hf6⟩
      have HV6:=Hd hv6
      have hone:=hv6.one
      obtain ⟨na6,nl6,nc6,ka6,nk6,kc6,sa6,ns6,sc6,rfl⟩:=hv6.lit
      have HON:=Hd hone
      have hf6:=hf6.fromDrew
      have HF6:=Hd hf6
      have hS6:Fr (fun b=>some b=kv.ownBlock) w5 w6:=hf6.mono (fun _ _ x=>x.elim)
      clear hv6 hone hf6
      refine hK.out _ _ hS6 (fun _=>?_)
      try simp only [Act.put,zA,zB,zC]
      refine wpAnyH_ready (rs:=[4]) (by kernel_rfl) (by simp) ?_
      refine AllReadyH.cons rfl (fun K hK=>?_) AllReadyH.nil
      go_simp
      have hS7:=hS6.alloc (.cells #[.int .u8 kid.kind,.int .u8 kid.elem,.int .u64 kid.num,.string (strOf kid.text),.slice na6 nl6 nc6,.slice ka6 nk6 kc6,.slice sa6 ns6 sc6] 46)
      refine hK.out _ _ hS7 (fun _=>?_)
      try simp only [Act.put,zA,zB,zC]
      refine wpAnyH_ready (rs:=[5]) (by kernel_rfl) (by simp) ?_
      refine AllReadyH.cons rfl (fun K hK=>?_) AllReadyH.nil
      refine step_append_lies _ (by rfl) _ _ _ (by rfl) (w.heap.size+3) 46 i0 _ 7 104 Tryz.underlying43 hi hz0 hz1 hz2 rfl (by decide) kv i (kits.map fun x=>x.1).flatten (by rfl) ((ownFr HOW.out HF6.out (fun _ _ x=>x)).alloc _) ⟨w6.heap.size,0,none⟩ 1 1 [.int .u8 kid.kind,.int .u8 kid.elem,.int .u64 kid.num,.string (strOf kid.text),.slice na6 nl6 nc6,.slice ka6 nk6 kc6,.slice sa6 ns6 sc6] (by rfl) (by rfl) (newsL _ _ _ _ rfl) HON.out (by omega) (by unfold maxLen;omega) (by omega) (by have:=HF6.out.size;simp;omega) (w6.heap.size+1) (by simp) ?_
      intro g7 cap7 w7 hown7 hgrow7 hat7 hlt7
      have hS8:=hS7.trans (grown_fr' hgrow7)
      have s1:=keep_fr hS8 dO (HRB.out _ (by omega))
      have s2:=keep_frF hS8 dO gO (HRB.out _ (by omega))
      have HG7:=Hd hgrow7
      have HO7:=Hd hown7
      have HA7:=Hd hat7
      refine hK.out _ _ hS8 (fun _=>?_)
      try simp only [Act.put,zA,zB,zC]
      clear hgrow7 hown7 hat7 hS6 hS7 dd0 dd1 dd2 dd3 dd4 dd5 dd6 dO gO
      refine wpAnyH_done (by kernel_rfl) ?_ _
      show wpTail _ _ _ _ _ _ _
      refine wpTail_step (by rfl) (fun K hK=>?_)
      go_simp
      refine hK _ _ ?_
      refine wpTail_step (by rfl) (fun K hK=>?_)
      go_simp
      refine hK _ _ ?_
      refine wpTail_nil ?_
      clear hK K
      have hnext:TVR1 B w [.int .u8 k,.int .u8 e,.int .u64 n,.string T,.slice na nl nc,.slice (some ⟨kg,ko,none⟩) nk kc,.slice sa nss sc] 27 46 k e n T (.slice na nl nc) (ks.take (i+1)) (w7.setCell ⟨w.heap.size+1+1,5,none⟩ (.slice (some ⟨g7,0,none⟩) (i+1) cap7)):=by
       have hw5:=HW.out
       have hf6:=HF6.out
       have hv6:=HV6.out
       rw [← hw5] at hf6
       refine ⟨_,_,HR.out.next (o':=.cells #[.int .u8 kid.kind,.int .u8 kid.elem,.int .u64 kid.num,.string (strOf kid.text),.slice na1 nl1 nc1,.slice ka1 nk1 kc1,.slice sa1 ns1 sc1] 27) hf6 (VIs.mono (Nat.le_refl _) (fun b _ hb=>⟨by rw [hw5];exact hb,rfl⟩) hv6) HG7.out (by rw [HLEN.out]) HO7.out HA7.out,?_⟩
       have hik:i<ks.length:=by have:=HNK.out;omega
       rw [List.map_append,HKI.out,List.take_succ_eq_append_getElem hik,← HKD.out];rfl
      have HNX:=Hd hnext
      clear hnext s1 s2 hS8
      go_wp2_with fail
      go_roundw
      case rel=>exact ⟨i+1,by omega,by go_num,HNX.out⟩
      case measure=>simp [intOf];omega
     ·have hie:i=nk:=by omega
      have hkall:ks.take i=ks:=by rw [hie,HNK.out,List.take_length]
      rw [hkall] at hkits
      obtain ⟨c,hT2⟩:=hR.to2 (TS:=84)
      have HT2:=Hd (show TVR2 B w [.int .u8 k,.int .u8 e,.int .u64 n,.string T,.slice na nl nc,.slice ka nk kc,.slice sa nss sc] 27 46 84 k e n T (.slice na nl nc) c kv kits (ss.take 0) wr from ⟨_,_,hT2,rfl⟩)
      have HKT:=Hd hkits
      have bx6:wr.cell? ⟨w.heap.size,6,none⟩=some (.slice sa nss sc):=by rw [cell_of hR.box];rfl
      clear hkall hkits hT2 hR HKI HR
      go_wp2_with fail
      go_loopw [37] (fun iv w2=>∃ i:Nat,i≤nss∧iv=.int .i64 i∧TVR2 B w [.int .u8 k,.int .u8 e,.int .u64 n,.string T,.slice na nl nc,.slice ka nk kc,.slice sa nss sc] 27 46 84 k e n T (.slice na nl nc) c kv kits (ss.take i) w2) (fun iv _=>nss-(intOf iv).toNat)
      case atStart=>exact ⟨0,Nat.zero_le _,rfl,HT2.out⟩
      case round =>
       obtain ⟨i2,hi2,rfl,sv,sits,hR,hsits⟩:=hrel
       have HR:=Hd hR
       have HSI:=Hd hsits
       have hsz2:=hR.size
       have hc3:=hR.c3
       clear HT2 bx6
       by_cases hlt2:i2<nss
       ·have hik:i2<ss.length:=by have:=HNS.out;omega
        obtain ⟨rfl,hsg,hBg⟩:=HSA.out (by intro h0;rw [h0] at hik;simp at hik)
        obtain ⟨sl,hsl⟩:∃ sl,sl=ss[i2]:=⟨_,rfl⟩
        obtain ⟨kid,hkid⟩:∃ kid,kid=sl.val:=⟨_,rfl⟩
        have hkv:VIs (fun b=>B b∧b<w.heap.size) wr (cellsAt wr sg (so+i2*9+1) 7) kid:=by
         rw [cellsAt_mono (hR.fr.block sg hsg (fun x=>x)),hkid,hsl]
         exact (HSS.out i2 hik).fr0 hR.fr (fun b hb hbb=>⟨hbb,hb⟩)
        obtain ⟨na1,nl1,nc1,ka1,nk1,kc1,sa1,ns1,sc1,hlit,c1,c2,c3,c4,c5,c6,c7⟩:=hkv.at
        have c0:wr.cell? ⟨sg,so+i2*9,none⟩=some (.bool sl.has):=(keep_fr hR.fr (HSD.out i2 hik).1 (fun x=>x)).trans (by rw [hsl])
        have c8:wr.cell? ⟨sg,so+i2*9+8,none⟩=some (.int .u64 sl.dflt):=(keep_fr hR.fr (HSD.out i2 hik).2.1 (fun x=>x)).trans (by rw [hsl])
        have c2:wr.cell? ⟨sg,so+i2*9+2,none⟩=some (.int .u8 kid.elem):=c2
        have c3:wr.cell? ⟨sg,so+i2*9+3,none⟩=some (.int .u64 kid.num):=c3
        have c4:wr.cell? ⟨sg,so+i2*9+4,none⟩=some (.string (strOf kid.text)):=c4
        have c5:wr.cell? ⟨sg,so+i2*9+5,none⟩=some (.slice na1 nl1 nc1):=c5
        have c6:wr.cell? ⟨sg,so+i2*9+6,none⟩=some (.slice ka1 nk1 kc1):=c6
        have c7:wr.cell? ⟨sg,so+i2*9+7,none⟩=some (.slice sa1 ns1 sc1):=c7
        have HSLD:=Hd (show sl.dflt<2 ^ 64 by rw [hsl];exact (HSD.out i2 hik).2.2)
        have HLIT:=Hd hlit
        have HMEM:=Hd (show sl∈ss by rw [hsl];exact List.getElem_mem hik)
        have HSLE:=Hd hsl
        have HKD:=Hd hkid
        have cO:wr.cell? ⟨w.heap.size+1+1,6,none⟩=some sv:=by rw [cell_of hR.out];rfl
        have fO:wr.frozen? ⟨w.heap.size+1+1,6,none⟩=false:=frozen_of hR.out 6
        have hlen:sits.length=i2:=by have:=congrArg List.length hsits;rw [List.length_map,List.length_take] at this;omega
        have hown0:=hR.srow.own
        rw [hlen] at hown0
        have HLEN:=Hd hlen
        have HOWN:=Hd hown0
        have HRB:=Hd (fun (b:Nat) (hb:b<w.heap.size+c∨wr.heap.size≤b) (e:some b=sv.ownBlock)=>(by have:=ownBlock_lt hown0 b e.symm;omega:False))
        clear hlit hkid hsl hlen hown0 hkv hsits hR
        go_upto_region 10 with fail
        have d0:∀ j u,[.bool sl.has,.int .u8 kid.kind,.int .u8 kid.elem,.int .u64 kid.num,.string (strOf kid.text),.slice na1 nl1 nc1,.slice ka1 nk1 kc1,.slice sa1 ns1 sc1,.int .u64 sl.dflt][j]?=some u→(wr.alloc (.cells #[.bool sl.has,.int .u8 kid.kind,.int .u8 kid.elem,.int .u64 kid.num,.string (strOf kid.text),.slice na1 nl1 nc1,.slice ka1 nk1 kc1,.slice sa1 ns1 sc1,.int .u64 sl.dflt] 54)).cell? ⟨wr.heap.size,j,none⟩=some u:=by
         intro j u hu
         rw [cell_of (heap_alloc_new wr _)]
         simpa using hu
        have dO:=keep_alloc (.cells #[.bool sl.has,.int .u8 kid.kind,.int .u8 kid.elem,.int .u64 kid.num,.string (strOf kid.text),.slice na1 nl1 nc1,.slice ka1 nk1 kc1,.slice sa1 ns1 sc1,.int .u64 sl.dflt] 54) cO
        have gO:=keep_allocF (.cells #[.bool sl.has,.int .u8 kid.kind,.int .u8 kid.elem,.int .u64 kid.num,.string (strOf kid.text),.slice na1 nl1 nc1,.slice ka1 nk1 kc1,.slice sa1 ns1 sc1,.int .u64 sl.dflt] 54) cO fO
        have dd0:=d0 0 _ rfl
        have dd1:=d0 1 _ rfl
        have dd2:=d0 2 _ rfl
        have dd3:=d0 3 _ rfl
        have dd4:=d0 4 _ rfl
        have dd5:=d0 5 _ rfl
        have dd6:=d0 6 _ rfl
        have dd7:=d0 7 _ rfl
        have dd8:=d0 8 _ rfl
        have HFA:=Hd (((Fr.refl (fun _=>False) wr).alloc (.cells #[.bool sl.has,.int .u8 kid.kind,.int .u8 kid.elem,.int .u64 kid.num,.string (strOf kid.text),.slice na1 nl1 nc1,.slice ka1 nk1 kc1,.slice sa1 ns1 sc1,.int .u64 sl.dflt] 54)))
        have HS5:=Hd (show (wr.alloc (.cells #[.bool sl.has,.int .u8 kid.kind,.int .u8 kid.elem,.int .u64 kid.num,.string (strOf kid.text),.slice na1 nl1 nc1,.slice ka1 nk1 kc1,.slice sa1 ns1 sc1,.int .u64 sl.dflt] 54)).heap.size=wr.heap.size+1 by simp)
        have HOW:=Hd (HOWN.out.alloc (.cells #[.bool sl.has,.int .u8 kid.kind,.int .u8 kid.elem,.int .u64 kid.num,.string (strOf kid.text),.slice na1 nl1 nc1,.slice ka1 nk1 kc1,.slice sa1 ns1 sc1,.int .u64 sl.dflt] 54))
        clear d0 c0 c1 c2 c3 c4 c5 c6 c7 c8 cO fO
        generalize hw5:wr.alloc (.cells #[.bool sl.has,.int .u8 kid.kind,.int .u8 kid.elem,.int .u64 kid.num,.string (strOf kid.text),.slice na1 nl1 nc1,.slice ka1 nk1 kc1,.slice sa1 ns1 sc1,.int .u64 sl.dflt] 54)=w5 at *
        have HW:=Hd hw5
        clear hw5
        have hlt5:wr.heap.size<w5.heap.size:=by have:=HS5.out;omega
        have HCL:=Hd (fun (w':World) (hf:Fr0 w5 w')=>(by
         have h0:=IHS.out sl HMEM.out (HSL.out sl HMEM.out) (fun b=>B b∧b<w.heap.size) [.int .u8 kid.kind,.int .u8 kid.elem,.int .u64 kid.num,.string (strOf kid.text),.slice na1 nl1 nc1,.slice ka1 nk1 kc1,.slice sa1 ns1 sc1] w'
         rw [← HKD.out] at h0
         exact h0 ((HLIT.out.fr0 HFA.out (fun _ _ x=>x)).fr0 hf (fun _ _ x=>x)):Calls Tryz.prog 22 #[.agg #[.int .u8 kid.kind,.int .u8 kid.elem,.int .u64 kid.num,.string (strOf kid.text),.slice na1 nl1 nc1,.slice ka1 nk1 kc1,.slice sa1 ns1 sc1]] w' (VRes (fun b=>B b∧b<w.heap.size) kid w')))
        refine wp_region_tail_held 12 (S:=(fun w'=>Fr (fun b=>some b=sv.ownBlock) w5 w')) _ (by kernel_rfl) (by kernel_rfl) (by kernel_rfl) ((Fr.refl _ w5).drew) (fun hHeld=>?_)
        simp only [List.take_succ_cons,List.take_zero,List.drop_succ_cons,List.drop_zero,List.length_cons,List.length_nil,Nat.zero_add,Nat.reduceAdd]
        refine wpAnyH_take (i:=0) (v:=.pointer (some ⟨w.heap.size+1+1,6,none⟩)) rfl (by kernel_rfl) (by kernel_rfl) (by kernel_rfl) (fun _ _ _ h=>h) (Or.inl ⟨by rfl,?_⟩) (by assumption) ?_
        ·intro w' hc
         clear hc
         go_simp
        simp only [Act.put,zA,zB,zC]
        refine wpAnyH_take (i:=1) (v:=sv) rfl (by kernel_rfl) (by kernel_rfl) (by kernel_rfl) (fun _ _ _ h=>h) (Or.inl ⟨by rfl,?_⟩) (by assumption) ?_
        ·intro w' hc
         have a1:=keep_fr hc dO (HRB.out _ (by omega))
         clear hc
         go_simp
        simp only [Act.put,zA,zB,zC]
        refine wpAnyH_take (i:=2) (v:=.pointer (some ⟨wr.heap.size,0,none⟩)) rfl (by kernel_rfl) (by kernel_rfl) (by kernel_rfl) (fun _ _ _ h=>h) (Or.inl ⟨by rfl,?_⟩) (by assumption) ?_
        ·intro w' hc
         clear hc
         go_simp
        simp only [Act.put,zA,zB,zC]
        refine wpAnyH_take (i:=3) (v:=.bool sl.has) rfl (by kernel_rfl) (by kernel_rfl) (by kernel_rfl) (fun _ _ _ h=>h) (Or.inl ⟨by rfl,?_⟩) (by assumption) ?_
        ·intro w' hc
         have a0:=keep_fr hc dd0 (HRB.out _ (by omega))
         clear hc
         go_simp
        simp only [Act.put,zA,zB,zC]
        refine wpAnyH_take (i:=4) (v:=.pointer (some ⟨wr.heap.size,1,none⟩)) rfl (by kernel_rfl) (by kernel_rfl) (by kernel_rfl) (fun _ _ _ h=>h) (Or.inl ⟨by rfl,?_⟩) (by assumption) ?_
        ·intro w' hc
         clear hc
         go_simp
        simp only [Act.put,zA,zB,zC]
        refine wpAnyH_take (i:=5) (v:=.agg #[.int .u8 kid.kind,.int .u8 kid.elem,.int .u64 kid.num,.string (strOf kid.text),.slice na1 nl1 nc1,.slice ka1 nk1 kc1,.slice sa1 ns1 sc1]) rfl (by kernel_rfl) (by kernel_rfl) (by kernel_rfl) (fun _ _ _ h=>h) (Or.inl ⟨by rfl,?_⟩) (by assumption) ?_
        ·intro w' hc
         have a1:=keep_fr hc dd1 (HRB.out _ (by omega))
         have a2:=keep_fr hc dd2 (HRB.out _ (by omega))
         have a3:=keep_fr hc dd3 (HRB.out _ (by omega))
         have a4:=keep_fr hc dd4 (HRB.out _ (by omega))
         have a5:=keep_fr hc dd5 (HRB.out _ (by omega))
         have a6:=keep_fr hc dd6 (HRB.out _ (by omega))
         have a7:=keep_fr hc dd7 (HRB.out _ (by omega))
         clear hc
         go_simp
        simp only [Act.put,zA,zB,zC]
        refine wpAnyH_take (i:=7) (v:=.pointer (some ⟨wr.heap.size,8,none⟩)) rfl (by kernel_rfl) (by kernel_rfl) (by kernel_rfl) (fun _ _ _ h=>h) (Or.inl ⟨by rfl,?_⟩) (by assumption) ?_
        ·intro w' hc
         clear hc
         go_simp
        simp only [Act.put,zA,zB,zC]
        refine wpAnyH_take (i:=8) (v:=.int .u64 sl.dflt) rfl (by kernel_rfl) (by kernel_rfl) (by kernel_rfl) (fun _ _ _ h=>h) (Or.inl ⟨by rfl,?_⟩) (by assumption) ?_
        ·intro w' hc
         have a0:=keep_fr hc dd8 (HRB.out _ (by omega))
         clear hc
         go_simp
        simp only [Act.put,zA,zB,zC]
        refine wpAnyH_ready (rs:=[6]) (by kernel_rfl) (by simp) ?_
        refine AllReadyH.cons rfl (fun K hK=>?_) AllReadyH.nil
        go_simp
        refine (HCL.out _ ((Fr.refl _ w5).drew)).mono ?_
        rintro e6 w6 ⟨csr,rfl,hv6,hf6⟩
        have HV6:=Hd hv6
        have hone:=hv6.one
        obtain ⟨na6,nl6,nc6,ka6,nk6,kc6,sa6,ns6,sc6,rfl⟩:=hv6.lit
        have HON:=Hd hone
        have hf6:=hf6.fromDrew
        have HF6:=Hd hf6
        have hS6:Fr (fun b=>some b=sv.ownBlock) w5 w6:=hf6.mono (fun _ _ x=>x.elim)
        clear hv6 hone hf6
        refine hK.out _ _ hS6 (fun _=>?_)
        try simp only [Act.put,zA,zB,zC]
        refine wpAnyH_take (i:=9) (v:=.agg #[.bool sl.has,.int .u8 kid.kind,.int .u8 kid.elem,.int .u64 kid.num,.string (strOf kid.text),.slice na6 nl6 nc6,.slice ka6 nk6 kc6,.slice sa6 ns6 sc6,.int .u64 sl.dflt]) rfl (by kernel_rfl) (by kernel_rfl) (by kernel_rfl) (fun _ _ _ h=>h) (Or.inl ⟨by rfl,?_⟩) (by assumption) ?_
        ·intro w' hc
         clear hc
         go_simp
        simp only [Act.put,zA,zB,zC]
        refine wpAnyH_ready (rs:=[10]) (by kernel_rfl) (by simp) ?_
        refine AllReadyH.cons rfl (fun K hK=>?_) AllReadyH.nil
        go_simp
        have hS7:=hS6.alloc (.cells #[.bool sl.has,.int .u8 kid.kind,.int .u8 kid.elem,.int .u64 kid.num,.string (strOf kid.text),.slice na6 nl6 nc6,.slice ka6 nk6 kc6,.slice sa6 ns6 sc6,.int .u64 sl.dflt] 84)
        refine hK.out _ _ hS7 (fun _=>?_)
        try simp only [Act.put,zA,zB,zC]
        refine wpAnyH_ready (rs:=[11]) (by kernel_rfl) (by simp) ?_
        refine AllReadyH.cons rfl (fun K hK=>?_) AllReadyH.nil
        refine step_append_lies _ (by rfl) _ _ _ (by rfl) (w.heap.size+c) 84 i1 _ 9 120 Tryz.underlying44 hj hy0 hy1 hy2 rfl (by decide) sv i2 (sits.map fun x=>slotC x.2 x.1).flatten (by rfl) ((ownFr HOW.out HF6.out (fun _ _ x=>x)).alloc _) ⟨w6.heap.size,0,none⟩ 1 1 (slotC sl [.int .u8 kid.kind,.int .u8 kid.elem,.int .u64 kid.num,.string (strOf kid.text),.slice na6 nl6 nc6,.slice ka6 nk6 kc6,.slice sa6 ns6 sc6]) (by rfl) (by rfl) (newsL _ _ _ _ rfl) (slotC_one HON.out) (by omega) (by unfold maxLen;omega) (by omega) (by have:=HF6.out.size;simp;omega) (w6.heap.size+1) (by simp) ?_
        intro g7 cap7 w7 hown7 hgrow7 hat7 hlt7
        have hS8:=hS7.trans (grown_fr' hgrow7)
        have s1:=keep_fr hS8 dO (HRB.out _ (by omega))
        have s2:=keep_frF hS8 dO gO (HRB.out _ (by omega))
        have HG7:=Hd hgrow7
        have HO7:=Hd hown7
        have HA7:=Hd hat7
        refine hK.out _ _ hS8 (fun _=>?_)
        try simp only [Act.put,zA,zB,zC]
        clear hgrow7 hown7 hat7 hS6 hS7 dd0 dd1 dd2 dd3 dd4 dd5 dd6 dd7 dd8 dO gO
        refine wpAnyH_done (by kernel_rfl) ?_ _
        show wpTail _ _ _ _ _ _ _
        refine wpTail_step (by rfl) (fun K hK=>?_)
        go_simp
        refine hK _ _ ?_
        refine wpTail_step (by rfl) (fun K hK=>?_)
        go_simp
        refine hK _ _ ?_
        refine wpTail_nil ?_
        clear hK K
        have hnext:TVR2 B w [.int .u8 k,.int .u8 e,.int .u64 n,.string T,.slice na nl nc,.slice ka nk kc,.slice (some ⟨sg,so,none⟩) nss sc] 27 46 84 k e n T (.slice na nl nc) c kv kits (ss.take (i2+1)) (w7.setCell ⟨w.heap.size+1+1,6,none⟩ (.slice (some ⟨g7,0,none⟩) (i2+1) cap7)):=by
         have hw5:=HW.out
         have hf6:=HF6.out
         have hv6:=HV6.out
         rw [← hw5] at hf6
         rw [HKD.out] at hv6
         refine ⟨_,_,HR.out.next (sl:=sl) (o':=.cells #[.bool sl.has,.int .u8 kid.kind,.int .u8 kid.elem,.int .u64 kid.num,.string (strOf kid.text),.slice na1 nl1 nc1,.slice ka1 nk1 kc1,.slice sa1 ns1 sc1,.int .u64 sl.dflt] 54) hf6 (VIs.mono (Nat.le_refl _) (fun b _ hb=>⟨by rw [hw5];exact hb,rfl⟩) hv6) HSLD.out HG7.out (by rw [HLEN.out]) (by rw [← HKD.out];exact HO7.out) HA7.out,?_⟩
         have hik:i2<ss.length:=by have:=HNS.out;omega
         rw [List.map_append,HSI.out,List.take_succ_eq_append_getElem hik,← HSLE.out];rfl
        have HNX:=Hd hnext
        clear hnext s1 s2 hS8
        go_wp2_with fail
        go_roundw
        case rel=>exact ⟨i2+1,by omega,by go_num,HNX.out⟩
        case measure=>simp [intOf];omega
       ·have hie2:i2=nss:=by omega
        have hsall:ss.take i2=ss:=by rw [hie2,HNS.out,List.take_length]
        rw [hsall] at hsits
        have HSF:=Hd hsits
        have o0:wr.cell? ⟨w.heap.size+1+1,0,none⟩=some (.int .u8 k):=by rw [cell_of hR.out];rfl
        have o1:wr.cell? ⟨w.heap.size+1+1,1,none⟩=some (.int .u8 e):=by rw [cell_of hR.out];rfl
        have o2:wr.cell? ⟨w.heap.size+1+1,2,none⟩=some (.int .u64 n):=by rw [cell_of hR.out];rfl
        have o3:wr.cell? ⟨w.heap.size+1+1,3,none⟩=some (.string T):=by rw [cell_of hR.out];rfl
        have o4:wr.cell? ⟨w.heap.size+1+1,4,none⟩=some (.slice na nl nc):=by rw [cell_of hR.out];rfl
        have o5:wr.cell? ⟨w.heap.size+1+1,5,none⟩=some kv:=by rw [cell_of hR.out];rfl
        have o6:wr.cell? ⟨w.heap.size+1+1,6,none⟩=some sv:=by rw [cell_of hR.out];rfl
        obtain ⟨ak,bk,gk,rfl,_⟩:=own_form hR.krow.own
        obtain ⟨ask,bsk,gsk,rfl,_⟩:=own_form hR.srow.own
        obtain ⟨rc,hrc,hres⟩:=hR.res
        have q:∀ j,j<7→∃ u,wr.cell? ⟨w.heap.size+1,j,none⟩=some u:=fun j hj=>⟨_,by rw [cell_of hres];exact Array.getElem?_eq_getElem (by omega)⟩
        obtain ⟨u0,q0⟩:=q 0 (by omega)
        obtain ⟨u1,q1⟩:=q 1 (by omega)
        obtain ⟨u2,q2⟩:=q 2 (by omega)
        obtain ⟨u3,q3⟩:=q 3 (by omega)
        obtain ⟨u4,q4⟩:=q 4 (by omega)
        obtain ⟨u5',q5⟩:=q 5 (by omega)
        obtain ⟨u6,q6⟩:=q 6 (by omega)
        have f0:=frozen_of hres 0
        have f1:=frozen_of hres 1
        have f2:=frozen_of hres 2
        have f3:=frozen_of hres 3
        have f4:=frozen_of hres 4
        have f5:=frozen_of hres 5
        have f6:=frozen_of hres 6
        have HRS:=Hd hres
        have HRC:=Hd hrc
        clear hsall hsits hR hres q hrc
        go_wp2_with fail
        obtain ⟨a0,a1,a2,a3,a4,a5,a6,rfl⟩:=arr7 HRC.out
        refine bodyPost_ret (results_row (P:=Tryz.prog) rfl _ _ (w.heap.size+1) 46 _ (0,0) _ rfl (heap_setCell_same (heap_setCell_same (heap_setCell_same (heap_setCell_same (heap_setCell_same (heap_setCell_same (heap_setCell_same HRS.out 0 _) 1 _) 2 _) 3 _) 4 _) 5 _) 6 _) Tryz.underlying46 rfl infoIVs) rfl ?_
        exact TV2.last HR.out HKT.out HSF.out HT.out HNL.out HNV.out hk he hn HTL.out (fr_set7 _ _ _ _ _ _ _ _ _)
end Go.Proofs.YtcfblkkpclfmaaaGreat
