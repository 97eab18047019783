/- Part 29 of the proof of FnTrimmed (Both0, BElse). No condition is laid on the statement. -/
import Derived.Test.YtcfblkkpclfmaaaGreatTr27
import Derived.Test.YtcfblkkpclfmaaaGreatTr20
set_option linter.unusedVariables false
set_option linter.unusedSimpArgs false
namespace Go.Proofs.YtcfblkkpclfmaaaGreat
open Go.RowKit
/-- A value and true, or false. -/
def BothRes (B:Nat→Prop) (o:Option Val) (w:World) (e:Ending) (w':World):Prop:=Fr0 w w'∧match o with
 | some c=>∃ cs,e=.returned (.tuple #[.agg cs.toArray,.bool true])∧VIs (fun b=>B b∨w.heap.size≤b) w' cs c
 | none=>e=.returned (.tuple #[.agg #[.int .u8 0,.int .u8 0,.int .u64 0,.string ⟨#[]⟩,.slice none 0 0,.slice none 0 0,.slice none 0 0],.bool false])
def BothC (a:Val):Prop:=Small a→∀ (B:Nat→Prop) (b:Val) (ca cb:List Value) (w:World),VIs B w ca a→VIs B w cb b→Calls Tryz.prog 89 #[.agg ca.toArray,.agg cb.toArray] w (BothRes B (both a b) w)
/-- The shape of two slots that are alike. -/
def bothT' (s t:Slt Val):Option (Slt Val):=(both s.val t.val).bind fun x=>if s.dflt=t.dflt then some ⟨false,x,s.dflt⟩ else none
theorem bothT_eq (s t:Slt Val):bothT s t=bothT' s t:=by cases s;rfl
theorem bothS_take (ss ts:List (Slt Val)) (i:Nat) (hi:i<ss.length) (hj:i<ts.length):bothS (ss.take (i+1)) (ts.take (i+1))=(bothS (ss.take i) (ts.take i)).bind fun os=>(bothT' ss[i] ts[i]).map fun x=>os ++ [x]:=by
 induction ss generalizing ts i with
 | nil=>simp at hi
 | cons s r ih =>
  cases ts with
  | nil=>simp at hj
  | cons t u =>
   cases i with
   | zero =>
    simp only [List.take_succ_cons,List.take_zero,List.getElem_cons_zero]
    simp only [bothS,bothT_eq]
    cases bothT' s t with
    | none=>rfl
    | some x=>rfl
   | succ i =>
    have hi':i<r.length:=by simpa using hi
    have hj':i<u.length:=by simpa using hj
    simp only [List.take_succ_cons,List.getElem_cons_succ,bothS,bothT_eq]
    cases h:bothT' s t with
    | none=>rfl
    | some x =>
     simp only [Option.bind_some]
     rw [ih u i hi' hj']
     cases bothS (r.take i) (u.take i) with
     | none=>rfl
     | some xs =>
      simp only [Option.bind_some,Option.map_some]
      cases bothT' r[i] u[i] with
      | none=>rfl
      | some y=>rfl
theorem bothS_none_take:∀ (ss ts:List (Slt Val)) (i:Nat),bothS (ss.take i) (ts.take i)=none→bothS ss ts=none
 | [],ts,i,h=>by simp [bothS] at h
 | s :: r,[],i,h=>by rw [bothS]
 | s :: r,t :: u,0,h=>by simp [bothS] at h
 | s :: r,t :: u,i+1,h=>by
  rw [List.take_succ_cons,List.take_succ_cons,bothS] at h
  rw [bothS]
  cases hb:bothT s t with
  | none=>rfl
  | some x =>
   rw [hb] at h
   simp only [Option.bind_some] at h ⊢
   cases hr:bothS (r.take i) (u.take i) with
   | none=>rw [bothS_none_take r u i hr];rfl
   | some xs=>rw [hr] at h;cases h
theorem both_def (k e n:Nat) (t:List UInt8) (ns:List Nat) (ks:List Val) (ss:List (Slt Val)) (b:Val):both (.mk k e n t ns ks ss) b=if k=b.kind∧e=b.elem∧ss.length=b.slots.length∧(k=17→t.length=b.text.length) then (bothS ss b.slots).bind fun os=>(bothK ks b.kids).map fun kk=>.mk k e 0 t [] kk os else none:=by
 rw [both]
/-- What holds ahead of each round of the loop over the slots. -/
structure RB (B:Nat→Prop) (w:World) (ba bb:List Value) (k e:Nat) (tt:ByteArray) (kv:Value) (wr:World) (sv:Value) (sits:List (List Value × Slt Val)):Prop where
 fr:Fr0 w wr
 size:w.heap.size+4≤wr.heap.size
 boxa:wr.heap[w.heap.size]?=some (.cells ba.toArray 27)
 boxb:wr.heap[w.heap.size+1]?=some (.cells bb.toArray 27)
 res:∃ c:Array Value,c.size=7∧wr.heap[w.heap.size+1+1]?=some (.cells c 27)
 out:wr.heap[w.heap.size+1+1+1]?=some (.cells #[.int .u8 k,.int .u8 e,.int .u64 0,.string tt,.slice none 0 0,kv,sv] 27)
 srow:SRow (BI B w.heap.size 4 sv) (w.heap.size+4) 54 wr sv sits
theorem RB.next {B:Nat→Prop} {w:World} {ba bb:List Value} {k e n':Nat} {tt:ByteArray} {kv:Value} {wr w6 w7:World} {sv:Value} {sits:List (List Value × Slt Val)} {sl:Slt Val} {csr:List Value} {o:Obj} {g7 cap7:Nat} (h:RB B w ba bb k e tt kv wr sv sits)
  (h56:Fr0 wr w6) (hv6:VIs (fun b=>(B b∧b<w.heap.size)∨wr.heap.size≤b) w6 csr sl.val) (hd:sl.dflt<2 ^ 64) (hgrow:(w6.alloc o).grownBy w7 sv.ownBlock) (hn:n'=sits.length+1)
  (hown7:w7.ownsRow (w.heap.size+4) 54 9 (.slice (some ⟨g7,0,none⟩) n' cap7) n' ((sits.map fun x=>slotC x.2 x.1).flatten ++ slotC sl csr)) (hat7:sv.ownBlock=some g7∨g7=w6.heap.size+1) :
  RB B w ba bb k e tt kv (w7.setCell ⟨w.heap.size+1+1+1,6,none⟩ (.slice (some ⟨g7,0,none⟩) n' cap7)) (.slice (some ⟨g7,0,none⟩) n' cap7) (sits ++ [(csr,sl)]):=by
 have hs:=h.size
 have hs6:=h56.size
 have hs7:=hgrow.size
 rw [size_alloc] at hs7
 have hrl:=ownBlock_lt h.srow.own
 have hfr7:Fr (fun b=>some b=sv.ownBlock) wr w7:=((h56.mono (S':=fun b=>some b=sv.ownBlock) (fun _ _ x=>x.elim)).alloc o).trans (grown_fr' hgrow)
 have hkeep:∀ b,b<w.heap.size+4→w7.heap[b]?=wr.heap[b]?:=fun b hb=>hfr7.block b (by omega) (fun e=>by have:=(hrl b e.symm).1;omega)
 have hset:∀ b,b≠w.heap.size+1+1+1→∀ u,(w7.setCell ⟨w.heap.size+1+1+1,6,none⟩ u).heap[b]?=w7.heap[b]?:=fun b hb u=>heap_setCell_other w7 _ u b hb
 have hssz:∀ u,(w7.setCell ⟨w.heap.size+1+1+1,6,none⟩ u).heap.size=w7.heap.size:=fun u=>by simp [World.setCell]
 refine ⟨?_,by rw [hssz];omega,?_,?_,?_,?_,?_⟩
 ·refine (h.fr.trans2 hfr7 (fun b hb e=>?_)).setCell (fun hb=>?_) _
  ·have:=(hrl b e.symm).1;omega
  ·have:w.heap.size+1+1+1<w.heap.size:=hb
   omega
 ·rw [hset _ (by omega),hkeep _ (by omega)];exact h.boxa
 ·rw [hset _ (by omega),hkeep _ (by omega)];exact h.boxb
 ·obtain ⟨c,h1,h2⟩:=h.res
  exact ⟨c,h1,by rw [hset _ (by omega),hkeep _ (by omega)];exact h2⟩
 ·have h1:w7.heap[w.heap.size+1+1+1]?=some (.cells #[.int .u8 k,.int .u8 e,.int .u64 0,.string tt,.slice none 0 0,kv,sv] 27):=by rw [hkeep _ (by omega)];exact h.out
  exact heap_setCell_same h1 6 _
 ·exact h.srow.snoc sltP_mono hs h56 (x:=(csr,sl)) ⟨hv6,hd⟩ hgrow hown7 hn hat7 (by omega)
/-- The value that both makes: kids as they are given. -/
theorem VIs.of_srow {w:World} {k e:Nat} {t:List UInt8} {ka:Option Addr} {kc kg ko base:Nat} {ks:List Val} {sv:Value} {sits:List (List Value × Slt Val)} {B Bs:Nat→Prop} {TS:TypeId} (hk:k<256) (he:e<256) (ht:t.length≤maxLen)
  (hka:ks≠[]→ka=some ⟨kg,ko,none⟩∧kg<w.heap.size∧B kg) (hkc:ks.length≤kc∧kc≤maxLen) (hks:∀ i (h:i<ks.length),VIs B w (cellsAt w kg (ko+i*7) 7) ks[i]) (hss:SRow Bs base TS w sv sits) (hB:∀ g,sv.ownBlock=some g→B g) (hBs:∀ b,b<w.heap.size→Bs b→B b) :
  VIs B w [.int .u8 k,.int .u8 e,.int .u64 0,.string (strOf t),.slice none 0 0,.slice ka ks.length kc,sv] (.mk k e 0 t [] ks (sits.map (·.2))):=by
 have hs0:VIs B w [.int .u8 k,.int .u8 e,.int .u64 (0:Nat),.string (strOf t),.slice none 0 0,.slice none 0 0,sv] (.mk k e 0 t [] [] (sits.map (·.2))) :=
  VIs.of_rows (Bk:=B) (Bs:=Bs) (base:=0) (T:=TS) (kits:=[]) hk he (Nat.two_pow_pos 64) ht ⟨none,0,rfl,Nat.le_refl _,Nat.zero_le _,fun h=>absurd rfl h,fun n hn=>by cases hn⟩ (ItRow.nil _ _ _ _ _ _ _) hss (fun g hg=>by rcases hg with hg | hg;cases hg;exact hB g hg) (fun _ _ h=>h) hBs
 generalize hgen:sits.map (·.2)=so at hs0 ⊢
 generalize hcs:[Value.int .u8 k,.int .u8 e,.int .u64 (0:Nat),.string (strOf t),.slice none 0 0,.slice none 0 0,sv]=cs at hs0
 cases hs0 with
 | mk _ _ _ _ _ _ _ nv ka' kc' kg' ko' sa sc sg so' hk' he' hn' ht' hnv hka' hkc' hks' hsa hsc hsd hss' =>
  simp only [List.cons.injEq,and_true] at hcs
  obtain ⟨_,_,_,_,hnv',_,hsv⟩:=hcs
  rw [hsv,hnv']
  exact .mk k e 0 t [] ks so _ ka kc kg ko sa sc sg so' hk he (Nat.two_pow_pos 64) ht hnv hka hkc hks hsa hsc hsd hss'
end Go.Proofs.YtcfblkkpclfmaaaGreat
namespace Go.Proofs.YtcfblkkpclfmaaaGreat
open Go.RowKit
set_option maxRecDepth 100000 in
set_option maxHeartbeats 8000000 in
theorem be11 (sh:Bool) (e n:Nat) (t:List UInt8) (ns:List Nat) (ks:List Val) (ss:List (Slt Val)):ElseC sh (.mk 11 e n t ns ks ss):=by
 intro hb st i0 b F w cs hok hbd hrep hv
 obtain ⟨lt,ln,lk,ls⟩:=hb.lens
 have lt:t.length≤1000:=lt
 have ln:ns.length≤200:=ln
 have lk:ks.length≤200:=lk
 have hu:=hok.inv.len
 have hnd:1≤nodes (.mk 11 e n t ns ks ss):=nodes_pos _
 have hfl:=hrep.below
 obtain ⟨na,nl,nc,ka,nk,kc,sa,nss,sc,rfl⟩:=hv.lit
 clear hv
 have e1:bElse sh (.mk 11 e n t ns ks ss) st=bText sh t st:=by rw [bElse];rfl
 rw [e1]
 obtain ⟨o,st',hs,-⟩:=text_laid sh st t hok.nested hok.pi
 show Calls Tryz.prog 108 #[.pointer (some ⟨b,0,none⟩),.agg #[.int .u8 11,.int .u8 e,.int .u64 n,.string (strOf t),.slice na nl nc,.slice ka nk kc,.slice sa nss sc],.bool sh] w _
 obtain ⟨T,hT⟩:∃ T,T=strOf t:=⟨_,rfl⟩
 have hra:=hrep.keep ((Fr.refl (fun _=>False) w).alloc (.cells #[.int .u8 11,.int .u8 e,.int .u64 n,.string T,.slice na nl nc,.slice ka nk kc,.slice sa nss sc] 46)) (fun _ _ x=>x)
 cases sh with
 | true =>
  have hcl:=CreateSharedString_calls b F st t _ hra (by omega) (by omega) (by have:=hok.inv.sh;omega)
  rw [show st.sharedStr t=some (o,st') from hs,← hT] at hcl
  rw [hs,← hT]
  have HC:=Hd hcl
  clear hcl hs hT e1 hra hrep hok hbd hb
  go_enter Tryz.func108,Tryz.ntmps108
  go_wp2_with fail
  refine HC.out.mono ?_
  rintro e2 w2 ⟨rfl,F2,hb2,ha2⟩
  have HA:=Hd ((Adv.alloc _).trans ha2)
  have HB:=Hd hb2
  clear hb2 ha2
  go_wp2_with fail
  go_ret
  exact ⟨rfl,F2,HB.out,HA.out⟩
 | false =>
  have hcl:=CreateString_calls b F st t _ hra (by omega) (by omega)
  rw [show st.created t true=some (o,st') from hs,← hT] at hcl
  rw [hs,← hT]
  have HC:=Hd hcl
  clear hcl hs hT e1 hra hrep hok hbd hb
  go_enter Tryz.func108,Tryz.ntmps108
  go_wp2_with fail
  refine HC.out.mono ?_
  rintro e2 w2 ⟨rfl,F2,hb2,ha2⟩
  have HA:=Hd ((Adv.alloc _).trans ha2)
  have HB:=Hd hb2
  clear hb2 ha2
  go_wp2_with fail
  go_ret
  exact ⟨rfl,F2,HB.out,HA.out⟩
set_option maxRecDepth 100000 in
set_option maxHeartbeats 8000000 in
theorem be12 (sh:Bool) (e n:Nat) (t:List UInt8) (ns:List Nat) (ks:List Val) (ss:List (Slt Val)):ElseC sh (.mk 12 e n t ns ks ss):=by
 intro hb st i0 b F w cs hok hbd hrep hv
 obtain ⟨lt,ln,lk,ls⟩:=hb.lens
 have lt:t.length≤1000:=lt
 have ln:ns.length≤200:=ln
 have lk:ks.length≤200:=lk
 have hu:=hok.inv.len
 have hnd:1≤nodes (.mk 12 e n t ns ks ss):=nodes_pos _
 have hfl:=hrep.below
 obtain ⟨na,nl,nc,ka,nk,kc,sa,nss,sc,rfl⟩:=hv.lit
 clear hv
 have e1:bElse sh (.mk 12 e n t ns ks ss) st=st.created t false:=by rw [bElse];rfl
 rw [e1]
 obtain ⟨o,st',hs,-⟩:=created_laid st t false hok.nested
 show Calls Tryz.prog 108 #[.pointer (some ⟨b,0,none⟩),.agg #[.int .u8 12,.int .u8 e,.int .u64 n,.string (strOf t),.slice na nl nc,.slice ka nk kc,.slice sa nss sc],.bool sh] w _
 obtain ⟨T,hT⟩:∃ T,T=strOf t:=⟨_,rfl⟩
 have hra:=hrep.keep ((Fr.refl (fun _=>False) w).alloc (.cells #[.int .u8 12,.int .u8 e,.int .u64 n,.string T,.slice na nl nc,.slice ka nk kc,.slice sa nss sc] 46)) (fun _ _ x=>x)
 obtain ⟨cap,W2,hrun,hf2,hm2,hs2⟩:=conv_bytesV (w.alloc (.cells #[.int .u8 12,.int .u8 e,.int .u64 n,.string T,.slice na nl nc,.slice ka nk kc,.slice sa nss sc] 46)) t
 rw [← hT] at hrun
 rw [size_alloc] at hrun hm2 hs2
 have hb2:=hra.keep hf2 (fun _ _ x=>x)
 have hsrc:Src W2 F (.slice (some ⟨w.heap.size+1,0,none⟩) t.length cap) t:=⟨w.heap.size+1,0,cap,rfl,hs2,fun hm=>by have:=hfl _ hm;omega,hm2⟩
 have hcl:=CreateByteVector_calls b F st t _ W2 hb2 hsrc (by omega) (by omega)
 rw [hs] at hcl ⊢
 rw [← hT]
 obtain ⟨tl,htl⟩:∃ tl,tl=t.length:=⟨_,rfl⟩
 rw [← htl] at hrun hcl
 have HC:=Hd hcl
 have HF:=Hd (Adv.trans (F1:=F) (F2:=F) (Adv.alloc (.cells #[.int .u8 12,.int .u8 e,.int .u64 n,.string T,.slice na nl nc,.slice ka nk kc,.slice sa nss sc] 46)) (show Adv (w.alloc (.cells #[.int .u8 12,.int .u8 e,.int .u64 n,.string T,.slice na nl nc,.slice ka nk kc,.slice sa nss sc] 46)) W2 F F from ⟨hf2.mono (fun _ _ x=>x.elim),fun _ h=>.inl h⟩))
 clear hcl hs hT e1 hra hrep hok hbd hb hf2 hm2 hb2 hsrc htl lt
 go_enter Tryz.func108,Tryz.ntmps108
 go_wp2_with fail
 refine HC.out.mono ?_
 rintro e2 w2 ⟨rfl,F2,hb2,ha2⟩
 have HA:=Hd (HF.out.trans ha2)
 have HB:=Hd hb2
 clear hb2 ha2
 go_wp2_with fail
 go_ret
 exact ⟨rfl,F2,HB.out,HA.out⟩
set_option maxRecDepth 100000 in
set_option maxHeartbeats 8000000 in
theorem be15 (sh:Bool) (e n:Nat) (t:List UInt8) (ns:List Nat) (ks:List Val) (ss:List (Slt Val)) (ih:TabC sh (.mk 15 e n t ns ks ss)):ElseC sh (.mk 15 e n t ns ks ss):=by
 intro hb st i0 b F w cs hok hbd hrep hv
 obtain ⟨lt,ln,lk,ls⟩:=hb.lens
 have lt:t.length≤1000:=lt
 have ln:ns.length≤200:=ln
 have lk:ks.length≤200:=lk
 have hu:=hok.inv.len
 have hnd:1≤nodes (.mk 15 e n t ns ks ss):=nodes_pos _
 have hfl:=hrep.below
 rw [bElse_tab sh _ _ rfl]
 have hal:=Adv.alloc (w:=w) (F:=F) (.cells cs.toArray 46)
 have hcl:=ih hb st i0 b F _ cs hok hbd (hrep.keep ((Fr.refl (fun _=>False) w).alloc (.cells cs.toArray 46)) (fun _ _ x=>x)) (hv.adv hal)
 obtain ⟨o,st',hs,-⟩:=else_laid sh _ hb (show ¬ 15≤10 by omega) (show 15≠17 by omega) st i0 hok.nested hok.pi hok.inv hbd
 rw [bElse_tab sh _ _ rfl] at hs
 rw [hs] at hcl ⊢
 obtain ⟨na,nl,nc,ka,nk,kc,sa,nss,sc,rfl⟩:=hv.lit
 clear hv hal
 show Calls Tryz.prog 108 #[.pointer (some ⟨b,0,none⟩),.agg #[.int .u8 15,.int .u8 e,.int .u64 n,.string (strOf t),.slice na nl nc,.slice ka nk kc,.slice sa nss sc],.bool sh] w _
 obtain ⟨T,hT⟩:∃ T,T=strOf t:=⟨_,rfl⟩
 have hcl:Calls Tryz.prog 65 #[.pointer (some ⟨b,0,none⟩),.agg #[.int .u8 15,.int .u8 e,.int .u64 n,.string (strOf t),.slice na nl nc,.slice ka nk kc,.slice sa nss sc],.bool sh] (w.alloc (.cells #[.int .u8 15,.int .u8 e,.int .u64 n,.string (strOf t),.slice na nl nc,.slice ka nk kc,.slice sa nss sc] 46)) _:=hcl
 rw [← hT] at hcl ⊢
 have HC:=Hd hcl
 clear hcl hs hT hrep hok hbd hb ih
 go_enter Tryz.func108,Tryz.ntmps108
 go_wp2_with fail
 refine HC.out.mono ?_
 rintro e2 w2 ⟨rfl,F2,hb2,ha2⟩
 have HA:=Hd ((Adv.alloc _).trans ha2)
 have HB:=Hd hb2
 clear hb2 ha2
 go_wp2_with fail
 go_ret
 exact ⟨rfl,F2,HB.out,HA.out⟩
set_option maxRecDepth 100000 in
set_option maxHeartbeats 8000000 in
theorem be0 (sh:Bool) (e n:Nat) (t:List UInt8) (ns:List Nat) (ks:List Val) (ss:List (Slt Val)) (k:Nat) (h1:k≠11) (h2:k≠12) (h3:k≠13) (h4:k≠14) (h5:k≠15) (h6:k≠16):ElseC sh (.mk k e n t ns ks ss):=by
 intro hb st i0 b F w cs hok hbd hrep hv
 obtain ⟨lt,ln,lk,ls⟩:=hb.lens
 have lt:t.length≤1000:=lt
 have ln:ns.length≤200:=ln
 have lk:ks.length≤200:=lk
 have hu:=hok.inv.len
 have hnd:1≤nodes (.mk k e n t ns ks ss):=nodes_pos _
 have hfl:=hrep.below
 obtain ⟨na,nl,nc,ka,nk,kc,sa,nss,sc,rfl⟩:=hv.lit
 clear hv
 have e1:bElse sh (.mk k e n t ns ks ss) st=some (0,st):=by rw [bElse,if_neg h1,if_neg h2,if_neg h3,if_neg h4,if_neg h6,if_neg h5]
 rw [e1]
 show Calls Tryz.prog 108 #[.pointer (some ⟨b,0,none⟩),.agg #[.int .u8 k,.int .u8 e,.int .u64 n,.string (strOf t),.slice na nl nc,.slice ka nk kc,.slice sa nss sc],.bool sh] w _
 obtain ⟨T,hT⟩:∃ T,T=strOf t:=⟨_,rfl⟩
 rw [← hT]
 have hra:=hrep.keep ((Fr.refl (fun _=>False) w).alloc (.cells #[.int .u8 k,.int .u8 e,.int .u64 n,.string T,.slice na nl nc,.slice ka nk kc,.slice sa nss sc] 46)) (fun _ _ x=>x)
 have HRA:=Hd hra
 have HAL:=Hd (Adv.alloc (w:=w) (F:=F) (.cells #[.int .u8 k,.int .u8 e,.int .u64 n,.string T,.slice na nl nc,.slice ka nk kc,.slice sa nss sc] 46))
 have g1:((k:Int) == 11)=false:=by simp;omega
 have g2:((k:Int) == 12)=false:=by simp;omega
 have g3:((k:Int) == 13)=false:=by simp;omega
 have g4:((k:Int) == 14)=false:=by simp;omega
 have g5:((k:Int) == 15)=false:=by simp;omega
 have g6:((k:Int) == 16)=false:=by simp;omega
 clear hra hrep hok hbd hb e1 hT
 go_enter Tryz.func108,Tryz.ntmps108
 go_wp2_with fail
 go_ret
 exact ⟨rfl,F,HRA.out,HAL.out⟩
set_option maxRecDepth 100000 in
set_option maxHeartbeats 8000000 in
theorem be13 (sh:Bool) (e n:Nat) (t:List UInt8) (ns:List Nat) (ks:List Val) (ss:List (Slt Val)):ElseC sh (.mk 13 e n t ns ks ss):=by
 intro hb st i0 b F w cs hok hbd hrep hv
 obtain ⟨lt,ln,lk,ls⟩:=hb.lens
 have lt:t.length≤1000:=lt
 have ln:ns.length≤200:=ln
 have lk:ks.length≤200:=lk
 have hu:=hok.inv.len
 have hnd:1≤nodes (.mk 13 e n t ns ks ss):=nodes_pos _
 have hfl:=hrep.below
 obtain ⟨he,hns⟩:=hb.k13 rfl
 have he:e≤10:=he
 have hns:∀ x∈ns,OkNum e x:=hns
 obtain ⟨ov,sv',hs,-⟩:=scalars_laid st e ns he hns hok.nested
 have e1:bElse sh (.mk 13 e n t ns ks ss) st=bScalars e ns st:=by rw [bElse];rfl
 cases hv with
 | mk _ _ _ _ _ _ _ nv ka kc kg ko sa sc sg so hk' he' hn ht hnv hka hkc hks hsa hsc hsd hss =>
  obtain ⟨na,nc,rfl,hn1,hn2,hn3,hn4⟩:=hnv.ok
  obtain ⟨T,hT⟩:∃ T,T=strOf t:=⟨_,rfl⟩
  obtain ⟨nl,hnl⟩:∃ nl,nl=ns.length:=⟨_,rfl⟩
  obtain ⟨nk,hnk⟩:∃ nk,nk=ks.length:=⟨_,rfl⟩
  obtain ⟨nss,hnss⟩:∃ nss,nss=ss.length:=⟨_,rfl⟩
  rw [← hT,← hnl,← hnk,← hnss]
  show Calls Tryz.prog 108 #[.pointer (some ⟨b,0,none⟩),.agg #[.int .u8 13,.int .u8 e,.int .u64 n,.string T,.slice na nl nc,.slice ka nk kc,.slice sa nss sc],.bool sh] w _
  rw [e1]
  obtain ⟨st1,hst1⟩:∃ st1,st1=({ st with m:=(st.m.prep 4 (numSize e*ns.length)).prep (numSize e) (numSize e*ns.length),nested:=true }:BSt):=⟨_,rfl⟩
  have hsv:=startVec_eq st (numSize e) ns.length hok.nested
  rw [← hst1] at hsv
  have hz:=numSize_algn (k:=e) (by omega) (by omega)
  have hz8:numSize e≤8:=numSize_le e
  have hev:bScalars e ns st=BSt.endVec { st1 with m:=bNums e ns st1.m } ns.length:=by unfold bScalars;rw [hsv,Option.bind_some]
  rw [hs] at hev ⊢
  have hra:=hrep.keep ((Fr.refl (fun _=>False) w).alloc (.cells #[.int .u8 13,.int .u8 e,.int .u64 n,.string T,.slice na nl nc,.slice ka nk kc,.slice sa nss sc] 46)) (fun _ _ x=>x)
  have hstv:=StartVector_calls b F st (numSize e) ns.length (numSize e) _ hra hz (by omega) (by omega) (by omega)
  rw [hsv,← hnl] at hstv
  have hlen1:st1.m.bytes.length≤1600000:=by
   have hg:=(startVec_grow st.m (numSize e) ns.length hz).len
   rw [hst1];show ((st.m.prep 4 (numSize e*ns.length)).prep (numSize e) (numSize e*ns.length)).bytes.length≤_
   omega
  have HSV:=Hd hstv
  have HEV:=Hd hev
  have HL1:=Hd hlen1
  have HNS:=Hd hns
  have HN3:=Hd hn3
  have HNL:=Hd hnl
  have HSC:=Hd (scalarSize_calls e he)
  have hb8:nc<9223372036854775808:=by have:=hn2;unfold maxLen at this;omega
  have hn1':nl≤nc:=by omega
  have hnl2:nl≤200:=by omega
  have hbx:(w.alloc (.cells #[.int .u8 13,.int .u8 e,.int .u64 n,.string T,.slice na nl nc,.slice ka nk kc,.slice sa nss sc] 46)).heap[w.heap.size]?=some (.cells #[.int .u8 13,.int .u8 e,.int .u64 n,.string T,.slice na nl nc,.slice ka nk kc,.slice sa nss sc] 46):=heap_alloc_new _ _
  have HBX:=Hd hbx
  have hws:(w.alloc (.cells #[.int .u8 13,.int .u8 e,.int .u64 n,.string T,.slice na nl nc,.slice ka nk kc,.slice sa nss sc] 46)).heap.size=w.heap.size+1:=by rw [size_alloc]
  have HWS:=Hd hws
  have HFL:=Hd hfl
  clear hstv hev hlen1 hns hn3 hnl hnk hnss hbx hra hrep hok hbd hb e1 hs hsv hst1 hT hnv hn1 hn2 hn4 hz hz8 hws hka hkc hks hsa hsc hsd hss hk' ht hn
  go_enter Tryz.func108,Tryz.ntmps108
  go_wp2_with fail
  refine (HSC.out _).mono ?_
  rintro e2 w2 ⟨rfl,rfl⟩
  go_wp2_with fail
  refine HSV.out.mono ?_
  rintro e2 w2 ⟨rfl,F2,hb2,ha2⟩
  obtain ⟨hn0,hh0⟩:=ha2.out (k:=w.heap.size) (by rw [HWS.out];omega) (fun hm=>by have:=HFL.out _ hm;omega)
  rw [HBX.out] at hh0
  have hstart:BNR b F w [.int .u8 13,.int .u8 e,.int .u64 n,.string T,.slice na nl nc,.slice ka nk kc,.slice sa nss sc] st1 e ns ((nl:Int)-1) w2:=by
   refine ⟨F2,?_,(Adv.alloc _).trans ha2,hh0,hn0,by have:=ha2.1.size;rw [HWS.out] at this;omega⟩
   rw [show ((nl:Int)-1+1).toNat=ns.length by rw [← HNL.out];omega,List.drop_length]
   exact hb2
  have b4:w2.cell? ⟨w.heap.size,4,none⟩=some (.slice na nl nc):=by rw [cell_of hh0];rfl
  have HST:=Hd hstart
  clear hstart hb2 ha2 hn0 hh0
  go_wp2_with fail
  go_loopw [8] (fun iv wr=>∃ q:Int,-1≤q∧q<nl∧iv=.int .i64 q∧BNR b F w [.int .u8 13,.int .u8 e,.int .u64 n,.string T,.slice na nl nc,.slice ka nk kc,.slice sa nss sc] st1 e ns q wr) (fun iv _=>(intOf iv+1).toNat)
  case atStart=>exact ⟨(nl:Int)-1,by omega,by omega,rfl,HST.out⟩
  case round =>
   obtain ⟨q,hq1,hq2,rfl,hR⟩:=hrel
   clear HST b4
   obtain ⟨F5,hb5,ha5,hx5,hn5,hs5⟩:=hR
   have q1:wr.cell? ⟨w.heap.size,1,none⟩=some (.int .u8 e):=by rw [cell_of hx5];rfl
   have q4:wr.cell? ⟨w.heap.size,4,none⟩=some (.slice na nl nc):=by rw [cell_of hx5];rfl
   by_cases hlq:q<0
   ·have hqe:q=-1:=by omega
    subst hqe
    rw [show ((-1:Int)+1).toNat=0 by omega,List.drop_zero] at hb5
    have hev2:=EndVector_calls b F5 _ ns.length wr hb5 (by omega)
    rw [← HEV.out,← HNL.out] at hev2
    have HE:=Hd hev2
    have HA5:=Hd ha5
    clear hev2 hb5 ha5 hx5
    go_wp2_with fail
    refine HE.out.mono ?_
    rintro e6 w6 ⟨rfl,F6,hb6,ha6⟩
    have HB6:=Hd (And.intro hb6 (HA5.out.trans ha6))
    clear hb6 ha6
    go_wp2_with fail
    go_ret
    exact ⟨rfl,F6,HB6.out.1,HB6.out.2⟩
   ·obtain ⟨p,rfl⟩:∃ p:Nat,q=p:=⟨q.toNat,by omega⟩
    have hp:p<ns.length:=by rw [← HNL.out];omega
    obtain ⟨g,o2,rfl,hg,hgF,hcell⟩:=HN3.out (by intro h0;rw [h0] at hp;simp at hp)
    obtain ⟨hgn,hgh⟩:=ha5.out hg hgF
    have c4:wr.cell? ⟨g,o2+p,none⟩=some (.int .u64 ns[p]):=by rw [World.cell?_of_block (w:=w) hgh];exact hcell p hp
    obtain ⟨x,hx⟩:∃ x,x=ns[p]:=⟨_,rfl⟩
    rw [← hx] at c4
    have hok1:OkNum e x:=by rw [hx];exact HNS.out _ (List.getElem_mem hp)
    rw [show ((p:Int)+1).toNat=p+1 by omega] at hb5
    have hlb:=bNums_len he st1.m ns (by omega) (p+1)
    have hpc:=fun m=>prepend_b b F5 _ e x (wr.drewN m) (hb5.drewN m) hok1.right (by show (bNums e (ns.drop (p+1)) st1.m).bytes.length≤_;have:=HL1.out;omega)
    have HPC:=Hd hpc
    have HA5:=Hd (And.intro ha5 (And.intro hx5 (And.intro hn5 hs5)))
    have HX:=Hd hx
    clear hpc hb5 ha5 hx5 hn5 hlb hok1 hx hcell hgh hgn
    go_upto_region 14 with fail
    refine wp_region_last' _ (by simp) (by kernel_rfl) (by kernel_rfl) (by kernel_rfl) (by kernel_rfl) (by kernel_rfl) (by kernel_rfl) ?_
    simp only [List.dropLast]
    repeat (go_big_quiet_step (fail))
    refine wpQuiet_nil ?_
    intro nq
    refine wpOp_step rfl (fun K hK=>?_)
    go_simp
    refine (HPC.out nq).mono ?_
    rintro e6 w6 ⟨rfl,F6,hb6,ha6⟩
    refine hK _ _ ?_
    have hnx:=BNR.next hp HA5.out (Adv.of_drewN ha6) (by rw [← HX.out];exact hb6)
    have HNX:=Hd hnx
    clear hnx hb6 ha6
    go_wp2_with fail
    go_roundw
    case rel=>exact ⟨(p:Int)-1,by omega,by omega,rfl,HNX.out⟩
    case measure=>simp [intOf]
end Go.Proofs.YtcfblkkpclfmaaaGreat
