/- Part 29 of the proof of FnRead (Both0, BElse, BElse2). No condition is laid on the statement. -/
import Derived.Test.YtcfblkkpclfmaaaGreatQa27
import Derived.Test.YtcfblkkpclfmaaaGreatQa20
set_option linter.unusedVariables false
set_option linter.unusedSimpArgs false
set_option maxRecDepth 100000
set_option maxHeartbeats 16000000
namespace Go.Proofs.YtcfblkkpclfmaaaGreat
open Go.RowKit
def BothRes(B:Nat->Prop)(o:Option Val)(w:World)(e:Ending)(w':World):Prop:=Fr0 w w'/\match o with
 | some c=>∃cs,e=.returned (.tuple #[.agg cs.toArray,.bool true])/\VIs (λb=>B b\/w.heap.size<=b) w' cs c
 | none=>e=.returned (.tuple #[.agg #[.int .u8 0,.int .u8 0,.int .u64 0,.string ⟨#[]⟩,.slice none 0 0,.slice none 0 0,.slice none 0 0],.bool false])
def BothC(a:Val):Prop:=Small a->∀(B:Nat->Prop) (b:Val) (ca cb:List Value) (w:World),VIs B w ca a->VIs B w cb b->Calls Tryz.prog 89 #[.agg ca.toArray,.agg cb.toArray] w (BothRes B (both a b) w)
def bothT'(s t:Slt Val):Option (Slt Val):=(both s.val t.val).bind λx=>if s.dflt=t.dflt then some ⟨false,x,s.dflt⟩ else none
theorem bothT_eq(s t:Slt Val):bothT s t=bothT' s t:=by cases s;rfl
theorem bothS_take(ss ts:List (Slt Val))(i:Nat)(hi:i<ss.length)(hj:i<ts.length):bothS (ss.take (i+1)) (ts.take (i+1))=(bothS (ss.take i) (ts.take i)).bind λos=>(bothT' ss[i] ts[i]).map λx=>os++[x]:=by
 induction ss generalizing ts i with
 | nil=>simp at hi
 | cons s r ih =>
  cases ts with
  | nil=>simp at hj
  | cons t u =>
   cases i with
   | zero =>
    simp only[List.take_succ_cons,List.take_zero,List.getElem_cons_zero];simp only[bothS,bothT_eq];cases bothT' s t with
    | none=>rfl
    | some x=>rfl
   | succ i =>
    have hi':i<r.length:=(by simpa using hi);have hj':i<u.length:=(by simpa using hj);simp only[List.take_succ_cons,List.getElem_cons_succ,bothS,bothT_eq];cases h:bothT' s t with
    | none=>rfl
    | some x =>
     simp only[Option.bind_some];rw[ih u i hi' hj'];cases bothS (r.take i) (u.take i) with
     | none=>rfl
     | some xs =>
      simp only[Option.bind_some,Option.map_some];cases bothT' r[i] u[i] with
      | none=>rfl
      | some y=>rfl
theorem bothS_none_take:∀(ss ts:List (Slt Val)) (i:Nat),bothS (ss.take i) (ts.take i)=none->bothS ss ts=none
 | [],ts,i,h=>by simp[bothS] at h
 | s::r,[],i,h=>by rw[bothS]
 | s::r,t::u,0,h=>by simp[bothS] at h
 | s::r,t::u,i+1,h=>by
  rw[List.take_succ_cons,List.take_succ_cons,bothS] at h;rw[bothS];cases hb:bothT s t with
  | none=>rfl
  | some x =>
   rw[hb] at h;simp only[Option.bind_some] at h ⊢;cases hr:bothS (r.take i) (u.take i) with
   | none=>rw[bothS_none_take r u i hr];rfl
   | some xs=>rw[hr] at h;cases h
theorem both_def(k e n:Nat)(t:List UInt8)(ns:List Nat)(ks:List Val)(ss:List (Slt Val))(b:Val):both (.mk k e n t ns ks ss) b=if k=b.kind/\e=b.elem/\ss.length=b.slots.length/\(k=17->t.length=b.text.length) then (bothS ss b.slots).bind λos=>(bothK ks b.kids).map λkk=>.mk k e 0 t [] kk os else none:=by
 rw[both]
structure RB(B:Nat->Prop)(w:World)(ba bb:List Value)(k e:Nat)(tt:ByteArray)(kv:Value)(wr:World)(sv:Value)(sits:List (List Value × Slt Val)):Prop where
 fr:Fr0 w wr
 size:w.heap.size+4<=wr.heap.size
 boxa:wr.heap[w.heap.size]?=some (.cells ba.toArray 27)
 boxb:wr.heap[w.heap.size+1]?=some (.cells bb.toArray 27)
 res:∃c:Array Value,c.size=7/\wr.heap[w.heap.size+1+1]?=some (.cells c 27)
 out:wr.heap[w.heap.size+1+1+1]?=some (.cells #[.int .u8 k,.int .u8 e,.int .u64 0,.string tt,.slice none 0 0,kv,sv] 27)
 srow:SRow (BI B w.heap.size 4 sv) (w.heap.size+4) 54 wr sv sits
theorem RB.next{B:Nat->Prop}{w:World}{ba bb:List Value}{k e n':Nat}{tt:ByteArray}{kv:Value}{wr w6 w7:World}{sv:Value}{sits:List (List Value × Slt Val)}{sl:Slt Val}{csr:List Value}{o:Obj}{g7 cap7:Nat}(h:RB B w ba bb k e tt kv wr sv sits)
  (h56:Fr0 wr w6) (hv6:VIs (λb=>(B b/\b<w.heap.size)\/wr.heap.size<=b) w6 csr sl.val) (hd:sl.dflt<2^64) (hgrow:(w6.alloc o).grownBy w7 sv.ownBlock) (hn:n'=sits.length+1)
  (hown7:w7.ownsRow (w.heap.size+4) 54 9 (.slice (some ⟨g7,0,none⟩) n' cap7) n' ((sits.map λx=>slotC x.2 x.1).flatten++slotC sl csr)) (hat7:sv.ownBlock=some g7\/g7=w6.heap.size+1):
  RB B w ba bb k e tt kv (w7.setCell ⟨w.heap.size+1+1+1,6,none⟩ (.slice (some ⟨g7,0,none⟩) n' cap7)) (.slice (some ⟨g7,0,none⟩) n' cap7) (sits++[(csr,sl)]):=by
 have hs:=h.size;have hs6:=h56.size;have hs7:=hgrow.size;rw[size_alloc] at hs7;have hrl:=ownBlock_lt h.srow.own;have hfr7:Fr (λb=>some b=sv.ownBlock) wr w7:=((h56.mono (S':=λb=>some b=sv.ownBlock) (λ_ _ x=>x.elim)).alloc o).trans (grown_fr' hgrow);have hkeep:∀b,b<w.heap.size+4->w7.heap[b]?=wr.heap[b]?:=λb hb=>hfr7.block b (by omega) (λe=>by have:=(hrl b e.symm).1;omega);have hset:∀b,b≠w.heap.size+1+1+1->∀u,(w7.setCell ⟨w.heap.size+1+1+1,6,none⟩ u).heap[b]?=w7.heap[b]?:=λb hb u=>heap_setCell_other w7 _ u b hb;have hssz:∀u,(w7.setCell ⟨w.heap.size+1+1+1,6,none⟩ u).heap.size=w7.heap.size:=λu=>by simp[World.setCell]
 refine⟨?_,by rw[hssz];omega,?_,?_,?_,?_,?_⟩
 ·refine (h.fr.trans2 hfr7 (λb hb e=>?_)).setCell (λhb=>?_) _
  ·have:=(hrl b e.symm).1;omega
  ·have:w.heap.size+1+1+1<w.heap.size:=hb
   omega
 ·rw[hset _ (by omega),hkeep _ (by omega)];exact h.boxa
 ·rw[hset _ (by omega),hkeep _ (by omega)];exact h.boxb
 ·obtain⟨c,h1,h2⟩:=h.res;exact⟨c,h1,by rw[hset _ (by omega),hkeep _ (by omega)];exact h2⟩
 ·have h1:w7.heap[w.heap.size+1+1+1]?=some (.cells #[.int .u8 k,.int .u8 e,.int .u64 0,.string tt,.slice none 0 0,kv,sv] 27):=by rw[hkeep _ (by omega)];exact h.out
  exact heap_setCell_same h1 6 _
 ·exact h.srow.snoc sltP_mono hs h56 (x:=(csr,sl)) ⟨hv6,hd⟩ hgrow hown7 hn hat7 (by omega)
theorem VIs.of_srow{w:World}{k e:Nat}{t:List UInt8}{ka:Option Addr}{kc kg ko base:Nat}{ks:List Val}{sv:Value}{sits:List (List Value × Slt Val)}{B Bs:Nat->Prop}{TS:TypeId}(hk:k<256)(he:e<256)(ht:t.length<=maxLen)
  (hka:ks≠[]->ka=some ⟨kg,ko,none⟩/\kg<w.heap.size/\B kg) (hkc:ks.length<=kc/\kc<=maxLen) (hks:∀i (h:i<ks.length),VIs B w (cellsAt w kg (ko+i*7) 7) ks[i]) (hss:SRow Bs base TS w sv sits) (hB:∀g,sv.ownBlock=some g->B g) (hBs:∀b,b<w.heap.size->Bs b->B b):
  VIs B w [.int .u8 k,.int .u8 e,.int .u64 0,.string (strOf t),.slice none 0 0,.slice ka ks.length kc,sv] (.mk k e 0 t [] ks (sits.map (·.2))):=by
 have hs0:VIs B w [.int .u8 k,.int .u8 e,.int .u64 (0:Nat),.string (strOf t),.slice none 0 0,.slice none 0 0,sv] (.mk k e 0 t [] [] (sits.map (·.2))) :=
  VIs.of_rows (Bk:=B) (Bs:=Bs) (base:=0) (T:=TS) (kits:=[]) hk he (Nat.two_pow_pos 64) ht ⟨none,0,rfl,Nat.le_refl _,Nat.zero_le _,λh=>absurd rfl h,λn hn=>by cases hn⟩ (ItRow.nil _ _ _ _ _ _ _) hss (λg hg=>by rcases hg with hg|hg;cases hg;exact hB g hg) (λ_ _ h=>h) hBs
 generalize hgen:sits.map (·.2)=so at hs0 ⊢;generalize hcs:[Value.int .u8 k,.int .u8 e,.int .u64 (0:Nat),.string (strOf t),.slice none 0 0,.slice none 0 0,sv]=cs at hs0;cases hs0 with
 | mk _ _ _ _ _ _ _ nv ka' kc' kg' ko' sa sc sg so' hk' he' hn' ht' hnv hka' hkc' hks' hsa hsc hsd hss' =>
  simp only[List.cons.injEq,and_true] at hcs;obtain⟨_,_,_,_,hnv',_,hsv⟩:=hcs;rw[hsv,hnv'];exact .mk k e 0 t [] ks so _ ka kc kg ko sa sc sg so' hk he (Nat.two_pow_pos 64) ht hnv hka hkc hks hsa hsc hsd hss'
theorem be11(sh:Bool)(e n:Nat)(t:List UInt8)(ns:List Nat)(ks:List Val)(ss:List (Slt Val)):ElseC sh (.mk 11 e n t ns ks ss):=by
 intro hb st i0 b F w cs hok hbd hrep hv;obtain⟨lt,ln,lk,ls⟩:=hb.lens;have lt:t.length<=1000:=lt;have ln:ns.length<=200:=ln;have lk:ks.length<=200:=lk;have hu:=hok.inv.len;have hnd:1<=nodes (.mk 11 e n t ns ks ss):=nodes_pos _;have hfl:=hrep.below;obtain⟨na,nl,nc,ka,nk,kc,sa,nss,sc,rfl⟩:=hv.lit;clear hv;have e1:bElse sh (.mk 11 e n t ns ks ss) st=bText sh t st:=by rw[bElse];rfl
 rw[e1];obtain⟨o,st',hs,-⟩:=text_laid sh st t hok.nested hok.pi;show Calls Tryz.prog 108 #[.pointer (some ⟨b,0,none⟩),.agg #[.int .u8 11,.int .u8 e,.int .u64 n,.string (strOf t),.slice na nl nc,.slice ka nk kc,.slice sa nss sc],.bool sh] w _;obtain⟨T,hT⟩:=exA (strOf t);have hra:=hrep.keep ((Fr.refl (λ_=>False) w).alloc (.cells #[.int .u8 11,.int .u8 e,.int .u64 n,.string T,.slice na nl nc,.slice ka nk kc,.slice sa nss sc] 46)) (λ_ _ x=>x);cases sh with
 | true =>
  have hcl:=CreateSharedString_calls b F st t _ hra (by omega) (by omega) (by have:=hok.inv.sh;omega);rw[show st.sharedStr t=some (o,st') from hs,<-hT] at hcl;rw[hs,<-hT];have HC:=Hd hcl;clear hcl hs hT e1 hra hrep hok hbd hb;go_enter Tryz.func108,Tryz.ntmps108;go_wp2_with fail;refine HC.out.mono ?_;rintro e2 w2 ⟨rfl,F2,hb2,ha2⟩;have HA:=Hd ((Adv.alloc _).trans ha2);have HB:=Hd hb2;clear hb2 ha2;go_wp2_with fail;go_ret;exact⟨rfl,F2,HB.out,HA.out⟩
 | false =>
  have hcl:=CreateString_calls b F st t _ hra (by omega) (by omega);rw[show st.created t true=some (o,st') from hs,<-hT] at hcl;rw[hs,<-hT];have HC:=Hd hcl;clear hcl hs hT e1 hra hrep hok hbd hb;go_enter Tryz.func108,Tryz.ntmps108;go_wp2_with fail;refine HC.out.mono ?_;rintro e2 w2 ⟨rfl,F2,hb2,ha2⟩;have HA:=Hd ((Adv.alloc _).trans ha2);have HB:=Hd hb2;clear hb2 ha2;go_wp2_with fail;go_ret;exact⟨rfl,F2,HB.out,HA.out⟩
theorem be12(sh:Bool)(e n:Nat)(t:List UInt8)(ns:List Nat)(ks:List Val)(ss:List (Slt Val)):ElseC sh (.mk 12 e n t ns ks ss):=by
 intro hb st i0 b F w cs hok hbd hrep hv;obtain⟨lt,ln,lk,ls⟩:=hb.lens;have lt:t.length<=1000:=lt;have ln:ns.length<=200:=ln;have lk:ks.length<=200:=lk;have hu:=hok.inv.len;have hnd:1<=nodes (.mk 12 e n t ns ks ss):=nodes_pos _;have hfl:=hrep.below;obtain⟨na,nl,nc,ka,nk,kc,sa,nss,sc,rfl⟩:=hv.lit;clear hv;have e1:bElse sh (.mk 12 e n t ns ks ss) st=st.created t false:=by rw[bElse];rfl
 rw[e1];obtain⟨o,st',hs,-⟩:=created_laid st t false hok.nested;show Calls Tryz.prog 108 #[.pointer (some ⟨b,0,none⟩),.agg #[.int .u8 12,.int .u8 e,.int .u64 n,.string (strOf t),.slice na nl nc,.slice ka nk kc,.slice sa nss sc],.bool sh] w _;obtain⟨T,hT⟩:=exA (strOf t);have hra:=hrep.keep ((Fr.refl (λ_=>False) w).alloc (.cells #[.int .u8 12,.int .u8 e,.int .u64 n,.string T,.slice na nl nc,.slice ka nk kc,.slice sa nss sc] 46)) (λ_ _ x=>x);obtain⟨cap,W2,hrun,hf2,hm2,hs2⟩:=conv_bytesV (w.alloc (.cells #[.int .u8 12,.int .u8 e,.int .u64 n,.string T,.slice na nl nc,.slice ka nk kc,.slice sa nss sc] 46)) t;rw[<-hT] at hrun;rw[size_alloc] at hrun hm2 hs2;have hb2:=hra.keep hf2 (λ_ _ x=>x);have hsrc:Src W2 F (.slice (some ⟨w.heap.size+1,0,none⟩) t.length cap) t:=⟨w.heap.size+1,0,cap,rfl,hs2,λhm=>by have:=hfl _ hm;omega,hm2⟩;have hcl:=CreateByteVector_calls b F st t _ W2 hb2 hsrc (by omega) (by omega);rw[hs] at hcl ⊢;rw[<-hT];obtain⟨tl,htl⟩:=exA (t.length);rw[<-htl] at hrun hcl;have HC:=Hd hcl;have HF:=Hd (Adv.trans (F1:=F) (F2:=F) (Adv.alloc (.cells #[.int .u8 12,.int .u8 e,.int .u64 n,.string T,.slice na nl nc,.slice ka nk kc,.slice sa nss sc] 46)) (show Adv (w.alloc (.cells #[.int .u8 12,.int .u8 e,.int .u64 n,.string T,.slice na nl nc,.slice ka nk kc,.slice sa nss sc] 46)) W2 F F from ⟨hf2.mono (λ_ _ x=>x.elim),λ_ h=>.inl h⟩));clear hcl hs hT e1 hra hrep hok hbd hb hf2 hm2 hb2 hsrc htl lt;go_enter Tryz.func108,Tryz.ntmps108;go_wp2_with fail;refine HC.out.mono ?_;rintro e2 w2 ⟨rfl,F2,hb2,ha2⟩;have HA:=Hd (HF.out.trans ha2);have HB:=Hd hb2;clear hb2 ha2;go_wp2_with fail;go_ret;exact⟨rfl,F2,HB.out,HA.out⟩
theorem be15(sh:Bool)(e n:Nat)(t:List UInt8)(ns:List Nat)(ks:List Val)(ss:List (Slt Val))(ih:TabC sh (.mk 15 e n t ns ks ss)):ElseC sh (.mk 15 e n t ns ks ss):=by
 intro hb st i0 b F w cs hok hbd hrep hv;obtain⟨lt,ln,lk,ls⟩:=hb.lens;have lt:t.length<=1000:=lt;have ln:ns.length<=200:=ln;have lk:ks.length<=200:=lk;have hu:=hok.inv.len;have hnd:1<=nodes (.mk 15 e n t ns ks ss):=nodes_pos _;have hfl:=hrep.below;rw[bElse_tab sh _ _ rfl];have hal:=Adv.alloc (w:=w) (F:=F) (.cells cs.toArray 46);have hcl:=ih hb st i0 b F _ cs hok hbd (hrep.keep ((Fr.refl (λ_=>False) w).alloc (.cells cs.toArray 46)) (λ_ _ x=>x)) (hv.adv hal);obtain⟨o,st',hs,-⟩:=else_laid sh _ hb (show ¬15<=10 by omega) (show 15≠17 by omega) st i0 hok.nested hok.pi hok.inv hbd;rw[bElse_tab sh _ _ rfl] at hs;rw[hs] at hcl ⊢;obtain⟨na,nl,nc,ka,nk,kc,sa,nss,sc,rfl⟩:=hv.lit;clear hv hal;show Calls Tryz.prog 108 #[.pointer (some ⟨b,0,none⟩),.agg #[.int .u8 15,.int .u8 e,.int .u64 n,.string (strOf t),.slice na nl nc,.slice ka nk kc,.slice sa nss sc],.bool sh] w _;obtain⟨T,hT⟩:=exA (strOf t);have hcl:Calls Tryz.prog 65 #[.pointer (some ⟨b,0,none⟩),.agg #[.int .u8 15,.int .u8 e,.int .u64 n,.string (strOf t),.slice na nl nc,.slice ka nk kc,.slice sa nss sc],.bool sh] (w.alloc (.cells #[.int .u8 15,.int .u8 e,.int .u64 n,.string (strOf t),.slice na nl nc,.slice ka nk kc,.slice sa nss sc] 46)) _:=hcl;rw[<-hT] at hcl ⊢;have HC:=Hd hcl;clear hcl hs hT hrep hok hbd hb ih;go_enter Tryz.func108,Tryz.ntmps108;go_wp2_with fail;refine HC.out.mono ?_;rintro e2 w2 ⟨rfl,F2,hb2,ha2⟩;have HA:=Hd ((Adv.alloc _).trans ha2);have HB:=Hd hb2;clear hb2 ha2;go_wp2_with fail;go_ret;exact⟨rfl,F2,HB.out,HA.out⟩
theorem be0(sh:Bool)(e n:Nat)(t:List UInt8)(ns:List Nat)(ks:List Val)(ss:List (Slt Val))(k:Nat)(h1:k≠11)(h2:k≠12)(h3:k≠13)(h4:k≠14)(h5:k≠15)(h6:k≠16):ElseC sh (.mk k e n t ns ks ss):=by
 intro hb st i0 b F w cs hok hbd hrep hv;obtain⟨lt,ln,lk,ls⟩:=hb.lens;have lt:t.length<=1000:=lt;have ln:ns.length<=200:=ln;have lk:ks.length<=200:=lk;have hu:=hok.inv.len;have hnd:1<=nodes (.mk k e n t ns ks ss):=nodes_pos _;have hfl:=hrep.below;obtain⟨na,nl,nc,ka,nk,kc,sa,nss,sc,rfl⟩:=hv.lit;clear hv;have e1:bElse sh (.mk k e n t ns ks ss) st=some (0,st):=by rw[bElse,if_neg h1,if_neg h2,if_neg h3,if_neg h4,if_neg h6,if_neg h5]
 rw[e1];show Calls Tryz.prog 108 #[.pointer (some ⟨b,0,none⟩),.agg #[.int .u8 k,.int .u8 e,.int .u64 n,.string (strOf t),.slice na nl nc,.slice ka nk kc,.slice sa nss sc],.bool sh] w _;obtain⟨T,hT⟩:=exA (strOf t);rw[<-hT];have hra:=hrep.keep ((Fr.refl (λ_=>False) w).alloc (.cells #[.int .u8 k,.int .u8 e,.int .u64 n,.string T,.slice na nl nc,.slice ka nk kc,.slice sa nss sc] 46)) (λ_ _ x=>x);have HRA:=Hd hra;have HAL:=Hd (Adv.alloc (w:=w) (F:=F) (.cells #[.int .u8 k,.int .u8 e,.int .u64 n,.string T,.slice na nl nc,.slice ka nk kc,.slice sa nss sc] 46));have g1:((k:Int)==11)=false:=by simp;omega
 have g2:((k:Int)==12)=false:=by simp;omega
 have g3:((k:Int)==13)=false:=by simp;omega
 have g4:((k:Int)==14)=false:=by simp;omega
 have g5:((k:Int)==15)=false:=by simp;omega
 have g6:((k:Int)==16)=false:=by simp;omega
 clear hra hrep hok hbd hb e1 hT;go_enter Tryz.func108,Tryz.ntmps108;go_wp2_with fail;go_ret;exact⟨rfl,F,HRA.out,HAL.out⟩
theorem be13(sh:Bool)(e n:Nat)(t:List UInt8)(ns:List Nat)(ks:List Val)(ss:List (Slt Val)):ElseC sh (.mk 13 e n t ns ks ss):=by
 intro hb st i0 b F w cs hok hbd hrep hv;obtain⟨lt,ln,lk,ls⟩:=hb.lens;have lt:t.length<=1000:=lt;have ln:ns.length<=200:=ln;have lk:ks.length<=200:=lk;have hu:=hok.inv.len;have hnd:1<=nodes (.mk 13 e n t ns ks ss):=nodes_pos _;have hfl:=hrep.below;obtain⟨he,hns⟩:=hb.k13 rfl;have he:e<=10:=he;have hns:∀x∈ns,OkNum e x:=hns;obtain⟨ov,sv',hs,-⟩:=scalars_laid st e ns he hns hok.nested;have e1:bElse sh (.mk 13 e n t ns ks ss) st=bScalars e ns st:=by rw[bElse];rfl
 cases hv with
 | mk _ _ _ _ _ _ _ nv ka kc kg ko sa sc sg so hk' he' hn ht hnv hka hkc hks hsa hsc hsd hss =>
  obtain⟨na,nc,rfl,hn1,hn2,hn3,hn4⟩:=hnv.ok;obtain⟨T,hT⟩:=exA (strOf t);obtain⟨nl,hnl⟩:=exA (ns.length);obtain⟨nk,hnk⟩:=exA (ks.length);obtain⟨nss,hnss⟩:=exA (ss.length);rw[<-hT,<-hnl,<-hnk,<-hnss];show Calls Tryz.prog 108 #[.pointer (some ⟨b,0,none⟩),.agg #[.int .u8 13,.int .u8 e,.int .u64 n,.string T,.slice na nl nc,.slice ka nk kc,.slice sa nss sc],.bool sh] w _;rw[e1];obtain⟨st1,hst1⟩:=exA (({ st with m:=(st.m.prep 4 (numSize e*ns.length)).prep (numSize e) (numSize e*ns.length),nested:=true }:BSt));have hsv:=startVec_eq st (numSize e) ns.length hok.nested;rw[<-hst1] at hsv;have hz:=numSize_algn (k:=e) (by omega) (by omega);have hz8:numSize e<=8:=numSize_le e;have hev:bScalars e ns st=BSt.endVec { st1 with m:=bNums e ns st1.m } ns.length:=by unfold bScalars;rw[hsv,Option.bind_some]
  rw[hs] at hev ⊢;have hra:=hrep.keep ((Fr.refl (λ_=>False) w).alloc (.cells #[.int .u8 13,.int .u8 e,.int .u64 n,.string T,.slice na nl nc,.slice ka nk kc,.slice sa nss sc] 46)) (λ_ _ x=>x);have hstv:=StartVector_calls b F st (numSize e) ns.length (numSize e) _ hra hz (by omega) (by omega) (by omega);rw[hsv,<-hnl] at hstv;have hlen1:st1.m.bytes.length<=1600000:=by
   have hg:=(startVec_grow st.m (numSize e) ns.length hz).len;rw[hst1];show ((st.m.prep 4 (numSize e*ns.length)).prep (numSize e) (numSize e*ns.length)).bytes.length<=_;omega
  have HSV:=Hd hstv;have HEV:=Hd hev;have HL1:=Hd hlen1;have HNS:=Hd hns;have HN3:=Hd hn3;have HNL:=Hd hnl;have HSC:=Hd (scalarSize_calls e he);have hb8:nc<9223372036854775808:=by have:=hn2;unfold maxLen at this;omega
  have hn1':nl<=nc:=by omega
  have hnl2:nl<=200:=by omega
  have hbx:(w.alloc (.cells #[.int .u8 13,.int .u8 e,.int .u64 n,.string T,.slice na nl nc,.slice ka nk kc,.slice sa nss sc] 46)).heap[w.heap.size]?=some (.cells #[.int .u8 13,.int .u8 e,.int .u64 n,.string T,.slice na nl nc,.slice ka nk kc,.slice sa nss sc] 46):=heap_alloc_new _ _;have HBX:=Hd hbx;have hws:(w.alloc (.cells #[.int .u8 13,.int .u8 e,.int .u64 n,.string T,.slice na nl nc,.slice ka nk kc,.slice sa nss sc] 46)).heap.size=w.heap.size+1:=by rw[size_alloc]
  have HWS:=Hd hws;have HFL:=Hd hfl;clear hstv hev hlen1 hns hn3 hnl hnk hnss hbx hra hrep hok hbd hb e1 hs hsv hst1 hT hnv hn1 hn2 hn4 hz hz8 hws hka hkc hks hsa hsc hsd hss hk' ht hn;go_enter Tryz.func108,Tryz.ntmps108;go_wp2_with fail;refine (HSC.out _).mono ?_;rintro e2 w2 ⟨rfl,rfl⟩;go_wp2_with fail;refine HSV.out.mono ?_;rintro e2 w2 ⟨rfl,F2,hb2,ha2⟩;obtain⟨hn0,hh0⟩:=ha2.out (k:=w.heap.size) (by rw[HWS.out];omega) (λhm=>by have:=HFL.out _ hm;omega);rw[HBX.out] at hh0;have hstart:BNR b F w [.int .u8 13,.int .u8 e,.int .u64 n,.string T,.slice na nl nc,.slice ka nk kc,.slice sa nss sc] st1 e ns ((nl:Int)-1) w2:=by
   refine⟨F2,?_,(Adv.alloc _).trans ha2,hh0,hn0,by have:=ha2.1.size;rw[HWS.out] at this;omega⟩;rw[show ((nl:Int)-1+1).toNat=ns.length by rw[<-HNL.out];omega,List.drop_length];exact hb2
  have b4:w2.cell? ⟨w.heap.size,4,none⟩=some (.slice na nl nc):=by rw[cell_of hh0];rfl
  have HST:=Hd hstart;clear hstart hb2 ha2 hn0 hh0;go_wp2_with fail;go_loopw [8] (λiv wr=>∃q:Int,-1<=q/\q<nl/\iv=.int .i64 q/\BNR b F w [.int .u8 13,.int .u8 e,.int .u64 n,.string T,.slice na nl nc,.slice ka nk kc,.slice sa nss sc] st1 e ns q wr) (λiv _=>(intOf iv+1).toNat)
  case atStart=>exact⟨(nl:Int)-1,by omega,by omega,rfl,HST.out⟩
  case round =>
   obtain⟨q,hq1,hq2,rfl,hR⟩:=hrel;clear HST b4;obtain⟨F5,hb5,ha5,hx5,hn5,hs5⟩:=hR;have q1:wr.cell? ⟨w.heap.size,1,none⟩=some (.int .u8 e):=(by rw[cell_of hx5];rfl);have q4:wr.cell? ⟨w.heap.size,4,none⟩=some (.slice na nl nc):=(by rw[cell_of hx5];rfl);by_cases hlq:q<0
   ·have hqe:q=-1:=(by omega);subst hqe;rw[show ((-1:Int)+1).toNat=0 by omega,List.drop_zero] at hb5;have hev2:=EndVector_calls b F5 _ ns.length wr hb5 (by omega);rw[<-HEV.out,<-HNL.out] at hev2;have HE:=Hd hev2;have HA5:=Hd ha5;clear hev2 hb5 ha5 hx5;go_wp2_with fail;refine HE.out.mono ?_;rintro e6 w6 ⟨rfl,F6,hb6,ha6⟩;have HB6:=Hd (And.intro hb6 (HA5.out.trans ha6));clear hb6 ha6;go_wp2_with fail;go_ret;exact⟨rfl,F6,HB6.out.1,HB6.out.2⟩
   ·obtain⟨p,rfl⟩:∃p:Nat,q=p:=⟨q.toNat,by omega⟩;have hp:p<ns.length:=(by rw[<-HNL.out];omega);obtain⟨g,o2,rfl,hg,hgF,hcell⟩:=HN3.out (by intro h0;rw[h0] at hp;simp at hp);obtain⟨hgn,hgh⟩:=ha5.out hg hgF;have c4:wr.cell? ⟨g,o2+p,none⟩=some (.int .u64 ns[p]):=(by rw[World.cell?_of_block (w:=w) hgh];exact hcell p hp);obtain⟨x,hx⟩:=exA (ns[p]);rw[<-hx] at c4;have hok1:OkNum e x:=(by rw[hx];exact HNS.out _ (List.getElem_mem hp));rw[show ((p:Int)+1).toNat=p+1 by omega] at hb5;have hlb:=bNums_len he st1.m ns (by omega) (p+1);have hpc:=λm=>prepend_b b F5 _ e x (wr.drewN m) (hb5.drewN m) hok1.right (by show (bNums e (ns.drop (p+1)) st1.m).bytes.length<=_;have:=HL1.out;omega);have HPC:=Hd hpc;have HA5:=Hd (And.intro ha5 (And.intro hx5 (And.intro hn5 hs5)));have HX:=Hd hx;clear hpc hb5 ha5 hx5 hn5 hlb hok1 hx hcell hgh hgn;go_upto_region 14 with fail;refine lst _ ?_;simp only[List.dropLast];repeat (go_big_quiet_step (fail))
    refine wpQuiet_nil ?_;intro nq;refine wpOp_step rfl (λK hK=>?_);go_simp;refine (HPC.out nq).mono ?_;rintro e6 w6 ⟨rfl,F6,hb6,ha6⟩;refine hK _ _ ?_;have hnx:=BNR.next hp HA5.out (Adv.of_drewN ha6) (by rw[<-HX.out];exact hb6);have HNX:=Hd hnx;clear hnx hb6 ha6;go_wp2_with fail;go_roundw
    case rel=>exact⟨(p:Int)-1,by omega,by omega,rfl,HNX.out⟩
    case measure=>simp[intOf]
theorem be14(sh:Bool)(e n:Nat)(t:List UInt8)(ns:List Nat)(ks:List Val)(ss:List (Slt Val))(ih:∀v∈ks,ElseC sh v):ElseC sh (.mk 14 e n t ns ks ss):=by
 intro hb st i0 b F w cs hok hbd hrep hv;obtain⟨lt,ln,lk,ls⟩:=hb.lens;have lt:t.length<=1000:=lt;have ln:ns.length<=200:=ln;have lk:ks.length<=200:=lk;have hu:=hok.inv.len;have hnd:1<=nodes (.mk 14 e n t ns ks ss):=nodes_pos _;have hfl:=hrep.below;have hgk:∀c∈ks,Bld c:=hb.kid;have hkk:∀c∈ks,c.kind=11:=hb.k14 rfl;have hk15:14≠14->∀c∈ks,c.kind=15:=λh=>absurd rfl h;have hnb:i0+2*nodesL ks<=300:=by rw[nodes] at hbd;omega
 obtain⟨os0,sx,hit,hout0,hol0,hos0⟩:=items_laid sh 14 ks st i0 hgk hk15 hok hnb;have hlx:=hout0.inv.len;obtain⟨ro,sr,hvec,-⟩:=vec_laid sx os0 hout0.nested hos0 (by omega);have e1:bElse sh (.mk 14 e n t ns ks ss) st=some (ro,sr):=by
  have h0:bElse sh (.mk 14 e n t ns ks ss) st=(bItems sh 14 ks st).bind λp=>bVec p.1 p.2:=by rw[bElse];rfl
  rw[h0,hit];exact hvec
 rw[e1];cases hv with
 | mk _ _ _ _ _ _ _ nv ka kc kg ko sa sc sg so hk' he' hn ht hnv hka hkc hks hsa hsc hsd hss =>
  obtain⟨na,nc,rfl,_⟩:=hnv.ok;obtain⟨T,hT⟩:=exA (strOf t);obtain⟨nl,hnl⟩:=exA (ns.length);obtain⟨nk,hnk⟩:=exA (ks.length);obtain⟨nss,hnss⟩:=exA (ss.length);have hkm:kc<=maxLen:=hkc.2;unfold maxLen at hkm;have hkc1:=hkc.1;rw[<-hnk] at hkc1;rw[<-hT,<-hnl,<-hnk,<-hnss];show Calls Tryz.prog 108 #[.pointer (some ⟨b,0,none⟩),.agg #[.int .u8 14,.int .u8 e,.int .u64 n,.string T,.slice na nl nc,.slice ka nk kc,.slice sa nss sc],.bool sh] w _;have HNK:=Hd hnk;have HKA:=Hd hka;have HKS:=Hd hks;have HFL:=Hd hfl;have HREP:=Hd hrep;have HOK:=Hd hok;have HNB:=Hd hnb;have IH:=Hd ih;have HGK:=Hd hgk;have HKK:=Hd hkk;have HK15:=Hd hk15;have HIT:=Hd hit;have HVEC:=Hd hvec;have HLX:=Hd hlx;have HOS0:=Hd hos0;have HOUT0:=Hd hout0;have HOL:=Hd (hol0.trans hnk.symm);have hnk2:nk<=200:=by omega
  obtain⟨i1,hj,hy0,hy1,hy2⟩:=info_parts infoU32o;clear hka hks hfl hrep hok hnb ih hgk hkk hk15 hit hvec hlx hos0 hout0 hol0 hT hnl hnk hnss hkc hsa hsc hsd hss hnv e1 hu hnd hbd hb lk ht hn he' hk';go_enter Tryz.func108,Tryz.ntmps108;go_wp2_with fail;have hstart:BIR1 sh 14 b F st i0 w [.int .u8 14,.int .u8 e,.int .u64 n,.string T,.slice na nl nc,.slice ka nk kc,.slice sa nss sc] ks 0 (.slice none 0 0) (w.alloc (.cells #[.int .u8 14,.int .u8 e,.int .u64 n,.string T,.slice na nl nc,.slice ka nk kc,.slice sa nss sc] 46)):=by
   have hO:=HOK.out;refine⟨F,st,[],⟨Adv.alloc _,HREP.out.keep ((Fr.refl (λ_=>False) w).alloc _) (λ_ _ x=>x),rfl,⟨hO.nested,hO.pi,Put.refl _,hO.inv.le (by omega)⟩,by simp,heap_alloc_new _ _,⟨rfl,.inl ⟨rfl,rfl⟩⟩,(λg hg=>by cases hg),rfl,λhm=>by have:=HFL.out _ hm;omega⟩⟩
  have HST:=Hd hstart;clear hstart;go_loopw [9,73] (λov iv wr=>∃i:Nat,i<=nk/\iv=.int .i64 i/\BIR1 sh 14 b F st i0 w [.int .u8 14,.int .u8 e,.int .u64 n,.string T,.slice na nl nc,.slice ka nk kc,.slice sa nss sc] ks i ov wr) (λ_ iv _=>nk-(intOf iv).toNat)
  case atStart=>exact⟨0,Nat.zero_le _,rfl,HST.out⟩
  case round =>
   obtain⟨i,hi,rfl,F1,st1,os1,hR⟩:=hrel;have hsz:=hR.size;have hbox:=hR.box;have bx0:wr.cell? ⟨w.heap.size,0,none⟩=some (.int .u8 14):=(by rw[cell_of hbox];rfl);have HR:=Hd hR;clear HST hbox;by_cases hlt:i<nk
   ·have hik:i<ks.length:=(by have:=HNK.out;omega);obtain⟨rfl,hkg,hBg⟩:=HKA.out (by intro h0;rw[h0] at hik;simp at hik);obtain⟨kid,hkid⟩:=exA (ks[i]);obtain⟨hgF,hgh⟩:=hR.adv.out hkg hBg;have hkv:VIs (λx=>x ∉ F1) wr (cellsAt wr kg (ko+i*7) 7) kid:=by
     rw[cellsAt_mono hgh,hkid];exact (HKS.out i hik).adv hR.adv
    obtain⟨na1,nl1,nc1,ka1,nk1,kc1,sa1,ns1,sc1,hlit,c0,c1,c2,c3,c4,c5,c6⟩:=hkv.at
    have hmem:kid∈ks:=(by rw[hkid];exact List.getElem_mem hik);have hk11:kid.kind=11:=HKK.out kid hmem;rw[hk11] at hlit c0;obtain⟨o,st2,hbi,hrun2,hout2⟩:=hR.more HOK.out HNB.out HGK.out HK15.out hik;rw[<-hkid] at hbi;have hnb2:i0+2*nodesL (ks.take i)+2*nodes kid<=300:=by
     have h2:=nodesL_take ks (i+1);rw[List.take_succ_eq_append_getElem hik,nodesL_snoc,<-hkid] at h2;have:=HNB.out
     omega
    have hbk:some (.cells #[.int .u8 11,.int .u8 kid.elem,.int .u64 kid.num,.string (strOf kid.text),.slice na1 nl1 nc1,.slice ka1 nk1 kc1,.slice sa1 ns1 sc1] 46)=(wr.alloc (.cells #[.int .u8 11,.int .u8 kid.elem,.int .u64 kid.num,.string (strOf kid.text),.slice na1 nl1 nc1,.slice ka1 nk1 kc1,.slice sa1 ns1 sc1] 46)).heap[wr.heap.size]?:=by
     rw[heap_alloc_new wr (.cells #[.int .u8 11,.int .u8 kid.elem,.int .u64 kid.num,.string (strOf kid.text),.slice na1 nl1 nc1,.slice ka1 nk1 kc1,.slice sa1 ns1 sc1] 46)]
    have hfa:Adv wr (wr.alloc (.cells #[.int .u8 11,.int .u8 kid.elem,.int .u64 kid.num,.string (strOf kid.text),.slice na1 nl1 nc1,.slice ka1 nk1 kc1,.slice sa1 ns1 sc1] 46)) F1 F1:=Adv.alloc _;have hra:BRep (wr.alloc (.cells #[.int .u8 11,.int .u8 kid.elem,.int .u64 kid.num,.string (strOf kid.text),.slice na1 nl1 nc1,.slice ka1 nk1 kc1,.slice sa1 ns1 sc1] 46)) b F1 st1:=hR.rep.keep ((Fr.refl (λ_=>False) wr).alloc _) (λ_ _ x=>x);have hva:VIs (λx=>x ∉ F1) (wr.alloc (.cells #[.int .u8 11,.int .u8 kid.elem,.int .u64 kid.num,.string (strOf kid.text),.slice na1 nl1 nc1,.slice ka1 nk1 kc1,.slice sa1 ns1 sc1] 46)) [.int .u8 11,.int .u8 kid.elem,.int .u64 kid.num,.string (strOf kid.text),.slice na1 nl1 nc1,.slice ka1 nk1 kc1,.slice sa1 ns1 sc1] kid:=hlit.adv hfa;have hcl:=IH.out kid hmem (HGK.out kid hmem) st1 (i0+2*nodesL (ks.take i)) b F1 (wr.alloc (.cells #[.int .u8 11,.int .u8 kid.elem,.int .u64 kid.num,.string (strOf kid.text),.slice na1 nl1 nc1,.slice ka1 nk1 kc1,.slice sa1 ns1 sc1] 46)) _ hR.out.ok hnb2 hra hva;rw[bElse_text sh kid st1 hk11,show bText sh kid.text st1=some (o,st2) from hbi] at hcl;have HCL:=Hd hcl;have HFA:=Hd hfa;have HRUN2:=Hd hrun2;have HOUT2:=Hd hout2;have bx1:=keep_alloc (.cells #[.int .u8 11,.int .u8 kid.elem,.int .u64 kid.num,.string (strOf kid.text),.slice na1 nl1 nc1,.slice ka1 nk1 kc1,.slice sa1 ns1 sc1] 46) bx0;clear hcl hfa hrun2 hout2 hbi hlit hkv hgF hgh hmem hk11 hbk hra hva hkid hnb2 hR;go_wp2_with fail;refine HCL.out.mono ?_;rintro e2 w2 ⟨rfl,F2,hb2,ha2⟩;have haa:=HFA.out.trans ha2;have hown2:=ownFr HR.out.row haa.1 (λg hg=>HR.out.rowF g hg);have HAA:=Hd haa;have HB2:=Hd hb2;have HSZ2:=Hd (show w.heap.size+1<=w2.heap.size by have:=haa.1.size;omega);clear haa hb2 ha2;go_wp2_with (at_builtin;refine wpList_append_lies _ rfl (.tmp 81) (.tmp 86) 100 rfl (w.heap.size+1) 98 i1 (.int .u32 0) 1 4 Tryz.underlying100 hj hy0 hy1 hy2 rfl (by decide) _ i (u32s os1) rfl (hown2.alloc _) ⟨w2.heap.size,0,none⟩ 1 1 [.int .u32 o] rfl rfl (newsL _ _ _ _ rfl) (by intro u hu;rw[List.mem_singleton.1 hu];rfl) (by omega) (by unfold maxLen;omega) (by omega) (by have:=HSZ2.out;simp;omega) (w2.heap.size+1) (by simp) ?_;intro g7 cap7 w7 hown7 hgrow7 hat7 hlt7);have hnx:=HR.out.next HAA.out HB2.out HRUN2.out HOUT2.out hgrow7 hown7 hat7;have HNX:=Hd hnx;clear hnx hown7 hgrow7 hat7 hown2;go_roundw
    case rel=>exact⟨i+1,by omega,by go_num,_,_,_,HNX.out⟩
    case measure=>simp[intOf];omega
   ·have hie:i=nk:=(by omega);subst hie;have hrun:=hR.run;rw[HNK.out,List.take_length,HIT.out] at hrun;injection hrun with hrun;injection hrun with ho1 ho2;subst ho1 ho2;obtain⟨oa,ocap,rfl,hoc1,hoc2⟩:=row_form hR.row;obtain⟨s1,hs1⟩:=exA (({ sx with m:=(sx.m.prep 4 (4*os0.length)).prep 4 (4*os0.length),nested:=true }:BSt));have hsv:=startVec_eq sx 4 os0.length HOUT0.out.nested;rw[<-hs1] at hsv;have hev:bVec os0 sx=(bOffs os0 s1).bind λs=>s.endVec os0.length:=(by unfold bVec;rw[hsv,Option.bind_some]);rw[HVEC.out] at hev;obtain⟨_,_,hmod,kz,hkz,hbz⟩:=startVec_m sx.m 4 os0.length (by unfold algn;omega);have h4:s1.m.bytes.length%4=0:=by
     rw[hs1];show ((sx.m.prep 4 (4*os0.length)).prep 4 (4*os0.length)).bytes.length%4=0;omega
    have hsub:sx.m.bytes.length<=s1.m.bytes.length/\s1.m.bytes.length<=sx.m.bytes.length+22:=by
     rw[hs1];show sx.m.bytes.length<=((sx.m.prep 4 (4*os0.length)).prep 4 (4*os0.length)).bytes.length/\((sx.m.prep 4 (4*os0.length)).prep 4 (4*os0.length)).bytes.length<=_;rw[hbz,List.length_append,List.length_replicate];omega
    have hoo:=λq=>offs_some (os:=os0) (st1:=s1) h4 (λo ho=>by have:=HOS0.out o ho;omega) (by have:=HLX.out;have:=HOL.out;have:=hsub.2;have:=HNB.out;omega) q;have hstv:=StartVector_calls b F1 sx 4 os0.length 4 wr hR.rep (by unfold algn;omega) (by omega) (by have:=HOL.out;omega) (by have:=HLX.out;have:=HNB.out;omega);rw[hsv,HOL.out] at hstv;have HSV:=Hd hstv;have HEV:=Hd hev;have HOO:=Hd hoo;have HSUB:=Hd hsub;unfold maxLen at hoc2;clear hstv hev hoo hsub h4 hsv hs1 hR hmod hbz hkz bx0;go_wp2_with fail;refine HSV.out.mono ?_;rintro e2 w2 ⟨rfl,F2,hb2,ha2⟩;have hown2:w2.ownsRow (w.heap.size+1) 98 1 (.slice oa i ocap) i (u32s os0):=ownFr HR.out.row ha2.1 (λg hg=>HR.out.rowF g hg);have hoF:∀g,(Value.slice oa i ocap).ownBlock=some g->g ∉ F2:=by
     intro g hg hm;rcases ha2.2 g hm with h1|h1
     ·exact HR.out.rowF g hg h1
     ·have:=(ownBlock_lt HR.out.row g hg).2;omega
    have hst2:BIR2 b F2 w2 s1 os0 ((i:Int)-1) w2:=by
     refine⟨F2,s1,hb2,?_,Adv.refl _ _⟩;rw[show ((i:Int)-1+1).toNat=os0.length by rw[HOL.out];omega,List.drop_length];rfl
    have HOWN:=Hd hown2;have HOF:=Hd hoF;have HST:=Hd hst2;have HAW:=Hd (HR.out.adv.trans ha2);clear hown2 hoF hst2 hb2 ha2;go_wp2_with fail;go_loopw [12] (λiv w3=>∃q:Int,-1<=q/\q<i/\iv=.int .i64 q/\BIR2 b F2 w2 s1 os0 q w3) (λiv _=>(intOf iv+1).toNat)
    case atStart=>exact⟨(i:Int)-1,by omega,by omega,rfl,HST.out⟩
    case round =>
     obtain⟨q,hq1,hq2,rfl,F5,sq,hb5,hbo5,ha5⟩:=hrel;clear HST;by_cases hlq:q<0
     ·have hqe:q=-1:=(by omega);subst hqe;rw[show ((-1:Int)+1).toNat=0 by omega,List.drop_zero] at hbo5;have hev2:=EndVector_calls b F5 sq os0.length wr hb5 (by have:=HOL.out;omega);have hev3:=HEV.out;rw[hbo5,Option.bind_some] at hev3;rw[<-hev3,HOL.out] at hev2;have HE:=Hd hev2;have HA5:=Hd (HAW.out.trans ha5);clear hev2 hev3 hb5 ha5 hbo5;go_wp2_with fail;refine HE.out.mono ?_;rintro e6 w6 ⟨rfl,F6,hb6,ha6⟩;have HB6:=Hd (And.intro hb6 (HA5.out.trans ha6));clear hb6 ha6;go_wp2_with fail;go_ret;exact⟨rfl,F6,HB6.out.1,HB6.out.2⟩
     ·obtain⟨p,rfl⟩:∃p:Nat,q=p:=⟨q.toNat,by omega⟩;have hp:p<os0.length:=(by rw[HOL.out];omega);obtain⟨g,cap,hge,_,hgl,_,_,hcell⟩:=row_cell HOWN.out hp;have hgn:=HOF.out g (by rw[hge];rfl);obtain⟨_,hgh⟩:=ha5.out hgl hgn;injection hge with hge _ hge2;subst hge hge2;have c5:wr.cell? ⟨g,p,none⟩=some (.int .u32 os0[p]):=(by rw[World.cell?_of_block (w:=w2) hgh];exact hcell);obtain⟨x,hx⟩:=exA (os0[p]);rw[<-hx] at c5;have hxo:=HOS0.out os0[p] (List.getElem_mem hp);rw[<-hx] at hxo;rw[show ((p:Int)+1).toNat=p+1 by omega] at hbo5;obtain⟨s2,hb6,hl6,_⟩:=HOO.out p;obtain⟨s5,hb7,hl7,_⟩:=HOO.out (p+1);rw[hb7] at hbo5;injection hbo5 with hbo5;subst hbo5;have hdr:os0.drop p=x::os0.drop (p+1):=(by rw[hx];exact List.drop_eq_getElem_cons hp);have hrf:s5.refer x=some s2:=by
       have h0:=hb6;rw[hdr] at h0;have h0:(bOffs (os0.drop (p+1)) s1).bind (λs=>s.refer x)=some s2:=h0;rw[hb7] at h0;exact h0
      have hpc:=PrependUOffsetT_b b F5 s5 x wr hb5 hl7 (by have:=HLX.out;have:=HNB.out;omega);rw[hrf] at hpc;have HPC:=Hd hpc;have HA5:=Hd ha5;have HB6:=Hd hb6;clear hpc hb5 ha5 hb6 hb7 hl6 hl7 hdr hrf hx hxo hcell hgh hgn hgl;go_wp2_with fail;refine HPC.out.mono ?_;rintro e6 w6 ⟨rfl,F6,hb6,ha6⟩;have hnx:BIR2 b F2 w2 s1 os0 ((p:Int)-1) w6:=by
       refine⟨F6,s2,hb6,?_,HA5.out.trans ha6⟩;rw[show ((p:Int)-1+1).toNat=p by omega];exact HB6.out
      have HNX:=Hd hnx;clear hnx hb6 ha6;go_wp2_with fail;go_roundw
      case rel=>exact⟨(p:Int)-1,by omega,by omega,rfl,HNX.out⟩
      case measure=>simp[intOf]
theorem be16(sh:Bool)(e n:Nat)(t:List UInt8)(ns:List Nat)(ks:List Val)(ss:List (Slt Val))(ih:∀v∈ks,TabC sh v):ElseC sh (.mk 16 e n t ns ks ss):=by
 intro hb st i0 b F w cs hok hbd hrep hv;obtain⟨lt,ln,lk,ls⟩:=hb.lens;have lt:t.length<=1000:=lt;have ln:ns.length<=200:=ln;have lk:ks.length<=200:=lk;have hu:=hok.inv.len;have hnd:1<=nodes (.mk 16 e n t ns ks ss):=nodes_pos _;have hfl:=hrep.below;have hgk:∀c∈ks,Bld c:=hb.kid;have hkk:∀c∈ks,c.kind=15:=hb.k16 rfl;have hk15:16≠14->∀c∈ks,c.kind=15:=λ_=>hkk;have hnb:i0+2*nodesL ks<=300:=by rw[nodes] at hbd;omega
 obtain⟨os0,sx,hit,hout0,hol0,hos0⟩:=items_laid sh 16 ks st i0 hgk hk15 hok hnb;have hlx:=hout0.inv.len;obtain⟨ro,sr,hvec,-⟩:=vec_laid sx os0 hout0.nested hos0 (by omega);have e1:bElse sh (.mk 16 e n t ns ks ss) st=some (ro,sr):=by
  have h0:bElse sh (.mk 16 e n t ns ks ss) st=(bItems sh 16 ks st).bind λp=>bVec p.1 p.2:=by rw[bElse];rfl
  rw[h0,hit];exact hvec
 rw[e1];cases hv with
 | mk _ _ _ _ _ _ _ nv ka kc kg ko sa sc sg so hk' he' hn ht hnv hka hkc hks hsa hsc hsd hss =>
  obtain⟨na,nc,rfl,_⟩:=hnv.ok;obtain⟨T,hT⟩:=exA (strOf t);obtain⟨nl,hnl⟩:=exA (ns.length);obtain⟨nk,hnk⟩:=exA (ks.length);obtain⟨nss,hnss⟩:=exA (ss.length);have hkm:kc<=maxLen:=hkc.2;unfold maxLen at hkm;have hkc1:=hkc.1;rw[<-hnk] at hkc1;rw[<-hT,<-hnl,<-hnk,<-hnss];show Calls Tryz.prog 108 #[.pointer (some ⟨b,0,none⟩),.agg #[.int .u8 16,.int .u8 e,.int .u64 n,.string T,.slice na nl nc,.slice ka nk kc,.slice sa nss sc],.bool sh] w _;have HNK:=Hd hnk;have HKA:=Hd hka;have HKS:=Hd hks;have HFL:=Hd hfl;have HREP:=Hd hrep;have HOK:=Hd hok;have HNB:=Hd hnb;have IH:=Hd ih;have HGK:=Hd hgk;have HKK:=Hd hkk;have HK15:=Hd hk15;have HIT:=Hd hit;have HVEC:=Hd hvec;have HLX:=Hd hlx;have HOS0:=Hd hos0;have HOUT0:=Hd hout0;have HOL:=Hd (hol0.trans hnk.symm);have hnk2:nk<=200:=by omega
  obtain⟨i1,hj,hy0,hy1,hy2⟩:=info_parts infoU32o;clear hka hks hfl hrep hok hnb ih hgk hkk hk15 hit hvec hlx hos0 hout0 hol0 hT hnl hnk hnss hkc hsa hsc hsd hss hnv e1 hu hnd hbd hb lk ht hn he' hk';go_enter Tryz.func108,Tryz.ntmps108;go_wp2_with fail;have hstart:BIR1 sh 16 b F st i0 w [.int .u8 16,.int .u8 e,.int .u64 n,.string T,.slice na nl nc,.slice ka nk kc,.slice sa nss sc] ks 0 (.slice none 0 0) (w.alloc (.cells #[.int .u8 16,.int .u8 e,.int .u64 n,.string T,.slice na nl nc,.slice ka nk kc,.slice sa nss sc] 46)):=by
   have hO:=HOK.out;refine⟨F,st,[],⟨Adv.alloc _,HREP.out.keep ((Fr.refl (λ_=>False) w).alloc _) (λ_ _ x=>x),rfl,⟨hO.nested,hO.pi,Put.refl _,hO.inv.le (by omega)⟩,by simp,heap_alloc_new _ _,⟨rfl,.inl ⟨rfl,rfl⟩⟩,(λg hg=>by cases hg),rfl,λhm=>by have:=HFL.out _ hm;omega⟩⟩
  have HST:=Hd hstart;clear hstart;go_loopw [9,73] (λov iv wr=>∃i:Nat,i<=nk/\iv=.int .i64 i/\BIR1 sh 16 b F st i0 w [.int .u8 16,.int .u8 e,.int .u64 n,.string T,.slice na nl nc,.slice ka nk kc,.slice sa nss sc] ks i ov wr) (λ_ iv _=>nk-(intOf iv).toNat)
  case atStart=>exact⟨0,Nat.zero_le _,rfl,HST.out⟩
  case round =>
   obtain⟨i,hi,rfl,F1,st1,os1,hR⟩:=hrel;have hsz:=hR.size;have hbox:=hR.box;have bx0:wr.cell? ⟨w.heap.size,0,none⟩=some (.int .u8 16):=(by rw[cell_of hbox];rfl);have HR:=Hd hR;clear HST hbox;by_cases hlt:i<nk
   ·have hik:i<ks.length:=(by have:=HNK.out;omega);obtain⟨rfl,hkg,hBg⟩:=HKA.out (by intro h0;rw[h0] at hik;simp at hik);obtain⟨kid,hkid⟩:=exA (ks[i]);obtain⟨hgF,hgh⟩:=hR.adv.out hkg hBg;have hkv:VIs (λx=>x ∉ F1) wr (cellsAt wr kg (ko+i*7) 7) kid:=by
     rw[cellsAt_mono hgh,hkid];exact (HKS.out i hik).adv hR.adv
    obtain⟨na1,nl1,nc1,ka1,nk1,kc1,sa1,ns1,sc1,hlit,c0,c1,c2,c3,c4,c5,c6⟩:=hkv.at
    have hmem:kid∈ks:=(by rw[hkid];exact List.getElem_mem hik);have hk11:kid.kind=15:=HKK.out kid hmem;rw[hk11] at hlit c0;obtain⟨o,st2,hbi,hrun2,hout2⟩:=hR.more HOK.out HNB.out HGK.out HK15.out hik;rw[<-hkid] at hbi;have hnb2:i0+2*nodesL (ks.take i)+2*nodes kid<=300:=by
     have h2:=nodesL_take ks (i+1);rw[List.take_succ_eq_append_getElem hik,nodesL_snoc,<-hkid] at h2;have:=HNB.out
     omega
    have hbk:some (.cells #[.int .u8 15,.int .u8 kid.elem,.int .u64 kid.num,.string (strOf kid.text),.slice na1 nl1 nc1,.slice ka1 nk1 kc1,.slice sa1 ns1 sc1] 46)=(wr.alloc (.cells #[.int .u8 15,.int .u8 kid.elem,.int .u64 kid.num,.string (strOf kid.text),.slice na1 nl1 nc1,.slice ka1 nk1 kc1,.slice sa1 ns1 sc1] 46)).heap[wr.heap.size]?:=by
     rw[heap_alloc_new wr (.cells #[.int .u8 15,.int .u8 kid.elem,.int .u64 kid.num,.string (strOf kid.text),.slice na1 nl1 nc1,.slice ka1 nk1 kc1,.slice sa1 ns1 sc1] 46)]
    have hfa:Adv wr (wr.alloc (.cells #[.int .u8 15,.int .u8 kid.elem,.int .u64 kid.num,.string (strOf kid.text),.slice na1 nl1 nc1,.slice ka1 nk1 kc1,.slice sa1 ns1 sc1] 46)) F1 F1:=Adv.alloc _;have hra:BRep (wr.alloc (.cells #[.int .u8 15,.int .u8 kid.elem,.int .u64 kid.num,.string (strOf kid.text),.slice na1 nl1 nc1,.slice ka1 nk1 kc1,.slice sa1 ns1 sc1] 46)) b F1 st1:=hR.rep.keep ((Fr.refl (λ_=>False) wr).alloc _) (λ_ _ x=>x);have hva:VIs (λx=>x ∉ F1) (wr.alloc (.cells #[.int .u8 15,.int .u8 kid.elem,.int .u64 kid.num,.string (strOf kid.text),.slice na1 nl1 nc1,.slice ka1 nk1 kc1,.slice sa1 ns1 sc1] 46)) [.int .u8 15,.int .u8 kid.elem,.int .u64 kid.num,.string (strOf kid.text),.slice na1 nl1 nc1,.slice ka1 nk1 kc1,.slice sa1 ns1 sc1] kid:=hlit.adv hfa;have hcl:=IH.out kid hmem (HGK.out kid hmem) st1 (i0+2*nodesL (ks.take i)) b F1 (wr.alloc (.cells #[.int .u8 15,.int .u8 kid.elem,.int .u64 kid.num,.string (strOf kid.text),.slice na1 nl1 nc1,.slice ka1 nk1 kc1,.slice sa1 ns1 sc1] 46)) _ hR.out.ok hnb2 hra hva;rw[show bTab sh kid st1=some (o,st2) from hbi] at hcl;have HCL:=Hd hcl;have HFA:=Hd hfa;have HRUN2:=Hd hrun2;have HOUT2:=Hd hout2;have bx1:=keep_alloc (.cells #[.int .u8 15,.int .u8 kid.elem,.int .u64 kid.num,.string (strOf kid.text),.slice na1 nl1 nc1,.slice ka1 nk1 kc1,.slice sa1 ns1 sc1] 46) bx0;clear hcl hfa hrun2 hout2 hbi hlit hkv hgF hgh hmem hk11 hbk hra hva hkid hnb2 hR;go_wp2_with fail;refine HCL.out.mono ?_;rintro e2 w2 ⟨rfl,F2,hb2,ha2⟩;have haa:=HFA.out.trans ha2;have hown2:=ownFr HR.out.row haa.1 (λg hg=>HR.out.rowF g hg);have HAA:=Hd haa;have HB2:=Hd hb2;have HSZ2:=Hd (show w.heap.size+1<=w2.heap.size by have:=haa.1.size;omega);clear haa hb2 ha2;go_wp2_with (at_builtin;refine wpList_append_lies _ rfl (.tmp 88) (.tmp 93) 100 rfl (w.heap.size+1) 98 i1 (.int .u32 0) 1 4 Tryz.underlying100 hj hy0 hy1 hy2 rfl (by decide) _ i (u32s os1) rfl (hown2.alloc _) ⟨w2.heap.size,0,none⟩ 1 1 [.int .u32 o] rfl rfl (newsL _ _ _ _ rfl) (by intro u hu;rw[List.mem_singleton.1 hu];rfl) (by omega) (by unfold maxLen;omega) (by omega) (by have:=HSZ2.out;simp;omega) (w2.heap.size+1) (by simp) ?_;intro g7 cap7 w7 hown7 hgrow7 hat7 hlt7);have hnx:=HR.out.next HAA.out HB2.out HRUN2.out HOUT2.out hgrow7 hown7 hat7;have HNX:=Hd hnx;clear hnx hown7 hgrow7 hat7 hown2;go_roundw
    case rel=>exact⟨i+1,by omega,by go_num,_,_,_,HNX.out⟩
    case measure=>simp[intOf];omega
   ·have hie:i=nk:=(by omega);subst hie;have hrun:=hR.run;rw[HNK.out,List.take_length,HIT.out] at hrun;injection hrun with hrun;injection hrun with ho1 ho2;subst ho1 ho2;obtain⟨oa,ocap,rfl,hoc1,hoc2⟩:=row_form hR.row;obtain⟨s1,hs1⟩:=exA (({ sx with m:=(sx.m.prep 4 (4*os0.length)).prep 4 (4*os0.length),nested:=true }:BSt));have hsv:=startVec_eq sx 4 os0.length HOUT0.out.nested;rw[<-hs1] at hsv;have hev:bVec os0 sx=(bOffs os0 s1).bind λs=>s.endVec os0.length:=(by unfold bVec;rw[hsv,Option.bind_some]);rw[HVEC.out] at hev;obtain⟨_,_,hmod,kz,hkz,hbz⟩:=startVec_m sx.m 4 os0.length (by unfold algn;omega);have h4:s1.m.bytes.length%4=0:=by
     rw[hs1];show ((sx.m.prep 4 (4*os0.length)).prep 4 (4*os0.length)).bytes.length%4=0;omega
    have hsub:sx.m.bytes.length<=s1.m.bytes.length/\s1.m.bytes.length<=sx.m.bytes.length+22:=by
     rw[hs1];show sx.m.bytes.length<=((sx.m.prep 4 (4*os0.length)).prep 4 (4*os0.length)).bytes.length/\((sx.m.prep 4 (4*os0.length)).prep 4 (4*os0.length)).bytes.length<=_;rw[hbz,List.length_append,List.length_replicate];omega
    have hoo:=λq=>offs_some (os:=os0) (st1:=s1) h4 (λo ho=>by have:=HOS0.out o ho;omega) (by have:=HLX.out;have:=HOL.out;have:=hsub.2;have:=HNB.out;omega) q;have hstv:=StartVector_calls b F1 sx 4 os0.length 4 wr hR.rep (by unfold algn;omega) (by omega) (by have:=HOL.out;omega) (by have:=HLX.out;have:=HNB.out;omega);rw[hsv,HOL.out] at hstv;have HSV:=Hd hstv;have HEV:=Hd hev;have HOO:=Hd hoo;have HSUB:=Hd hsub;unfold maxLen at hoc2;clear hstv hev hoo hsub h4 hsv hs1 hR hmod hbz hkz bx0;go_wp2_with fail;refine HSV.out.mono ?_;rintro e2 w2 ⟨rfl,F2,hb2,ha2⟩;have hown2:w2.ownsRow (w.heap.size+1) 98 1 (.slice oa i ocap) i (u32s os0):=ownFr HR.out.row ha2.1 (λg hg=>HR.out.rowF g hg);have hoF:∀g,(Value.slice oa i ocap).ownBlock=some g->g ∉ F2:=by
     intro g hg hm;rcases ha2.2 g hm with h1|h1
     ·exact HR.out.rowF g hg h1
     ·have:=(ownBlock_lt HR.out.row g hg).2;omega
    have hst2:BIR2 b F2 w2 s1 os0 ((i:Int)-1) w2:=by
     refine⟨F2,s1,hb2,?_,Adv.refl _ _⟩;rw[show ((i:Int)-1+1).toNat=os0.length by rw[HOL.out];omega,List.drop_length];rfl
    have HOWN:=Hd hown2;have HOF:=Hd hoF;have HST:=Hd hst2;have HAW:=Hd (HR.out.adv.trans ha2);clear hown2 hoF hst2 hb2 ha2;go_wp2_with fail;go_loopw [12] (λiv w3=>∃q:Int,-1<=q/\q<i/\iv=.int .i64 q/\BIR2 b F2 w2 s1 os0 q w3) (λiv _=>(intOf iv+1).toNat)
    case atStart=>exact⟨(i:Int)-1,by omega,by omega,rfl,HST.out⟩
    case round =>
     obtain⟨q,hq1,hq2,rfl,F5,sq,hb5,hbo5,ha5⟩:=hrel;clear HST;by_cases hlq:q<0
     ·have hqe:q=-1:=(by omega);subst hqe;rw[show ((-1:Int)+1).toNat=0 by omega,List.drop_zero] at hbo5;have hev2:=EndVector_calls b F5 sq os0.length wr hb5 (by have:=HOL.out;omega);have hev3:=HEV.out;rw[hbo5,Option.bind_some] at hev3;rw[<-hev3,HOL.out] at hev2;have HE:=Hd hev2;have HA5:=Hd (HAW.out.trans ha5);clear hev2 hev3 hb5 ha5 hbo5;go_wp2_with fail;refine HE.out.mono ?_;rintro e6 w6 ⟨rfl,F6,hb6,ha6⟩;have HB6:=Hd (And.intro hb6 (HA5.out.trans ha6));clear hb6 ha6;go_wp2_with fail;go_ret;exact⟨rfl,F6,HB6.out.1,HB6.out.2⟩
     ·obtain⟨p,rfl⟩:∃p:Nat,q=p:=⟨q.toNat,by omega⟩;have hp:p<os0.length:=(by rw[HOL.out];omega);obtain⟨g,cap,hge,_,hgl,_,_,hcell⟩:=row_cell HOWN.out hp;have hgn:=HOF.out g (by rw[hge];rfl);obtain⟨_,hgh⟩:=ha5.out hgl hgn;injection hge with hge _ hge2;subst hge hge2;have c5:wr.cell? ⟨g,p,none⟩=some (.int .u32 os0[p]):=(by rw[World.cell?_of_block (w:=w2) hgh];exact hcell);obtain⟨x,hx⟩:=exA (os0[p]);rw[<-hx] at c5;have hxo:=HOS0.out os0[p] (List.getElem_mem hp);rw[<-hx] at hxo;rw[show ((p:Int)+1).toNat=p+1 by omega] at hbo5;obtain⟨s2,hb6,hl6,_⟩:=HOO.out p;obtain⟨s5,hb7,hl7,_⟩:=HOO.out (p+1);rw[hb7] at hbo5;injection hbo5 with hbo5;subst hbo5;have hdr:os0.drop p=x::os0.drop (p+1):=(by rw[hx];exact List.drop_eq_getElem_cons hp);have hrf:s5.refer x=some s2:=by
       have h0:=hb6;rw[hdr] at h0;have h0:(bOffs (os0.drop (p+1)) s1).bind (λs=>s.refer x)=some s2:=h0;rw[hb7] at h0;exact h0
      have hpc:=PrependUOffsetT_b b F5 s5 x wr hb5 hl7 (by have:=HLX.out;have:=HNB.out;omega);rw[hrf] at hpc;have HPC:=Hd hpc;have HA5:=Hd ha5;have HB6:=Hd hb6;clear hpc hb5 ha5 hb6 hb7 hl6 hl7 hdr hrf hx hxo hcell hgh hgn hgl;go_wp2_with fail;refine HPC.out.mono ?_;rintro e6 w6 ⟨rfl,F6,hb6,ha6⟩;have hnx:BIR2 b F2 w2 s1 os0 ((p:Int)-1) w6:=by
       refine⟨F6,s2,hb6,?_,HA5.out.trans ha6⟩;rw[show ((p:Int)-1+1).toNat=p by omega];exact HB6.out
      have HNX:=Hd hnx;clear hnx hb6 ha6;go_wp2_with fail;go_roundw
      case rel=>exact⟨(p:Int)-1,by omega,by omega,rfl,HNX.out⟩
      case measure=>simp[intOf]
theorem build_val(sh:Bool):∀v,ElseC sh v/\TabC sh v:=by
 intro v;induction v using Val.ind with
 | h k e n t ns ks ss ihk ihs =>
  have ht:TabC sh (.mk k e n t ns ks ss):=buildTable_of sh k e n t ns ks ss (λs hs _=>(ihs s hs).1);refine⟨?_,ht⟩;by_cases h1:k=11
  ·subst h1;exact be11 sh e n t ns ks ss
  by_cases h2:k=12
  ·subst h2;exact be12 sh e n t ns ks ss
  by_cases h3:k=13
  ·subst h3;exact be13 sh e n t ns ks ss
  by_cases h4:k=14
  ·subst h4;exact be14 sh e n t ns ks ss (λv hv=>(ihk v hv).1)
  by_cases h5:k=15
  ·subst h5;exact be15 sh e n t ns ks ss ht
  by_cases h6:k=16
  ·subst h6;exact be16 sh e n t ns ks ss (λv hv=>(ihk v hv).2)
  exact be0 sh e n t ns ks ss k h1 h2 h3 h4 h5 h6
end Go.Proofs.YtcfblkkpclfmaaaGreat
