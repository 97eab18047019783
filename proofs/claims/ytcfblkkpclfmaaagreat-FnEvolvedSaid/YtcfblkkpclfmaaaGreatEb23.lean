/- Part 23 of the proof of FnEvolved; no condition. -/
import Derived.Test.YtcfblkkpclfmaaaGreatEb21
import Derived.Test.YtcfblkkpclfmaaaGreatEb14
import Derived.Test.YtcfblkkpclfmaaaGreatEb12
import Derived.Test.YtcfblkkpclfmaaaGreatProg
import Derived.Test.YtcfblkkpclfmaaaGreatEb01
import Derived.Recover
import Derived.Laws.Pointers
import Derived.WalkLawsBesides
import Derived.Lib.Hide
import Derived.Test.YtcfblkkpclfmaaaGreatEb02
import Derived.Deep.RegionHeld3
set_option linter.unusedVariables false
set_option linter.unusedSimpArgs false
set_option maxRecDepth 100000
set_option maxHeartbeats 16000000
namespace Go.Proofs.YtcfblkkpclfmaaaGreat
open Go.RowKit
def BothRes(B:Nat->Prop)(o:Option Val)(w:World)(e:Ending)(w':World):Prop:=Fr0 w w'/\match o with
 | some c=>∃cs,e=.returned (.tuple #[.agg cs.toArray,.bool true])/\VIs (λb=>B b\/w.heap.size<=b) w' cs c
 | none=>e=.returned (.tuple #[.agg #[.int .u8 0,.int .u8 0,.int .u64 0,.string ⟨#[]⟩,.slice none 0 0,.slice none 0 0,.slice none 0 0],.bool false])
def BothC(a:Val):Prop:=Small a->∀(B:Nat->Prop) (b:Val) (ca cb:List Value) (w:World),VIs B w ca a->VIs B w cb b->Calls Tryz.prog 89 #[.agg ca.toArray,.agg cb.toArray] w (BothRes B (both a b) w)
def bothT'(s t:Slt Val):Option (Slt Val):=(both s.val t.val).bind λx=>if s.dflt=t.dflt then some ⟨false,x,s.dflt⟩ else none
theorem bothT_eq(s t:Slt Val):bothT s t=bothT' s t:=by cases s;rfl
theorem bothS_take(ss ts:List (Slt Val))(i:Nat)(hi:i<ss.length)(hj:i<ts.length):bothS (ss.take (i+1)) (ts.take (i+1))=(bothS (ss.take i) (ts.take i)).bind λos=>(bothT' ss[i] ts[i]).map λx=>os++[x]:=by
 induction ss generalizing ts i with
 | nil=>simp at hi
 | cons s r ih =>
  cases ts with
  | nil=>simp at hj
  | cons t u =>
   cases i with
   | zero =>
    simp only[List.take_succ_cons,List.take_zero,List.getElem_cons_zero];simp only[bothS,bothT_eq];cases bothT' s t with
    | none=>rfl
    | some x=>rfl
   | succ i =>
    have hi':i<r.length:=(by simpa using hi);have hj':i<u.length:=(by simpa using hj);simp only[List.take_succ_cons,List.getElem_cons_succ,bothS,bothT_eq];cases h:bothT' s t with
    | none=>rfl
    | some x =>
     simp only[Option.bind_some];rw[ih u i hi' hj'];cases bothS (r.take i) (u.take i) with
     | none=>rfl
     | some xs =>
      simp only[Option.bind_some,Option.map_some];cases bothT' r[i] u[i] with
      | none=>rfl
      | some y=>rfl
theorem bothS_none_take:∀(ss ts:List (Slt Val)) (i:Nat),bothS (ss.take i) (ts.take i)=none->bothS ss ts=none
 | [],ts,i,h=>by simp[bothS] at h
 | s::r,[],i,h=>by rw[bothS]
 | s::r,t::u,0,h=>by simp[bothS] at h
 | s::r,t::u,i+1,h=>by
  rw[List.take_succ_cons,List.take_succ_cons,bothS] at h;rw[bothS];cases hb:bothT s t with
  | none=>rfl
  | some x =>
   rw[hb] at h;simp only[Option.bind_some] at h ⊢;cases hr:bothS (r.take i) (u.take i) with
   | none=>rw[bothS_none_take r u i hr];rfl
   | some xs=>rw[hr] at h;cases h
theorem both_def(k e n:Nat)(t:List UInt8)(ns:List Nat)(ks:List Val)(ss:List (Slt Val))(b:Val):both (.mk k e n t ns ks ss) b=if k=b.kind/\e=b.elem/\ss.length=b.slots.length/\(k=17->t.length=b.text.length) then (bothS ss b.slots).bind λos=>(bothK ks b.kids).map λkk=>.mk k e 0 t [] kk os else none:=by
 rw[both]
structure RB(B:Nat->Prop)(w:World)(ba bb:List Value)(k e:Nat)(tt:ByteArray)(kv:Value)(wr:World)(sv:Value)(sits:List (List Value × Slt Val)):Prop where
 fr:Fr0 w wr
 size:w.heap.size+4<=wr.heap.size
 boxa:wr.heap[w.heap.size]?=some (.cells ba.toArray 27)
 boxb:wr.heap[w.heap.size+1]?=some (.cells bb.toArray 27)
 res:∃c:Array Value,c.size=7/\wr.heap[w.heap.size+1+1]?=some (.cells c 27)
 out:wr.heap[w.heap.size+1+1+1]?=some (.cells #[.int .u8 k,.int .u8 e,.int .u64 0,.string tt,.slice none 0 0,kv,sv] 27)
 srow:SRow (BI B w.heap.size 4 sv) (w.heap.size+4) 54 wr sv sits
theorem RB.next{B:Nat->Prop}{w:World}{ba bb:List Value}{k e n':Nat}{tt:ByteArray}{kv:Value}{wr w6 w7:World}{sv:Value}{sits:List (List Value × Slt Val)}{sl:Slt Val}{csr:List Value}{o:Obj}{g7 cap7:Nat}(h:RB B w ba bb k e tt kv wr sv sits)
  (h56:Fr0 wr w6) (hv6:VIs (λb=>(B b/\b<w.heap.size)\/wr.heap.size<=b) w6 csr sl.val) (hd:sl.dflt<2^64) (hgrow:(w6.alloc o).grownBy w7 sv.ownBlock) (hn:n'=sits.length+1)
  (hown7:w7.ownsRow (w.heap.size+4) 54 9 (.slice (some ⟨g7,0,none⟩) n' cap7) n' ((sits.map λx=>slotC x.2 x.1).flatten++slotC sl csr)) (hat7:sv.ownBlock=some g7\/g7=w6.heap.size+1):
  RB B w ba bb k e tt kv (w7.setCell ⟨w.heap.size+1+1+1,6,none⟩ (.slice (some ⟨g7,0,none⟩) n' cap7)) (.slice (some ⟨g7,0,none⟩) n' cap7) (sits++[(csr,sl)]):=by
 have hs:=h.size;have hs6:=h56.size;have hs7:=hgrow.size;rw[size_alloc] at hs7;have hrl:=ownBlock_lt h.srow.own;have hfr7:Fr (λb=>some b=sv.ownBlock) wr w7:=((h56.mono (S':=λb=>some b=sv.ownBlock) (λ_ _ x=>x.elim)).alloc o).trans (grown_fr' hgrow);have hkeep:∀b,b<w.heap.size+4->w7.heap[b]?=wr.heap[b]?:=λb hb=>hfr7.block b (by omega) (λe=>by have:=(hrl b e.symm).1;omega);have hset:∀b,b≠w.heap.size+1+1+1->∀u,(w7.setCell ⟨w.heap.size+1+1+1,6,none⟩ u).heap[b]?=w7.heap[b]?:=λb hb u=>heap_setCell_other w7 _ u b hb;have hssz:∀u,(w7.setCell ⟨w.heap.size+1+1+1,6,none⟩ u).heap.size=w7.heap.size:=λu=>by simp[World.setCell]
 refine⟨?_,by rw[hssz];omega,?_,?_,?_,?_,?_⟩
 ·refine (h.fr.trans2 hfr7 (λb hb e=>?_)).setCell (λhb=>?_) _
  ·have:=(hrl b e.symm).1;omega
  ·have:w.heap.size+1+1+1<w.heap.size:=hb
   omega
 ·rw[hset _ (by omega),hkeep _ (by omega)];exact h.boxa
 ·rw[hset _ (by omega),hkeep _ (by omega)];exact h.boxb
 ·obtain⟨c,h1,h2⟩:=h.res;exact⟨c,h1,by rw[hset _ (by omega),hkeep _ (by omega)];exact h2⟩
 ·have h1:w7.heap[w.heap.size+1+1+1]?=some (.cells #[.int .u8 k,.int .u8 e,.int .u64 0,.string tt,.slice none 0 0,kv,sv] 27):=by rw[hkeep _ (by omega)];exact h.out
  exact heap_setCell_same h1 6 _
 ·exact h.srow.snoc sltP_mono hs h56 (x:=(csr,sl)) ⟨hv6,hd⟩ hgrow hown7 hn hat7 (by omega)
theorem VIs.of_srow{w:World}{k e:Nat}{t:List UInt8}{ka:Option Addr}{kc kg ko base:Nat}{ks:List Val}{sv:Value}{sits:List (List Value × Slt Val)}{B Bs:Nat->Prop}{TS:TypeId}(hk:k<256)(he:e<256)(ht:t.length<=maxLen)
  (hka:ks≠[]->ka=some ⟨kg,ko,none⟩/\kg<w.heap.size/\B kg) (hkc:ks.length<=kc/\kc<=maxLen) (hks:∀i (h:i<ks.length),VIs B w (cellsAt w kg (ko+i*7) 7) ks[i]) (hss:SRow Bs base TS w sv sits) (hB:∀g,sv.ownBlock=some g->B g) (hBs:∀b,b<w.heap.size->Bs b->B b):
  VIs B w [.int .u8 k,.int .u8 e,.int .u64 0,.string (strOf t),.slice none 0 0,.slice ka ks.length kc,sv] (.mk k e 0 t [] ks (sits.map (·.2))):=by
 have hs0:VIs B w [.int .u8 k,.int .u8 e,.int .u64 (0:Nat),.string (strOf t),.slice none 0 0,.slice none 0 0,sv] (.mk k e 0 t [] [] (sits.map (·.2))) :=
  VIs.of_rows (Bk:=B) (Bs:=Bs) (base:=0) (T:=TS) (kits:=[]) hk he (Nat.two_pow_pos 64) ht ⟨none,0,rfl,Nat.le_refl _,Nat.zero_le _,λh=>absurd rfl h,λn hn=>by cases hn⟩ (ItRow.nil _ _ _ _ _ _ _) hss (λg hg=>by rcases hg with hg|hg;cases hg;exact hB g hg) (λ_ _ h=>h) hBs
 generalize hgen:sits.map (·.2)=so at hs0 ⊢;generalize hcs:[Value.int .u8 k,.int .u8 e,.int .u64 (0:Nat),.string (strOf t),.slice none 0 0,.slice none 0 0,sv]=cs at hs0;cases hs0 with
 | mk _ _ _ _ _ _ _ nv ka' kc' kg' ko' sa sc sg so' hk' he' hn' ht' hnv hka' hkc' hks' hsa hsc hsd hss' =>
  simp only[List.cons.injEq,and_true] at hcs;obtain⟨_,_,_,_,hnv',_,hsv⟩:=hcs;rw[hsv,hnv'];exact .mk k e 0 t [] ks so _ ka kc kg ko sa sc sg so' hk he (Nat.two_pow_pos 64) ht hnv hka hkc hks hsa hsc hsd hss'
theorem be11(sh:Bool)(e n:Nat)(t:List UInt8)(ns:List Nat)(ks:List Val)(ss:List (Slt Val)):ElseC sh (.mk 11 e n t ns ks ss):=by
 intro hb st i0 b F w cs hok hbd hrep hv;obtain⟨lt,ln,lk,ls⟩:=hb.lens;have lt:t.length<=1000:=lt;have ln:ns.length<=200:=ln;have lk:ks.length<=200:=lk;have hu:=hok.inv.len;have hnd:1<=nodes (.mk 11 e n t ns ks ss):=nodes_pos _;have hfl:=hrep.below;obtain⟨na,nl,nc,ka,nk,kc,sa,nss,sc,rfl⟩:=hv.lit;clear hv;have e1:bElse sh (.mk 11 e n t ns ks ss) st=bText sh t st:=by rw[bElse];rfl
 rw[e1];obtain⟨o,st',hs,-⟩:=text_laid sh st t hok.nested hok.pi;show Calls Tryz.prog 108 #[.pointer (some ⟨b,0,none⟩),.agg #[.int .u8 11,.int .u8 e,.int .u64 n,.string (strOf t),.slice na nl nc,.slice ka nk kc,.slice sa nss sc],.bool sh] w _;obtain⟨T,hT⟩:=exA (strOf t);have hra:=hrep.keep ((Fr.refl (λ_=>False) w).alloc (.cells #[.int .u8 11,.int .u8 e,.int .u64 n,.string T,.slice na nl nc,.slice ka nk kc,.slice sa nss sc] 46)) (λ_ _ x=>x);cases sh with
 | true =>
  have hcl:=CreateSharedString_calls b F st t _ hra (by omega) (by omega) (by have:=hok.inv.sh;omega);rw[show st.sharedStr t=some (o,st') from hs,<-hT] at hcl;rw[hs,<-hT];have HC:=Hd hcl;clear hcl hs hT e1 hra hrep hok hbd hb;go_enter Tryz.func108,Tryz.ntmps108;go_wp2_with fail;refine HC.out.mono ?_;rintro e2 w2 ⟨rfl,F2,hb2,ha2⟩;have HA:=Hd ((Adv.alloc _).trans ha2);have HB:=Hd hb2;clear hb2 ha2;go_wp2_with fail;go_ret;exact⟨rfl,F2,HB.out,HA.out⟩
 | false =>
  have hcl:=CreateString_calls b F st t _ hra (by omega) (by omega);rw[show st.created t true=some (o,st') from hs,<-hT] at hcl;rw[hs,<-hT];have HC:=Hd hcl;clear hcl hs hT e1 hra hrep hok hbd hb;go_enter Tryz.func108,Tryz.ntmps108;go_wp2_with fail;refine HC.out.mono ?_;rintro e2 w2 ⟨rfl,F2,hb2,ha2⟩;have HA:=Hd ((Adv.alloc _).trans ha2);have HB:=Hd hb2;clear hb2 ha2;go_wp2_with fail;go_ret;exact⟨rfl,F2,HB.out,HA.out⟩
theorem be12(sh:Bool)(e n:Nat)(t:List UInt8)(ns:List Nat)(ks:List Val)(ss:List (Slt Val)):ElseC sh (.mk 12 e n t ns ks ss):=by
 intro hb st i0 b F w cs hok hbd hrep hv;obtain⟨lt,ln,lk,ls⟩:=hb.lens;have lt:t.length<=1000:=lt;have ln:ns.length<=200:=ln;have lk:ks.length<=200:=lk;have hu:=hok.inv.len;have hnd:1<=nodes (.mk 12 e n t ns ks ss):=nodes_pos _;have hfl:=hrep.below;obtain⟨na,nl,nc,ka,nk,kc,sa,nss,sc,rfl⟩:=hv.lit;clear hv;have e1:bElse sh (.mk 12 e n t ns ks ss) st=st.created t false:=by rw[bElse];rfl
 rw[e1];obtain⟨o,st',hs,-⟩:=created_laid st t false hok.nested;show Calls Tryz.prog 108 #[.pointer (some ⟨b,0,none⟩),.agg #[.int .u8 12,.int .u8 e,.int .u64 n,.string (strOf t),.slice na nl nc,.slice ka nk kc,.slice sa nss sc],.bool sh] w _;obtain⟨T,hT⟩:=exA (strOf t);have hra:=hrep.keep ((Fr.refl (λ_=>False) w).alloc (.cells #[.int .u8 12,.int .u8 e,.int .u64 n,.string T,.slice na nl nc,.slice ka nk kc,.slice sa nss sc] 46)) (λ_ _ x=>x);obtain⟨cap,W2,hrun,hf2,hm2,hs2⟩:=conv_bytesV (w.alloc (.cells #[.int .u8 12,.int .u8 e,.int .u64 n,.string T,.slice na nl nc,.slice ka nk kc,.slice sa nss sc] 46)) t;rw[<-hT] at hrun;rw[size_alloc] at hrun hm2 hs2;have hb2:=hra.keep hf2 (λ_ _ x=>x);have hsrc:Src W2 F (.slice (some ⟨w.heap.size+1,0,none⟩) t.length cap) t:=⟨w.heap.size+1,0,cap,rfl,hs2,λhm=>by have:=hfl _ hm;omega,hm2⟩;have hcl:=CreateByteVector_calls b F st t _ W2 hb2 hsrc (by omega) (by omega);rw[hs] at hcl ⊢;rw[<-hT];obtain⟨tl,htl⟩:=exA (t.length);rw[<-htl] at hrun hcl;have HC:=Hd hcl;have HF:=Hd (Adv.trans (F1:=F) (F2:=F) (Adv.alloc (.cells #[.int .u8 12,.int .u8 e,.int .u64 n,.string T,.slice na nl nc,.slice ka nk kc,.slice sa nss sc] 46)) (show Adv (w.alloc (.cells #[.int .u8 12,.int .u8 e,.int .u64 n,.string T,.slice na nl nc,.slice ka nk kc,.slice sa nss sc] 46)) W2 F F from ⟨hf2.mono (λ_ _ x=>x.elim),λ_ h=>.inl h⟩));clear hcl hs hT e1 hra hrep hok hbd hb hf2 hm2 hb2 hsrc htl lt;go_enter Tryz.func108,Tryz.ntmps108;go_wp2_with fail;refine HC.out.mono ?_;rintro e2 w2 ⟨rfl,F2,hb2,ha2⟩;have HA:=Hd (HF.out.trans ha2);have HB:=Hd hb2;clear hb2 ha2;go_wp2_with fail;go_ret;exact⟨rfl,F2,HB.out,HA.out⟩
theorem be15(sh:Bool)(e n:Nat)(t:List UInt8)(ns:List Nat)(ks:List Val)(ss:List (Slt Val))(ih:TabC sh (.mk 15 e n t ns ks ss)):ElseC sh (.mk 15 e n t ns ks ss):=by
 intro hb st i0 b F w cs hok hbd hrep hv;obtain⟨lt,ln,lk,ls⟩:=hb.lens;have lt:t.length<=1000:=lt;have ln:ns.length<=200:=ln;have lk:ks.length<=200:=lk;have hu:=hok.inv.len;have hnd:1<=nodes (.mk 15 e n t ns ks ss):=nodes_pos _;have hfl:=hrep.below;rw[bElse_tab sh _ _ rfl];have hal:=Adv.alloc (w:=w) (F:=F) (.cells cs.toArray 46);have hcl:=ih hb st i0 b F _ cs hok hbd (hrep.keep ((Fr.refl (λ_=>False) w).alloc (.cells cs.toArray 46)) (λ_ _ x=>x)) (hv.adv hal);obtain⟨o,st',hs,-⟩:=else_laid sh _ hb (show ¬15<=10 by omega) (show 15≠17 by omega) st i0 hok.nested hok.pi hok.inv hbd;rw[bElse_tab sh _ _ rfl] at hs;rw[hs] at hcl ⊢;obtain⟨na,nl,nc,ka,nk,kc,sa,nss,sc,rfl⟩:=hv.lit;clear hv hal;show Calls Tryz.prog 108 #[.pointer (some ⟨b,0,none⟩),.agg #[.int .u8 15,.int .u8 e,.int .u64 n,.string (strOf t),.slice na nl nc,.slice ka nk kc,.slice sa nss sc],.bool sh] w _;obtain⟨T,hT⟩:=exA (strOf t);have hcl:Calls Tryz.prog 65 #[.pointer (some ⟨b,0,none⟩),.agg #[.int .u8 15,.int .u8 e,.int .u64 n,.string (strOf t),.slice na nl nc,.slice ka nk kc,.slice sa nss sc],.bool sh] (w.alloc (.cells #[.int .u8 15,.int .u8 e,.int .u64 n,.string (strOf t),.slice na nl nc,.slice ka nk kc,.slice sa nss sc] 46)) _:=hcl;rw[<-hT] at hcl ⊢;have HC:=Hd hcl;clear hcl hs hT hrep hok hbd hb ih;go_enter Tryz.func108,Tryz.ntmps108;go_wp2_with fail;refine HC.out.mono ?_;rintro e2 w2 ⟨rfl,F2,hb2,ha2⟩;have HA:=Hd ((Adv.alloc _).trans ha2);have HB:=Hd hb2;clear hb2 ha2;go_wp2_with fail;go_ret;exact⟨rfl,F2,HB.out,HA.out⟩
theorem be0(sh:Bool)(e n:Nat)(t:List UInt8)(ns:List Nat)(ks:List Val)(ss:List (Slt Val))(k:Nat)(h1:k≠11)(h2:k≠12)(h3:k≠13)(h4:k≠14)(h5:k≠15)(h6:k≠16):ElseC sh (.mk k e n t ns ks ss):=by
 intro hb st i0 b F w cs hok hbd hrep hv;obtain⟨lt,ln,lk,ls⟩:=hb.lens;have lt:t.length<=1000:=lt;have ln:ns.length<=200:=ln;have lk:ks.length<=200:=lk;have hu:=hok.inv.len;have hnd:1<=nodes (.mk k e n t ns ks ss):=nodes_pos _;have hfl:=hrep.below;obtain⟨na,nl,nc,ka,nk,kc,sa,nss,sc,rfl⟩:=hv.lit;clear hv;have e1:bElse sh (.mk k e n t ns ks ss) st=some (0,st):=by rw[bElse,if_neg h1,if_neg h2,if_neg h3,if_neg h4,if_neg h6,if_neg h5]
 rw[e1];show Calls Tryz.prog 108 #[.pointer (some ⟨b,0,none⟩),.agg #[.int .u8 k,.int .u8 e,.int .u64 n,.string (strOf t),.slice na nl nc,.slice ka nk kc,.slice sa nss sc],.bool sh] w _;obtain⟨T,hT⟩:=exA (strOf t);rw[<-hT];have hra:=hrep.keep ((Fr.refl (λ_=>False) w).alloc (.cells #[.int .u8 k,.int .u8 e,.int .u64 n,.string T,.slice na nl nc,.slice ka nk kc,.slice sa nss sc] 46)) (λ_ _ x=>x);have HRA:=Hd hra;have HAL:=Hd (Adv.alloc (w:=w) (F:=F) (.cells #[.int .u8 k,.int .u8 e,.int .u64 n,.string T,.slice na nl nc,.slice ka nk kc,.slice sa nss sc] 46));have g1:((k:Int)==11)=false:=by simp;omega
 have g2:((k:Int)==12)=false:=by simp;omega
 have g3:((k:Int)==13)=false:=by simp;omega
 have g4:((k:Int)==14)=false:=by simp;omega
 have g5:((k:Int)==15)=false:=by simp;omega
 have g6:((k:Int)==16)=false:=by simp;omega
 clear hra hrep hok hbd hb e1 hT;go_enter Tryz.func108,Tryz.ntmps108;go_wp2_with fail;go_ret;exact⟨rfl,F,HRA.out,HAL.out⟩
theorem be13(sh:Bool)(e n:Nat)(t:List UInt8)(ns:List Nat)(ks:List Val)(ss:List (Slt Val)):ElseC sh (.mk 13 e n t ns ks ss):=by
 intro hb st i0 b F w cs hok hbd hrep hv;obtain⟨lt,ln,lk,ls⟩:=hb.lens;have lt:t.length<=1000:=lt;have ln:ns.length<=200:=ln;have lk:ks.length<=200:=lk;have hu:=hok.inv.len;have hnd:1<=nodes (.mk 13 e n t ns ks ss):=nodes_pos _;have hfl:=hrep.below;obtain⟨he,hns⟩:=hb.k13 rfl;have he:e<=10:=he;have hns:∀x∈ns,OkNum e x:=hns;obtain⟨ov,sv',hs,-⟩:=scalars_laid st e ns he hns hok.nested;have e1:bElse sh (.mk 13 e n t ns ks ss) st=bScalars e ns st:=by rw[bElse];rfl
 cases hv with
 | mk _ _ _ _ _ _ _ nv ka kc kg ko sa sc sg so hk' he' hn ht hnv hka hkc hks hsa hsc hsd hss =>
  obtain⟨na,nc,rfl,hn1,hn2,hn3,hn4⟩:=hnv.ok;obtain⟨T,hT⟩:=exA (strOf t);obtain⟨nl,hnl⟩:=exA (ns.length);obtain⟨nk,hnk⟩:=exA (ks.length);obtain⟨nss,hnss⟩:=exA (ss.length);rw[<-hT,<-hnl,<-hnk,<-hnss];show Calls Tryz.prog 108 #[.pointer (some ⟨b,0,none⟩),.agg #[.int .u8 13,.int .u8 e,.int .u64 n,.string T,.slice na nl nc,.slice ka nk kc,.slice sa nss sc],.bool sh] w _;rw[e1];obtain⟨st1,hst1⟩:=exA (({ st with m:=(st.m.prep 4 (numSize e*ns.length)).prep (numSize e) (numSize e*ns.length),nested:=true }:BSt));have hsv:=startVec_eq st (numSize e) ns.length hok.nested;rw[<-hst1] at hsv;have hz:=numSize_algn (k:=e) (by omega) (by omega);have hz8:numSize e<=8:=numSize_le e;have hev:bScalars e ns st=BSt.endVec { st1 with m:=bNums e ns st1.m } ns.length:=by unfold bScalars;rw[hsv,Option.bind_some]
  rw[hs] at hev ⊢;have hra:=hrep.keep ((Fr.refl (λ_=>False) w).alloc (.cells #[.int .u8 13,.int .u8 e,.int .u64 n,.string T,.slice na nl nc,.slice ka nk kc,.slice sa nss sc] 46)) (λ_ _ x=>x);have hstv:=StartVector_calls b F st (numSize e) ns.length (numSize e) _ hra hz (by omega) (by omega) (by omega);rw[hsv,<-hnl] at hstv;have hlen1:st1.m.bytes.length<=1600000:=by
   have hg:=(startVec_grow st.m (numSize e) ns.length hz).len;rw[hst1];show ((st.m.prep 4 (numSize e*ns.length)).prep (numSize e) (numSize e*ns.length)).bytes.length<=_;omega
  have HSV:=Hd hstv;have HEV:=Hd hev;have HL1:=Hd hlen1;have HNS:=Hd hns;have HN3:=Hd hn3;have HNL:=Hd hnl;have HSC:=Hd (scalarSize_calls e he);have hb8:nc<9223372036854775808:=by have:=hn2;unfold maxLen at this;omega
  have hn1':nl<=nc:=by omega
  have hnl2:nl<=200:=by omega
  have hbx:(w.alloc (.cells #[.int .u8 13,.int .u8 e,.int .u64 n,.string T,.slice na nl nc,.slice ka nk kc,.slice sa nss sc] 46)).heap[w.heap.size]?=some (.cells #[.int .u8 13,.int .u8 e,.int .u64 n,.string T,.slice na nl nc,.slice ka nk kc,.slice sa nss sc] 46):=heap_alloc_new _ _;have HBX:=Hd hbx;have hws:(w.alloc (.cells #[.int .u8 13,.int .u8 e,.int .u64 n,.string T,.slice na nl nc,.slice ka nk kc,.slice sa nss sc] 46)).heap.size=w.heap.size+1:=by rw[size_alloc]
  have HWS:=Hd hws;have HFL:=Hd hfl;clear hstv hev hlen1 hns hn3 hnl hnk hnss hbx hra hrep hok hbd hb e1 hs hsv hst1 hT hnv hn1 hn2 hn4 hz hz8 hws hka hkc hks hsa hsc hsd hss hk' ht hn;go_enter Tryz.func108,Tryz.ntmps108;go_wp2_with fail;refine (HSC.out _).mono ?_;rintro e2 w2 ⟨rfl,rfl⟩;go_wp2_with fail;refine HSV.out.mono ?_;rintro e2 w2 ⟨rfl,F2,hb2,ha2⟩;obtain⟨hn0,hh0⟩:=ha2.out (k:=w.heap.size) (by rw[HWS.out];omega) (λhm=>by have:=HFL.out _ hm;omega);rw[HBX.out] at hh0;have hstart:BNR b F w [.int .u8 13,.int .u8 e,.int .u64 n,.string T,.slice na nl nc,.slice ka nk kc,.slice sa nss sc] st1 e ns ((nl:Int)-1) w2:=by
   refine⟨F2,?_,(Adv.alloc _).trans ha2,hh0,hn0,by have:=ha2.1.size;rw[HWS.out] at this;omega⟩;rw[show ((nl:Int)-1+1).toNat=ns.length by rw[<-HNL.out];omega,List.drop_length];exact hb2
  have b4:w2.cell? ⟨w.heap.size,4,none⟩=some (.slice na nl nc):=by rw[cell_of hh0];rfl
  have HST:=Hd hstart;clear hstart hb2 ha2 hn0 hh0;go_wp2_with fail;go_loopw [8] (λiv wr=>∃q:Int,-1<=q/\q<nl/\iv=.int .i64 q/\BNR b F w [.int .u8 13,.int .u8 e,.int .u64 n,.string T,.slice na nl nc,.slice ka nk kc,.slice sa nss sc] st1 e ns q wr) (λiv _=>(intOf iv+1).toNat)
  case atStart=>exact⟨(nl:Int)-1,by omega,by omega,rfl,HST.out⟩
  case round =>
   obtain⟨q,hq1,hq2,rfl,hR⟩:=hrel;clear HST b4;obtain⟨F5,hb5,ha5,hx5,hn5,hs5⟩:=hR;have q1:wr.cell? ⟨w.heap.size,1,none⟩=some (.int .u8 e):=(by rw[cell_of hx5];rfl);have q4:wr.cell? ⟨w.heap.size,4,none⟩=some (.slice na nl nc):=(by rw[cell_of hx5];rfl);by_cases hlq:q<0
   ·have hqe:q=-1:=(by omega);subst hqe;rw[show ((-1:Int)+1).toNat=0 by omega,List.drop_zero] at hb5;have hev2:=EndVector_calls b F5 _ ns.length wr hb5 (by omega);rw[<-HEV.out,<-HNL.out] at hev2;have HE:=Hd hev2;have HA5:=Hd ha5;clear hev2 hb5 ha5 hx5;go_wp2_with fail;refine HE.out.mono ?_;rintro e6 w6 ⟨rfl,F6,hb6,ha6⟩;have HB6:=Hd (And.intro hb6 (HA5.out.trans ha6));clear hb6 ha6;go_wp2_with fail;go_ret;exact⟨rfl,F6,HB6.out.1,HB6.out.2⟩
   ·obtain⟨p,rfl⟩:∃p:Nat,q=p:=⟨q.toNat,by omega⟩;have hp:p<ns.length:=(by rw[<-HNL.out];omega);obtain⟨g,o2,rfl,hg,hgF,hcell⟩:=HN3.out (by intro h0;rw[h0] at hp;simp at hp);obtain⟨hgn,hgh⟩:=ha5.out hg hgF;have c4:wr.cell? ⟨g,o2+p,none⟩=some (.int .u64 ns[p]):=(by rw[World.cell?_of_block (w:=w) hgh];exact hcell p hp);obtain⟨x,hx⟩:=exA (ns[p]);rw[<-hx] at c4;have hok1:OkNum e x:=(by rw[hx];exact HNS.out _ (List.getElem_mem hp));rw[show ((p:Int)+1).toNat=p+1 by omega] at hb5;have hlb:=bNums_len he st1.m ns (by omega) (p+1);have hpc:=λm=>prepend_b b F5 _ e x (wr.drewN m) (hb5.drewN m) hok1.right (by show (bNums e (ns.drop (p+1)) st1.m).bytes.length<=_;have:=HL1.out;omega);have HPC:=Hd hpc;have HA5:=Hd (And.intro ha5 (And.intro hx5 (And.intro hn5 hs5)));have HX:=Hd hx;clear hpc hb5 ha5 hx5 hn5 hlb hok1 hx hcell hgh hgn;go_upto_region 14 with fail;refine lst _ ?_;simp only[List.dropLast];repeat (go_big_quiet_step (fail))
    refine wpQuiet_nil ?_;intro nq;refine wpOp_step rfl (λK hK=>?_);go_simp;refine (HPC.out nq).mono ?_;rintro e6 w6 ⟨rfl,F6,hb6,ha6⟩;refine hK _ _ ?_;have hnx:=BNR.next hp HA5.out (Adv.of_drewN ha6) (by rw[<-HX.out];exact hb6);have HNX:=Hd hnx;clear hnx hb6 ha6;go_wp2_with fail;go_roundw
    case rel=>exact⟨(p:Int)-1,by omega,by omega,rfl,HNX.out⟩
    case measure=>simp[intOf]
theorem be14(sh:Bool)(e n:Nat)(t:List UInt8)(ns:List Nat)(ks:List Val)(ss:List (Slt Val))(ih:∀v∈ks,ElseC sh v):ElseC sh (.mk 14 e n t ns ks ss):=by
 intro hb st i0 b F w cs hok hbd hrep hv;obtain⟨lt,ln,lk,ls⟩:=hb.lens;have lt:t.length<=1000:=lt;have ln:ns.length<=200:=ln;have lk:ks.length<=200:=lk;have hu:=hok.inv.len;have hnd:1<=nodes (.mk 14 e n t ns ks ss):=nodes_pos _;have hfl:=hrep.below;have hgk:∀c∈ks,Bld c:=hb.kid;have hkk:∀c∈ks,c.kind=11:=hb.k14 rfl;have hk15:14≠14->∀c∈ks,c.kind=15:=λh=>absurd rfl h;have hnb:i0+2*nodesL ks<=300:=by rw[nodes] at hbd;omega
 obtain⟨os0,sx,hit,hout0,hol0,hos0⟩:=items_laid sh 14 ks st i0 hgk hk15 hok hnb;have hlx:=hout0.inv.len;obtain⟨ro,sr,hvec,-⟩:=vec_laid sx os0 hout0.nested hos0 (by omega);have e1:bElse sh (.mk 14 e n t ns ks ss) st=some (ro,sr):=by
  have h0:bElse sh (.mk 14 e n t ns ks ss) st=(bItems sh 14 ks st).bind λp=>bVec p.1 p.2:=by rw[bElse];rfl
  rw[h0,hit];exact hvec
 rw[e1];cases hv with
 | mk _ _ _ _ _ _ _ nv ka kc kg ko sa sc sg so hk' he' hn ht hnv hka hkc hks hsa hsc hsd hss =>
  obtain⟨na,nc,rfl,_⟩:=hnv.ok;obtain⟨T,hT⟩:=exA (strOf t);obtain⟨nl,hnl⟩:=exA (ns.length);obtain⟨nk,hnk⟩:=exA (ks.length);obtain⟨nss,hnss⟩:=exA (ss.length);have hkm:kc<=maxLen:=hkc.2;unfold maxLen at hkm;have hkc1:=hkc.1;rw[<-hnk] at hkc1;rw[<-hT,<-hnl,<-hnk,<-hnss];show Calls Tryz.prog 108 #[.pointer (some ⟨b,0,none⟩),.agg #[.int .u8 14,.int .u8 e,.int .u64 n,.string T,.slice na nl nc,.slice ka nk kc,.slice sa nss sc],.bool sh] w _;have HNK:=Hd hnk;have HKA:=Hd hka;have HKS:=Hd hks;have HFL:=Hd hfl;have HREP:=Hd hrep;have HOK:=Hd hok;have HNB:=Hd hnb;have IH:=Hd ih;have HGK:=Hd hgk;have HKK:=Hd hkk;have HK15:=Hd hk15;have HIT:=Hd hit;have HVEC:=Hd hvec;have HLX:=Hd hlx;have HOS0:=Hd hos0;have HOUT0:=Hd hout0;have HOL:=Hd (hol0.trans hnk.symm);have hnk2:nk<=200:=by omega
  obtain⟨i1,hj,hy0,hy1,hy2⟩:=info_parts infoU32o;clear hka hks hfl hrep hok hnb ih hgk hkk hk15 hit hvec hlx hos0 hout0 hol0 hT hnl hnk hnss hkc hsa hsc hsd hss hnv e1 hu hnd hbd hb lk ht hn he' hk';go_enter Tryz.func108,Tryz.ntmps108;go_wp2_with fail;have hstart:BIR1 sh 14 b F st i0 w [.int .u8 14,.int .u8 e,.int .u64 n,.string T,.slice na nl nc,.slice ka nk kc,.slice sa nss sc] ks 0 (.slice none 0 0) (w.alloc (.cells #[.int .u8 14,.int .u8 e,.int .u64 n,.string T,.slice na nl nc,.slice ka nk kc,.slice sa nss sc] 46)):=by
   have hO:=HOK.out;refine⟨F,st,[],⟨Adv.alloc _,HREP.out.keep ((Fr.refl (λ_=>False) w).alloc _) (λ_ _ x=>x),rfl,⟨hO.nested,hO.pi,Put.refl _,hO.inv.le (by omega)⟩,by simp,heap_alloc_new _ _,⟨rfl,.inl ⟨rfl,rfl⟩⟩,(λg hg=>by cases hg),rfl,λhm=>by have:=HFL.out _ hm;omega⟩⟩
  have HST:=Hd hstart;clear hstart;go_loopw [9,73] (λov iv wr=>∃i:Nat,i<=nk/\iv=.int .i64 i/\BIR1 sh 14 b F st i0 w [.int .u8 14,.int .u8 e,.int .u64 n,.string T,.slice na nl nc,.slice ka nk kc,.slice sa nss sc] ks i ov wr) (λ_ iv _=>nk-(intOf iv).toNat)
  case atStart=>exact⟨0,Nat.zero_le _,rfl,HST.out⟩
  case round =>
   obtain⟨i,hi,rfl,F1,st1,os1,hR⟩:=hrel;have hsz:=hR.size;have hbox:=hR.box;have bx0:wr.cell? ⟨w.heap.size,0,none⟩=some (.int .u8 14):=(by rw[cell_of hbox];rfl);have HR:=Hd hR;clear HST hbox;by_cases hlt:i<nk
   ·have hik:i<ks.length:=(by have:=HNK.out;omega);obtain⟨rfl,hkg,hBg⟩:=HKA.out (by intro h0;rw[h0] at hik;simp at hik);obtain⟨kid,hkid⟩:=exA (ks[i]);obtain⟨hgF,hgh⟩:=hR.adv.out hkg hBg;have hkv:VIs (λx=>x ∉ F1) wr (cellsAt wr kg (ko+i*7) 7) kid:=by
     rw[cellsAt_mono hgh,hkid];exact (HKS.out i hik).adv hR.adv
    obtain⟨na1,nl1,nc1,ka1,nk1,kc1,sa1,ns1,sc1,hlit,c0,c1,c2,c3,c4,c5,c6⟩:=hkv.at
    have hmem:kid∈ks:=(by rw[hkid];exact List.getElem_mem hik);have hk11:kid.kind=11:=HKK.out kid hmem;rw[hk11] at hlit c0;obtain⟨o,st2,hbi,hrun2,hout2⟩:=hR.more HOK.out HNB.out HGK.out HK15.out hik;rw[<-hkid] at hbi;have hnb2:i0+2*nodesL (ks.take i)+2*nodes kid<=300:=by
     have h2:=nodesL_take ks (i+1);rw[List.take_succ_eq_append_getElem hik,nodesL_snoc,<-hkid] at h2;have:=HNB.out
     omega
    have hbk:some (.cells #[.int .u8 11,.int .u8 kid.elem,.int .u64 kid.num,.string (strOf kid.text),.slice na1 nl1 nc1,.slice ka1 nk1 kc1,.slice sa1 ns1 sc1] 46)=(wr.alloc (.cells #[.int .u8 11,.int .u8 kid.elem,.int .u64 kid.num,.string (strOf kid.text),.slice na1 nl1 nc1,.slice ka1 nk1 kc1,.slice sa1 ns1 sc1] 46)).heap[wr.heap.size]?:=by
     rw[heap_alloc_new wr (.cells #[.int .u8 11,.int .u8 kid.elem,.int .u64 kid.num,.string (strOf kid.text),.slice na1 nl1 nc1,.slice ka1 nk1 kc1,.slice sa1 ns1 sc1] 46)]
    have hfa:Adv wr (wr.alloc (.cells #[.int .u8 11,.int .u8 kid.elem,.int .u64 kid.num,.string (strOf kid.text),.slice na1 nl1 nc1,.slice ka1 nk1 kc1,.slice sa1 ns1 sc1] 46)) F1 F1:=Adv.alloc _;have hra:BRep (wr.alloc (.cells #[.int .u8 11,.int .u8 kid.elem,.int .u64 kid.num,.string (strOf kid.text),.slice na1 nl1 nc1,.slice ka1 nk1 kc1,.slice sa1 ns1 sc1] 46)) b F1 st1:=hR.rep.keep ((Fr.refl (λ_=>False) wr).alloc _) (λ_ _ x=>x);have hva:VIs (λx=>x ∉ F1) (wr.alloc (.cells #[.int .u8 11,.int .u8 kid.elem,.int .u64 kid.num,.string (strOf kid.text),.slice na1 nl1 nc1,.slice ka1 nk1 kc1,.slice sa1 ns1 sc1] 46)) [.int .u8 11,.int .u8 kid.elem,.int .u64 kid.num,.string (strOf kid.text),.slice na1 nl1 nc1,.slice ka1 nk1 kc1,.slice sa1 ns1 sc1] kid:=hlit.adv hfa;have hcl:=IH.out kid hmem (HGK.out kid hmem) st1 (i0+2*nodesL (ks.take i)) b F1 (wr.alloc (.cells #[.int .u8 11,.int .u8 kid.elem,.int .u64 kid.num,.string (strOf kid.text),.slice na1 nl1 nc1,.slice ka1 nk1 kc1,.slice sa1 ns1 sc1] 46)) _ hR.out.ok hnb2 hra hva;rw[bElse_text sh kid st1 hk11,show bText sh kid.text st1=some (o,st2) from hbi] at hcl;have HCL:=Hd hcl;have HFA:=Hd hfa;have HRUN2:=Hd hrun2;have HOUT2:=Hd hout2;have bx1:=keep_alloc (.cells #[.int .u8 11,.int .u8 kid.elem,.int .u64 kid.num,.string (strOf kid.text),.slice na1 nl1 nc1,.slice ka1 nk1 kc1,.slice sa1 ns1 sc1] 46) bx0;clear hcl hfa hrun2 hout2 hbi hlit hkv hgF hgh hmem hk11 hbk hra hva hkid hnb2 hR;go_wp2_with fail;refine HCL.out.mono ?_;rintro e2 w2 ⟨rfl,F2,hb2,ha2⟩;have haa:=HFA.out.trans ha2;have hown2:=ownFr HR.out.row haa.1 (λg hg=>HR.out.rowF g hg);have HAA:=Hd haa;have HB2:=Hd hb2;have HSZ2:=Hd (show w.heap.size+1<=w2.heap.size by have:=haa.1.size;omega);clear haa hb2 ha2;go_wp2_with (at_builtin;refine wpList_append_lies _ rfl (.tmp 81) (.tmp 86) 100 rfl (w.heap.size+1) 98 i1 (.int .u32 0) 1 4 Tryz.underlying100 hj hy0 hy1 hy2 rfl (by decide) _ i (u32s os1) rfl (hown2.alloc _) ⟨w2.heap.size,0,none⟩ 1 1 [.int .u32 o] rfl rfl (newsL _ _ _ _ rfl) (by intro u hu;rw[List.mem_singleton.1 hu];rfl) (by omega) (by unfold maxLen;omega) (by omega) (by have:=HSZ2.out;simp;omega) (w2.heap.size+1) (by simp) ?_;intro g7 cap7 w7 hown7 hgrow7 hat7 hlt7);have hnx:=HR.out.next HAA.out HB2.out HRUN2.out HOUT2.out hgrow7 hown7 hat7;have HNX:=Hd hnx;clear hnx hown7 hgrow7 hat7 hown2;go_roundw
    case rel=>exact⟨i+1,by omega,by go_num,_,_,_,HNX.out⟩
    case measure=>simp[intOf];omega
   ·have hie:i=nk:=(by omega);subst hie;have hrun:=hR.run;rw[HNK.out,List.take_length,HIT.out] at hrun;injection hrun with hrun;injection hrun with ho1 ho2;subst ho1 ho2;obtain⟨oa,ocap,rfl,hoc1,hoc2⟩:=row_form hR.row;obtain⟨s1,hs1⟩:=exA (({ sx with m:=(sx.m.prep 4 (4*os0.length)).prep 4 (4*os0.length),nested:=true }:BSt));have hsv:=startVec_eq sx 4 os0.length HOUT0.out.nested;rw[<-hs1] at hsv;have hev:bVec os0 sx=(bOffs os0 s1).bind λs=>s.endVec os0.length:=(by unfold bVec;rw[hsv,Option.bind_some]);rw[HVEC.out] at hev;obtain⟨_,_,hmod,kz,hkz,hbz⟩:=startVec_m sx.m 4 os0.length (by unfold algn;omega);have h4:s1.m.bytes.length%4=0:=by
     rw[hs1];show ((sx.m.prep 4 (4*os0.length)).prep 4 (4*os0.length)).bytes.length%4=0;omega
    have hsub:sx.m.bytes.length<=s1.m.bytes.length/\s1.m.bytes.length<=sx.m.bytes.length+22:=by
     rw[hs1];show sx.m.bytes.length<=((sx.m.prep 4 (4*os0.length)).prep 4 (4*os0.length)).bytes.length/\((sx.m.prep 4 (4*os0.length)).prep 4 (4*os0.length)).bytes.length<=_;rw[hbz,List.length_append,List.length_replicate];omega
    have hoo:=λq=>offs_some (os:=os0) (st1:=s1) h4 (λo ho=>by have:=HOS0.out o ho;omega) (by have:=HLX.out;have:=HOL.out;have:=hsub.2;have:=HNB.out;omega) q;have hstv:=StartVector_calls b F1 sx 4 os0.length 4 wr hR.rep (by unfold algn;omega) (by omega) (by have:=HOL.out;omega) (by have:=HLX.out;have:=HNB.out;omega);rw[hsv,HOL.out] at hstv;have HSV:=Hd hstv;have HEV:=Hd hev;have HOO:=Hd hoo;have HSUB:=Hd hsub;unfold maxLen at hoc2;clear hstv hev hoo hsub h4 hsv hs1 hR hmod hbz hkz bx0;go_wp2_with fail;refine HSV.out.mono ?_;rintro e2 w2 ⟨rfl,F2,hb2,ha2⟩;have hown2:w2.ownsRow (w.heap.size+1) 98 1 (.slice oa i ocap) i (u32s os0):=ownFr HR.out.row ha2.1 (λg hg=>HR.out.rowF g hg);have hoF:∀g,(Value.slice oa i ocap).ownBlock=some g->g ∉ F2:=by
     intro g hg hm;rcases ha2.2 g hm with h1|h1
     ·exact HR.out.rowF g hg h1
     ·have:=(ownBlock_lt HR.out.row g hg).2;omega
    have hst2:BIR2 b F2 w2 s1 os0 ((i:Int)-1) w2:=by
     refine⟨F2,s1,hb2,?_,Adv.refl _ _⟩;rw[show ((i:Int)-1+1).toNat=os0.length by rw[HOL.out];omega,List.drop_length];rfl
    have HOWN:=Hd hown2;have HOF:=Hd hoF;have HST:=Hd hst2;have HAW:=Hd (HR.out.adv.trans ha2);clear hown2 hoF hst2 hb2 ha2;go_wp2_with fail;go_loopw [12] (λiv w3=>∃q:Int,-1<=q/\q<i/\iv=.int .i64 q/\BIR2 b F2 w2 s1 os0 q w3) (λiv _=>(intOf iv+1).toNat)
    case atStart=>exact⟨(i:Int)-1,by omega,by omega,rfl,HST.out⟩
    case round =>
     obtain⟨q,hq1,hq2,rfl,F5,sq,hb5,hbo5,ha5⟩:=hrel;clear HST;by_cases hlq:q<0
     ·have hqe:q=-1:=(by omega);subst hqe;rw[show ((-1:Int)+1).toNat=0 by omega,List.drop_zero] at hbo5;have hev2:=EndVector_calls b F5 sq os0.length wr hb5 (by have:=HOL.out;omega);have hev3:=HEV.out;rw[hbo5,Option.bind_some] at hev3;rw[<-hev3,HOL.out] at hev2;have HE:=Hd hev2;have HA5:=Hd (HAW.out.trans ha5);clear hev2 hev3 hb5 ha5 hbo5;go_wp2_with fail;refine HE.out.mono ?_;rintro e6 w6 ⟨rfl,F6,hb6,ha6⟩;have HB6:=Hd (And.intro hb6 (HA5.out.trans ha6));clear hb6 ha6;go_wp2_with fail;go_ret;exact⟨rfl,F6,HB6.out.1,HB6.out.2⟩
     ·obtain⟨p,rfl⟩:∃p:Nat,q=p:=⟨q.toNat,by omega⟩;have hp:p<os0.length:=(by rw[HOL.out];omega);obtain⟨g,cap,hge,_,hgl,_,_,hcell⟩:=row_cell HOWN.out hp;have hgn:=HOF.out g (by rw[hge];rfl);obtain⟨_,hgh⟩:=ha5.out hgl hgn;injection hge with hge _ hge2;subst hge hge2;have c5:wr.cell? ⟨g,p,none⟩=some (.int .u32 os0[p]):=(by rw[World.cell?_of_block (w:=w2) hgh];exact hcell);obtain⟨x,hx⟩:=exA (os0[p]);rw[<-hx] at c5;have hxo:=HOS0.out os0[p] (List.getElem_mem hp);rw[<-hx] at hxo;rw[show ((p:Int)+1).toNat=p+1 by omega] at hbo5;obtain⟨s2,hb6,hl6,_⟩:=HOO.out p;obtain⟨s5,hb7,hl7,_⟩:=HOO.out (p+1);rw[hb7] at hbo5;injection hbo5 with hbo5;subst hbo5;have hdr:os0.drop p=x::os0.drop (p+1):=(by rw[hx];exact List.drop_eq_getElem_cons hp);have hrf:s5.refer x=some s2:=by
       have h0:=hb6;rw[hdr] at h0;have h0:(bOffs (os0.drop (p+1)) s1).bind (λs=>s.refer x)=some s2:=h0;rw[hb7] at h0;exact h0
      have hpc:=PrependUOffsetT_b b F5 s5 x wr hb5 hl7 (by have:=HLX.out;have:=HNB.out;omega);rw[hrf] at hpc;have HPC:=Hd hpc;have HA5:=Hd ha5;have HB6:=Hd hb6;clear hpc hb5 ha5 hb6 hb7 hl6 hl7 hdr hrf hx hxo hcell hgh hgn hgl;go_wp2_with fail;refine HPC.out.mono ?_;rintro e6 w6 ⟨rfl,F6,hb6,ha6⟩;have hnx:BIR2 b F2 w2 s1 os0 ((p:Int)-1) w6:=by
       refine⟨F6,s2,hb6,?_,HA5.out.trans ha6⟩;rw[show ((p:Int)-1+1).toNat=p by omega];exact HB6.out
      have HNX:=Hd hnx;clear hnx hb6 ha6;go_wp2_with fail;go_roundw
      case rel=>exact⟨(p:Int)-1,by omega,by omega,rfl,HNX.out⟩
      case measure=>simp[intOf]
theorem be16(sh:Bool)(e n:Nat)(t:List UInt8)(ns:List Nat)(ks:List Val)(ss:List (Slt Val))(ih:∀v∈ks,TabC sh v):ElseC sh (.mk 16 e n t ns ks ss):=by
 intro hb st i0 b F w cs hok hbd hrep hv;obtain⟨lt,ln,lk,ls⟩:=hb.lens;have lt:t.length<=1000:=lt;have ln:ns.length<=200:=ln;have lk:ks.length<=200:=lk;have hu:=hok.inv.len;have hnd:1<=nodes (.mk 16 e n t ns ks ss):=nodes_pos _;have hfl:=hrep.below;have hgk:∀c∈ks,Bld c:=hb.kid;have hkk:∀c∈ks,c.kind=15:=hb.k16 rfl;have hk15:16≠14->∀c∈ks,c.kind=15:=λ_=>hkk;have hnb:i0+2*nodesL ks<=300:=by rw[nodes] at hbd;omega
 obtain⟨os0,sx,hit,hout0,hol0,hos0⟩:=items_laid sh 16 ks st i0 hgk hk15 hok hnb;have hlx:=hout0.inv.len;obtain⟨ro,sr,hvec,-⟩:=vec_laid sx os0 hout0.nested hos0 (by omega);have e1:bElse sh (.mk 16 e n t ns ks ss) st=some (ro,sr):=by
  have h0:bElse sh (.mk 16 e n t ns ks ss) st=(bItems sh 16 ks st).bind λp=>bVec p.1 p.2:=by rw[bElse];rfl
  rw[h0,hit];exact hvec
 rw[e1];cases hv with
 | mk _ _ _ _ _ _ _ nv ka kc kg ko sa sc sg so hk' he' hn ht hnv hka hkc hks hsa hsc hsd hss =>
  obtain⟨na,nc,rfl,_⟩:=hnv.ok;obtain⟨T,hT⟩:=exA (strOf t);obtain⟨nl,hnl⟩:=exA (ns.length);obtain⟨nk,hnk⟩:=exA (ks.length);obtain⟨nss,hnss⟩:=exA (ss.length);have hkm:kc<=maxLen:=hkc.2;unfold maxLen at hkm;have hkc1:=hkc.1;rw[<-hnk] at hkc1;rw[<-hT,<-hnl,<-hnk,<-hnss];show Calls Tryz.prog 108 #[.pointer (some ⟨b,0,none⟩),.agg #[.int .u8 16,.int .u8 e,.int .u64 n,.string T,.slice na nl nc,.slice ka nk kc,.slice sa nss sc],.bool sh] w _;have HNK:=Hd hnk;have HKA:=Hd hka;have HKS:=Hd hks;have HFL:=Hd hfl;have HREP:=Hd hrep;have HOK:=Hd hok;have HNB:=Hd hnb;have IH:=Hd ih;have HGK:=Hd hgk;have HKK:=Hd hkk;have HK15:=Hd hk15;have HIT:=Hd hit;have HVEC:=Hd hvec;have HLX:=Hd hlx;have HOS0:=Hd hos0;have HOUT0:=Hd hout0;have HOL:=Hd (hol0.trans hnk.symm);have hnk2:nk<=200:=by omega
  obtain⟨i1,hj,hy0,hy1,hy2⟩:=info_parts infoU32o;clear hka hks hfl hrep hok hnb ih hgk hkk hk15 hit hvec hlx hos0 hout0 hol0 hT hnl hnk hnss hkc hsa hsc hsd hss hnv e1 hu hnd hbd hb lk ht hn he' hk';go_enter Tryz.func108,Tryz.ntmps108;go_wp2_with fail;have hstart:BIR1 sh 16 b F st i0 w [.int .u8 16,.int .u8 e,.int .u64 n,.string T,.slice na nl nc,.slice ka nk kc,.slice sa nss sc] ks 0 (.slice none 0 0) (w.alloc (.cells #[.int .u8 16,.int .u8 e,.int .u64 n,.string T,.slice na nl nc,.slice ka nk kc,.slice sa nss sc] 46)):=by
   have hO:=HOK.out;refine⟨F,st,[],⟨Adv.alloc _,HREP.out.keep ((Fr.refl (λ_=>False) w).alloc _) (λ_ _ x=>x),rfl,⟨hO.nested,hO.pi,Put.refl _,hO.inv.le (by omega)⟩,by simp,heap_alloc_new _ _,⟨rfl,.inl ⟨rfl,rfl⟩⟩,(λg hg=>by cases hg),rfl,λhm=>by have:=HFL.out _ hm;omega⟩⟩
  have HST:=Hd hstart;clear hstart;go_loopw [9,73] (λov iv wr=>∃i:Nat,i<=nk/\iv=.int .i64 i/\BIR1 sh 16 b F st i0 w [.int .u8 16,.int .u8 e,.int .u64 n,.string T,.slice na nl nc,.slice ka nk kc,.slice sa nss sc] ks i ov wr) (λ_ iv _=>nk-(intOf iv).toNat)
  case atStart=>exact⟨0,Nat.zero_le _,rfl,HST.out⟩
  case round =>
   obtain⟨i,hi,rfl,F1,st1,os1,hR⟩:=hrel;have hsz:=hR.size;have hbox:=hR.box;have bx0:wr.cell? ⟨w.heap.size,0,none⟩=some (.int .u8 16):=(by rw[cell_of hbox];rfl);have HR:=Hd hR;clear HST hbox;by_cases hlt:i<nk
   ·have hik:i<ks.length:=(by have:=HNK.out;omega);obtain⟨rfl,hkg,hBg⟩:=HKA.out (by intro h0;rw[h0] at hik;simp at hik);obtain⟨kid,hkid⟩:=exA (ks[i]);obtain⟨hgF,hgh⟩:=hR.adv.out hkg hBg;have hkv:VIs (λx=>x ∉ F1) wr (cellsAt wr kg (ko+i*7) 7) kid:=by
     rw[cellsAt_mono hgh,hkid];exact (HKS.out i hik).adv hR.adv
    obtain⟨na1,nl1,nc1,ka1,nk1,kc1,sa1,ns1,sc1,hlit,c0,c1,c2,c3,c4,c5,c6⟩:=hkv.at
    have hmem:kid∈ks:=(by rw[hkid];exact List.getElem_mem hik);have hk11:kid.kind=15:=HKK.out kid hmem;rw[hk11] at hlit c0;obtain⟨o,st2,hbi,hrun2,hout2⟩:=hR.more HOK.out HNB.out HGK.out HK15.out hik;rw[<-hkid] at hbi;have hnb2:i0+2*nodesL (ks.take i)+2*nodes kid<=300:=by
     have h2:=nodesL_take ks (i+1);rw[List.take_succ_eq_append_getElem hik,nodesL_snoc,<-hkid] at h2;have:=HNB.out
     omega
    have hbk:some (.cells #[.int .u8 15,.int .u8 kid.elem,.int .u64 kid.num,.string (strOf kid.text),.slice na1 nl1 nc1,.slice ka1 nk1 kc1,.slice sa1 ns1 sc1] 46)=(wr.alloc (.cells #[.int .u8 15,.int .u8 kid.elem,.int .u64 kid.num,.string (strOf kid.text),.slice na1 nl1 nc1,.slice ka1 nk1 kc1,.slice sa1 ns1 sc1] 46)).heap[wr.heap.size]?:=by
     rw[heap_alloc_new wr (.cells #[.int .u8 15,.int .u8 kid.elem,.int .u64 kid.num,.string (strOf kid.text),.slice na1 nl1 nc1,.slice ka1 nk1 kc1,.slice sa1 ns1 sc1] 46)]
    have hfa:Adv wr (wr.alloc (.cells #[.int .u8 15,.int .u8 kid.elem,.int .u64 kid.num,.string (strOf kid.text),.slice na1 nl1 nc1,.slice ka1 nk1 kc1,.slice sa1 ns1 sc1] 46)) F1 F1:=Adv.alloc _;have hra:BRep (wr.alloc (.cells #[.int .u8 15,.int .u8 kid.elem,.int .u64 kid.num,.string (strOf kid.text),.slice na1 nl1 nc1,.slice ka1 nk1 kc1,.slice sa1 ns1 sc1] 46)) b F1 st1:=hR.rep.keep ((Fr.refl (λ_=>False) wr).alloc _) (λ_ _ x=>x);have hva:VIs (λx=>x ∉ F1) (wr.alloc (.cells #[.int .u8 15,.int .u8 kid.elem,.int .u64 kid.num,.string (strOf kid.text),.slice na1 nl1 nc1,.slice ka1 nk1 kc1,.slice sa1 ns1 sc1] 46)) [.int .u8 15,.int .u8 kid.elem,.int .u64 kid.num,.string (strOf kid.text),.slice na1 nl1 nc1,.slice ka1 nk1 kc1,.slice sa1 ns1 sc1] kid:=hlit.adv hfa;have hcl:=IH.out kid hmem (HGK.out kid hmem) st1 (i0+2*nodesL (ks.take i)) b F1 (wr.alloc (.cells #[.int .u8 15,.int .u8 kid.elem,.int .u64 kid.num,.string (strOf kid.text),.slice na1 nl1 nc1,.slice ka1 nk1 kc1,.slice sa1 ns1 sc1] 46)) _ hR.out.ok hnb2 hra hva;rw[show bTab sh kid st1=some (o,st2) from hbi] at hcl;have HCL:=Hd hcl;have HFA:=Hd hfa;have HRUN2:=Hd hrun2;have HOUT2:=Hd hout2;have bx1:=keep_alloc (.cells #[.int .u8 15,.int .u8 kid.elem,.int .u64 kid.num,.string (strOf kid.text),.slice na1 nl1 nc1,.slice ka1 nk1 kc1,.slice sa1 ns1 sc1] 46) bx0;clear hcl hfa hrun2 hout2 hbi hlit hkv hgF hgh hmem hk11 hbk hra hva hkid hnb2 hR;go_wp2_with fail;refine HCL.out.mono ?_;rintro e2 w2 ⟨rfl,F2,hb2,ha2⟩;have haa:=HFA.out.trans ha2;have hown2:=ownFr HR.out.row haa.1 (λg hg=>HR.out.rowF g hg);have HAA:=Hd haa;have HB2:=Hd hb2;have HSZ2:=Hd (show w.heap.size+1<=w2.heap.size by have:=haa.1.size;omega);clear haa hb2 ha2;go_wp2_with (at_builtin;refine wpList_append_lies _ rfl (.tmp 88) (.tmp 93) 100 rfl (w.heap.size+1) 98 i1 (.int .u32 0) 1 4 Tryz.underlying100 hj hy0 hy1 hy2 rfl (by decide) _ i (u32s os1) rfl (hown2.alloc _) ⟨w2.heap.size,0,none⟩ 1 1 [.int .u32 o] rfl rfl (newsL _ _ _ _ rfl) (by intro u hu;rw[List.mem_singleton.1 hu];rfl) (by omega) (by unfold maxLen;omega) (by omega) (by have:=HSZ2.out;simp;omega) (w2.heap.size+1) (by simp) ?_;intro g7 cap7 w7 hown7 hgrow7 hat7 hlt7);have hnx:=HR.out.next HAA.out HB2.out HRUN2.out HOUT2.out hgrow7 hown7 hat7;have HNX:=Hd hnx;clear hnx hown7 hgrow7 hat7 hown2;go_roundw
    case rel=>exact⟨i+1,by omega,by go_num,_,_,_,HNX.out⟩
    case measure=>simp[intOf];omega
   ·have hie:i=nk:=(by omega);subst hie;have hrun:=hR.run;rw[HNK.out,List.take_length,HIT.out] at hrun;injection hrun with hrun;injection hrun with ho1 ho2;subst ho1 ho2;obtain⟨oa,ocap,rfl,hoc1,hoc2⟩:=row_form hR.row;obtain⟨s1,hs1⟩:=exA (({ sx with m:=(sx.m.prep 4 (4*os0.length)).prep 4 (4*os0.length),nested:=true }:BSt));have hsv:=startVec_eq sx 4 os0.length HOUT0.out.nested;rw[<-hs1] at hsv;have hev:bVec os0 sx=(bOffs os0 s1).bind λs=>s.endVec os0.length:=(by unfold bVec;rw[hsv,Option.bind_some]);rw[HVEC.out] at hev;obtain⟨_,_,hmod,kz,hkz,hbz⟩:=startVec_m sx.m 4 os0.length (by unfold algn;omega);have h4:s1.m.bytes.length%4=0:=by
     rw[hs1];show ((sx.m.prep 4 (4*os0.length)).prep 4 (4*os0.length)).bytes.length%4=0;omega
    have hsub:sx.m.bytes.length<=s1.m.bytes.length/\s1.m.bytes.length<=sx.m.bytes.length+22:=by
     rw[hs1];show sx.m.bytes.length<=((sx.m.prep 4 (4*os0.length)).prep 4 (4*os0.length)).bytes.length/\((sx.m.prep 4 (4*os0.length)).prep 4 (4*os0.length)).bytes.length<=_;rw[hbz,List.length_append,List.length_replicate];omega
    have hoo:=λq=>offs_some (os:=os0) (st1:=s1) h4 (λo ho=>by have:=HOS0.out o ho;omega) (by have:=HLX.out;have:=HOL.out;have:=hsub.2;have:=HNB.out;omega) q;have hstv:=StartVector_calls b F1 sx 4 os0.length 4 wr hR.rep (by unfold algn;omega) (by omega) (by have:=HOL.out;omega) (by have:=HLX.out;have:=HNB.out;omega);rw[hsv,HOL.out] at hstv;have HSV:=Hd hstv;have HEV:=Hd hev;have HOO:=Hd hoo;have HSUB:=Hd hsub;unfold maxLen at hoc2;clear hstv hev hoo hsub h4 hsv hs1 hR hmod hbz hkz bx0;go_wp2_with fail;refine HSV.out.mono ?_;rintro e2 w2 ⟨rfl,F2,hb2,ha2⟩;have hown2:w2.ownsRow (w.heap.size+1) 98 1 (.slice oa i ocap) i (u32s os0):=ownFr HR.out.row ha2.1 (λg hg=>HR.out.rowF g hg);have hoF:∀g,(Value.slice oa i ocap).ownBlock=some g->g ∉ F2:=by
     intro g hg hm;rcases ha2.2 g hm with h1|h1
     ·exact HR.out.rowF g hg h1
     ·have:=(ownBlock_lt HR.out.row g hg).2;omega
    have hst2:BIR2 b F2 w2 s1 os0 ((i:Int)-1) w2:=by
     refine⟨F2,s1,hb2,?_,Adv.refl _ _⟩;rw[show ((i:Int)-1+1).toNat=os0.length by rw[HOL.out];omega,List.drop_length];rfl
    have HOWN:=Hd hown2;have HOF:=Hd hoF;have HST:=Hd hst2;have HAW:=Hd (HR.out.adv.trans ha2);clear hown2 hoF hst2 hb2 ha2;go_wp2_with fail;go_loopw [12] (λiv w3=>∃q:Int,-1<=q/\q<i/\iv=.int .i64 q/\BIR2 b F2 w2 s1 os0 q w3) (λiv _=>(intOf iv+1).toNat)
    case atStart=>exact⟨(i:Int)-1,by omega,by omega,rfl,HST.out⟩
    case round =>
     obtain⟨q,hq1,hq2,rfl,F5,sq,hb5,hbo5,ha5⟩:=hrel;clear HST;by_cases hlq:q<0
     ·have hqe:q=-1:=(by omega);subst hqe;rw[show ((-1:Int)+1).toNat=0 by omega,List.drop_zero] at hbo5;have hev2:=EndVector_calls b F5 sq os0.length wr hb5 (by have:=HOL.out;omega);have hev3:=HEV.out;rw[hbo5,Option.bind_some] at hev3;rw[<-hev3,HOL.out] at hev2;have HE:=Hd hev2;have HA5:=Hd (HAW.out.trans ha5);clear hev2 hev3 hb5 ha5 hbo5;go_wp2_with fail;refine HE.out.mono ?_;rintro e6 w6 ⟨rfl,F6,hb6,ha6⟩;have HB6:=Hd (And.intro hb6 (HA5.out.trans ha6));clear hb6 ha6;go_wp2_with fail;go_ret;exact⟨rfl,F6,HB6.out.1,HB6.out.2⟩
     ·obtain⟨p,rfl⟩:∃p:Nat,q=p:=⟨q.toNat,by omega⟩;have hp:p<os0.length:=(by rw[HOL.out];omega);obtain⟨g,cap,hge,_,hgl,_,_,hcell⟩:=row_cell HOWN.out hp;have hgn:=HOF.out g (by rw[hge];rfl);obtain⟨_,hgh⟩:=ha5.out hgl hgn;injection hge with hge _ hge2;subst hge hge2;have c5:wr.cell? ⟨g,p,none⟩=some (.int .u32 os0[p]):=(by rw[World.cell?_of_block (w:=w2) hgh];exact hcell);obtain⟨x,hx⟩:=exA (os0[p]);rw[<-hx] at c5;have hxo:=HOS0.out os0[p] (List.getElem_mem hp);rw[<-hx] at hxo;rw[show ((p:Int)+1).toNat=p+1 by omega] at hbo5;obtain⟨s2,hb6,hl6,_⟩:=HOO.out p;obtain⟨s5,hb7,hl7,_⟩:=HOO.out (p+1);rw[hb7] at hbo5;injection hbo5 with hbo5;subst hbo5;have hdr:os0.drop p=x::os0.drop (p+1):=(by rw[hx];exact List.drop_eq_getElem_cons hp);have hrf:s5.refer x=some s2:=by
       have h0:=hb6;rw[hdr] at h0;have h0:(bOffs (os0.drop (p+1)) s1).bind (λs=>s.refer x)=some s2:=h0;rw[hb7] at h0;exact h0
      have hpc:=PrependUOffsetT_b b F5 s5 x wr hb5 hl7 (by have:=HLX.out;have:=HNB.out;omega);rw[hrf] at hpc;have HPC:=Hd hpc;have HA5:=Hd ha5;have HB6:=Hd hb6;clear hpc hb5 ha5 hb6 hb7 hl6 hl7 hdr hrf hx hxo hcell hgh hgn hgl;go_wp2_with fail;refine HPC.out.mono ?_;rintro e6 w6 ⟨rfl,F6,hb6,ha6⟩;have hnx:BIR2 b F2 w2 s1 os0 ((p:Int)-1) w6:=by
       refine⟨F6,s2,hb6,?_,HA5.out.trans ha6⟩;rw[show ((p:Int)-1+1).toNat=p by omega];exact HB6.out
      have HNX:=Hd hnx;clear hnx hb6 ha6;go_wp2_with fail;go_roundw
      case rel=>exact⟨(p:Int)-1,by omega,by omega,rfl,HNX.out⟩
      case measure=>simp[intOf]
theorem build_val(sh:Bool):∀v,ElseC sh v/\TabC sh v:=by
 intro v;induction v using Val.ind with
 | h k e n t ns ks ss ihk ihs =>
  have ht:TabC sh (.mk k e n t ns ks ss):=buildTable_of sh k e n t ns ks ss (λs hs _=>(ihs s hs).1);refine⟨?_,ht⟩;by_cases h1:k=11
  ·subst h1;exact be11 sh e n t ns ks ss
  by_cases h2:k=12
  ·subst h2;exact be12 sh e n t ns ks ss
  by_cases h3:k=13
  ·subst h3;exact be13 sh e n t ns ks ss
  by_cases h4:k=14
  ·subst h4;exact be14 sh e n t ns ks ss (λv hv=>(ihk v hv).1)
  by_cases h5:k=15
  ·subst h5;exact be15 sh e n t ns ks ss ht
  by_cases h6:k=16
  ·subst h6;exact be16 sh e n t ns ks ss (λv hv=>(ihk v hv).2)
  exact be0 sh e n t ns ks ss k h1 h2 h3 h4 h5 h6
end Go.Proofs.YtcfblkkpclfmaaaGreat
namespace Go.Proofs.YtcfblkkpclfmaaaGreat
open Go.RowKit Go.Maps
theorem endObj_least{st st':BSt}{o:Nat}(h:st.endObj=some (o,st')):st'.m.least=max st.m.least 4:=by
 have hn:st.nested=true:=by
  cases hn:st.nested with
  | true=>rfl
  | false=>unfold BSt.endObj at h;rw[hn] at h;simp at h
 cases hf:vtFind st.vt1 st.vt1.bytes.length (trimZ (st.vtab.getD [])) st.vts with
 | none =>
  obtain⟨s,p,_,e,_,_,hl,_⟩:=endObj_fresh st hn hf;rw[h] at e;injection e with e;injection e with _ e;rw[e];exact hl
 | some v =>
  obtain⟨s,p,_,e,_,_,hl,_⟩:=endObj_found st v hn hf;rw[h] at e;injection e with e;injection e with _ e;rw[e];exact hl
theorem bTab_least{sh:Bool}{v:Val}{st st':BSt}{o:Nat}(h:bTab sh v st=some (o,st')):4<=st'.m.least:=by
 rw[bTab_def] at h;cases h1:bSlots sh v.slots st with
 | none=>rw[h1] at h;cases h
 | some p =>
  rw[h1,Option.bind_some] at h;cases h2:p.2.startObj v.slots.length with
  | none=>rw[h2] at h;cases h
  | some st1 =>
   rw[h2,Option.bind_some] at h;cases h3:bFields 0 v.slots p.1 st1 with
   | none=>rw[h3] at h;cases h
   | some st2 =>
    rw[h3,Option.bind_some] at h;rw[endObj_least h];omega
theorem algn_dvd4{s:Nat}(h:algn s)(h4:4<=s):∀n,n%s=0->n%4=0:=by
 unfold algn at h;intro n hn;rcases h with rfl|rfl|rfl|rfl|rfl<;>omega
structure Fini(B B':List UInt8)(off L:Nat):Prop where
 bytes:∃xs,B'=xs++B/\xs.length<=60
 ref:RefOk true B' B'.length
 dst:refE B' B'.length=off
 mod:B'.length%L=0
theorem finish_laid(st:BSt)(off:Nat)(hn:st.nested=false)(h0:0<off)(ho:off<=st.m.bytes.length)(hl:algn st.m.least)(h4:4<=st.m.least)(hb:st.m.bytes.length<1700000):
  ∃st',st.finish off=some st'/\st'.fin=true/\Fini st.m.bytes st'.m.bytes off st'.m.least/\st'.m.least=st.m.least/\∃k,k<16/\st'.m.bytes=leB 4 (st'.m.bytes.length-off)++(List.replicate k 0++st.m.bytes):=by
 obtain⟨m1,hm1⟩:=exA (st.m.prep st.m.least 4);have hp:(m1.bytes.length+4)%st.m.least=0:=by rw[hm1];exact prep_mod st.m st.m.least 4 hl
 have hk:=st.m.pad_lt st.m.least 4 hl;have hlt:=algn_le hl;have hb1:m1.bytes=List.replicate (st.m.pad st.m.least 4) 0++st.m.bytes:=by rw[hm1];rfl
 have hlen:m1.bytes.length=st.m.pad st.m.least 4+st.m.bytes.length:=by rw[hb1];simp
 have h44:m1.bytes.length%4=0:=by have:=algn_dvd4 hl h4 _ hp;omega
 have hleast:m1.least=st.m.least:=by rw[hm1];show max st.m.least st.m.least=_;omega
 have e4:=prep_id m1 4 0 (by unfold algn;omega) (by simpa using h44);have hb':((m1.prep 4 0).put (leB 4 ((m1.prep 4 0).bytes.length-off+4))).bytes=leB 4 (m1.bytes.length-off+4)++m1.bytes:=by
  show leB 4 _++(m1.prep 4 0).bytes=_;rw[e4]
 have hl':((m1.prep 4 0).put (leB 4 ((m1.prep 4 0).bytes.length-off+4))).bytes.length=4+m1.bytes.length:=by rw[hb',List.length_append,leB_length]
 obtain⟨r1,r2⟩:=ref_front hb' (by omega) h0 h44 (by omega);refine⟨{ st with m:=(m1.prep 4 0).put (leB 4 ((m1.prep 4 0).bytes.length-off+4)),fin:=true },?_,rfl,⟨?_,r1,r2,?_⟩,?_,st.m.pad st.m.least 4,by omega,?_⟩
 ·unfold BSt.finish;rw[if_neg (by rw[hn];simp),<-hm1];unfold BSt.refer BM.refer;rw[if_pos (by show off<=(m1.prep 4 0).bytes.length;rw[e4];omega)];rfl
 ·refine⟨leB 4 (m1.bytes.length-off+4)++List.replicate (st.m.pad st.m.least 4) 0,?_,?_⟩
  ·show ((m1.prep 4 0).put (leB 4 ((m1.prep 4 0).bytes.length-off+4))).bytes=_;rw[hb',hb1,List.append_assoc]
  ·simp[leB_length];omega
 ·show ((m1.prep 4 0).put (leB 4 ((m1.prep 4 0).bytes.length-off+4))).bytes.length%max m1.least 4=0;rw[hl',hleast,Nat.max_eq_left h4,Nat.add_comm];exact hp
 ·show max m1.least 4=_;rw[hleast,Nat.max_eq_left h4]
 ·show ((m1.prep 4 0).put (leB 4 ((m1.prep 4 0).bytes.length-off+4))).bytes=leB 4 (((m1.prep 4 0).put (leB 4 ((m1.prep 4 0).bytes.length-off+4))).bytes.length-off)++_;rw[hl',hb',hb1,show 4+(List.replicate (st.m.pad st.m.least 4) (0:UInt8)++st.m.bytes).length-off=(List.replicate (st.m.pad st.m.least 4) (0:UInt8)++st.m.bytes).length-off+4 by rw[<-hb1];omega]
structure BuiltOk(sh:Bool)(id:List UInt8)(v:Val)(st':BSt):Prop where
 fin:st'.fin=true
 ref:RefOk true st'.m.bytes st'.m.bytes.length
 tab:LTab true st'.m.bytes v (refE st'.m.bytes st'.m.bytes.length)
 mod:st'.m.bytes.length%st'.m.least=0
 algn:algn st'.m.least
 four:4<=st'.m.least
 len:st'.m.bytes.length<1700000
 id:id≠[]->BytesAt st'.m.bytes (st'.m.bytes.length-4) id
 last:∀j,v.slots.length<=j->fldOf st'.m.bytes (refE st'.m.bytes st'.m.bytes.length) j=0
theorem root_laid(sh:Bool)(v:Val)(hg:Bld v)(hk:v.kind=15)(hn:nodes v<=150)(size:Nat):∃o st1,bTab sh v (st0 size)=some (o,st1)/\Out (st0 size) st1 (2*nodes v)/\0<o/\o<=st1.m.bytes.length/\LTab true st1.m.bytes v o/\algn st1.m.least/\4<=st1.m.least/\∀j,v.slots.length<=j->fldOf st1.m.bytes o j=0:=by
 have hinv:StInv (st0 size) 0:=StInv.start size;obtain⟨o,st1,e1,ho,h0,hle,hl⟩:=else_laid sh v hg (by omega) (by omega) (st0 size) 0 rfl (PI.start size) hinv (by omega);rw[bElse_tab sh v _ hk] at e1;refine⟨o,st1,e1,by simpa using ho,h0,hle,?_,ho.inv.least,bTab_least e1,?_⟩;rotate_left
 ·rw[bTab_def] at e1;cases hg with
  | mk k e n t ns ks ss hk17 lt ln lk ls h13 hst hk14 hk16 hgk hgs hd2 hnum =>
   rw[nodes] at hn;obtain⟨o2,st2,e2,_,_,_,_,_,hz⟩:=obj_laid sh ss (st0 size) 0 ls (λs hs hh=>⟨else_laid sh s.val,hgs s hs hh,hd2 s hs hh⟩) rfl (PI.start size) hinv (by omega);have e3:=e2.symm.trans e1;injection e3 with e3;injection e3 with ea eb;subst ea eb;exact hz
 cases v with
 | mk k e n t ns ks ss =>
  have hk':k=15:=hk;subst hk';simpa [LObj,LTab] using hl
theorem built_laid(sh:Bool)(id:List UInt8)(v:Val)(hg:Bld v)(hk:v.kind=15)(hn:nodes v<=150)(hid:id=[]\/id.length=4)(size:Nat):∃st',bBuilt sh id v (st0 size)=some st'/\BuiltOk sh id v st':=by
 obtain⟨o,st1,e1,ho,h0,hle,hl,hal,h4,hlast⟩:=root_laid sh v hg hk hn size;have hT:=hl;rw[LTab_def] at hT;have hlen:=ho.inv.len;rw[bBuilt,e1,Option.bind_some];by_cases hi:id=[]
 ·rw[if_pos hi];obtain⟨st',e2,hf,⟨⟨xs,hx,hxl⟩,f2,f3,f4⟩,hls,_⟩:=finish_laid st1 o ho.nested h0 hle hal h4 (by omega);refine⟨st',e2,hf,f2,?_,f4,by rw[hls];exact hal,by rw[hls];exact h4,?_,λh=>absurd hi h,λj hj=>by rw[f3,hx,hT.1.fld xs j];exact hlast j hj⟩
  ·rw[f3,hx];exact LTab_app true _ xs v o hl
  ·rw[hx,List.length_append];omega
 ·rw[if_neg hi];have hi4:id.length=4:=by rcases hid with h|h;exact absurd h hi;exact h
  obtain⟨m1,hm1⟩:=exA ((st1.m.prep st1.m.least 8).put id);have hp:((st1.m.prep st1.m.least 8).bytes.length+8)%st1.m.least=0:=prep_mod st1.m st1.m.least 8 hal;have hk:=st1.m.pad_lt st1.m.least 8 hal;have hlt:=algn_le hal;have hb1:m1.bytes=id++(List.replicate (st1.m.pad st1.m.least 8) 0++st1.m.bytes):=by rw[hm1];rfl
  have hpl:(st1.m.prep st1.m.least 8).bytes.length=st1.m.pad st1.m.least 8+st1.m.bytes.length:=by show (List.replicate _ _++st1.m.bytes).length=_;simp
  have hml:m1.bytes.length=4+(st1.m.pad st1.m.least 8+st1.m.bytes.length):=by rw[hb1];simp[hi4]
  have hleast:m1.least=st1.m.least:=by rw[hm1];show max st1.m.least st1.m.least=_;omega
  have hz:m1.pad m1.least 4=0:=by
   unfold BM.pad padB;have:(m1.bytes.length+4)%m1.least=0:=by rw[hleast,hml];rw[hpl] at hp;rw[<-hp];congr 1;omega
   rw[this,Nat.sub_zero,Nat.mod_self]
  obtain⟨st',e2,hf,⟨⟨xs,hx,hxl⟩,f2,f3,f4⟩,hls,k,hk16,hbk⟩:=finish_laid { st1 with m:=m1 } o ho.nested h0 (by show o<=m1.bytes.length;omega) (by rw[show ({ st1 with m:=m1 }:BSt).m.least=st1.m.least from hleast];exact hal) (by rw[show ({ st1 with m:=m1 }:BSt).m.least=st1.m.least from hleast];exact h4) (by show m1.bytes.length<_;omega);have hls':st'.m.least=st1.m.least:=by rw[hls];exact hleast
  have hx2:st'.m.bytes=(xs++(id++List.replicate (st1.m.pad st1.m.least 8) 0))++st1.m.bytes:=by
   rw[hx];show xs++m1.bytes=_;rw[hb1];simp only[List.append_assoc]
  refine⟨st',?_,hf,f2,?_,f4,by rw[hls'];exact hal,by rw[hls'];exact h4,?_,λ_=>?_,λj hj=>by rw[f3,hx2,hT.1.fld _ j];exact hlast j hj⟩
  ·unfold BSt.finishId;rw[if_pos hi4,<-hm1];exact e2
  ·rw[f3,hx2];exact LTab_app true _ _ v o hl
  ·rw[hx2];simp only[List.length_append,List.length_replicate];omega
  ·have hxs:xs.length=4:=by
    have hfin:=e2;unfold BSt.finish at hfin;rw[if_neg (by show ¬st1.nested=true;rw[ho.nested];simp)] at hfin;have hb2:(m1.prep m1.least 4).bytes=m1.bytes:=(by show List.replicate (m1.pad m1.least 4) 0++m1.bytes=_;rw[hz];rfl);have h44:m1.bytes.length%4=0:=by
     have:(m1.bytes.length+4)%st1.m.least=0:=by rw[hml];rw[hpl] at hp;rw[<-hp];congr 1;omega
     have:=algn_dvd4 hal h4 _ this;omega
    have e4:=prep_id (m1.prep m1.least 4) 4 0 (by unfold algn;omega) (by rw[hb2];simpa using h44);unfold BSt.refer BM.refer at hfin;rw[if_pos (by show o<=((m1.prep m1.least 4).prep 4 0).bytes.length;rw[e4,hb2];omega)] at hfin;have hfin2:some st'=some _:=hfin.symm;injection hfin2 with hfin2;have hln:st'.m.bytes.length=4+m1.bytes.length:=by
     rw[hfin2];show (leB 4 _++((m1.prep m1.least 4).prep 4 0).bytes).length=_;rw[e4,hb2,List.length_append,leB_length]
    rw[hx] at hln;have:(xs++m1.bytes).length=4+m1.bytes.length:=hln
    rw[List.length_append] at this;omega
   have hbb:BytesAt st'.m.bytes st'.m.bytes.length (xs++id):=BytesAt.front (rest:=List.replicate (st1.m.pad st1.m.least 8) 0++st1.m.bytes) (by rw[hx];show xs++m1.bytes=_;rw[hb1];simp only[List.append_assoc]);have:=hbb.right
   rw[hxs] at this;exact this
end Go.Proofs.YtcfblkkpclfmaaaGreat
namespace Go.Proofs.YtcfblkkpclfmaaaGreat
open Go.RowKit
theorem catch_idle(p:Addr)(x:Bool)(w:World)(hc:w.cell? p=some (.bool x))(hz:w.frozen? p=false):
  CallsD Tryz.prog 64 #[.pointer (some p)] .returning w λe u' w'=>e=.returned (.tuple #[])/\u'=.returning/\w'=w.setCell p (.bool false):=by
 refine callsD_of_wpS Tryz.func64 rfl λc₀ cs hu=>?_;apply wpS_region
 simp[wpOpsS,go_sem,recoverD,hu,Tryz.ntmps64,hc,hz,bodyPostS,results,Tryz.results64]
 rw[<-hu]
def thrownVar:Obj:=.cells #[.bool false] 4
theorem thrown_ok{g:Nat}{caps:Array Value}{w:World}{S:Nat->Prop}{R:World->Prop}(hen:∀w,(callFunc g caps).run Tryz.prog w=.ok (.enter g caps) w)
  (h:Calls Tryz.prog g caps (w.alloc thrownVar) λe w1=>e=.returned (.tuple #[])/\R w1) (hR:∀w1,R w1->Fr S (w.alloc thrownVar) w1) (hS:¬S w.heap.size):
  Calls Tryz.prog 38 #[.func (.func g) #[] caps] w λe w'=>e=.returned (.bool false)/\∃w1,R w1/\Fr (·=w.heap.size) w1 w':=by
 have hmf:∀(fn:Fn) (first cap:Array Value) (w:World),(Instr.makeFunc fn first cap).run Tryz.prog w=.ok (.func fn first cap) w:=λ_ _ _ _=>rfl;have h2:∀w1,R w1->w1.heap[w.heap.size]?=some (.cells #[.bool false] 4):=λw1 hr=>by
  rw[(hR w1 hr).block w.heap.size (by simp) hS];exact heap_alloc_new w thrownVar
 have H2:=Hd h2;clear h2;have HC:=Hd h;clear h;go_enter_defers Tryz.func38,Tryz.ntmps38
 go_wp2_with fail;refine HC.out.mono ?_;rintro e w1 ⟨rfl,hr⟩;have hb:=H2.out w1 hr;have hc:w1.cell? ⟨w.heap.size,0,none⟩=some (.bool false):=by rw[cell_of hb];rfl
 have hf:w1.frozen? ⟨w.heap.size,0,none⟩=false:=frozen_of hb 0;clear hb;have HR:=Hd hr;clear hr;go_wp2_with fail;refine leaves_cons (f:=64) (args:=#[.pointer (some ⟨w.heap.size,0,none⟩)]) (by simp) (by simp[go_sem]) ?_;refine (catch_idle ⟨w.heap.size,0,none⟩ false _ ?_ ?_).mono ?_
 ·simp[go_sem,hc]
 ·simp[go_sem,hf]
 rintro e u' w'' ⟨rfl,rfl,rfl⟩;simp[Leaves,settle,results,Tryz.results38,go_sem,hc]
 exact⟨w1,HR.out,((Fr.refl (λx=>x=w.heap.size) _).setCell (λ_=>rfl) _).setCell (λ_=>rfl) _⟩
theorem results_cell_tmp{P:Program}{fn:Func}{p q:Tmp}{ty:TypeId}(h:fn.results=#[.cell p ty,.tmp q])(tmps:Array Value)(w:World)(a:Addr)(v:Value)(hp:tmps.getD p undef=.pointer (some a))(hl:(loadVar ty a).run P w=.ok v w):
  (results fn tmps).run P w=.ok (.tuple #[v,tmps.getD q undef]) w:=by
 have hp':tmps[p]?.getD undef=.pointer (some a):=by simpa using hp
 simp[results,h,hp',asAddr,hl,Sem.run_bind,Result.andThen]
theorem loadStr(w:World)(a:Addr)(s:ByteArray)(h:w.cell? a=some (.string s)):(loadVar 9 a).run Tryz.prog w=.ok (.string s) w:=by
 simp[loadVar,isAgg,go_sem,h,Tryz.underlying9]
theorem strOf_empty{l:List UInt8}(h:l≠[]):(strOf l).toList.isEmpty=false:=by
 have e:(strOf l).toList=l:=by
  have h0:(strOf l).toList=(strOf l).data.toList:=by simp[ByteArray.toList_eq]
  rw[h0];rfl
 rw[e];cases l with
 | nil=>exact absurd rfl h
 | cons a r=>rfl
theorem built_calls(sh:Bool)(id:List UInt8)(v:Val)(hg:Bld v)(hk15:v.kind=15)(hn150:nodes v<=150)(hid:id=[]\/id.length=4)(size:Nat)(sz:Int)(st':BSt)(he:bBuilt sh id v (st0 size)=some st')(w:World)(b:Nat)(F:List Nat)(cs:List Value)
  (hrep:BRep w b F (st0 size)) (hv:VIs (λk=>k ∉ F) w cs v):
  Calls Tryz.prog 40 #[.pointer (some ⟨b,0,none⟩),.agg cs.toArray,.agg #[.int .i64 sz,.string (strOf id),.bool sh]] w λe w'=>e=.returned (.string (strOf st'.m.bytes))/\Fr (λk=>k∈F) w w':=by
 obtain⟨o,st1,e1,ho,h0,hle,hl,hal,h4,_⟩:=root_laid sh v hg hk15 hn150 size;have hfin:st'.fin=true:=by
  obtain⟨s2,e2,hb⟩:=built_laid sh id v hg hk15 hn150 hid size;rw[he] at e2;injection e2 with e2;rw[e2];exact hb.fin
 have hlen:=ho.inv.len;rw[bBuilt,e1,Option.bind_some] at he;have hok:BOk (st0 size) 0:=⟨rfl,PI.start size,StInv.start size⟩;obtain⟨S,hS⟩:=exA (strOf id);rw[<-hS];have hfl:=hrep.below;have haa:Adv w ((w.alloc (.cells cs.toArray 46)).alloc (.cells #[.int .i64 sz,.string S,.bool sh] 29)) F F:=(Adv.alloc _).trans (Adv.alloc _);have hra:=hrep.keep (((Fr.refl (λ_=>False) w).alloc (.cells cs.toArray 46)).alloc (.cells #[.int .i64 sz,.string S,.bool sh] 29)) (λ_ _ x=>x);have hcl:=(build_val sh v).2 hg (st0 size) 0 b F _ cs hok (by omega) hra (hv.adv haa);rw[e1] at hcl;have hbl:w.heap.size+1 ∉ F:=λhm=>by have:=hfl _ hm;omega
 have hbx:((w.alloc (.cells cs.toArray 46)).alloc (.cells #[.int .i64 sz,.string S,.bool sh] 29)).heap[w.heap.size+1]?=some (.cells #[.int .i64 sz,.string S,.bool sh] 29):=by
  rw[<-size_alloc w (.cells cs.toArray 46),heap_alloc_new]
 have hws:((w.alloc (.cells cs.toArray 46)).alloc (.cells #[.int .i64 sz,.string S,.bool sh] 29)).heap.size=w.heap.size+2:=by simp
 obtain⟨na,nl,nc,ka,nk,kc,sa,nss,sc,rfl⟩:=hv.lit;obtain⟨k,hk⟩:=exA (v.kind);obtain⟨e,hee⟩:=exA (v.elem);obtain⟨n,hn⟩:=exA (v.num);obtain⟨tt,htt⟩:=exA (strOf v.text);rw[<-hk,<-hee,<-hn,<-htt] at hcl haa hbx hws ⊢;have HC:=Hd hcl;have HAA:=Hd haa;have HBX:=Hd hbx;have HWS:=Hd hws;have HN:=Hd ho.nested;have HST:=Hd hS;have hlb:st1.m.bytes.length<=1500000:=by omega
 have hle':o<=1500000:=by omega
 clear hcl haa hbx hws hv hra hrep hok hS hg hk15 hn150 hk hee hn htt e1 ho hl;go_enter Tryz.func40,Tryz.ntmps40;go_wp2_with fail;refine HC.out.mono ?_;rintro e2 w2 ⟨rfl,F2,hb2,ha2⟩;obtain⟨hn1,hh1⟩:=ha2.out (k:=w.heap.size+1) (by rw[HWS.out];omega) hbl;rw[HBX.out] at hh1;have c1:w2.cell? ⟨w.heap.size+1,1,none⟩=some (.string S):=by rw[cell_of hh1];rfl
 have HA2:=Hd (HAA.out.trans ha2);have HB2:=Hd hb2;have HH1:=Hd hh1;clear hb2 ha2 hh1;rcases hid with hid|hid
 ·subst hid;rw[if_pos rfl] at he;have hS0:S=⟨#[]⟩:=HST.out;subst hS0;have hfc:=Finish_calls b F2 st1 o w2 HB2.out hal (by omega) (by omega);rw[he] at hfc;have HFC:=Hd hfc;clear hfc he HST;go_wp2_with fail;refine HFC.out.mono ?_;rintro e3 w3 ⟨rfl,F3,hb3,ha3⟩;have HFB:=Hd (FinishedBytes_ok b F3 st' w3 hb3 hfin);have HA3:=Hd (HA2.out.trans ha3);clear hb3 ha3;go_wp2_with fail;refine HFB.out.mono ?_;rintro e4 w4 ⟨Y,oo,cap,nn,rfl,hM,rfl⟩;have hc:=run_bytes_string (P:=Tryz.prog) (src:=81) (dst:=9) hM rfl (cap:=cap) Tryz.underlying81 Tryz.underlying5 Tryz.underlying9;clear hM;go_wp2_with fail;go_ret;exact⟨rfl,(HA3.out.drewN nn).1⟩
 ·have hne:id≠[]:=by intro h;rw[h] at hid;cases hid
  rw[if_neg hne] at he;have hSb:S.toList.isEmpty=false:=by rw[HST.out];exact strOf_empty hne
  obtain⟨cap,W3,hrun,hf3,hm3,hs3⟩:=conv_bytesV w2 id;rw[<-HST.out,hid] at hrun;have hb3:=HB2.out.keep hf3 (λ_ _ x=>x);have hsrc:Src W3 F2 (.slice (some ⟨w2.heap.size,0,none⟩) id.length cap) id:=⟨w2.heap.size,0,cap,rfl,hs3,λhm=>by have:=HB2.out.below _ hm;omega,hm3⟩;have hfc:=FinishId_calls b F2 st1 o id _ W3 hb3 hsrc hal (by omega) (by omega) (by omega);rw[he,hid] at hfc;have HFC:=Hd hfc;have HA3:=Hd (HA2.out.trans (show Adv w2 W3 F2 F2 from ⟨hf3.mono (λ_ _ x=>x.elim),λ_ h=>.inl h⟩));clear hfc he hb3 hsrc hf3 hm3 HST hid hne;go_wp2_with fail;refine HFC.out.mono ?_;rintro e3 w3 ⟨rfl,F3,hb3,ha3⟩;have HFB:=Hd (FinishedBytes_ok b F3 st' w3 hb3 hfin);have HA4:=Hd (HA3.out.trans ha3);clear hb3 ha3;go_wp2_with fail;refine HFB.out.mono ?_;rintro e4 w4 ⟨Y,oo,cap2,nn,rfl,hM,rfl⟩;have hc:=run_bytes_string (P:=Tryz.prog) (src:=81) (dst:=9) hM rfl (cap:=cap2) Tryz.underlying81 Tryz.underlying5 Tryz.underlying9;clear hM;go_wp2_with fail;go_ret;exact⟨rfl,(HA4.out.drewN nn).1⟩
theorem Build1_calls(sh:Bool)(id:List UInt8)(v:Val)(hg:Bld v)(hk15:v.kind=15)(hn150:nodes v<=150)(hid:id=[]\/id.length=4)(size:Nat)(hsz:size<=5000)(st':BSt)(he:bBuilt sh id v (st0 size)=some st')(w:World)(O V D:Nat)(cs:List Value)(ds:Value)
  (hO:w.heap[O]?=some (.cells #[.int .i64 size,.string (strOf id),.bool sh] 29)) (hV:w.heap[V]?=some (.cells cs.toArray 46)) (hD:w.heap[D]?=some (.cells #[ds] 9)) (hv:VIs (λ_=>True) w cs v):
  Calls Tryz.prog 39 #[.pointer (some ⟨O,0,none⟩),.pointer (some ⟨V,0,none⟩),.pointer (some ⟨D,0,none⟩)] w λe w'=>e=.returned (.tuple #[])/\Fr (λk=>k=D) w w'/\w'.heap[D]?=some (.cells #[.string (strOf st'.m.bytes)] 9):=by
 have hbt:∀(w':World) (b:Nat) (F:List Nat),BRep w' b F (st0 size)->Fr0 w w'->(∀k∈F,w.heap.size<=k)->Calls Tryz.prog 40 #[.pointer (some ⟨b,0,none⟩),.agg cs.toArray,.agg #[.int .i64 size,.string (strOf id),.bool sh]] w' λe w''=>e=.returned (.string (strOf st'.m.bytes))/\Fr (λk=>k∈F) w' w'' :=
  λw' b F h1 h2 h3=>built_calls sh id v hg hk15 hn150 hid size size st' he w' b F cs h1 (hv.fr0 h2 (λk hk _ hm=>by have:=h3 k hm;omega))
 obtain⟨na,nl,nc,ka,nk,kc,sa,nss,sc,rfl⟩:=hv.lit;obtain⟨k,hk⟩:=exA (v.kind);obtain⟨e,hee⟩:=exA (v.elem);obtain⟨n,hn⟩:=exA (v.num);obtain⟨tt,htt⟩:=exA (strOf v.text);obtain⟨S,hS⟩:=exA (strOf id);obtain⟨R,hR⟩:=exA (strOf st'.m.bytes);rw[<-hk,<-hee,<-hn,<-htt] at hbt hV;rw[<-hS] at hbt hO;rw[<-hR] at hbt ⊢;have HBT:=Hd hbt;have o0:w.cell? ⟨O,0,none⟩=some (.int .i64 size):=by rw[cell_of hO];rfl
 have o1:w.cell? ⟨O,1,none⟩=some (.string S):=by rw[cell_of hO];rfl
 have o2:w.cell? ⟨O,2,none⟩=some (.bool sh):=by rw[cell_of hO];rfl
 have v0:w.cell? ⟨V,0,none⟩=some (.int .u8 k):=by rw[cell_of hV];rfl
 have v1:w.cell? ⟨V,1,none⟩=some (.int .u8 e):=by rw[cell_of hV];rfl
 have v2:w.cell? ⟨V,2,none⟩=some (.int .u64 n):=by rw[cell_of hV];rfl
 have v3:w.cell? ⟨V,3,none⟩=some (.string tt):=by rw[cell_of hV];rfl
 have v4:w.cell? ⟨V,4,none⟩=some (.slice na nl nc):=by rw[cell_of hV];rfl
 have v5:w.cell? ⟨V,5,none⟩=some (.slice ka nk kc):=by rw[cell_of hV];rfl
 have v6:w.cell? ⟨V,6,none⟩=some (.slice sa nss sc):=by rw[cell_of hV];rfl
 have HDB:=Hd hD;have hDz:=frozen_of hD 0;have hD:w.cell? ⟨D,0,none⟩=some ds:=by rw[cell_of hD];rfl
 clear hbt hO hV hv hg hk15 hn150 hid he hk hee hn htt hS hR;go_enter Tryz.func39,Tryz.ntmps39;go_upto_region 0 with fail;refine wp_region_tail_held 6 (S:=(λw'=>Fr0 w w')) _ kr kr kr ((Fr.refl _ w).drew) (λhHeld=>?_);simp only[zD,zE,zF,zG,List.length_cons,List.length_nil,Nat.zero_add,Nat.reduceAdd];refine tk 0 (.pointer (some ⟨O,0,none⟩)) rfl ?_ ?_
 ·intro w' hc;clear hc;go_simp
 simp only[Act.put,zA,zB,zC];refine tk 1 (.int .i64 size) rfl ?_ ?_
 ·intro w' hc;have a0:=keep_fr hc o0 (λx=>x);clear hc;go_simp
 simp only[Act.put,zA,zB,zC];refine tk 3 (.agg #[.int .u8 k,.int .u8 e,.int .u64 n,.string tt,.slice na nl nc,.slice ka nk kc,.slice sa nss sc]) rfl ?_ ?_
 ·intro w' hc;obtain⟨a0,a1,a2,a3,a4,a5,a6⟩:=kf7 hc v0 v1 v2 v3 v4 v5 v6 (λx=>x);clear hc;go_simp
 simp only[Act.put,zA,zB,zC];refine tk 4 (.agg #[.int .i64 size,.string S,.bool sh]) rfl ?_ ?_
 ·intro w' hc;have a0:=keep_fr hc o0 (λx=>x);have a1:=keep_fr hc o1 (λx=>x);have a2:=keep_fr hc o2 (λx=>x);clear hc;go_simp
 simp only[Act.put,zA,zB,zC];refine rd 2 rfl λK hK=>?_;go_simp;refine (NewBuilder_calls size _ hsz).mono ?_;rintro e6 w6 ⟨rfl,F6,hb6,ha6⟩;have hf6:Fr0 w w6:=(show Fr (λk=>k∈([]:List Nat)) _ w6 from ha6.1).mono (λ_ _ h=>by cases h) |>.fromDrew;have HB6:=Hd hb6;have HAF6:=Hd ha6;refine hK.out _ _ hf6 (λ_=>?_);try simp only[Act.put,zA,zB,zC]
 refine rd 5 rfl λK hK=>?_;go_simp;refine (HBT.out _ _ _ HB6.out hf6 (λk hk=>?_)).mono ?_
 ·have:=HAF6.out.2 k hk;simp at this;exact this
 rintro e7 w7 ⟨rfl,hf7⟩;have hf7:Fr0 w w7:=hf6.trans2 hf7 (λk hk hm=>by have:=HAF6.out.2 k hm;simp at this;omega);have d0:=(keep_fr hf7 hD (λx=>x));have dz:=(keep_frF hf7 hD hDz (λx=>x));refine hK.out _ _ hf7 (λ_=>?_);try simp only[Act.put,zA,zB,zC]
 have HF7:=Hd hf7;clear hf6 hf7;refine wpAnyH_done kr ?_ _;show wpTail _ _ _ _ _ _ _;refine wpTail_step (by rfl) (λK hK=>?_);go_simp;refine hK _ _ ?_;refine wpTail_nil ?_;clear hK K;go_wp2_with fail;go_end0
 have h1:=(HF7.out.block D (lt_of_block HDB.out) (λx=>x)).trans HDB.out;exact⟨rfl,(HF7.out.mono (S':=λk=>k=D) (λ_ _ x=>x.elim)).setCell (p:=⟨D,0,none⟩) (λ_=>rfl) _,heap_setCell_same h1 0 _⟩
theorem enterBuild1(caps:Array Value)(w:World):(callFunc 39 caps).run Tryz.prog w=.ok (.enter 39 caps) w:=by kernel_rfl
theorem Build_calls(sh:Bool)(id:List UInt8)(v:Val)(hg:Bld v)(hk15:v.kind=15)(hn150:nodes v<=150)(hid:id=[]\/id.length=4)(size:Nat)(hsz:size<=5000)(w:World)(cs:List Value)(hv:VIs (λ_=>True) w cs v):
  Calls Tryz.prog 21 #[.agg cs.toArray,.agg #[.int .i64 size,.string (strOf id),.bool sh]] w λe w'=>∃st',bBuilt sh id v (st0 size)=some st'/\BuiltOk sh id v st'/\e=.returned (.tuple #[.string (strOf st'.m.bytes),.bool true])/\Fr0 w w':=by
 obtain⟨st',he,hok⟩:=built_laid sh id v hg hk15 hn150 hid size;obtain⟨w1,hw1⟩:=exA (((w.alloc (.cells cs.toArray 46)).alloc (.cells #[.int .i64 size,.string (strOf id),.bool sh] 29)).alloc (.cells #[.string ⟨#[]⟩] 9));have hf1:Fr0 w w1:=by rw[hw1];exact (((Fr.refl _ w).alloc _).alloc _).alloc _
 have hs1:w1.heap.size=w.heap.size+3:=by rw[hw1];simp
 have hV1:w1.heap[w.heap.size]?=some (.cells cs.toArray 46):=by
  rw[hw1];simp only[heap_alloc_get,size_alloc];rw[if_neg (by omega),if_neg (by omega),if_pos trivial]
 have hO1:w1.heap[w.heap.size+1]?=some (.cells #[.int .i64 size,.string (strOf id),.bool sh] 29):=by
  rw[hw1];simp only[heap_alloc_get,size_alloc];rw[if_neg (by omega),if_pos trivial]
 have hD1:w1.heap[w.heap.size+2]?=some (.cells #[.string ⟨#[]⟩] 9):=by
  rw[hw1];simp only[heap_alloc_get,size_alloc];rw[if_pos trivial]
 have hal:Fr0 w1 (w1.alloc thrownVar):=(Fr.refl _ w1).alloc _;have h1:=Build1_calls sh id v hg hk15 hn150 hid size hsz st' he (w1.alloc thrownVar) (w.heap.size+1) w.heap.size (w.heap.size+2) cs (.string ⟨#[]⟩) (by rw[heap_alloc_old _ _ _ (by omega)];exact hO1) (by rw[heap_alloc_old _ _ _ (by omega)];exact hV1) (by rw[heap_alloc_old _ _ _ (by omega)];exact hD1) ((hv.fr0 hf1 (λ_ _ h=>h)).fr0 hal (λ_ _ h=>h));have hth:=thrown_ok (S:=λx=>x=w.heap.size+2) (R:=λw'=>Fr (λx=>x=w.heap.size+2) (w1.alloc thrownVar) w'/\w'.heap[w.heap.size+2]?=some (.cells #[.string (strOf st'.m.bytes)] 9)) (λw=>enterBuild1 _ w) h1 (λ_ h=>h.1) (by omega);obtain⟨R,hR⟩:=exA (strOf st'.m.bytes);obtain⟨S,hS⟩:=exA (strOf id);rw[<-hR] at hth;rw[<-hS] at hw1;rw[<-hS];obtain⟨na,nl,nc,ka,nk,kc,sa,nss,sc,rfl⟩:=hv.lit;obtain⟨k,hk⟩:=exA (v.kind);obtain⟨e,hee⟩:=exA (v.elem);obtain⟨n,hn⟩:=exA (v.num);obtain⟨tt,htt⟩:=exA (strOf v.text);rw[<-hk,<-hee,<-hn,<-htt] at hw1 ⊢;rw[hw1] at hth;have HTH:=Hd hth;have HW1:=Hd hw1;have HF1:=Hd hf1;have HS1:=Hd hs1;have HR:=Hd hR;have HOK:=Hd (And.intro he hok);clear hth hw1 hf1 hs1 hV1 hO1 hD1 hal h1 hv hR hS hk hee hn htt he hok hg hk15 hn150 hid;have hmf:∀(fn:Fn) (first cap:Array Value) (w:World),(Instr.makeFunc fn first cap).run Tryz.prog w=.ok (.func fn first cap) w:=λ_ _ _ _=>rfl;go_enter Tryz.func21,Tryz.ntmps21;go_wp2_with fail;refine HTH.out.mono ?_;rintro e2 w2 ⟨rfl,w3,⟨hf3,hb3⟩,hf4⟩;rw[<-HW1.out] at hf3 hf4;have hb4:=(hf4.block (w.heap.size+2) (lt_of_block hb3) (by have:=HS1.out;omega)).trans hb3;have d0:w2.cell? ⟨w.heap.size+2,0,none⟩=some (.string R):=by rw[cell_of hb4];rfl
 have dz:=frozen_of hb4 0;have hf5:Fr0 w w2:=by
  have h0:Fr0 w (w1.alloc thrownVar):=HF1.out.trans ((Fr.refl _ w1).alloc _);have hs:=HS1.out;exact (h0.trans2 hf3 (λq hq hm=>by omega)).trans2 hf4 (λq hq hm=>by omega)
 have HF5:=Hd hf5;have HB4:=Hd hb4;clear hf3 hb3 hf4 hb4 hf5;go_wp2_with fail;refine bodyPost_ret (results_cell_tmp (P:=Tryz.prog) rfl _ _ ⟨w.heap.size+2,0,none⟩ (.string R) rfl (loadStr _ _ _ (by rw[cell_of (heap_setCell_same HB4.out 0 (.string R))];rfl))) rfl ?_;have hc:=HOK.out;refine⟨st',hc.1,hc.2,by rw[<-HR.out];rfl,?_⟩;exact HF5.out.setCell (λh=>absurd (show w.heap.size+2<w.heap.size from h) (by omega)) _
end Go.Proofs.YtcfblkkpclfmaaaGreat
