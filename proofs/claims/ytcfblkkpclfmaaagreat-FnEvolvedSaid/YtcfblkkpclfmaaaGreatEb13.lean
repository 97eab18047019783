/- Part 13 of the proof of FnEvolved; no condition. -/
import Derived.Test.YtcfblkkpclfmaaaGreatEb03
import Derived.Test.YtcfblkkpclfmaaaGreatEb11
import Derived.Test.YtcfblkkpclfmaaaGreatEb12
set_option linter.unusedVariables false
set_option linter.unusedSimpArgs false
set_option maxRecDepth 100000
set_option maxHeartbeats 16000000
namespace Go.Proofs.YtcfblkkpclfmaaaGreat
open Go.RowKit
theorem VIs.adv{w w':World}{F F':List Nat}{cs:List Value}{v:Val}(h:VIs (λk=>k ∉ F) w cs v)(ha:Adv w w' F F'):VIs (λk=>k ∉ F') w' cs v :=
 h.fr ha.1 λb hb hbb=>⟨λhm=>by rcases ha.2 b hm with h1|h1;exact hbb h1;omega,hbb⟩
theorem Adv.alloc{w:World}{F:List Nat}(o:Obj):Adv w (w.alloc o) F F:=⟨(Fr.refl _ w).alloc o,λ_ h=>.inl h⟩
theorem Adv.out{w w':World}{F F':List Nat}(ha:Adv w w' F F'){k:Nat}(hk:k<w.heap.size)(hn:k ∉ F):k ∉ F'/\w'.heap[k]?=w.heap[k]? :=
 ⟨λhm=>by rcases ha.2 k hm with h1|h1;exact hn h1;omega,ha.1.block k hk hn⟩
structure BOk(st:BSt)(i:Nat):Prop where
 nested:st.nested=false
 pi:PI st
 inv:StInv st i
theorem Out.ok{st st':BSt}{i:Nat}(h:Out st st' i):BOk st' i:=⟨h.nested,h.pi,h.inv⟩
def ElseC(sh:Bool)(v:Val):Prop:=Bld v->∀(st:BSt) (i b:Nat) (F:List Nat) (w:World) (cs:List Value),BOk st i->i+2*nodes v<=300->BRep w b F st->VIs (λk=>k ∉ F) w cs v ->
 Calls Tryz.prog 108 #[.pointer (some ⟨b,0,none⟩),.agg cs.toArray,.bool sh] w (BRes w b F (numRes (bElse sh v st)))
def TabC (sh:Bool)(v:Val):Prop:=Bld v->∀(st:BSt) (i b:Nat) (F:List Nat) (w:World) (cs:List Value),BOk st i->i+2*nodes v<=300->BRep w b F st->VIs (λk=>k ∉ F) w cs v ->
 Calls Tryz.prog 65 #[.pointer (some ⟨b,0,none⟩),.agg cs.toArray,.bool sh] w (BRes w b F (numRes (bTab sh v st)))
structure BT1(sh:Bool)(b:Nat)(F:List Nat)(st0:BSt)(i0:Nat)(w:World)(bx:List Value)(ss:List (Slt Val))(n i:Nat)(wr:World)(F':List Nat)(st:BSt)(os:List Nat):Prop where
 adv:Adv w wr F F'
 rep:BRep wr b F' st
 run:bSlots sh (ss.take i) st0=some (os,st)
 out:Out st0 st (i0+2*nodesS (ss.take i))
 size:w.heap.size+2<=wr.heap.size
 box:wr.heap[w.heap.size]?=some (.cells bx.toArray 46)
 offs:wr.heap[w.heap.size+1]?=some (.cells (u32s os++List.replicate (n-i) (Value.int .u32 0)).toArray 98)
 len:os.length=i
 new:w.heap.size ∉ F'/\w.heap.size+1 ∉ F'
def BTR1 (sh:Bool)(b:Nat)(F:List Nat)(st0:BSt)(i0:Nat)(w:World)(bx:List Value)(ss:List (Slt Val))(n i:Nat)(wr:World):Prop:=∃F' st os,BT1 sh b F st0 i0 w bx ss n i wr F' st os
theorem nodesS_snoc(l:List (Slt Val))(s:Slt Val):nodesS (l++[s])=nodesS l+nodesT s:=by
 induction l with
 | nil=>rw[List.nil_append,nodesS_cons];simp[nodesS]
 | cons a r ih=>rw[List.cons_append,nodesS_cons,nodesS_cons,ih];omega
theorem nodesS_take(l:List (Slt Val))(i:Nat):nodesS (l.take i)<=nodesS l:=by
 induction l generalizing i with
 | nil=>simp
 | cons a r ih =>
  cases i with
  | zero=>rw[List.take_zero];simp[nodesS]
  | succ i=>rw[List.take_succ_cons,nodesS_cons,nodesS_cons];have:=ih i;omega
structure BT2(b:Nat)(F:List Nat)(w:World)(bx:List Value)(ss:List (Slt Val))(os:List Nat)(st1 st2:BSt)(i:Nat)(wr:World)(F':List Nat)(st:BSt)(l:List Nat):Prop where
 adv:Adv w wr F F'
 rep:BRep wr b F' st
 fi:FI st1 st ss.length i ss l
 run:bFields 0 (ss.take i) (os.take i) st2=some st
 size:w.heap.size+2<=wr.heap.size
 box:wr.heap[w.heap.size]?=some (.cells bx.toArray 46)
 offs:wr.heap[w.heap.size+1]?=some (.cells (u32s os).toArray 98)
 new:w.heap.size ∉ F'/\w.heap.size+1 ∉ F'
def BTR2 (b:Nat)(F:List Nat)(w:World)(bx:List Value)(ss:List (Slt Val))(os:List Nat)(st1 st2:BSt)(i:Nat)(wr:World):Prop:=∃F' st l,BT2 b F w bx ss os st1 st2 i wr F' st l
theorem fi_inv{st1 st2 st3:BSt}{ss:List (Slt Val)}{os l:List Nat}{i:Nat}(h1:StInv st1 i)(he:st2={ st1 with nested:=true,vtab:=some (List.replicate ss.length 0),oend:=st1.m.bytes.length })(hs:∀j (a:j<ss.length) (b:j<os.length),SlotOk st1.m.bytes ss[j] os[j])
  (e2:bFields 0 ss os st2=some st3) (hF2:FI st1 st3 ss.length ss.length ss l) (hls:ss.length<=60):StInv st3 (i+1):=by
 subst he;have g2:Grow st1.m st3.m (80*ss.length):=bFields_grow (B:=st1.m.bytes) ss os 0 { st1 with nested:=true,vtab:=some (List.replicate ss.length 0),oend:=st1.m.bytes.length } st3 (λj a b=>hs j a b) e2;refine h1.grow g2 (by omega) (λl' hl'=>?_) hF2.vts ?_ ?_
 ·rw[hF2.vtab] at hl';injection hl' with hl';subst hl';refine⟨by rw[hF2.len];omega,λx hx=>?_⟩;obtain⟨j,hjl,rfl⟩:=List.getElem_of_mem hx;have:=hF2.some j (by have:=hF2.len;omega) hjl (by have:=hF2.len;omega)
  split at this
  ·exact this.2.1
  ·omega
 ·rw[hF2.oend];exact g2.len.1
 ·rw[hF2.shared];have:=h1.sh;omega
theorem BT2.next{b:Nat}{F:List Nat}{w:World}{bx:List Value}{ss:List (Slt Val)}{os:List Nat}{st1 st2:BSt}{i:Nat}{wr w':World}{F' F2:List Nat}{st st':BSt}{l l':List Nat}(h:BT2 b F w bx ss os st1 st2 i wr F' st l)
  (ha:Adv wr w' F' F2) (hb:BRep w' b F2 st') (hf:FI st1 st' ss.length (i+1) ss l') (hr:bFields 0 (ss.take (i+1)) (os.take (i+1)) st2=some st'):BT2 b F w bx ss os st1 st2 (i+1) w' F2 st' l':=by
 have hs:=h.size;obtain⟨hn0,hh0⟩:=ha.out (k:=w.heap.size) (by omega) h.new.1;obtain⟨hn1,hh1⟩:=ha.out (k:=w.heap.size+1) (by omega) h.new.2;exact⟨h.adv.trans ha,hb,hf,hr,by have:=ha.1.size;omega,hh0.trans h.box,hh1.trans h.offs,⟨hn0,hn1⟩⟩
theorem BT2.more{b:Nat}{F:List Nat}{w:World}{bx:List Value}{ss:List (Slt Val)}{os:List Nat}{st1 st2:BSt}{i:Nat}{wr:World}{F':List Nat}{st:BSt}{l:List Nat}(h:BT2 b F w bx ss os st1 st2 i wr F' st l)
  (hos:os.length=ss.length) (hsl:∀j (a:j<ss.length) (b:j<os.length),SlotOk st1.m.bytes ss[j] os[j]) (hl:st1.m.bytes.length+72*ss.length<1900000) (hi:i<ss.length) (hi2:i<os.length):
  ∃st' l',bField i ss[i] os[i] st=some st'/\FI st1 st' ss.length (i+1) ss l'/\bFields 0 (ss.take (i+1)) (os.take (i+1)) st2=some st':=by
 obtain⟨st',l',h1,h2⟩:=bField_laid h.fi hi rfl os[i] (hsl i hi hi2) hl;refine⟨st',l',h1,h2,?_⟩;rw[List.take_succ_eq_append_getElem hi,List.take_succ_eq_append_getElem hi2,bFields_snoc _ _ _ _ _ _ (by simp[hos]),h.run,Option.bind_some,List.length_take,Nat.min_eq_left (by omega),Nat.zero_add];exact h1
def StR (b:Nat)(F:List Nat)(wa:World)(H:Nat)(o:Obj)(st:BSt)(m:BM)(xs:List UInt8)(q:Int)(w:World):Prop:=∃F',BRep w b F' { st with m:=m.put (xs.drop (q+1).toNat) }/\Adv wa w F F'/\w.heap[H]?=some o/\H ∉ F'
theorem StR.next{b H p:Nat}{F F5 F6:List Nat}{wa w w6:World}{o:Obj}{st:BSt}{m:BM}{xs:List UInt8}(h:Adv wa w F F5/\w.heap[H]?=some o/\H ∉ F5)(ha:Adv w w6 F5 F6)(hb:BRep w6 b F6 { st with m:=m.put (xs.drop p) }):StR b F wa H o st m xs ((p:Int)-1) w6:=by
 obtain⟨a1,a2,a3⟩:=h;obtain⟨o1,o2⟩:=ha.out (lt_of_block a2) a3;refine⟨F6,?_,a1.trans ha,o2.trans a2,o1⟩;rw[show ((p:Int)-1+1).toNat=p by omega];exact hb
theorem BT1.more{sh:Bool}{b:Nat}{F:List Nat}{st0:BSt}{i0:Nat}{w:World}{bx:List Value}{ss:List (Slt Val)}{n i:Nat}{wr:World}{F':List Nat}{st:BSt}{os:List Nat}(h:BT1 sh b F st0 i0 w bx ss n i wr F' st os)
  (hk:BOk st0 i0) (hb:i0+2*nodesS ss<=300) (hg:∀s∈ss,s.has=true->Bld s.val) (hd:∀s∈ss,s.has=true->s.val.kind<=10->OkNum s.val.kind s.dflt) (hi:i<ss.length):
  ∃o st2,bSlot sh ss[i] st=some (o,st2)/\bSlots sh (ss.take (i+1)) st0=some (os++[o],st2)/\Out st0 st2 (i0+2*nodesS (ss.take (i+1))):=by
 have hn:=nodesS_take ss (i+1);obtain⟨os2,st2,hr2,ho2,hl2,_⟩:=slots_laid sh (ss.take (i+1)) st0 i0 (λs hs hh=>⟨else_laid sh s.val,hg s (List.mem_of_mem_take hs) hh,hd s (List.mem_of_mem_take hs) hh⟩) hk.nested hk.pi hk.inv (by omega);have hr3:=hr2;rw[List.take_succ_eq_append_getElem hi,bSlots_snoc,h.run,Option.bind_some] at hr3;cases hs:bSlot sh ss[i] st with
 | none=>rw[hs] at hr3;cases hr3
 | some q =>
  rw[hs] at hr3;have e:(os++[q.1],q.2)=(os2,st2):=by injection hr3
  injection e with e1 e2;subst e1 e2;exact⟨q.1,q.2,rfl,hr2,ho2⟩
theorem buildTable_of(sh:Bool)(k e n:Nat)(t:List UInt8)(ns:List Nat)(ks:List Val)(ss:List (Slt Val))(ihs:∀s∈ss,s.has=true->ElseC sh s.val):TabC sh (.mk k e n t ns ks ss):=by
 intro hb st i0 b F w cs hok hbd hrep hv;cases hv with
 | mk _ _ _ _ _ _ _ nv ka kc kg ko sa sc sg so hk he hn ht hnv hka hkc hks hsa hsc hsd hss =>
  cases hb with
  | mk _ _ _ _ _ _ _ hk17 lt ln lk ls h13 hst hk14 hk16 hgk hgs hd2 hnum =>
   have hFl:=hrep.below;obtain⟨T,hT⟩:=exA (strOf t);rw[<-hT];obtain⟨na,nc,rfl,_⟩:=hnv.ok;obtain⟨nl,hnl⟩:=exA (ns.length);obtain⟨nk,hnk⟩:=exA (ks.length);obtain⟨nss,hnss⟩:=exA (ss.length);have hms:sc<=maxLen:=hsc.2;unfold maxLen at hms;have hsc1:=hsc.1;rw[<-hnl,<-hnk,<-hnss];rw[<-hnss] at ls hsc1;have HNS:=Hd hnss;have HSA:=Hd hsa;have HSD:=Hd hsd;have HSS:=Hd hss;have HFL:=Hd hFl;have HREP:=Hd hrep;have HOK:=Hd hok;have HBD:=Hd hbd;have IHS:=Hd ihs;have HGS:=Hd hgs;have HD2:=Hd hd2;clear hT hnl hnk hnss hsa hsd hss hFl hrep hok hbd ihs hgs hd2 hsc hka hkc hks hnv hgk hk14 hk16 h13 hst hnum ht hk he hn;obtain⟨i1,hj,hy0,hy1,hy2⟩:=info_parts' infoU32o;have hmk2:=λw'=>run_make (P:=Tryz.prog) w' 100 98 i1 (.int .u32 0) Tryz.underlying100 hj hy0 .i64 .i64 nss nss (by omega) (by omega) (by rw[hy2];omega) (by omega);rw[hy1] at hmk2;simp only[Int.toNat_natCast,Nat.mul_one,Value.cells] at hmk2;clear hj hy0 hy1 hy2;go_enter Tryz.func65,Tryz.ntmps65;go_wp2_with fail;have hs1:BTR1 sh b F st i0 w [.int .u8 k,.int .u8 e,.int .u64 n,.string T,.slice na nl nc,.slice ka nk kc,.slice sa nss sc] ss nss 0 ((w.alloc (.cells #[.int .u8 k,.int .u8 e,.int .u64 n,.string T,.slice na nl nc,.slice ka nk kc,.slice sa nss sc] 46)).alloc (.cells (madeCells #[.int .u32 0] nss) 98)):=by
    have hF:=HFL.out;have hO:=HOK.out;refine⟨F,st,[],⟨(Adv.alloc _).trans (Adv.alloc _),?_,rfl,⟨hO.nested,hO.pi,Put.refl _,hO.inv.le (by omega)⟩,by simp,?_,?_,rfl,⟨λh=>by have:=hF _ h;omega,λh=>by have:=hF _ h;omega⟩⟩⟩
    ·exact HREP.out.keep (((Fr.refl (λ_=>False) w).alloc _).alloc _) (λ_ _ x=>x)
    ·rw[heap_alloc_old _ _ _ (by simp),heap_alloc_new]
    ·rw[<-size_alloc w (.cells #[.int .u8 k,.int .u8 e,.int .u64 n,.string T,.slice na nl nc,.slice ka nk kc,.slice sa nss sc] 46),heap_alloc_new];congr 2
     apply Array.toList_inj.1
     rw[toList_madeCells_one];simp[u32s]
   have HS1:=Hd hs1;clear hs1 hmk2;go_loopw [20] (λiv w2=>∃i:Nat,i<=nss/\iv=.int .i64 i/\BTR1 sh b F st i0 w [.int .u8 k,.int .u8 e,.int .u64 n,.string T,.slice na nl nc,.slice ka nk kc,.slice sa nss sc] ss nss i w2) (λiv _=>nss-(intOf iv).toNat)
   case atStart=>exact⟨0,Nat.zero_le _,rfl,HS1.out⟩
   case round =>
    obtain⟨i,hi,rfl,F1,st1,os1,hR⟩:=hrel;have hsz:=hR.size;have hbox:=hR.box;have HR:=Hd hR;clear HS1;by_cases hlt:i<nss
    ·have hik:i<ss.length:=(by have:=HNS.out;omega);obtain⟨rfl,hsg,hBg⟩:=HSA.out (by intro h0;rw[h0] at hik;simp at hik);obtain⟨sl,hsl⟩:=exA (ss[i]);obtain⟨kid,hkid⟩:=exA (sl.val);obtain⟨hgF,hgh⟩:=hR.adv.out hsg hBg;have hkv:VIs (λx=>x ∉ F1) wr (cellsAt wr sg (so+i*9+1) 7) kid:=by
      rw[cellsAt_mono hgh,hkid,hsl];exact (HSS.out i hik).adv hR.adv
     obtain⟨na1,nl1,nc1,ka1,nk1,kc1,sa1,ns1,sc1,hlit,c1,c2,c3,c4,c5,c6,c7⟩:=hkv.at
     have c0:wr.cell? ⟨sg,so+i*9,none⟩=some (.bool sl.has):=(by rw[World.cell?_of_block (w:=w) hgh,hsl];exact (HSD.out i hik).1);have c8:wr.cell? ⟨sg,so+i*9+8,none⟩=some (.int .u64 sl.dflt):=(by rw[World.cell?_of_block (w:=w) hgh,hsl];exact (HSD.out i hik).2.1);have c2:wr.cell? ⟨sg,so+i*9+2,none⟩=some (.int .u8 kid.elem):=c2;have c3:wr.cell? ⟨sg,so+i*9+3,none⟩=some (.int .u64 kid.num):=c3;have c4:wr.cell? ⟨sg,so+i*9+4,none⟩=some (.string (strOf kid.text)):=c4;have c5:wr.cell? ⟨sg,so+i*9+5,none⟩=some (.slice na1 nl1 nc1):=c5;have c6:wr.cell? ⟨sg,so+i*9+6,none⟩=some (.slice ka1 nk1 kc1):=c6;have c7:wr.cell? ⟨sg,so+i*9+7,none⟩=some (.slice sa1 ns1 sc1):=c7;have HLIT:=Hd hlit;have HKD:=Hd hkid;have HSL:=Hd hsl;clear hlit hkv hkid hgF hgh hbox hR;have hnb:i0+2*nodesS ss<=300:=(by have:=HBD.out;rw[nodes] at this;omega);obtain⟨o,st2,hbs,hrun2,hout2⟩:=HR.out.more HOK.out hnb HGS.out HD2.out hik;have HBS:=Hd hbs;have HRUN2:=Hd hrun2;have HOUT2:=Hd hout2;clear hbs hrun2 hout2 hnb;cases hhas:sl.has with
     | false =>
      rw[hhas] at c0;have hnext:BTR1 sh b F st i0 w [.int .u8 k,.int .u8 e,.int .u64 n,.string T,.slice na nl nc,.slice ka nk kc,.slice (some ⟨sg,so,none⟩) nss sc] ss nss (i+1) (wr.alloc (.cells #[.bool false,.int .u8 kid.kind,.int .u8 kid.elem,.int .u64 kid.num,.string (strOf kid.text),.slice na1 nl1 nc1,.slice ka1 nk1 kc1,.slice sa1 ns1 sc1,.int .u64 sl.dflt] 84)):=by
       have hs2:=HBS.out;rw[bSlot_def,<-HSL.out,hhas,if_neg (by simp)] at hs2;have e:(0,st1)=(o,st2):=(by injection hs2);injection e with e1 e2;have hR:=HR.out;refine⟨F1,st1,os1++[0],⟨hR.adv.trans (Adv.alloc _),hR.rep.keep ((Fr.refl (λ_=>False) wr).alloc _) (λ_ _ x=>x),?_,?_,by rw[size_alloc];have:=hR.size;omega,?_,?_,by rw[List.length_append,hR.len];rfl,hR.new⟩⟩
       ·rw[e1,e2];exact HRUN2.out
       ·rw[e2];exact HOUT2.out
       ·rw[heap_alloc_old _ _ _ (by omega)];exact hR.box
       ·rw[heap_alloc_old _ _ _ (by omega),hR.offs];congr 3
        rw[show nss-i=(nss-(i+1))+1 by omega,List.replicate_succ];simp[u32s]
      have HNX:=Hd hnext;clear hnext;go_wp2_with fail;refine⟨?_,?_⟩
      ·refine⟨i+1,by omega,by go_num,?_⟩;have:=HNX.out
       rw[HSL.out] at this;exact this
      ·simp[intOf];omega
     | true =>
      rw[hhas] at c0;have hmem:sl∈ss:=(by rw[HSL.out];exact List.getElem_mem hik);have hnb2:i0+2*nodesS (ss.take i)+2*nodes kid<=300:=by
       have h1:=HBD.out;have h2:=nodesS_take ss (i+1);rw[nodes] at h1;rw[List.take_succ_eq_append_getElem hik,nodesS_snoc,<-HSL.out,nodesT_has hhas,<-HKD.out] at h2;omega
      have hcl:=IHS.out sl hmem hhas (HGS.out sl hmem hhas) st1 (i0+2*nodesS (ss.take i)) b F1 (wr.alloc (.cells #[.bool true,.int .u8 kid.kind,.int .u8 kid.elem,.int .u64 kid.num,.string (strOf kid.text),.slice na1 nl1 nc1,.slice ka1 nk1 kc1,.slice sa1 ns1 sc1,.int .u64 sl.dflt] 84)) _ HR.out.out.ok (by rw[<-HKD.out];exact hnb2) (HR.out.rep.keep ((Fr.refl (λ_=>False) wr).alloc _) (λ_ _ x=>x)) (by rw[<-HKD.out];exact HLIT.out.fr0 ((Fr.refl _ wr).alloc _) (λ_ _ x=>x));have hs2:=HBS.out;rw[bSlot_def,<-HSL.out,hhas,if_pos rfl] at hs2;rw[hs2,HSL.out] at hcl;have HCL:=Hd hcl;clear hcl hs2 hmem hnb2;go_wp2_with fail;refine HCL.out.mono ?_;rintro e2 w2 ⟨rfl,F2,hb2,ha2⟩;have hoff:=HR.out.offs;have hboxr:=HR.out.box;have hnw:=HR.out.new;obtain⟨hn1,hh1⟩:=ha2.out (k:=w.heap.size+1) (by rw[size_alloc];omega) hnw.2;obtain⟨hn0,hh0⟩:=ha2.out (k:=w.heap.size) (by rw[size_alloc];omega) hnw.1;rw[heap_alloc_old _ _ _ (by omega),hoff] at hh1;rw[heap_alloc_old _ _ _ (by omega),hboxr] at hh0;have hu0:w2.cell? ⟨w.heap.size+1,i,none⟩=some (.int .u32 0):=by
       rw[cell_of hh1];simp only[List.getElem?_toArray];rw[List.getElem?_append_right (by rw[u32s_length,HR.out.len];omega),u32s_length,HR.out.len,Nat.sub_self,List.getElem?_replicate,if_pos (by omega)]
      have hfz:=frozen_of hh1 i;have hnext:BTR1 sh b F st i0 w [.int .u8 k,.int .u8 e,.int .u64 n,.string T,.slice na nl nc,.slice ka nk kc,.slice (some ⟨sg,so,none⟩) nss sc] ss nss (i+1) (w2.setCell ⟨w.heap.size+1,i,none⟩ (.int .u32 o)):=by
       have hR:=HR.out;have hadv:=hR.adv.trans ((Adv.alloc (.cells #[.bool true,.int .u8 kid.kind,.int .u8 kid.elem,.int .u64 kid.num,.string (strOf kid.text),.slice na1 nl1 nc1,.slice ka1 nk1 kc1,.slice sa1 ns1 sc1,.int .u64 sl.dflt] 84)).trans (by rw[<-HSL.out] at ha2;exact ha2));refine⟨F2,st2,os1++[o],⟨⟨hadv.1.setCell (λh=>absurd (show w.heap.size+1<w.heap.size from h) (by omega)) _,hadv.2⟩,hb2.keep ((Fr.refl (λx=>x=w.heap.size+1) w2).setCell (λ_=>rfl) _) (λx hx e=>hn1 (e▸hx)),HRUN2.out,HOUT2.out,?_,?_,?_,by rw[List.length_append,hR.len];rfl,⟨hn0,hn1⟩⟩⟩
       ·have:=hadv.1.size
        have:=ha2.1.size
        rw[size_alloc] at this;have e0:(w2.setCell ⟨w.heap.size+1,i,none⟩ (.int .u32 o)).heap.size=w2.heap.size:=(by simp[World.setCell]);rw[e0];have:=hR.size;omega
       ·rw[heap_setCell_other _ _ _ _ (show w.heap.size≠w.heap.size+1 by omega)];exact hh0
       ·rw[heap_setCell_same hh1];rw[List.setIfInBounds_toArray];congr 3
        rw[show nss-i=(nss-(i+1))+1 by omega,List.replicate_succ,List.set_append_right _ _ (by rw[u32s_length,hR.len];omega),u32s_length,hR.len,Nat.sub_self,List.set_cons_zero];simp[u32s]
      have HNX:=Hd hnext;clear hnext hb2 ha2 hoff hboxr hnw hh0 hh1 hn0 hn1;go_wp2_with fail;refine⟨⟨i+1,by omega,by go_num,HNX.out⟩,by simp[intOf];omega⟩
    ·have hie:i=nss:=(by omega);subst hie;have hssl:ss.length=i:=HNS.out.symm;obtain⟨st2,hst2⟩:=exA (({ st1 with nested:=true,vtab:=some (List.replicate i 0),oend:=st1.m.bytes.length }:BSt));have hso:=StartObject_calls b F1 st1 i wr HR.out.rep (by omega);have es:st1.startObj i=some st2:=by
      unfold BSt.startObj;rw[HR.out.out.nested,hst2];rfl
     rw[es] at hso;have HSO:=Hd hso;have bx6:wr.cell? ⟨w.heap.size,6,none⟩=some (.slice sa i sc):=(by rw[cell_of hbox];rfl);clear hso es;go_wp2_with fail;refine HSO.out.mono ?_;rintro e2 w2 ⟨rfl,F2,hb2,ha2⟩;have hR:=HR.out;obtain⟨hn0,hh0⟩:=ha2.out (k:=w.heap.size) (by omega) hR.new.1;obtain⟨hn1,hh1⟩:=ha2.out (k:=w.heap.size+1) (by omega) hR.new.2;rw[hbox] at hh0;rw[hR.offs,Nat.sub_self] at hh1;have h2:BTR2 b F w [.int .u8 k,.int .u8 e,.int .u64 n,.string T,.slice na nl nc,.slice ka nk kc,.slice sa i sc] ss os1 st1 st2 0 w2:=by
      refine⟨F2,st2,List.replicate i 0,hR.adv.trans ha2,hb2,?_,rfl,by have:=ha2.1.size;omega,hh0,?_,⟨hn0,hn1⟩⟩
      ·rw[hssl,hst2];exact⟨rfl,by simp,λj _ _ h=>by omega,λj hl _=>by simp,⟨[],rfl⟩,by simp,rfl,rfl,rfl,rfl,rfl⟩
      ·rw[hh1];simp
     have bx62:w2.cell? ⟨w.heap.size,6,none⟩=some (.slice sa i sc):=(by rw[cell_of hh0];rfl);have H2:=Hd h2;clear h2 hR hh0 hh1 hn0 hn1 hb2 ha2 bx6 HSO hbox;go_wp2_with fail;go_loopw [44] (λiv w3=>∃j:Nat,j<=i/\iv=.int .i64 j/\BTR2 b F w [.int .u8 k,.int .u8 e,.int .u64 n,.string T,.slice na nl nc,.slice ka nk kc,.slice sa i sc] ss os1 st1 st2 j w3) (λiv _=>i-(intOf iv).toNat)
     case atStart=>exact⟨0,Nat.zero_le _,rfl,H2.out⟩
     case round =>
      obtain⟨j,hj,rfl,F3,st3,l3,hR⟩:=hrel;have hsz3:=hR.size;have hbox3:=hR.box;have HR3:=Hd hR;clear H2 bx62;by_cases hlt:j<i
      ·have hjk:j<ss.length:=(by omega);obtain⟨rfl,hsg,hBg⟩:=HSA.out (by intro h0;rw[h0] at hjk;simp at hjk);have hall:os1.length=ss.length/\(∀j (a:j<ss.length) (b:j<os1.length),SlotOk st1.m.bytes ss[j] os1[j])/\st1.m.bytes.length+72*ss.length<1900000:=by
        have hnb:i0+2*nodesS ss<=300:=(by have:=HBD.out;rw[nodes] at this;omega);obtain⟨os2,st2',hr2,ho2,hl2,hs2⟩:=slots_laid sh ss st i0 (λs hs hh=>⟨else_laid sh s.val,HGS.out s hs hh,HD2.out s hs hh⟩) HOK.out.nested HOK.out.pi HOK.out.inv hnb;have hr1:=HR.out.run;rw[<-hssl,List.take_length,hr2] at hr1;injection hr1 with hr1;injection hr1 with e1 e2;subst e1 e2;have:=ho2.inv.len
        exact⟨hl2,hs2,by omega⟩
       obtain⟨hol,hsok,hlen1⟩:=hall;have hj2:j<os1.length:=(by omega);obtain⟨st4,l4,hbf,hfi4,hrun4⟩:=hR.more hol hsok hlen1 hjk hj2;obtain⟨sl,hsl⟩:=exA (ss[j]);obtain⟨kid,hkid⟩:=exA (sl.val);obtain⟨off,hoff⟩:=exA (os1[j]);obtain⟨hgF,hgh⟩:=hR.adv.out hsg hBg;have hkv:VIs (λx=>x ∉ F3) wr (cellsAt wr sg (so+j*9+1) 7) kid:=by
        rw[cellsAt_mono hgh,hkid,hsl];exact (HSS.out j hjk).adv hR.adv
       obtain⟨na1,nl1,nc1,ka1,nk1,kc1,sa1,ns1,sc1,hlit,c1,c2,c3,c4,c5,c6,c7⟩:=hkv.at
       have c0:wr.cell? ⟨sg,so+j*9,none⟩=some (.bool sl.has):=(by rw[World.cell?_of_block (w:=w) hgh,hsl];exact (HSD.out j hjk).1);have c8:wr.cell? ⟨sg,so+j*9+8,none⟩=some (.int .u64 sl.dflt):=(by rw[World.cell?_of_block (w:=w) hgh,hsl];exact (HSD.out j hjk).2.1);have c2:wr.cell? ⟨sg,so+j*9+2,none⟩=some (.int .u8 kid.elem):=c2;have c3:wr.cell? ⟨sg,so+j*9+3,none⟩=some (.int .u64 kid.num):=c3;have c4:wr.cell? ⟨sg,so+j*9+4,none⟩=some (.string (strOf kid.text)):=c4;have c5:wr.cell? ⟨sg,so+j*9+5,none⟩=some (.slice na1 nl1 nc1):=c5;have c6:wr.cell? ⟨sg,so+j*9+6,none⟩=some (.slice ka1 nk1 kc1):=c6;have c7:wr.cell? ⟨sg,so+j*9+7,none⟩=some (.slice sa1 ns1 sc1):=c7;have HKD:=Hd hkid;have HSL:=Hd hsl;have HBF:=Hd hbf;have HFI:=Hd hfi4;have HRUN4:=Hd hrun4;have HOFF:=Hd hoff;have HSO:=Hd (And.intro (hsok j hjk hj2) hlen1);clear hlit hkv hkid hgF hgh hbox3 hR hol hsok hlen1 hbf hfi4 hrun4 hoff;cases hhas:sl.has with
       | false =>
        rw[hhas] at c0;have hnext:BTR2 b F w [.int .u8 k,.int .u8 e,.int .u64 n,.string T,.slice na nl nc,.slice ka nk kc,.slice (some ⟨sg,so,none⟩) i sc] ss os1 st1 st2 (j+1) (wr.alloc (.cells #[.bool false,.int .u8 kid.kind,.int .u8 kid.elem,.int .u64 kid.num,.string (strOf kid.text),.slice na1 nl1 nc1,.slice ka1 nk1 kc1,.slice sa1 ns1 sc1,.int .u64 sl.dflt] 84)):=by
         have hs2:=HBF.out;unfold bField at hs2;rw[<-HSL.out,if_pos hhas] at hs2;have e:st3=st4:=(by injection hs2);exact⟨F3,st4,l4,HR3.out.next (Adv.alloc _) (e▸HR3.out.rep.keep ((Fr.refl (λ_=>False) wr).alloc _) (λ_ _ x=>x)) HFI.out HRUN4.out⟩
        have HNX:=Hd hnext;clear hnext;go_wp2_with fail;refine⟨⟨j+1,by omega,by go_num,?_⟩,by simp[intOf];omega⟩;have:=HNX.out
        rw[HSL.out] at this;exact this
       | true =>
        rw[hhas] at c0;have hmem:sl∈ss:=(by rw[HSL.out];exact List.getElem_mem hjk);have hbld:Bld kid:=(by rw[HKD.out];exact HGS.out sl hmem hhas);have hgrow3:st3.m.bytes.length<=1800000:=by
         have h1:=HR3.out.fi.grow;have h2:=HR.out.out.inv.len;have h3:=HBD.out;have h4:=nodesS_take ss i;rw[nodes] at h3;omega
        obtain⟨wa,hwa⟩:=exA (wr.alloc (.cells #[.bool true,.int .u8 kid.kind,.int .u8 kid.elem,.int .u64 kid.num,.string (strOf kid.text),.slice na1 nl1 nc1,.slice ka1 nk1 kc1,.slice sa1 ns1 sc1,.int .u64 sl.dflt] 84));have hra:BRep wa b F3 st3:=(by rw[hwa];exact HR3.out.rep.keep ((Fr.refl (λ_=>False) wr).alloc _) (λ_ _ x=>x));have haa:Adv wr wa F3 F3:=(by rw[hwa];exact Adv.alloc _);have hbf:=HBF.out;unfold bField at hbf;rw[<-HSL.out,if_neg (by rw[hhas];simp),<-HKD.out,<-HOFF.out] at hbf;have HRA:=Hd hra;have HAA:=Hd haa;have HWA:=Hd hwa;have HBLD:=Hd hbld;clear hra haa hbld HBF hwa;by_cases hk10:kid.kind<=10
        ·rw[if_pos hk10] at hbf;have hcl:=prependSlot_b b F3 st3 kid.kind j kid.num sl.dflt wa HRA.out (HBLD.out.num hk10).right (by have:=HD2.out sl hmem hhas (by rw[<-HKD.out];exact hk10);rw[<-HKD.out] at this;exact this.right) (by omega);rw[hbf,HWA.out,HSL.out] at hcl;have HCL:=Hd hcl;clear hcl hbf;go_wp2_with fail;refine HCL.out.mono ?_;rintro e2 w2 ⟨rfl,F4,hb4,ha4⟩;rw[<-HSL.out,<-HWA.out] at ha4;have hnext:BTR2 b F w [.int .u8 k,.int .u8 e,.int .u64 n,.string T,.slice na nl nc,.slice ka nk kc,.slice (some ⟨sg,so,none⟩) i sc] ss os1 st1 st2 (j+1) w2:=⟨F4,st4,l4,HR3.out.next (HAA.out.trans ha4) hb4 HFI.out HRUN4.out⟩;have HNX:=Hd hnext;clear hnext hb4 ha4;go_wp2_with fail;exact⟨⟨j+1,by omega,by go_num,HNX.out⟩,by simp[intOf];omega⟩
        ·rw[if_neg hk10] at hbf;by_cases hk17:kid.kind=17
         ·rw[if_pos hk17] at hbf;obtain⟨hel,ht0,ht64⟩:=HBLD.out.str hk17;obtain⟨TL,hTL⟩:=exA (kid.text.length);rw[<-hTL] at hbf ht0 ht64;have hsz:(strOf kid.text).size=TL:=(by rw[strOf_size,hTL]);have halg:algn kid.elem:=(by unfold algn;omega);have hcl:=Prep_b b F3 st3 kid.elem TL wa HRA.out halg (by omega);have hk17i:((kid.kind:Nat):Int)=17:=(by omega);rw[HWA.out,HSL.out,hk17i] at hcl;have HCL:=Hd hcl;have HBF:=Hd hbf;have HK17:=Hd hk17i;have HTL:=Hd hTL;have hbx:wa.heap[wr.heap.size]?=some (.cells #[.bool true,.int .u8 kid.kind,.int .u8 kid.elem,.int .u64 kid.num,.string (strOf kid.text),.slice na1 nl1 nc1,.slice ka1 nk1 kc1,.slice sa1 ns1 sc1,.int .u64 sl.dflt] 84):=(by rw[HWA.out,heap_alloc_new]);have HBX:=Hd hbx;have hwas:wa.heap.size=wr.heap.size+1:=(by rw[HWA.out,size_alloc]);clear hcl hbf hTL hbx;go_wp2_with fail;refine HCL.out.mono ?_;rintro e2 w2 ⟨rfl,F4,hb4,ha4⟩;rw[<-HSL.out,<-HK17.out,<-HWA.out] at ha4;obtain⟨hx1,hx2⟩:=ha4.out (k:=wr.heap.size) (by omega) (λhm=>by have:=HRA.out.below _ hm;have:=HR3.out.rep.below _ hm;omega);rw[HBX.out] at hx2;have q4:w2.cell? ⟨wr.heap.size,4,none⟩=some (.string (strOf kid.text)):=(by rw[cell_of hx2];rfl);have HX1:=Hd hx1;have HX2:=Hd hx2;have HB4:=Hd (And.intro hb4 ha4);clear hx1 hx2 hb4 ha4;go_wp2_with fail;obtain⟨SO,hSO⟩:=exA ((Obj.cells #[.bool true,.int .u8 17,.int .u8 kid.elem,.int .u64 kid.num,.string (strOf kid.text),.slice na1 nl1 nc1,.slice ka1 nk1 kc1,.slice sa1 ns1 sc1,.int .u64 sl.dflt] 84));have hst:StR b F3 wa wr.heap.size SO st3 (st3.m.prep kid.elem TL) kid.text ((TL:Int)-1) w2:=by
           have hx:=HX2.out;rw[HK17.out] at hx;refine⟨F4,?_,HB4.out.2,by rw[hSO];exact hx,HX1.out⟩;rw[show ((TL:Int)-1+1).toNat=kid.text.length by rw[<-HTL.out];omega,List.drop_length];exact HB4.out.1
          have HST:=Hd hst;have HSOB:=Hd hSO;clear hst hSO HX2 HB4 HX1 q4;go_loopw [12] (λiv w3=>∃q:Int,-1<=q/\q<TL/\iv=.int .i64 q/\StR b F3 wa wr.heap.size SO st3 (st3.m.prep kid.elem TL) kid.text q w3) (λiv _=>(intOf iv+1).toNat)
          case atStart=>exact⟨(TL:Int)-1,by omega,by omega,rfl,HST.out⟩
          case round =>
           obtain⟨q,hq1,hq2,rfl,hS⟩:=hrel;clear HST;obtain⟨F5,hb5,ha5,hx5,hn5⟩:=hS;by_cases hlq:q<0
           ·have hqe:q=-1:=(by omega);subst hqe;rw[show ((-1:Int)+1).toNat=0 by omega,List.drop_zero] at hb5;have hss:=λm=>PrependStructSlot_calls b F5 _ j ((st3.m.prep kid.elem TL).put kid.text).bytes.length 0 (wr.drewN m) (hb5.drewN m);have hbf2:=HBF.out;have HSS2:=Hd hss;have HOF5:=Hd (Offset_b b F5 _ wr hb5);have HA5:=Hd ha5;clear hss hb5 ha5 hx5 hn5;go_wp2_with fail;refine HOF5.out.mono ?_;rintro e6 w6 ⟨rfl,nn,rfl⟩;go_wp2_with fail;refine (HSS2.out nn).mono ?_;rw[show ({ st3 with m:=(st3.m.prep kid.elem TL).put kid.text }:BSt).structSlot j ((st3.m.prep kid.elem TL).put kid.text).bytes.length 0=some st4 from hbf2];rintro e7 w7 ⟨rfl,F7,hb7,ha7⟩;have hnext:BTR2 b F w [.int .u8 k,.int .u8 e,.int .u64 n,.string T,.slice na nl nc,.slice ka nk kc,.slice (some ⟨sg,so,none⟩) i sc] ss os1 st1 st2 (j+1) w7:=⟨F7,st4,l4,HR3.out.next (HAA.out.trans ((HA5.out.drewN nn).trans ha7)) hb7 HFI.out HRUN4.out⟩;have HNX:=Hd hnext;clear hnext hb7 ha7 hbf2;go_wp2_with fail;exact⟨⟨j+1,by omega,by go_num,HNX.out⟩,by simp[intOf];omega⟩
           ·obtain⟨p,rfl⟩:∃p:Nat,q=p:=⟨q.toNat,by omega⟩;have hp:p<kid.text.length:=(by have:=HTL.out;omega);obtain⟨x,hx⟩:=exA (kid.text[p]);have hcons:kid.text.drop p=x::kid.text.drop (p+1):=(by rw[hx];exact List.drop_eq_getElem_cons hp);have hix:=λw'=>run_str_at (D:=strOf kid.text) rfl p (x:=x) (by rw[hx];exact List.getElem?_eq_getElem hp) w';have q4:=cell_of (HSOB.out▸hx5:wr.heap[_]?=some (Obj.cells _ _ (0,0))) 4;have hrm:1<=((st3.m.prep kid.elem TL).put (kid.text.drop (p+1))).room:=by
             show 1<=(st3.m.prep kid.elem TL).room-(kid.text.drop (p+1)).length;have:=st3.m.prep_room kid.elem TL
             rw[List.length_drop,<-HTL.out];omega
            rw[show ((p:Int)+1).toNat=p+1 by omega] at hb5;have hx0:=x.toNat_lt;have HC:=Hd (BRep.liftP (xs:=leI 1 (x.toNat:Int)) (z:=1) hb5 (by rw[leI_length]) (λY r c hb=>PlaceByte_ok b Y r _ _ _ c (x.toNat:Int) (by omega) (by omega) wr hb hrm));have HA5:=Hd (And.intro ha5 (And.intro hx5 hn5));have HCN:=Hd hcons;clear hb5 ha5 hx5 hn5 hcons hx hrm;go_wp2_with fail;refine HC.out.mono ?_;rintro e6 w6 ⟨rfl,F6,hb6,ha6⟩;have hnx:=StR.next HA5.out ha6 (p:=p) (m:=st3.m.prep kid.elem TL) (xs:=kid.text) (st:=st3) (by rw[HCN.out,<-List.singleton_append,<-BM.put_put,<-leI_byte];exact hb6);have HNX:=Hd hnx;clear hnx hb6 ha6;go_wp2_with fail;go_roundw
            case rel=>exact⟨(p:Int)-1,by omega,by omega,rfl,HNX.out⟩
            case measure=>simp[intOf]
         ·rw[if_neg hk17] at hbf;have hofl:off<4294967296:=by
           have h1:=(HSO.out.1.obj (by rw[<-HSL.out];exact hhas) (by rw[<-HSL.out,<-HKD.out];exact hk10) (by rw[<-HSL.out,<-HKD.out];exact hk17)).2.1;have h2:=HSO.out.2;rw[HOFF.out];omega
          have hof:wa.cell? ⟨w.heap.size+1,j,none⟩=some (.int .u32 off):=by
           have h1:=HR3.out.offs;rw[HWA.out];have h2:=(heap_alloc_old wr (.cells #[.bool true,.int .u8 kid.kind,.int .u8 kid.elem,.int .u64 kid.num,.string (strOf kid.text),.slice na1 nl1 nc1,.slice ka1 nk1 kc1,.slice sa1 ns1 sc1,.int .u64 sl.dflt] 84) (w.heap.size+1) (by omega)).trans h1;rw[cell_of h2];simp[u32s,HOFF.out,hj2]
          rw[HWA.out,HSL.out] at hof;have hcl:=PrependUOffsetTSlot_calls b F3 st3 j off 0 wa HRA.out (by omega) hofl;rw[hbf,HWA.out,HSL.out] at hcl;have HCL:=Hd hcl;clear hcl hbf;go_wp2_with fail;refine HCL.out.mono ?_;rintro e2 w2 ⟨rfl,F4,hb4,ha4⟩;rw[<-HSL.out,<-HWA.out] at ha4;have hnext:BTR2 b F w [.int .u8 k,.int .u8 e,.int .u64 n,.string T,.slice na nl nc,.slice ka nk kc,.slice (some ⟨sg,so,none⟩) i sc] ss os1 st1 st2 (j+1) w2:=⟨F4,st4,l4,HR3.out.next (HAA.out.trans ha4) hb4 HFI.out HRUN4.out⟩;have HNX:=Hd hnext;clear hnext hb4 ha4;go_wp2_with fail;exact⟨⟨j+1,by omega,by go_num,HNX.out⟩,by simp[intOf];omega⟩
      ·have hje:j=i:=(by omega);subst hje;have hall:os1.length=ss.length/\(∀q (a:q<ss.length) (b:q<os1.length),SlotOk st1.m.bytes ss[q] os1[q])/\bSlots sh ss st=some (os1,st1)/\StInv st1 (i0+2*nodesS ss):=by
        have hnb:i0+2*nodesS ss<=300:=(by have:=HBD.out;rw[nodes] at this;omega);obtain⟨os2,st2',hr2,ho2,hl2,hs2⟩:=slots_laid sh ss st i0 (λs hs hh=>⟨else_laid sh s.val,HGS.out s hs hh,HD2.out s hs hh⟩) HOK.out.nested HOK.out.pi HOK.out.inv hnb;have hr1:=HR.out.run;rw[<-hssl,List.take_length,hr2] at hr1;injection hr1 with hr1;injection hr1 with e1 e2;subst e1 e2;exact⟨hl2,hs2,hr2,ho2.inv⟩
       obtain⟨hol,hsok,hrs,hinv⟩:=hall;have hfi:=hR.fi;rw[<-hssl] at hfi;have hrn:=hR.run;rw[<-hssl,List.take_length,List.take_of_length_le (by omega)] at hrn;have hi3:=fi_inv hinv (by rw[hst2,hssl]) hsok hrn hfi (by omega);have hnb:i0+2*nodesS ss+2<=300:=(by have:=HBD.out;rw[nodes] at this;omega);have heo:=EndObject_calls b F3 st3 wr hR.rep hi3.inv (λ_=>⟨l3,hfi.vtab⟩) (by have:=hi3.len;omega);have hbt:bTab sh (.mk k e n t ns ks ss) st=st3.endObj:=by
        rw[bTab,hrs,Option.bind_some];show (st1.startObj ss.length).bind _=_;have es:st1.startObj ss.length=some st2:=by
         unfold BSt.startObj;rw[HR.out.out.nested,hst2,hssl];rfl
        rw[es,Option.bind_some];show (bFields 0 ss os1 st2).bind _=_;rw[hrn,Option.bind_some]
       have HEO:=Hd heo;have HBT:=Hd hbt;have HAD:=Hd hR.adv;have hen:∃o st5,st3.endObj=some (o,st5):=by
        unfold BSt.endObj;rw[if_pos hfi.nested];exact⟨_,_,rfl⟩
       obtain⟨o5,st5,he5⟩:=hen;rw[he5] at heo hbt;have HEO:=Hd heo;have HBT:=Hd hbt;clear heo hbt hi3 hrn hfi hinv hrs hsok hol hR he5 hnb;go_wp2_with fail;refine HEO.out.mono ?_;rintro e3 w3 ⟨rfl,F4,hb4,ha4⟩;have HB4:=Hd (And.intro hb4 ha4);clear hb4 ha4;go_wp2_with fail;go_ret;rw[HBT.out];exact⟨rfl,F4,HB4.out.1,HAD.out.trans HB4.out.2⟩
end Go.Proofs.YtcfblkkpclfmaaaGreat
