/- Part 18 of the proof of FnTrimmed (Laid3, Laid4). No condition is laid on the statement. -/
import Derived.Test.YtcfblkkpclfmaaaGreatTr17
set_option linter.unusedVariables false
set_option linter.unusedSimpArgs false
namespace Go.Proofs.YtcfblkkpclfmaaaGreat
open Go.RowKit Go.Maps
theorem trimZ_split:∀ l:List Nat,∃ k,l=trimZ l ++ List.replicate k 0:=by
 intro l
 have key:∀ r:List Nat,∃ k,r=List.replicate k 0 ++ r.dropWhile (· == 0):=by
  intro r
  induction r with
  | nil=>exact ⟨0,rfl⟩
  | cons a r ih =>
   by_cases h:a=0
   ·subst h
    obtain ⟨k,hk⟩:=ih
    refine ⟨k+1,?_⟩
    rw [List.dropWhile_cons_of_pos (by simp),List.replicate_succ,List.cons_append]
    exact congrArg _ hk
   ·exact ⟨0,by rw [List.dropWhile_cons_of_neg (by simpa using h)];rfl⟩
 obtain ⟨k,hk⟩:=key l.reverse
 refine ⟨k,?_⟩
 have:=congrArg List.reverse hk
 rw [List.reverse_reverse,List.reverse_append,List.reverse_replicate] at this
 exact this
theorem flat_at2 {B:List UInt8}:∀ (E:List Nat) (a i:Nat) (h:i<E.length),BytesAt B a (E.flatMap (leB 2))→at2 B (a-2*i)=E[i] % 65536
 | e :: r,a,0,_,h=>by
  rw [List.flatMap_cons] at h
  rw [Nat.mul_zero,Nat.sub_zero,h.left.at2 (leB_length _ _),le_leB];rfl
 | e :: r,a,i+1,hi,h=>by
  rw [List.flatMap_cons] at h
  have:=flat_at2 r (a-2) i (by simpa using hi) (by have:=h.right;rwa [leB_length] at this)
  rw [show a-2*(i+1)=a-2-2*i by omega,this]
  rfl
theorem flat2_length (E:List Nat):(E.flatMap (leB 2)).length=2*E.length:=by
 induction E with
 | nil=>rfl
 | cons a r ih=>rw [List.flatMap_cons,List.length_append,leB_length,ih,List.length_cons];omega
/-- A table by its vtable's entries. -/
theorem tab_of {B:List UInt8} {o v W:Nat} {E:List Nat} {ss:List (Slt Val)} {l t:List Nat} {k:Nat} (ho4:4≤o) (hol:o≤B.length) (hoa:o % 4=0) (hsg:at4 B o<2 ^ 31∨2 ^ 32-at4 B o<o) (hvt:vtOf B o=v)
  (hb:BytesAt B v (leB 2 (2*E.length+4) ++ (leB 2 W ++ E.flatMap (leB 2)))) (hE:E.length=t.length) (hE60:E.length≤60) (hEi:∀ i (h:i<E.length) (h2:i<t.length),E[i]=if t[i]=0 then 0 else o-t[i]) (hW4:4≤W) (hWo:W≤o) (hW:W<65536) (heW:∀ e∈E,e<W) (hv2:v % 2=0)
  (hl:l=t ++ List.replicate k 0) (hls:l.length=ss.length) (L0:Nat) (hL0:L0+4≤o)
  (hs:∀ j (h:j<ss.length) (hl:j<l.length),if present ss[j] then 0<l[j]∧l[j]≤L0∧LVal true B ss[j].val l[j] else l[j]=0):TabHead true B o∧LSlots true B ss 0 o:=by
 have h0:at2 B v=2*E.length+4:=by rw [hb.left.at2 (leB_length _ _),le_leB];omega
 have hr:=hb.right
 rw [leB_length] at hr
 have h2:at2 B (v-2)=W:=by rw [hr.left.at2 (leB_length _ _),le_leB];omega
 have hr2:=hr.right
 rw [leB_length,show v-2-2=v-4 by omega] at hr2
 have hlow:=hb.low
 simp only [List.length_append,leB_length,flat2_length] at hlow
 have hh:TabHead true B o:=⟨hol,ho4,hsg,by rw [hvt];exact hb.len,by rw [hvt,h0];omega,by rw [hvt,h0];omega,by rw [hvt,h0];omega,by rw [hvt,h2];exact hW4,by rw [hvt,h2];exact hWo,fun _=>⟨hoa,by rw [hvt];exact hv2⟩⟩
 refine ⟨hh,?_⟩
 have hf:∀ i,fldOf B o i=if h:i<E.length then E[i] else 0:=by
  intro i
  unfold fldOf
  rw [hvt,h0]
  by_cases hi:i<E.length
  ·rw [if_pos (by omega),dif_pos hi,show v-(4+2*i)=v-4-2*i by omega,flat_at2 E (v-4) i hi hr2]
   have:=heW E[i] (List.getElem_mem hi)
   omega
  ·rw [if_neg (by omega),dif_neg hi]
 have key:∀ (n i:Nat),i+n=ss.length→LSlots true B (ss.drop i) i o:=by
  intro n
  induction n with
  | zero =>
   intro i hi
   rw [List.drop_of_length_le (by omega)]
   trivial
  | succ n ih =>
   intro i hi
   have hil:i<ss.length:=by omega
   rw [List.drop_eq_getElem_cons hil,LSlots]
   refine ⟨?_,ih (i+1) (by omega)⟩
   have hsi:=hs i hil (by omega)
   rw [LSlot_def,hf i,hvt,h2]
   have hti:∀ h2:i<t.length,l[i]'(by omega)=t[i]:=by
    intro h2
    subst hl
    rw [List.getElem_append_left h2]
   have htn:t.length≤i→l[i]'(by omega)=0:=by
    intro h2
    subst hl
    rw [List.getElem_append_right h2,List.getElem_replicate]
   cases hp:present ss[i] with
   | true =>
    rw [hp,if_pos rfl] at hsi
    rw [if_pos rfl]
    obtain ⟨g1,g2,g3⟩:=hsi
    have hit:i<t.length:=by
     refine Nat.lt_of_not_le fun hle=>?_
     have:=htn hle
     omega
    have e:=hti hit
    have hEi':=hEi i (by omega) hit
    rw [if_neg (by omega)] at hEi'
    rw [dif_pos (by omega),hEi']
    rw [e] at g1 g2 g3
    refine ⟨by omega,?_,?_⟩
    ·rw [← hEi'];exact heW _ (List.getElem_mem (by omega))
    ·rw [show o-(o-t[i])=t[i] by omega];exact g3
   | false =>
    rw [hp,if_neg (by simp)] at hsi
    rw [if_neg (by simp)]
    by_cases hit:i<t.length
    ·have e:=hti hit
     rw [dif_pos (by omega),hEi i (by omega) hit,if_pos (by omega)]
    ·rw [dif_neg (by omega)]
 have:=key ss.length 0 (by omega)
 rwa [List.drop_zero] at this
theorem vtSame_flat (o:Nat):∀ (t es:List Nat),(∀ e∈es,e<65536)→vtSame o t (es.flatMap (leB 2))=true→es.length=t.length∧∀ i (h:i<es.length) (h2:i<t.length),vtEnt o t[i] es[i]=true
 | [],[],_,_=>⟨rfl,fun i h=>by simp at h⟩
 | [],e :: es,_,h=>by simp [vtSame,leB] at h
 | f :: r,[],_,h=>by simp [vtSame] at h
 | f :: r,e :: es,he,h=>by
  have hle:(leB 2 e)=[UInt8.ofNat e,UInt8.ofNat (e / 256)]:=rfl
  rw [List.flatMap_cons,hle] at h
  simp only [List.cons_append,List.nil_append,vtSame,Bool.and_eq_true] at h
  obtain ⟨h1,h2⟩:=h
  obtain ⟨i1,i2⟩:=vtSame_flat o r es (fun x hx=>he x (by simp [hx])) h2
  have hee:(UInt8.ofNat e).toNat+256*(UInt8.ofNat (e / 256)).toNat=e:=by
   have:=he e (by simp)
   rw [UInt8.toNat_ofNat',UInt8.toNat_ofNat'];omega
  rw [hee] at h1
  refine ⟨by rw [List.length_cons,List.length_cons,i1],fun i h h'=>?_⟩
  cases i with
  | zero=>exact h1
  | succ i=>exact i2 i (by simpa using h) (by simpa using h')
theorem vtBytes_of {m:BM} {v:Nat} {es:List Nat} {W:Nat} (h:BytesAt m.bytes v (leB 2 (2*es.length+4) ++ (leB 2 W ++ es.flatMap (leB 2)))) (h60:es.length≤60):vtBytes m v=es.flatMap (leB 2):=by
 have h0:vtLen m v=2*es.length+4:=by
  have:=h.left.at2 (leB_length _ _)
  rw [le_leB] at this
  unfold at2 at this
  unfold vtLen
  omega
 have hl:(leB 2 (2*es.length+4) ++ (leB 2 W ++ es.flatMap (leB 2))).length=2*es.length+4:=by
  simp only [List.length_append,leB_length,flat2_length];omega
 unfold vtBytes
 rw [h0,← hl,h.eq,← List.append_assoc]
 exact List.drop_left' (by rw [List.length_append,leB_length,leB_length])
theorem vtFlds_flat (o:Nat) (t:List Nat) (h:∀ f∈t,f≤o):vtFlds o t=(t.map fun f=>if f=0 then 0 else o-f).flatMap (leB 2):=by
 unfold vtFlds
 induction t with
 | nil=>rfl
 | cons f r ih =>
  rw [List.flatMap_cons,List.map_cons,List.flatMap_cons,ih (fun x hx=>h x (by simp [hx]))]
  congr 1
  have:=h f (by simp)
  split
  ·exact leI_nat 2 0
  ·rw [← leI_nat];congr 1;omega
/-- The end of an object whose fields all are set. -/
theorem end_laid {st0 st:BSt} {ss:List (Slt Val)} {l:List Nat} (h:FI st0 st ss.length ss.length ss l) (hp:PI st0) (hl60:ss.length≤60) (hb0:st0.m.bytes.length<1600000):∃ o st',st.endObj=some (o,st')∧st'.nested=false∧PI st'∧Put st0 st'∧0<o∧o≤st'.m.bytes.length∧TabHead true st'.m.bytes o∧LSlots true st'.m.bytes ss 0 o:=by
 obtain ⟨k,hk⟩:=trimZ_split l
 obtain ⟨t,ht⟩:∃ t,t=trimZ l:=⟨_,rfl⟩
 rw [← ht] at hk
 have htl:t.length+k=ss.length:=by
  have:=congrArg List.length hk
  rw [List.length_append,List.length_replicate,h.len] at this
  omega
 have hgr:=h.grow
 obtain ⟨ys,hy⟩:=h.bytes
 have hyl:st.m.bytes.length=ys.length+st0.m.bytes.length:=by rw [hy,List.length_append]
 obtain ⟨hv1,hv2⟩:=vt1_len st
 have hpd:padB st.m.bytes.length 4≤3:=by
  unfold padB;omega
 have hvt:trimZ (st.vtab.getD [])=t:=by rw [h.vtab,ht];rfl
 have hcell:∀ j (hj:j<ss.length) (hl:j<l.length),if present ss[j] then st0.m.bytes.length<l[j]∧l[j]≤st.m.bytes.length∧LVal true st.m.bytes ss[j].val l[j] else l[j]=0:=fun j hj hl=>h.some j hj hl hj
 have htle:∀ f∈t,f≤st.m.bytes.length:=by
  intro f hf
  obtain ⟨j,hj,rfl⟩:=List.getElem_of_mem hf
  have hjl:j<l.length:=by rw [h.len];omega
  have e:l[j]=t[j]:=by subst hk;rw [List.getElem_append_left hj]
  have:=hcell j (by omega) hjl
  rw [e] at this
  split at this
  ·omega
  ·omega
 have htgt:∀ f∈t,f≠0→st0.m.bytes.length<f:=by
  intro f hf h0
  obtain ⟨j,hj,rfl⟩:=List.getElem_of_mem hf
  have hjl:j<l.length:=by rw [h.len];omega
  have e:l[j]=t[j]:=by subst hk;rw [List.getElem_append_left hj]
  have:=hcell j (by omega) hjl
  rw [e] at this
  split at this
  ·omega
  ·omega
 cases hfd:vtFind st.vt1 st.vt1.bytes.length (trimZ (st.vtab.getD [])) st.vts with
 | none =>
  obtain ⟨st',o,ho,e,g1,g2,g3,g4,g5,g6,g7,g8⟩:=endObj_fresh st h.nested hfd
  rw [hvt] at g5 g6 g7
  rw [h.oend] at g6
  have hfl:=vtFlds_flat o t (fun f hf=>by have:=htle f hf;omega)
  obtain ⟨E,hE⟩:∃ E,E=t.map fun f=>if f=0 then 0 else o-f:=⟨_,rfl⟩
  have hEl:E.length=t.length:=by rw [hE,List.length_map]
  obtain ⟨W,hW⟩:∃ W,W=o-st0.m.bytes.length:=⟨_,rfl⟩
  have hWi:(o:Int)-(st0.m.bytes.length:Nat)=(W:Nat):=by omega
  rw [hfl,← hE,hWi,leI_nat,leI_nat,← hEl] at g6
  rw [← hEl] at g5 g7
  have heW:∀ e∈E,e<W:=by
   intro e he
   rw [hE] at he
   obtain ⟨f,hf,rfl⟩:=List.mem_map.1 he
   split
   ·omega
   ·have:=htgt f hf (by assumption);omega
  have hob:=objBytes_length st ((2*E.length+4:Nat):Int)
  have hbv:BytesAt st'.m.bytes (2*E.length+4+o) (leB 2 (2*E.length+4) ++ (leB 2 W ++ E.flatMap (leB 2))):=by
   rw [← g7]
   exact BytesAt.front (rest:=objBytes st ((2*E.length+4:Nat):Int)) (by rw [g6];simp only [List.append_assoc])
  have hbo:BytesAt st'.m.bytes o (leB 4 (2*E.length+4)):=by
   have:BytesAt (objBytes st ((2*E.length+4:Nat):Int)) (objBytes st ((2*E.length+4:Nat):Int)).length (leB 4 (2*E.length+4)) :=
    BytesAt.front (by unfold objBytes;rw [leI_nat])
   rw [hob,← ho] at this
   rw [g6,← List.append_assoc,← List.append_assoc]
   exact this.app _
  have ha4:at4 st'.m.bytes o=2*E.length+4:=by rw [hbo.at4 (leB_length _ _),le_leB];omega
  have hbs:∃ zs,st'.m.bytes=zs ++ st.m.bytes:=by
   rw [g6];unfold objBytes
   exact ⟨leB 2 (2*E.length+4) ++ (leB 2 W ++ (E.flatMap (leB 2) ++ (leI 4 ((2*E.length+4:Nat):Int) ++ List.replicate (padB st.m.bytes.length 4) 0))),by simp only [List.append_assoc]⟩
  obtain ⟨zs,hz⟩:=hbs
  have hput:Put st0 st':=⟨⟨zs ++ ys,by rw [hz,hy,List.append_assoc]⟩,by rw [g2,h.fin]⟩
  have hE60:E.length≤60:=by omega
  have htab:=tab_of (B:=st'.m.bytes) (o:=o) (v:=2*E.length+4+o) (W:=W) (E:=E) (ss:=ss) (l:=l) (t:=t) (k:=k) (by omega) (by omega) (by omega) (.inl (by rw [ha4];omega)) (by unfold vtOf;rw [ha4,if_pos (by omega)];omega) hbv hEl hE60
   (fun i h1 h2=>by simp only [hE,List.getElem_map]) (by omega) (by omega) (by omega) heW (by omega) hk (by rw [h.len]) st.m.bytes.length (by omega) (fun j hj hl=>by
    have:=hcell j hj hl
    split
    ·rename_i hpj
     rw [if_pos hpj] at this
     refine ⟨by omega,this.2.1,?_⟩
     have h3:=LVal_app true _ zs _ _ this.2.2
     rw [← hz] at h3
     exact h3
    ·rename_i hpj
     rw [if_neg hpj] at this
     exact this)
  refine ⟨o,st',e,g1,⟨fun v hv=>?_,?_,?_⟩,hput,by omega,by omega,htab.1,htab.2⟩
  ·rw [g5,h.vts] at hv
   rcases List.mem_append.1 hv with hv | hv
   ·obtain ⟨xs,hx⟩:=hput.bytes
    rw [hx];exact (hp.vt v hv).app xs
   ·rw [List.mem_singleton.1 hv]
    exact ⟨E,W,hbv,hE60,by omega,by omega,by omega,heW,by omega⟩
  ·rw [g4,h.shared];exact hp.shm
  ·intro u hu
   rw [g4,h.shared] at hu ⊢
   obtain ⟨xs,hx⟩:=hput.bytes
   obtain ⟨a1,a2⟩:=hp.sh u hu
   rw [hx];exact ⟨a1.app xs,a2⟩
 | some v =>
  obtain ⟨st',o,ho,e,g1,g2,g3,g4,g5,g6,g7,g8⟩:=endObj_found st v h.nested hfd
  have hvm:v∈st.vts:=by
   unfold vtFind at hfd
   exact List.mem_reverse.1 (List.mem_of_find?_eq_some hfd)
  have hvs:vtSame st.vt1.bytes.length t (vtBytes st.vt1 v)=true:=by
   unfold vtFind at hfd
   have:=List.find?_some hfd
   rwa [hvt] at this
  rw [h.vts] at hvm
  obtain ⟨E,W,hb,hE60,hW4,hWv,hW,heW,hv2'⟩:=(hp.vt v hvm).ok
  have hvl:=hb.len
  obtain ⟨us,hu1⟩:∃ us,st.vt1.bytes=us ++ st0.m.bytes:=by
   rw [vt1_bytes_eq,hy]
   exact ⟨leB 4 ((st.m.prep 4 0).bytes.length+4) ++ (List.replicate (padB (ys ++ st0.m.bytes).length 4) 0 ++ ys),by simp only [List.append_assoc]⟩
  have hvb:vtBytes st.vt1 v=E.flatMap (leB 2):=vtBytes_of (m:=st.vt1) (by rw [hu1];exact hb.app us) hE60
  rw [hvb,← ho] at hvs
  obtain ⟨hEl,hEe⟩:=vtSame_flat o t E (fun e he=>by have:=heW e he;omega) hvs
  have hbs:∃ zs,st'.m.bytes=zs ++ st.m.bytes:=by
   rw [g6];unfold objBytes
   exact ⟨leI 4 ((v:Int)-o) ++ List.replicate (padB st.m.bytes.length 4) 0,by simp only [List.append_assoc]⟩
  obtain ⟨zs,hz⟩:=hbs
  have hput:Put st0 st':=⟨⟨zs ++ ys,by rw [hz,hy,List.append_assoc]⟩,by rw [g2,h.fin]⟩
  obtain ⟨xs,hx⟩:=hput.bytes
  have hsg:leI 4 ((v:Int)-o)=leB 4 (2 ^ 32-(o-v)):=by
   rw [← leI_nat]
   exact leI_congr 4 (by omega)
  have hbo:BytesAt st'.m.bytes o (leB 4 (2 ^ 32-(o-v))):=by
   have h3:BytesAt st'.m.bytes st'.m.bytes.length (leB 4 (2 ^ 32-(o-v))):=BytesAt.front (rest:=List.replicate (padB st.m.bytes.length 4) 0 ++ st.m.bytes) (by rw [g6];unfold objBytes;rw [hsg])
   rw [g7] at h3
   exact h3
  have ha4:at4 st'.m.bytes o=2 ^ 32-(o-v):=by rw [hbo.at4 (leB_length _ _),le_leB];omega
  have htab:=tab_of (B:=st'.m.bytes) (o:=o) (v:=v) (W:=W) (E:=E) (ss:=ss) (l:=l) (t:=t) (k:=k) (by omega) (by omega) (by omega) (.inr (by rw [ha4];omega)) (by unfold vtOf;rw [ha4,if_neg (by omega)];omega) (by rw [hx];exact hb.app xs) hEl hE60
   (fun i h1 h2=>by
    have:=hEe i h1 h2
    have hlt:=heW E[i] (List.getElem_mem h1)
    unfold vtEnt at this
    simp only [Bool.or_eq_true,Bool.and_eq_true,decide_eq_true_eq] at this
    have hti:=htle t[i] (List.getElem_mem h2)
    split
    ·rcases this with ⟨a,b⟩ | a
     ·exact a
     ·omega
    ·omega) hW4 (by omega) hW heW hv2' hk (by rw [h.len]) st.m.bytes.length (by omega) (fun j hj hl=>by
    have:=hcell j hj hl
    split
    ·rename_i hpj
     rw [if_pos hpj] at this
     refine ⟨by omega,this.2.1,?_⟩
     have h3:=LVal_app true _ zs _ _ this.2.2
     rw [← hz] at h3
     exact h3
    ·rename_i hpj
     rw [if_neg hpj] at this
     exact this)
  refine ⟨o,st',e,g1,⟨fun v hv=>?_,?_,?_⟩,hput,by omega,by omega,htab.1,htab.2⟩
  ·rw [g5,h.vts] at hv
   rw [hx];exact (hp.vt v hv).app xs
  ·rw [g4,h.shared];exact hp.shm
  ·intro u hu
   rw [g4,h.shared] at hu ⊢
   obtain ⟨a1,a2⟩:=hp.sh u hu
   rw [hx];exact ⟨a1.app xs,a2⟩
end Go.Proofs.YtcfblkkpclfmaaaGreat
namespace Go.Proofs.YtcfblkkpclfmaaaGreat
open Go.RowKit Go.Maps
/-- A value that can be built: what is not there is not asked. -/
inductive Bld:Val→Prop
 | mk (k e n:Nat) (t:List UInt8) (ns:List Nat) (ks:List Val) (ss:List (Slt Val)) (hk:k≤17) (lt:t.length≤1000) (ln:ns.length≤200) (lk:ks.length≤200) (ls:ss.length≤60)
  (h13:k=13→e≤10∧∀ x∈ns,OkNum e x) (h17:k=17→(e=1∨e=2∨e=4∨e=8)∧0<t.length∧t.length≤64)
  (hk14:k=14→∀ v∈ks,v.kind=11) (hk16:k=16→∀ v∈ks,v.kind=15) (hgk:∀ v∈ks,Bld v) (hgs:∀ s∈ss,s.has=true→Bld s.val) (hd2:∀ s∈ss,s.has=true→s.val.kind≤10→OkNum s.val.kind s.dflt)
  (h10:k≤10→OkNum k n):Bld (.mk k e n t ns ks ss)
theorem Good.bld {v:Val} (h:Good v):Bld v:=by
 induction h with
 | mk k e n t ns ks ss hk hnum htext hnums hkids hslots helem lt ln lk ls h13 h17 hk14 hk16 hgk hmer hgs hd1 hd2 h10 ihk ihs =>
  refine .mk k e n t ns ks ss hk lt ln lk ls h13 (fun h=>?_) hk14 hk16 ihk (fun s hs _=>ihs s hs) (fun s hs _=>hd2 s hs) h10
  obtain ⟨a,b,c,d⟩:=h17 h
  exact ⟨a,List.length_pos_iff.2 b,c⟩
theorem Bld.num {v:Val} (h:Bld v) (hk:v.kind≤10):OkNum v.kind v.num:=by
 cases h with
 | mk k e n t ns ks ss hk' lt ln lk ls h13 h17 hk14 hk16 hgk hgs hd2 h10=>exact h10 hk
theorem Bld.str {v:Val} (h:Bld v) (hk:v.kind=17):(v.elem=1∨v.elem=2∨v.elem=4∨v.elem=8)∧0<v.text.length∧v.text.length≤64:=by
 cases h with
 | mk k e n t ns ks ss hk' lt ln lk ls h13 h17 hk14 hk16 hgk hgs hd2 h10=>exact h17 hk
theorem StInv.growD {st:BSt} {m':BM} {i k d:Nat} (h:StInv st i) (g:Grow st.m m' k) (hk:k≤5000*d):StInv { st with m:=m' } (i+d):=by
 obtain ⟨xs,hx,hxl⟩:=g.bytes
 have hl:=g.len
 refine ⟨⟨fun v hvm=>?_,fun l hl'=>?_,by have:=h.inv.oend;show st.oend≤m'.bytes.length;omega,h.inv.many⟩,g.least h.least,by have:=h.many;show st.vts.length≤_;omega,by have:=h.sh;show Maps.size (st.shared.getD _)≤_;omega,by have:=h.len;show m'.bytes.length≤_;omega⟩
 ·have:=h.inv.vts v hvm
  show v≤m'.bytes.length∧4≤vtLen m' v∧vtLen m' v≤v
  rw [vtLen_app hx v this.1]
  omega
 ·have:=h.inv.vtab l hl'
  exact ⟨this.1,fun x hx=>by have:=this.2 x hx;show x≤m'.bytes.length;omega⟩
theorem StInv.le {st:BSt} {i j:Nat} (h:StInv st i) (hij:i≤j):StInv st j :=
 ⟨h.inv,h.least,by have:=h.many;omega,by have:=h.sh;omega,by have:=h.len;omega⟩
theorem StInv.sharedStr {st st':BSt} {t:List UInt8} {o i:Nat} (h:StInv st i) (ht:t.length≤1000) (e:st.sharedStr t=some (o,st')):StInv st' (i+1):=by
 unfold BSt.sharedStr at e
 split at e
 ·injection e with e
  injection e with _ e
  subst e
  have:=h.up
  exact ⟨⟨this.inv.vts,this.inv.vtab,this.inv.oend,this.inv.many⟩,this.least,this.many,this.sh,this.len⟩
 ·cases hc:BSt.created { st with shared:=some (st.shared.getD (.map [])) } t true with
  | none=>rw [hc] at e;cases e
  | some p =>
   rw [hc] at e
   injection e with e
   injection e with _ e
   subst e
   have h0:StInv { st with shared:=some (st.shared.getD (.map [])) } i:=⟨⟨h.inv.vts,h.inv.vtab,h.inv.oend,h.inv.many⟩,h.least,h.many,h.sh,h.len⟩
   have h1:=h0.created ht hc
   refine ⟨⟨h1.inv.vts,h1.inv.vtab,h1.inv.oend,h1.inv.many⟩,h1.least,h1.many,?_,h1.len⟩
   have:=put_size (st.shared.getD (.map [])) (.string t) (.lit (.int .u32 p.1))
   have:=h.sh
   show Maps.size ((st.shared.getD (.map [])).put (.string t) (.lit (.int .u32 p.1)))≤i+1
   omega
theorem StInv.text {sh:Bool} {st st':BSt} {t:List UInt8} {o i:Nat} (h:StInv st i) (ht:t.length≤1000) (e:bText sh t st=some (o,st')):StInv st' (i+1):=by
 cases sh with
 | true=>exact h.sharedStr ht e
 | false=>exact h.created ht e
theorem bNums_grow (k:Nat) (hk:k≤10) (m:BM):∀ ns:List Nat,Grow m (bNums k ns m) (40*ns.length)
 | []=>Grow.refl m
 | n :: r=>by
  rw [bNums_cons,List.length_cons]
  exact ((bNums_grow k hk m r).trans (Grow.scalar _ (k:=(k:Int)) n (by omega) (by omega))).mono (by omega)
theorem bOffs_grow:∀ (os:List Nat) (st st':BSt),bOffs os st=some st'→∃ m,st'={ st with m:=m }∧Grow st.m m (40*os.length)
 | [],st,st',e=>by
  injection e with e
  exact ⟨st.m,e.symm,Grow.refl _⟩
 | o :: r,st,st',e=>by
  have e':(bOffs r st).bind (fun s=>s.refer o)=some st':=e
  cases h:bOffs r st with
  | none=>rw [h] at e';cases e'
  | some s1 =>
   rw [h,Option.bind_some] at e'
   obtain ⟨m,rfl,g⟩:=bOffs_grow r st s1 h
   unfold BSt.refer at e'
   cases hm:BM.refer m o with
   | none=>simp only [hm] at e';cases e'
   | some m2 =>
    simp only [hm] at e'
    injection e' with e'
    exact ⟨m2,e'.symm,by rw [List.length_cons];exact (g.trans (Grow.refer hm)).mono (by omega)⟩
theorem startVec_grow (m:BM) (z n:Nat) (hz:algn z):Grow m ((m.prep 4 (z*n)).prep z (z*n)) 32:=(Grow.prep m 4 _ (by unfold algn;omega)).trans (Grow.prep _ z _ hz)
theorem endVec_some {st st':BSt} {n o:Nat} (e:st.endVec n=some (o,st')):st'={ st with m:=st.m.put (leB 4 n),nested:=false }:=by
 unfold BSt.endVec at e
 split at e
 ·split at e
  ·cases e
  ·injection e with e;injection e with _ e;exact e.symm
 ·cases e
theorem StInv.scalars {st st':BSt} {k o i:Nat} {ns:List Nat} (h:StInv st i) (hk:k≤10) (hl:ns.length≤200) (e:bScalars k ns st=some (o,st')):StInv st' (i+2):=by
 have ha:=numSize_algn (k:=(k:Int)) (by omega) (by omega)
 unfold bScalars BSt.startVec at e
 split at e
 ·cases e
 ·rw [Option.bind_some] at e
  have:=endVec_some e
  subst this
  have g:=((startVec_grow st.m (numSize k) ns.length ha).trans (bNums_grow k hk _ ns)).trans (Grow.put _ (leB 4 ns.length))
  exact (h.growD (d:=2) g (by rw [leB_length];omega)).same rfl rfl rfl rfl rfl
theorem StInv.vec {st st':BSt} {o i:Nat} {os:List Nat} (h:StInv st i) (hl:os.length≤200) (e:bVec os st=some (o,st')):StInv st' (i+2):=by
 unfold bVec BSt.startVec at e
 split at e
 ·cases e
 ·rw [Option.bind_some] at e
  cases hb:bOffs os { st with m:=(st.m.prep 4 (4*os.length)).prep 4 (4*os.length),nested:=true } with
  | none=>simp only [hb] at e;cases e
  | some s1 =>
   simp only [hb,Option.bind_some] at e
   have:=endVec_some e
   subst this
   obtain ⟨m,rfl,g⟩:=bOffs_grow _ _ _ hb
   have g2:=((startVec_grow st.m 4 os.length (by unfold algn;omega)).trans g).trans (Grow.put _ (leB 4 os.length))
   exact (h.growD (d:=2) g2 (by rw [leB_length];omega)).same rfl rfl rfl rfl rfl
theorem slot_some {st st':BSt} {i:Int} (e:st.slot i=some st'):st'.m=st.m:=by
 unfold BSt.slot at e
 split at e
 ·cases e
 ·split at e
  ·injection e with e;rw [← e]
  ·cases e
theorem bField_grow {i o:Nat} {s:Slt Val} {st st':BSt} {B:List UInt8} (hs:SlotOk B s o) (e:bField i s o st=some st'):Grow st.m st'.m 80:=by
 unfold bField at e
 split at e
 ·injection e with e;subst e;exact (Grow.refl _).mono (by omega)
 ·rename_i hh
  have ht:s.has=true:=by cases hx:s.has <;> simp_all
  split at e
  ·rename_i hk
   unfold BSt.prepSlot at e
   split at e
   ·injection e with e;subst e;exact (Grow.refl _).mono (by omega)
   ·rw [slot_some e]
    exact (Grow.scalar st.m (k:=(s.val.kind:Int)) s.val.num (by omega) (by omega)).mono (by omega)
  ·split at e
   ·rename_i h17
    obtain ⟨he,_,ht2⟩:=hs.str ht h17
    have ha:algn s.val.elem:=by unfold algn;omega
    have e1:BSt.structSlot { st with m:=(st.m.prep s.val.elem s.val.text.length).put s.val.text } i ((st.m.prep s.val.elem s.val.text.length).put s.val.text).bytes.length 0=some st':=e
    clear e
    have e:=e1
    unfold BSt.structSlot at e
    have g:Grow st.m ((st.m.prep s.val.elem s.val.text.length).put s.val.text) 80:=((Grow.prep st.m _ _ ha).trans (Grow.put _ _)).mono (by omega)
    split at e
    ·injection e with e;subst e;exact g
    ·split at e
     ·split at e
      ·rw [slot_some e];exact g
      ·cases e
     ·cases e
   ·unfold BSt.offSlot at e
    split at e
    ·injection e with e;subst e;exact (Grow.refl _).mono (by omega)
    ·unfold BSt.refer at e
     cases hm:BM.refer st.m o with
     | none=>simp only [hm] at e;cases e
     | some m2 =>
      simp only [hm,Option.map_some,Option.bind_some] at e
      rw [slot_some e]
      exact (Grow.refer hm).mono (by omega)
theorem bFields_grow {B:List UInt8}:∀ (ss:List (Slt Val)) (os:List Nat) (i:Nat) (st st':BSt),(∀ j (h:j<ss.length) (h2:j<os.length),SlotOk B ss[j] os[j])→bFields i ss os st=some st'→Grow st.m st'.m (80*ss.length)
 | [],_,i,st,st',_,e=>by
  have e':some st=some st':=by cases ‹List Nat› <;> exact e
  injection e' with e';subst e';exact Grow.refl _
 | s :: r,[],i,st,st',_,e=>by
  injection e with e;subst e;exact (Grow.refl _).mono (by omega)
 | s :: r,o :: os,i,st,st',h,e=>by
  have e':(bField i s o st).bind (fun st'=>bFields (i+1) r os st')=some st':=e
  cases hb:bField i s o st with
  | none=>rw [hb] at e';cases e'
  | some s1 =>
   rw [hb,Option.bind_some] at e'
   have g1:=bField_grow (h 0 (by simp) (by simp)) hb
   have g2:=bFields_grow r os (i+1) s1 st' (fun j h1 h2=>h (j+1) (by simpa using h1) (by simpa using h2)) e'
   exact (g1.trans g2).mono (by rw [List.length_cons];omega)
/-- What is known behind a value that is built. -/
structure Out (st st':BSt) (i:Nat):Prop where
 nested:st'.nested=false
 pi:PI st'
 put:Put st st'
 inv:StInv st' i
def LaidAt (sh:Bool) (v:Val):Prop:=Bld v→¬ v.kind≤10→v.kind≠17→∀ (st:BSt) (i:Nat),st.nested=false→PI st→StInv st i→i+2*nodes v≤300→∃ o st',bElse sh v st=some (o,st')∧Out st st' (i+2*nodes v)∧0<o∧o≤st'.m.bytes.length∧LObj true st'.m.bytes v o
theorem LText.len {al:Bool} {B t:List UInt8} {r:Nat} (h:LText al B t r):r≤B.length:=h.1.len
theorem nodes_pos (v:Val):1≤nodes v:=by cases v with | mk k e n t ns ks ss=>rw [nodes];omega
/-- The strings of a vector. -/
theorem texts_laid (sh:Bool):∀ (ks:List Val) (st:BSt) (i:Nat),(∀ v∈ks,v.text.length≤1000)→st.nested=false→PI st→StInv st i→∃ os st',bTexts sh ks st=some (os,st')∧Out st st' (i+2*nodesL ks)∧os.length=ks.length∧∀ j (h:j<ks.length) (h2:j<os.length),0<os[j]∧os[j]≤st'.m.bytes.length∧LText true st'.m.bytes ks[j].text os[j]
 | [],st,i,_,hn,hp,hi=>⟨[],st,rfl,⟨hn,hp,Put.refl _,hi.le (by omega)⟩,rfl,fun j h=>by simp at h⟩
 | v :: r,st,i,hl,hn,hp,hi=>by
  obtain ⟨o,st1,e1,n1,p1,u1,o1,t1⟩:=text_laid sh st v.text hn hp
  have i1:=hi.text (hl v (by simp)) e1
  obtain ⟨os,st2,e2,h2,hlen,hj⟩:=texts_laid sh r st1 (i+1) (fun x hx=>hl x (by simp [hx])) n1 p1 i1
  obtain ⟨xs,hx⟩:=h2.put.bytes
  have hnp:=nodes_pos v
  refine ⟨o :: os,st2,?_,⟨h2.nested,h2.pi,u1.trans h2.put,h2.inv.le (by rw [nodesL];omega)⟩,by rw [List.length_cons,List.length_cons,hlen],fun j h h'=>?_⟩
  ·rw [bTexts_cons,e1,Option.bind_some,e2];rfl
  ·cases j with
   | zero =>
    have:=t1.len
    have:=h2.put.len
    exact ⟨o1,by show o≤_;omega,by show LText true st2.m.bytes v.text o;rw [hx];exact t1.app xs⟩
   | succ j=>exact hj j (by simpa using h) (by simpa using h')
/-- The tables of a vector. -/
theorem kids_laid (sh:Bool):∀ (ks:List Val) (st:BSt) (i:Nat),(∀ v∈ks,LaidAt sh v∧Bld v∧v.kind=15)→st.nested=false→PI st→StInv st i→i+2*nodesL ks≤300→∃ os st',bKids sh ks st=some (os,st')∧Out st st' (i+2*nodesL ks)∧os.length=ks.length∧∀ j (h:j<ks.length) (h2:j<os.length),0<os[j]∧os[j]≤st'.m.bytes.length∧LTab true st'.m.bytes ks[j] os[j]
 | [],st,i,_,hn,hp,hi,_=>⟨[],st,rfl,⟨hn,hp,Put.refl _,hi.le (by omega)⟩,rfl,fun j h=>by simp at h⟩
 | v :: r,st,i,hl,hn,hp,hi,hb=>by
  rw [nodesL] at hb ⊢
  obtain ⟨ha,hbv,hk⟩:=hl v (by simp)
  obtain ⟨o,st1,e1,h1,o1,o2,t1⟩:=ha hbv (by omega) (by omega) st i hn hp hi (by omega)
  have e1':bTab sh v st=some (o,st1):=by rw [← bElse_tab sh v st hk];exact e1
  have t1':LTab true st1.m.bytes v o:=by
   cases v with
   | mk k e n t ns ks ss =>
    have hk':k=15:=hk
    subst hk'
    rw [LTab]
    rw [LObj] at t1
    simpa using t1
  obtain ⟨os,st2,e2,h2,hlen,hj⟩:=kids_laid sh r st1 (i+2*nodes v) (fun x hx=>hl x (by simp [hx])) h1.nested h1.pi h1.inv (by omega)
  obtain ⟨xs,hx⟩:=h2.put.bytes
  refine ⟨o :: os,st2,?_,⟨h2.nested,h2.pi,h1.put.trans h2.put,h2.inv.le (by omega)⟩,by rw [List.length_cons,List.length_cons,hlen],fun j h h'=>?_⟩
  ·rw [bKids,e1',Option.bind_some,e2];rfl
  ·cases j with
   | zero =>
    have:=h2.put.len
    exact ⟨o1,by show o≤_;omega,by show LTab true st2.m.bytes v o;rw [hx];exact LTab_app true _ xs _ _ t1'⟩
   | succ j=>exact hj j (by simpa using h) (by simpa using h')
/-- What the slots of a table hold elsewhere. -/
theorem slots_laid (sh:Bool):∀ (ss:List (Slt Val)) (st:BSt) (i:Nat),(∀ s∈ss,s.has=true→LaidAt sh s.val∧Bld s.val∧(s.val.kind≤10→OkNum s.val.kind s.dflt))→st.nested=false→PI st→StInv st i→i+2*nodesS ss≤300→∃ os st',bSlots sh ss st=some (os,st')∧Out st st' (i+2*nodesS ss)∧os.length=ss.length∧∀ j (h:j<ss.length) (h2:j<os.length),SlotOk st'.m.bytes ss[j] os[j]
 | [],st,i,_,hn,hp,hi,_=>⟨[],st,rfl,⟨hn,hp,Put.refl _,hi.le (by omega)⟩,rfl,fun j h=>by simp at h⟩
 | s :: r,st,i,hl,hn,hp,hi,hb=>by
  rw [nodesS_cons] at hb ⊢
  have hnp:=nodes_pos s.val
  have key:∃ o st1,bSlot sh s st=some (o,st1)∧Out st st1 (i+2*nodes s.val)∧SlotOk st1.m.bytes s o:=by
   rw [bSlot_def]
   cases hh:s.has with
   | false=>exact ⟨0,st,rfl,⟨hn,hp,Put.refl _,hi.le (by omega)⟩,⟨(fun h=>by rw [hh] at h;cases h),(fun h=>by rw [hh] at h;cases h),(fun h=>by rw [hh] at h;cases h)⟩⟩
   | true =>
    obtain ⟨ha,hbv,hd⟩:=hl s (by simp) hh
    have hnum:s.has=true→s.val.kind≤10→OkNum s.val.kind s.val.num∧OkNum s.val.kind s.dflt:=fun _ hk=>⟨hbv.num hk,hd hk⟩
    have hstr:s.has=true→s.val.kind=17→(s.val.elem=1∨s.val.elem=2∨s.val.elem=4∨s.val.elem=8)∧0<s.val.text.length∧s.val.text.length≤64:=fun _ hk=>hbv.str hk
    by_cases hk:s.val.kind≤10∨s.val.kind=17
    ·refine ⟨0,st,?_,⟨hn,hp,Put.refl _,hi.le (by omega)⟩,⟨hnum,hstr,fun _ h1 h2=>by omega⟩⟩
     show bElse sh s.val st=_
     cases hv:s.val with
     | mk k e n t ns ks ss =>
      rw [hv] at hk
      have hk':k≤10∨k=17:=hk
      rw [bElse,if_neg (by omega),if_neg (by omega),if_neg (by omega),if_neg (by omega),if_neg (by omega),if_neg (by omega)]
    ·obtain ⟨o,st1,e1,h1,o1,o2,t1⟩:=ha hbv (by omega) (by omega) st i hn hp hi (by omega)
     exact ⟨o,st1,e1,h1,⟨hnum,hstr,fun _ _ _=>⟨o1,o2,t1⟩⟩⟩
  obtain ⟨o,st1,e1,h1,s1⟩:=key
  obtain ⟨os,st2,e2,h2,hlen,hj⟩:=slots_laid sh r st1 (i+2*nodes s.val) (fun x hx=>hl x (by simp [hx])) h1.nested h1.pi h1.inv (by omega)
  obtain ⟨xs,hx⟩:=h2.put.bytes
  refine ⟨o :: os,st2,?_,⟨h2.nested,h2.pi,h1.put.trans h2.put,h2.inv.le (by omega)⟩,by rw [List.length_cons,List.length_cons,hlen],fun j h h'=>?_⟩
  ·rw [bSlots,e1,Option.bind_some,e2];rfl
  ·cases j with
   | zero =>
    have hpl:=h2.put.len
    refine ⟨s1.num,s1.str,fun a b c=>?_⟩
    obtain ⟨q1,q2,q3⟩:=s1.obj a b c
    exact ⟨q1,by show o≤_;omega,by show LObj true st2.m.bytes s.val o;rw [hx];exact LObj_app true _ xs _ _ q3⟩
   | succ j=>exact hj j (by simpa using h) (by simpa using h')
theorem obj_laid (sh:Bool) (ss:List (Slt Val)) (st:BSt) (i:Nat) (hls:ss.length≤60) (hl:∀ s∈ss,s.has=true→LaidAt sh s.val∧Bld s.val∧(s.val.kind≤10→OkNum s.val.kind s.dflt)) (hn:st.nested=false) (hp:PI st) (hi:StInv st i) (hb:i+2*nodesS ss+2≤300) :
  ∃ o st',((bSlots sh ss st).bind fun p=>(p.2.startObj ss.length).bind fun st1=>(bFields 0 ss p.1 st1).bind fun st2=>st2.endObj)=some (o,st')∧Out st st' (i+2*nodesS ss+2)∧0<o∧o≤st'.m.bytes.length∧TabHead true st'.m.bytes o∧LSlots true st'.m.bytes ss 0 o:=by
 obtain ⟨os,st1,e1,h1,hlen,hj⟩:=slots_laid sh ss st i hl hn hp hi (by omega)
 have hlen1:=h1.inv.len
 have es:st1.startObj ss.length=some { st1 with nested:=true,vtab:=some (List.replicate ss.length 0),oend:=st1.m.bytes.length }:=by
  unfold BSt.startObj;rw [h1.nested];rfl
 have hF:FI st1 { st1 with nested:=true,vtab:=some (List.replicate ss.length 0),oend:=st1.m.bytes.length } ss.length 0 ss (List.replicate ss.length 0) :=
  ⟨rfl,by simp,fun j _ _ h=>by omega,fun j hl _=>by simp,⟨[],rfl⟩,by simp,rfl,rfl,rfl,rfl,rfl⟩
 obtain ⟨st2,l,e2,hF2⟩:=bFields_laid (st0:=st1) (n:=ss.length) (ss:=ss) rfl (by omega) os hlen (fun j h=>hj j h (by omega)) ss.length 0 _ _ (by omega) hF
 rw [List.drop_zero,List.drop_zero] at e2
 have g2:Grow st1.m st2.m (80*ss.length):=bFields_grow (B:=st1.m.bytes) ss os 0 { st1 with nested:=true,vtab:=some (List.replicate ss.length 0),oend:=st1.m.bytes.length } st2 (fun j a b=>hj j a b) e2
 obtain ⟨o,st3,e3,n3,p3,u3,o1,o2,t1,t2⟩:=end_laid hF2 h1.pi hls (by omega)
 have i2:StInv st2 (i+2*nodesS ss+1):=by
  refine h1.inv.grow g2 (by omega) (fun l' hl'=>?_) hF2.vts ?_ ?_
  ·rw [hF2.vtab] at hl'
   injection hl' with hl'
   subst hl'
   refine ⟨by rw [hF2.len];omega,fun x hx=>?_⟩
   obtain ⟨j,hjl,rfl⟩:=List.getElem_of_mem hx
   have:=hF2.some j (by have:=hF2.len;omega) hjl (by have:=hF2.len;omega)
   split at this
   ·exact this.2.1
   ·omega
  ·rw [hF2.oend];exact g2.len.1
  ·rw [hF2.shared];have:=h1.inv.sh;omega
 have e3':st2.endObj=some (st2.vt1.bytes.length,{ st2.writeVt with nested:=false }):=by
  unfold BSt.endObj;rw [if_pos hF2.nested]
 have i3:=i2.writeVt (by omega)
 rw [e3'] at e3
 injection e3 with e3
 injection e3 with ea eb
 rw [eb] at i3 e3'
 rw [ea] at e3'
 refine ⟨o,st3,?_,⟨n3,p3,h1.put.trans u3,i3⟩,o1,o2,t1,t2⟩
 rw [e1,Option.bind_some]
 show (st1.startObj ss.length).bind _=_
 rw [es,Option.bind_some]
 show (bFields 0 ss os _).bind _=_
 rw [e2,Option.bind_some,e3']
theorem else_laid (sh:Bool):∀ v,LaidAt sh v:=by
 intro v
 induction v using Val.ind with
 | h k e n t ns ks ss ihk ihs =>
  intro hb h10 h17 st i hn hp hi hbd
  rw [nodes] at hbd ⊢
  have h10':¬ k≤10:=h10
  have h17':k≠17:=h17
  cases hb with
  | mk _ _ _ _ _ _ _ hk lt ln lk ls h13 hst hk14 hk16 hgk hgs hd2 hnum =>
   have hslots:∀ s∈ss,s.has=true→LaidAt sh s.val∧Bld s.val∧(s.val.kind≤10→OkNum s.val.kind s.dflt):=fun s hs hh=>⟨ihs s hs,hgs s hs hh,hd2 s hs hh⟩
   rw [bElse]
   unfold LObj
   by_cases h11:k=11
   ·rw [if_pos h11]
    simp only [if_pos h11]
    obtain ⟨o,st',e1,a1,a2,a3,a4,a5⟩:=text_laid sh st t hn hp
    have e2:(if sh=true then st.sharedStr t else st.created t true)=some (o,st'):=e1
    exact ⟨o,st',e2,⟨a1,a2,a3,(hi.text lt e1).le (by omega)⟩,a4,a5.len,a5⟩
   rw [if_neg h11]
   simp only [if_neg h11]
   by_cases h12:k=12
   ·rw [if_pos h12]
    simp only [if_pos h12]
    obtain ⟨o,st',e1,a1,a2,a3,a4,a5,a6,a7⟩:=created_laid st t false hn
    exact ⟨o,st',e1,⟨a1,hp.put a4 a2 a3,a4,(hi.created lt e1).le (by omega)⟩,by omega,by omega,a7⟩
   rw [if_neg h12]
   simp only [if_neg h12]
   by_cases h13':k=13
   ·rw [if_pos h13']
    simp only [if_pos h13']
    obtain ⟨he,hok⟩:=h13 h13'
    obtain ⟨o,st',e1,a1,a2,a3,a4,a5,a6⟩:=scalars_laid st e ns he hok hn
    exact ⟨o,st',e1,⟨a1,hp.put a4 a2 a3,a4,(hi.scalars he ln e1).le (by omega)⟩,a5,a6.1.len,a6⟩
   rw [if_neg h13']
   simp only [if_neg h13']
   by_cases h14:k=14
   ·rw [if_pos h14]
    simp only [if_pos h14]
    obtain ⟨os,st1,e1,h1,hlen,hj⟩:=texts_laid sh ks st i (fun v hv=>by
     have:=hgk v hv
     cases this with | mk _ _ _ _ _ _ _ _ lt _ _ _ _ _ _ _ _ _ _ _=>exact lt) hn hp hi
    have hl1:=h1.inv.len
    obtain ⟨r,st2,e2,a1,a2,a3,a4,a5,a6,a7,a8⟩:=vec_laid st1 os h1.nested (fun o ho=>by
     obtain ⟨j,hjl,rfl⟩:=List.getElem_of_mem ho
     have:=hj j (by omega) hjl
     exact ⟨this.1,this.2.1⟩) (by omega)
    obtain ⟨xs,hx⟩:=a4.bytes
    refine ⟨r,st2,by rw [e1,Option.bind_some];exact e2,⟨a1,h1.pi.put a4 a2 a3,h1.put.trans a4,(h1.inv.vec (by omega) e2).le (by omega)⟩,a5,by omega,by rw [hlen] at a7;exact a7,?_⟩
    refine texts_of true _ ks _ fun j hjl=>?_
    obtain ⟨b1,b2⟩:=a8 j (by omega)
    refine ⟨b1,?_⟩
    rw [b2,hx]
    exact (hj j hjl (by omega)).2.2.app xs
   rw [if_neg h14]
   simp only [if_neg h14]
   by_cases h16:k=16
   ·rw [if_pos h16]
    simp only [if_pos h16]
    obtain ⟨os,st1,e1,h1,hlen,hj⟩:=kids_laid sh ks st i (fun v hv=>⟨ihk v hv,hgk v hv,hk16 h16 v hv⟩) hn hp hi (by omega)
    have hl1:=h1.inv.len
    obtain ⟨r,st2,e2,a1,a2,a3,a4,a5,a6,a7,a8⟩:=vec_laid st1 os h1.nested (fun o ho=>by
     obtain ⟨j,hjl,rfl⟩:=List.getElem_of_mem ho
     have:=hj j (by omega) hjl
     exact ⟨this.1,this.2.1⟩) (by omega)
    obtain ⟨xs,hx⟩:=a4.bytes
    refine ⟨r,st2,by rw [e1,Option.bind_some];exact e2,⟨a1,h1.pi.put a4 a2 a3,h1.put.trans a4,(h1.inv.vec (by omega) e2).le (by omega)⟩,a5,by omega,by rw [hlen] at a7;exact a7,?_⟩
    refine kids_of true _ ks _ fun j hjl=>?_
    obtain ⟨b1,b2⟩:=a8 j (by omega)
    refine ⟨b1,?_⟩
    rw [b2,hx]
    exact LTab_app true _ xs _ _ (hj j hjl (by omega)).2.2
   rw [if_neg h16]
   simp only [if_neg h16]
   have h15:k=15:=by omega
   rw [if_pos h15]
   obtain ⟨o,st',e1,a1,a2,a3,a4,a5⟩:=obj_laid sh ss st i ls hslots hn hp hi (by omega)
   exact ⟨o,st',e1,⟨a1.nested,a1.pi,a1.put,a1.inv.le (by omega)⟩,a2,a3,a4,a5⟩
end Go.Proofs.YtcfblkkpclfmaaaGreat
