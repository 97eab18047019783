/- Part 17 of the proof of FnRead (Laid2, Laid3). No condition is laid on the statement. -/
import Derived.Test.YtcfblkkpclfmaaaGreatQa16
set_option linter.unusedVariables false
set_option linter.unusedSimpArgs false
set_option maxRecDepth 100000
set_option maxHeartbeats 16000000
namespace Go.Proofs.YtcfblkkpclfmaaaGreat
open Go.RowKit Go.Maps
def LObj (al:Bool)(B:List UInt8):Val->Nat->Prop
 | .mk k e n t ns ks ss,r =>
   if k=11 then LText al B t r
   else if k=12 then LBytes al B t r
   else if k=13 then LNums al B e ns r
   else if k=14 then LVec al B ks.length r/\LTexts al B ks (r-4)
   else if k=16 then LVec al B ks.length r/\LKids al B ks (r-4)
   else TabHead al B r/\LSlots al B ss 0 r
theorem LVal_ref{al:Bool}{B:List UInt8}{v:Val}{a:Nat}(h1:¬v.kind<=10)(h2:v.kind≠17):LVal al B v a=(RefOk al B a/\LObj al B v (refE B a)):=by
 cases v with
 | mk k e n t ns ks ss =>
  rw[LVal,if_neg (show ¬k<=10 from h1),if_neg (show ¬k=17 from h2)];rfl
theorem LObj_app(al:Bool)(B xs:List UInt8)(v:Val)(r:Nat)(h:LObj al B v r):LObj al (xs++B) v r:=by
 cases v with
 | mk k e n t ns ks ss =>
  rw[LObj] at h ⊢;split
  ·rename_i h3;rw[if_pos h3] at h;exact h.app xs
  ·rename_i h3;rw[if_neg h3] at h
   split
   ·rename_i h4;rw[if_pos h4] at h;exact h.app xs
   ·rename_i h4;rw[if_neg h4] at h
    split
    ·rename_i h5;rw[if_pos h5] at h;exact h.app xs
    ·rename_i h5;rw[if_neg h5] at h
     split
     ·rename_i h6;rw[if_pos h6] at h;exact⟨h.1.app xs,LTexts_app al B xs ks _ h.2⟩
     ·rename_i h6;rw[if_neg h6] at h
      split
      ·rename_i h7;rw[if_pos h7] at h;exact⟨h.1.app xs,LKids_app al B xs ks _ h.2⟩
      ·rename_i h7;rw[if_neg h7] at h;exact⟨h.1.app xs,LSlots_app al B xs ss 0 _ h.1 h.2⟩
theorem refer_m{st:BSt}{off:Nat}(h4:st.m.bytes.length%4=0)(ho:off<=st.m.bytes.length):∃m,st.refer off=some { st with m:=m }/\m.bytes=leB 4 (st.m.bytes.length-off+4)++st.m.bytes/\st.m.room<=m.room+4:=by
 have e:=prep_id st.m 4 0 (by unfold algn;omega) (by simpa using h4);refine⟨(st.m.prep 4 0).put (leB 4 ((st.m.prep 4 0).bytes.length-off+4)),?_,?_,?_⟩
 ·unfold BSt.refer BM.refer;rw[e,if_pos ho];rfl
 ·show leB 4 _++(st.m.prep 4 0).bytes=_;rw[e]
 ·show st.m.room<=(st.m.prep 4 0).room-(leB 4 _).length+4;rw[leB_length];have:=prep_room_le st.m 4 0 (by unfold algn;omega) h4 rfl
  omega
theorem ref_front{B:List UInt8}{B':List UInt8}{o:Nat}(h:B'=leB 4 (B.length-o+4)++B)(ho:o<=B.length)(h0:0<o)(h4:B.length%4=0)(hl:B.length<2000000):RefOk true B' B'.length/\refE B' B'.length=o:=by
 have hl':B'.length=4+B.length:=by rw[h,List.length_append,leB_length]
 have ha:at4 B' B'.length=B.length-o+4:=by
  have:=(BytesAt.front h).at4 (leB_length _ _)
  rw[this,le_leB];omega
 refine⟨⟨Nat.le_refl _,by omega,by omega,by omega,λ_=>by omega⟩,?_⟩;unfold refE;rw[ha,hl'];omega
theorem offs_laid:∀(os:List Nat) (st:BSt),st.m.bytes.length%4=0->(∀o∈os,0<o/\o<=st.m.bytes.length)->st.m.bytes.length+4*os.length<2000000->∃m,bOffs os st=some { st with m:=m } /\
  (∃xs,m.bytes=xs++st.m.bytes)/\m.bytes.length=4*os.length+st.m.bytes.length/\st.m.room<=m.room+4*os.length/\∀i (h:i<os.length),RefOk true m.bytes (m.bytes.length-4*i)/\refE m.bytes (m.bytes.length-4*i)=os[i]
 | [],st,_,_,_=>⟨st.m,rfl,⟨[],rfl⟩,by simp,by simp,λi h=>by simp at h⟩
 | o::r,st,h4,ho,hl=>by
  rw[List.length_cons] at hl;obtain⟨m,e,⟨xs,hx⟩,hlen,hroom,hi⟩:=offs_laid r st h4 (λo hm=>ho o (by simp[hm])) (by omega);have hoo:=ho o (by simp);obtain⟨m',e',hb',hr'⟩:=refer_m (st:={ st with m:=m }) (off:=o) (by show m.bytes.length%4=0;omega) (by show o<=m.bytes.length;omega);have hb:m'.bytes=leB 4 (m.bytes.length-o+4)++m.bytes:=hb';have hl':m'.bytes.length=4+m.bytes.length:=by rw[hb,List.length_append,leB_length]
  obtain⟨g1,g2⟩:=ref_front hb (by omega) hoo.1 (by omega) (by omega);have hr2:m.room<=m'.room+4:=hr';refine⟨m',?_,⟨leB 4 (m.bytes.length-o+4)++xs,by rw[hb,hx,List.append_assoc]⟩,by rw[hl',List.length_cons];omega,by rw[List.length_cons];omega,λi h=>?_⟩
  ·show (bOffs r st).bind _=_;rw[e,Option.bind_some,e']
  ·cases i with
   | zero=>exact⟨g1,g2⟩
   | succ i =>
    obtain⟨k1,k2⟩:=hi i (by simpa using h);have ea:m'.bytes.length-4*(i+1)=m.bytes.length-4*i:=(by omega);rw[ea,hb];exact⟨k1.app _,by rw[refE_app _ _ _ (by omega),k2];rfl⟩
theorem vec_laid(st:BSt)(os:List Nat)(hn:st.nested=false)(ho:∀o∈os,0<o/\o<=st.m.bytes.length)(hl:st.m.bytes.length+4*os.length<1900000):∃r st',bVec os st=some (r,st')/\st'.nested=false/\st'.vts=st.vts/\st'.shared=st.shared/\Put st st'/\0<r/\r=st'.m.bytes.length/\LVec true st'.m.bytes os.length r /\
  ∀i (h:i<os.length),RefOk true st'.m.bytes (r-4-4*i)/\refE st'.m.bytes (r-4-4*i)=os[i]:=by
 obtain⟨hr,h1,h2,j,hj,hb⟩:=startVec_m st.m 4 os.length (by unfold algn;omega);obtain⟨m,hm⟩:=exA ((st.m.prep 4 (4*os.length)).prep 4 (4*os.length));rw[<-hm] at hr h1 h2 hb;have hml:m.bytes.length=j+st.m.bytes.length:=by rw[hb,List.length_append,List.length_replicate]
 obtain⟨m',e,⟨xs,hx⟩,hlen,hroom,hi⟩:=offs_laid os { st with m:=m,nested:=true } (by show m.bytes.length%4=0;omega) (λo hm'=>by have:=ho o hm';show 0<o/\o<=m.bytes.length;omega) (by show m.bytes.length+_<_;omega);have hx':m'.bytes=xs++m.bytes:=hx;have hlen':m'.bytes.length=4*os.length+m.bytes.length:=hlen;have hroom':m.room<=m'.room+4*os.length:=hroom;refine⟨4+m'.bytes.length,{ st with m:=m'.put (leB 4 os.length),nested:=false },?_,rfl,rfl,rfl,⟨⟨leB 4 os.length++(xs++List.replicate j 0),?_⟩,rfl⟩,by omega,?_,⟨?_,?_,?_⟩,λi h=>?_⟩
 ·unfold bVec;rw[startVec_eq st 4 os.length hn,Option.bind_some,<-hm];show (bOffs os { st with m:=m,nested:=true }).bind _=_;rw[e,Option.bind_some];exact endVec_eq { st with m:=m',nested:=true } os.length rfl (by show 4<=m'.room;omega)
 ·show leB 4 os.length++m'.bytes=_;rw[hx',hb];simp
 ·show _=(leB 4 os.length++m'.bytes).length;rw[List.length_append,leB_length]
 ·show BytesAt (leB 4 os.length++m'.bytes) (4+m'.bytes.length) _;rw[show 4+m'.bytes.length=(leB 4 os.length++m'.bytes).length by rw[List.length_append,leB_length]];exact BytesAt.front rfl
 ·omega
 ·intro _;omega
 ·obtain⟨k1,k2⟩:=hi i h;show RefOk true (leB 4 os.length++m'.bytes) _/\refE (leB 4 os.length++m'.bytes) _=_;rw[show 4+m'.bytes.length-4-4*i=m'.bytes.length-4*i by omega];exact⟨k1.app _,by rw[refE_app _ _ _ (by omega)];exact k2⟩
theorem texts_of(al:Bool)(B:List UInt8):∀(ks:List Val) (a:Nat),(∀i (h:i<ks.length),RefOk al B (a-4*i)/\LText al B (ks[i]).text (refE B (a-4*i)))->LTexts al B ks a
 | [],_,_=>trivial
 | v::r,a,h=>by
  rw[LTexts_cons];obtain⟨h1,h2⟩:=h 0 (by simp);refine⟨h1,h2,texts_of al B r (a-4) λi hi=>?_⟩;have:=h (i+1) (by simpa using hi)
  rw[show a-4*(i+1)=a-4-4*i by omega] at this;exact this
theorem kids_of(al:Bool)(B:List UInt8):∀(ks:List Val) (a:Nat),(∀i (h:i<ks.length),RefOk al B (a-4*i)/\LTab al B ks[i] (refE B (a-4*i)))->LKids al B ks a
 | [],_,_=>trivial
 | v::r,a,h=>by
  rw[LKids];obtain⟨h1,h2⟩:=h 0 (by simp);refine⟨h1,h2,kids_of al B r (a-4) λi hi=>?_⟩;have:=h (i+1) (by simpa using hi)
  rw[show a-4*(i+1)=a-4-4*i by omega] at this;exact this
/-! The fields of an object. -/
theorem OkNum.right{k n:Nat}(h:OkNum k n):Right (k:Int) n:=⟨by omega,by have:=h.1;omega,λe=>h.2.2.1 (by omega),h.2.1⟩
theorem sameNum_eqK{k a b:Nat}(ha:OkNum k a)(hb:OkNum k b):sameNum k a b=eqK k a b:=by
 unfold sameNum eqK;by_cases h9:k=9
 ·subst h9;rw[if_pos (by decide),if_pos rfl];exact eq_f32 a b ha.2.1 hb.2.1 (ha.2.2.2.1 rfl) (hb.2.2.2.1 rfl)
 ·rw[if_neg (by omega),if_neg h9];by_cases h10:k=10
  ·subst h10;rw[if_pos (by decide),if_pos rfl];exact eq_f64 a b ha.2.1 hb.2.1 (ha.2.2.2.2 rfl) (hb.2.2.2.2 rfl)
  ·rw[if_neg (by omega),if_neg h10]
structure SlotOk(B:List UInt8)(s:Slt Val)(o:Nat):Prop where
 num:s.has=true->s.val.kind<=10->OkNum s.val.kind s.val.num/\OkNum s.val.kind s.dflt
 str:s.has=true->s.val.kind=17->(s.val.elem=1\/s.val.elem=2\/s.val.elem=4\/s.val.elem=8)/\0<s.val.text.length/\s.val.text.length<=64
 obj:s.has=true->¬s.val.kind<=10->s.val.kind≠17->0<o/\o<=B.length/\LObj true B s.val o
structure FI(st0 st:BSt)(n i:Nat)(ss:List (Slt Val))(l:List Nat):Prop where
 vtab:st.vtab=some l
 len:l.length=n
 some:∀j (h:j<ss.length) (hl:j<l.length),j<i->if present ss[j] then st0.m.bytes.length<l[j]/\l[j]<=st.m.bytes.length/\LVal true st.m.bytes ss[j].val l[j] else l[j]=0
 none:∀j (hl:j<l.length),i<=j->l[j]=0
 bytes:∃xs,st.m.bytes=xs++st0.m.bytes
 grow:st.m.bytes.length<=st0.m.bytes.length+72*i
 nested:st.nested=true
 oend:st.oend=st0.m.bytes.length
 vts:st.vts=st0.vts
 shared:st.shared=st0.shared
 fin:st.fin=st0.fin
theorem slot_eq(st:BSt)(l:List Nat)(i:Nat)(hv:st.vtab=some l)(hi:i<l.length):st.slot (i:Nat)=some { st with vtab:=some (l.set i st.m.bytes.length) }:=by
 unfold BSt.slot;rw[hv];show (if (0:Int)<=(i:Nat)/\((i:Nat):Int).toNat<l.length then _ else _)=_;rw[if_pos ⟨by omega,by omega⟩];rfl
theorem FI.skip{st0 st:BSt}{n i:Nat}{ss:List (Slt Val)}{l:List Nat}(h:FI st0 st n i ss l)(hi:i<ss.length)(hil:i<l.length)(hp:present ss[i]=false):FI st0 st n (i+1) ss l:=by
 refine⟨h.vtab,h.len,λj hj hl hlt=>?_,λj hl hle=>h.none j hl (by omega),h.bytes,by have:=h.grow;omega,h.nested,h.oend,h.vts,h.shared,h.fin⟩;by_cases e:j=i
 ·subst e;rw[hp,if_neg (by simp)];exact h.none j hl (Nat.le_refl _)
 ·exact h.some j hj hl (by omega)
theorem FI.field{st0 st:BSt}{n i:Nat}{ss:List (Slt Val)}{l:List Nat}(h:FI st0 st n i ss l)(hi:i<ss.length)(hil:i<l.length)(hp:present ss[i]=true)(m:BM)(xs:List UInt8)(hm:m.bytes=xs++st.m.bytes)(hx0:0<xs.length)(hx:xs.length<=72)(hv:LVal true m.bytes ss[i].val m.bytes.length):
  FI st0 { st with m:=m,vtab:=Option.some (l.set i m.bytes.length) } n (i+1) ss (l.set i m.bytes.length):=by
 have hml:m.bytes.length=xs.length+st.m.bytes.length:=by rw[hm,List.length_append]
 obtain⟨ys,hy⟩:=h.bytes;have hyl:st.m.bytes.length=ys.length+st0.m.bytes.length:=by rw[hy,List.length_append]
 refine⟨rfl,by rw[List.length_set];exact h.len,λj hj hl hlt=>?_,λj hl hle=>?_,⟨xs++ys,by show m.bytes=_;rw[hm,hy,List.append_assoc]⟩,by show m.bytes.length<=_;have:=h.grow;omega,h.nested,h.oend,h.vts,h.shared,h.fin⟩
 ·by_cases e:j=i
  ·subst e;rw[hp,if_pos rfl,List.getElem_set_self];exact⟨by omega,Nat.le_refl _,hv⟩
  ·rw[List.getElem_set_ne (λe'=>e e'.symm)];have:=h.some j hj (by rw[List.length_set] at hl;exact hl) (by omega)
   cases hpj:present ss[j] with
   | false=>rw[hpj,if_neg (by simp)] at this;rw[if_neg (by simp)];exact this
   | true =>
    rw[hpj,if_pos rfl] at this;rw[if_pos rfl];refine⟨this.1,by show _<=m.bytes.length;omega,?_⟩;have h3:=LVal_app true _ xs _ _ this.2.2;rw[<-hm] at h3;exact h3
 ·rw[List.getElem_set_ne (by omega)];exact h.none j (by rw[List.length_set] at hl;exact hl) (by omega)
theorem bField_laid{st0 st:BSt}{n i:Nat}{ss:List (Slt Val)}{l:List Nat}(h:FI st0 st n i ss l)(hi:i<ss.length)(hn:n=ss.length)(o:Nat)(hs:SlotOk st0.m.bytes ss[i] o)(hl4:st0.m.bytes.length+72*ss.length<1900000):
  ∃st' l',bField i ss[i] o st=some st'/\FI st0 st' n (i+1) ss l':=by
 have hil:i<l.length:=by rw[h.len];omega
 have hgr:=h.grow;obtain⟨ys,hy⟩:=h.bytes;have hyl:st.m.bytes.length=ys.length+st0.m.bytes.length:=by rw[hy,List.length_append]
 obtain⟨s,hse⟩:=exA (ss[i]);rw[<-hse] at hs ⊢;unfold bField;by_cases hh:s.has=false
 ·rw[if_pos hh];exact⟨st,l,rfl,h.skip hi hil (by rw[<-hse];unfold present;rw[hh];rfl)⟩
 ·have ht:s.has=true:=by cases hx:s.has<;>simp_all
  rw[if_neg hh];by_cases hk:s.val.kind<=10
  ·rw[if_pos hk];obtain⟨o1,o2⟩:=hs.num ht hk;have hsn:=sameNum_eqK o1 o2;rw[hsn];unfold BSt.prepSlot;cases he:eqK s.val.kind s.val.num s.dflt with
   | true =>
    rw[if_pos rfl];exact⟨st,l,rfl,h.skip hi hil (by rw[<-hse];unfold present;rw[he];simp[hk])⟩
   | false =>
    rw[if_neg (by simp)];have ha:=numSize_algn (k:=(s.val.kind:Int)) (by omega) (by omega);have hle:=numSize_le (s.val.kind:Int);obtain⟨m,hm⟩:=exA ((st.m.prep (numSize s.val.kind) 0).put (numB s.val.kind s.val.num));rw[<-hm];have hmb:m.bytes=(numB s.val.kind s.val.num++List.replicate (st.m.pad (numSize s.val.kind) 0) 0)++st.m.bytes:=by
     rw[hm,List.append_assoc];rfl
    have hpl:=st.m.pad_lt (numSize s.val.kind) 0 ha;have hz1:1<=numSize (s.val.kind:Int):=(by unfold algn at ha;omega);refine⟨{ st with m:=m,vtab:=some (l.set i m.bytes.length) },l.set i m.bytes.length,slot_eq { st with m:=m } l i h.vtab hil,h.field hi hil ?_ m _ hmb ?_ ?_ ?_⟩
    ·rw[<-hse];unfold present;rw[ht,he];simp
    ·rw[List.length_append,numB_length];omega
    ·rw[List.length_append,numB_length,List.length_replicate];omega
    ·rw[<-hse];cases hv:s.val with
     | mk k e nn t ns ks zs =>
      rw[hv] at hk o1 hmb ha;have hk':k<=10:=hk;rw[LVal,if_pos hk'];refine⟨?_,λ_=>?_⟩
      ·rw[<-numB_ok (k:=k) (n:=nn) o1];exact BytesAt.front (rest:=List.replicate (st.m.pad (numSize k) 0) 0++st.m.bytes) (by rw[hmb,List.append_assoc];rfl)
      ·have hmod:=prep_mod st.m (numSize k) 0 ha;have:m.bytes.length=numSize k+(st.m.prep (numSize k) 0).bytes.length:=by
        rw[hmb,List.append_assoc,List.length_append];show (numB k nn).length+_=_;rw[numB_length];rfl
       rw[this,Nat.add_mod_left];simpa using hmod
  ·rw[if_neg hk];have hpr:present s=true:=(by unfold present;rw[ht];simp[hk]);by_cases h17:s.val.kind=17
   ·rw[if_pos h17];obtain⟨he,ht1,ht2⟩:=hs.str ht h17;have ha:algn s.val.elem:=(by unfold algn;omega);obtain⟨m,hm⟩:=exA ((st.m.prep s.val.elem s.val.text.length).put s.val.text);have hmb:m.bytes=(s.val.text++List.replicate (st.m.pad s.val.elem s.val.text.length) 0)++st.m.bytes:=by
     rw[hm,List.append_assoc];rfl
    have hpl:=st.m.pad_lt s.val.elem s.val.text.length ha;have hml:m.bytes.length=s.val.text.length+(st.m.prep s.val.elem s.val.text.length).bytes.length:=by
     rw[hm];show (s.val.text++_).length=_;rw[List.length_append]
    refine⟨{ st with m:=m,vtab:=some (l.set i m.bytes.length) },l.set i m.bytes.length,?_,h.field hi hil (by rw[<-hse];exact hpr) m _ hmb ?_ ?_ ?_⟩
    ·rw[<-hm];show BSt.structSlot { st with m:=m } i m.bytes.length 0=_;unfold BSt.structSlot;rw[if_neg (by omega),if_pos h.nested,if_pos rfl];exact slot_eq { st with m:=m } l i h.vtab hil
    ·rw[List.length_append];omega
    ·rw[List.length_append,List.length_replicate];omega
    ·rw[<-hse];have hmod:=prep_mod st.m s.val.elem s.val.text.length ha;cases hv:s.val with
     | mk k e nn t ns ks zs =>
      rw[hv] at hk h17 hmb hml hmod;have hk':¬k<=10:=hk;have h17':k=17:=h17;rw[LVal,if_neg hk',if_pos h17'];refine⟨BytesAt.front (rest:=List.replicate (st.m.pad e t.length) 0++st.m.bytes) (by rw[hmb,List.append_assoc];rfl),λ_=>?_⟩;show m.bytes.length%e=0;rw[hml,Nat.add_comm];exact hmod
   ·rw[if_neg h17];obtain⟨ho1,ho2,ho3⟩:=hs.obj ht hk h17;have h4:algn 4:=(by unfold algn;omega);have hmod:=prep_mod st.m 4 0 h4;have hplen:=st.m.prep_len 4 0 h4;have hpl:=st.m.pad_lt 4 0 h4;obtain⟨m,hm⟩:=exA ((st.m.prep 4 0).put (leB 4 ((st.m.prep 4 0).bytes.length-o+4)));have hmb0:m.bytes=leB 4 ((st.m.prep 4 0).bytes.length-o+4)++(st.m.prep 4 0).bytes:=(by rw[hm];rfl);have hmb:m.bytes=(leB 4 ((st.m.prep 4 0).bytes.length-o+4)++List.replicate (st.m.pad 4 0) 0)++st.m.bytes:=by
     rw[hmb0,List.append_assoc];rfl
    refine⟨{ st with m:=m,vtab:=some (l.set i m.bytes.length) },l.set i m.bytes.length,?_,h.field hi hil (by rw[<-hse];exact hpr) m _ hmb ?_ ?_ ?_⟩
    ·unfold BSt.offSlot BSt.refer BM.refer;rw[if_neg (by omega),if_pos (by omega),Option.map_some,Option.bind_some,<-hm];exact slot_eq { st with m:=m } l i h.vtab hil
    ·rw[List.length_append,leB_length];omega
    ·rw[List.length_append,leB_length,List.length_replicate];omega
    ·rw[<-hse,LVal_ref hk h17];obtain⟨g1,g2⟩:=ref_front hmb0 (by omega) ho1 (by simpa using hmod) (by omega);refine⟨g1,?_⟩;rw[g2,hmb,hy,<-List.append_assoc];exact LObj_app true _ _ _ _ ho3
theorem bFields_laid{st0:BSt}{n:Nat}{ss:List (Slt Val)}(hn:n=ss.length)(hl4:st0.m.bytes.length+72*ss.length<1900000)(os:List Nat)(ho:os.length=ss.length)(hs:∀j (h:j<ss.length),SlotOk st0.m.bytes ss[j] (os[j]'(by omega))):
  ∀(k i:Nat) (st:BSt) (l:List Nat),i+k=ss.length->FI st0 st n i ss l->∃st' l',bFields i (ss.drop i) (os.drop i) st=some st'/\FI st0 st' n ss.length ss l'
 | 0,i,st,l,hk,h=>by
  obtain rfl:i=ss.length:=by omega
  rw[List.drop_length];exact⟨st,l,rfl,h⟩
 | k+1,i,st,l,hk,h=>by
  have hi:i<ss.length:=by omega
  obtain⟨st1,l1,e1,h1⟩:=bField_laid h hi hn _ (hs i hi) hl4;obtain⟨st',l',e2,h2⟩:=bFields_laid hn hl4 os ho hs k (i+1) st1 l1 (by omega) h1;refine⟨st',l',?_,h2⟩;rw[List.drop_eq_getElem_cons hi,List.drop_eq_getElem_cons (by omega:i<os.length)];show (bField i ss[i] os[i] st).bind _=_;rw[e1,Option.bind_some];exact e2
end Go.Proofs.YtcfblkkpclfmaaaGreat
namespace Go.Proofs.YtcfblkkpclfmaaaGreat
open Go.RowKit Go.Maps
theorem trimZ_split:∀l:List Nat,∃k,l=trimZ l++List.replicate k 0:=by
 intro l;have key:∀r:List Nat,∃k,r=List.replicate k 0++r.dropWhile (·==0):=by
  intro r;induction r with
  | nil=>exact⟨0,rfl⟩
  | cons a r ih =>
   by_cases h:a=0
   ·subst h;obtain⟨k,hk⟩:=ih;refine⟨k+1,?_⟩;rw[List.dropWhile_cons_of_pos (by simp),List.replicate_succ,List.cons_append];exact congrArg _ hk
   ·exact⟨0,by rw[List.dropWhile_cons_of_neg (by simpa using h)];rfl⟩
 obtain⟨k,hk⟩:=key l.reverse;refine⟨k,?_⟩;have:=congrArg List.reverse hk
 rw[List.reverse_reverse,List.reverse_append,List.reverse_replicate] at this;exact this
theorem flat_at2{B:List UInt8}:∀(E:List Nat) (a i:Nat) (h:i<E.length),BytesAt B a (E.flatMap (leB 2))->at2 B (a-2*i)=E[i]%65536
 | e::r,a,0,_,h=>by
  rw[List.flatMap_cons] at h;rw[Nat.mul_zero,Nat.sub_zero,h.left.at2 (leB_length _ _),le_leB];rfl
 | e::r,a,i+1,hi,h=>by
  rw[List.flatMap_cons] at h;have:=flat_at2 r (a-2) i (by simpa using hi) (by have:=h.right;rwa [leB_length] at this)
  rw[show a-2*(i+1)=a-2-2*i by omega,this];rfl
theorem flat2_length(E:List Nat):(E.flatMap (leB 2)).length=2*E.length:=by
 induction E with
 | nil=>rfl
 | cons a r ih=>rw[List.flatMap_cons,List.length_append,leB_length,ih,List.length_cons];omega
theorem tab_of{B:List UInt8}{o v W:Nat}{E:List Nat}{ss:List (Slt Val)}{l t:List Nat}{k:Nat}(ho4:4<=o)(hol:o<=B.length)(hoa:o%4=0)(hsg:at4 B o<2^31\/2^32-at4 B o<o)(hvt:vtOf B o=v)
  (hb:BytesAt B v (leB 2 (2*E.length+4)++(leB 2 W++E.flatMap (leB 2)))) (hE:E.length=t.length) (hE60:E.length<=60) (hEi:∀i (h:i<E.length) (h2:i<t.length),E[i]=if t[i]=0 then 0 else o-t[i]) (hW4:4<=W) (hWo:W<=o) (hW:W<65536) (heW:∀e∈E,e<W) (hv2:v%2=0)
  (hl:l=t++List.replicate k 0) (hls:l.length=ss.length) (L0:Nat) (hL0:L0+4<=o)
  (hs:∀j (h:j<ss.length) (hl:j<l.length),if present ss[j] then 0<l[j]/\l[j]<=L0/\LVal true B ss[j].val l[j] else l[j]=0):TabHead true B o/\LSlots true B ss 0 o:=by
 have h0:at2 B v=2*E.length+4:=by rw[hb.left.at2 (leB_length _ _),le_leB];omega
 have hr:=hb.right;rw[leB_length] at hr;have h2:at2 B (v-2)=W:=by rw[hr.left.at2 (leB_length _ _),le_leB];omega
 have hr2:=hr.right;rw[leB_length,show v-2-2=v-4 by omega] at hr2;have hlow:=hb.low;simp only[List.length_append,leB_length,flat2_length] at hlow;have hh:TabHead true B o:=⟨hol,ho4,hsg,by rw[hvt];exact hb.len,by rw[hvt,h0];omega,by rw[hvt,h0];omega,by rw[hvt,h0];omega,by rw[hvt,h2];exact hW4,by rw[hvt,h2];exact hWo,λ_=>⟨hoa,by rw[hvt];exact hv2⟩⟩;refine⟨hh,?_⟩;have hf:∀i,fldOf B o i=if h:i<E.length then E[i] else 0:=by
  intro i;unfold fldOf;rw[hvt,h0];by_cases hi:i<E.length
  ·rw[if_pos (by omega),dif_pos hi,show v-(4+2*i)=v-4-2*i by omega,flat_at2 E (v-4) i hi hr2];have:=heW E[i] (List.getElem_mem hi)
   omega
  ·rw[if_neg (by omega),dif_neg hi]
 have key:∀(n i:Nat),i+n=ss.length->LSlots true B (ss.drop i) i o:=by
  intro n;induction n with
  | zero =>
   intro i hi;rw[List.drop_of_length_le (by omega)];trivial
  | succ n ih =>
   intro i hi;have hil:i<ss.length:=(by omega);rw[List.drop_eq_getElem_cons hil,LSlots];refine⟨?_,ih (i+1) (by omega)⟩;have hsi:=hs i hil (by omega);rw[LSlot_def,hf i,hvt,h2];have hti:∀h2:i<t.length,l[i]'(by omega)=t[i]:=by
    intro h2;subst hl;rw[List.getElem_append_left h2]
   have htn:t.length<=i->l[i]'(by omega)=0:=by
    intro h2;subst hl;rw[List.getElem_append_right h2,List.getElem_replicate]
   cases hp:present ss[i] with
   | true =>
    rw[hp,if_pos rfl] at hsi;rw[if_pos rfl];obtain⟨g1,g2,g3⟩:=hsi;have hit:i<t.length:=by
     refine Nat.lt_of_not_le λhle=>?_;have:=htn hle
     omega
    have e:=hti hit;have hEi':=hEi i (by omega) hit;rw[if_neg (by omega)] at hEi';rw[dif_pos (by omega),hEi'];rw[e] at g1 g2 g3;refine⟨by omega,?_,?_⟩
    ·rw[<-hEi'];exact heW _ (List.getElem_mem (by omega))
    ·rw[show o-(o-t[i])=t[i] by omega];exact g3
   | false =>
    rw[hp,if_neg (by simp)] at hsi;rw[if_neg (by simp)];by_cases hit:i<t.length
    ·have e:=hti hit;rw[dif_pos (by omega),hEi i (by omega) hit,if_pos (by omega)]
    ·rw[dif_neg (by omega)]
 have:=key ss.length 0 (by omega)
 rwa [List.drop_zero] at this
theorem vtSame_flat(o:Nat):∀(t es:List Nat),(∀e∈es,e<65536)->vtSame o t (es.flatMap (leB 2))=true->es.length=t.length/\∀i (h:i<es.length) (h2:i<t.length),vtEnt o t[i] es[i]=true
 | [],[],_,_=>⟨rfl,λi h=>by simp at h⟩
 | [],e::es,_,h=>by simp[vtSame,leB] at h
 | f::r,[],_,h=>by simp[vtSame] at h
 | f::r,e::es,he,h=>by
  have hle:(leB 2 e)=[UInt8.ofNat e,UInt8.ofNat (e / 256)]:=rfl;rw[List.flatMap_cons,hle] at h;simp only[List.cons_append,List.nil_append,vtSame,Bool.and_eq_true] at h;obtain⟨h1,h2⟩:=h;obtain⟨i1,i2⟩:=vtSame_flat o r es (λx hx=>he x (by simp[hx])) h2;have hee:(UInt8.ofNat e).toNat+256*(UInt8.ofNat (e / 256)).toNat=e:=by
   have:=he e (by simp)
   rw[UInt8.toNat_ofNat',UInt8.toNat_ofNat'];omega
  rw[hee] at h1;refine⟨by rw[List.length_cons,List.length_cons,i1],λi h h'=>?_⟩;cases i with
  | zero=>exact h1
  | succ i=>exact i2 i (by simpa using h) (by simpa using h')
theorem vtBytes_of{m:BM}{v:Nat}{es:List Nat}{W:Nat}(h:BytesAt m.bytes v (leB 2 (2*es.length+4)++(leB 2 W++es.flatMap (leB 2))))(h60:es.length<=60):vtBytes m v=es.flatMap (leB 2):=by
 have h0:vtLen m v=2*es.length+4:=by
  have:=h.left.at2 (leB_length _ _)
  rw[le_leB] at this;unfold at2 at this;unfold vtLen;omega
 have hl:(leB 2 (2*es.length+4)++(leB 2 W++es.flatMap (leB 2))).length=2*es.length+4:=by
  simp only[List.length_append,leB_length,flat2_length];omega
 unfold vtBytes;rw[h0,<-hl,h.eq,<-List.append_assoc];exact List.drop_left' (by rw[List.length_append,leB_length,leB_length])
theorem vtFlds_flat(o:Nat)(t:List Nat)(h:∀f∈t,f<=o):vtFlds o t=(t.map λf=>if f=0 then 0 else o-f).flatMap (leB 2):=by
 unfold vtFlds;induction t with
 | nil=>rfl
 | cons f r ih =>
  rw[List.flatMap_cons,List.map_cons,List.flatMap_cons,ih (λx hx=>h x (by simp[hx]))];congr 1
  have:=h f (by simp)
  split
  ·exact leI_nat 2 0
  ·rw[<-leI_nat];congr 1;omega
theorem end_laid{st0 st:BSt}{ss:List (Slt Val)}{l:List Nat}(h:FI st0 st ss.length ss.length ss l)(hp:PI st0)(hl60:ss.length<=60)(hb0:st0.m.bytes.length<1600000):∃o st',st.endObj=some (o,st')/\st'.nested=false/\PI st'/\Put st0 st'/\0<o/\o<=st'.m.bytes.length/\TabHead true st'.m.bytes o/\LSlots true st'.m.bytes ss 0 o:=by
 obtain⟨k,hk⟩:=trimZ_split l;obtain⟨t,ht⟩:=exA (trimZ l);rw[<-ht] at hk;have htl:t.length+k=ss.length:=by
  have:=congrArg List.length hk
  rw[List.length_append,List.length_replicate,h.len] at this;omega
 have hgr:=h.grow;obtain⟨ys,hy⟩:=h.bytes;have hyl:st.m.bytes.length=ys.length+st0.m.bytes.length:=by rw[hy,List.length_append]
 obtain⟨hv1,hv2⟩:=vt1_len st;have hpd:padB st.m.bytes.length 4<=3:=by
  unfold padB;omega
 have hvt:trimZ (st.vtab.getD [])=t:=by rw[h.vtab,ht];rfl
 have hcell:∀j (hj:j<ss.length) (hl:j<l.length),if present ss[j] then st0.m.bytes.length<l[j]/\l[j]<=st.m.bytes.length/\LVal true st.m.bytes ss[j].val l[j] else l[j]=0:=λj hj hl=>h.some j hj hl hj;have htle:∀f∈t,f<=st.m.bytes.length:=by
  intro f hf;obtain⟨j,hj,rfl⟩:=List.getElem_of_mem hf;have hjl:j<l.length:=by rw[h.len];omega
  have e:l[j]=t[j]:=by subst hk;rw[List.getElem_append_left hj]
  have:=hcell j (by omega) hjl
  rw[e] at this;split at this
  ·omega
  ·omega
 have htgt:∀f∈t,f≠0->st0.m.bytes.length<f:=by
  intro f hf h0;obtain⟨j,hj,rfl⟩:=List.getElem_of_mem hf;have hjl:j<l.length:=by rw[h.len];omega
  have e:l[j]=t[j]:=by subst hk;rw[List.getElem_append_left hj]
  have:=hcell j (by omega) hjl
  rw[e] at this;split at this
  ·omega
  ·omega
 cases hfd:vtFind st.vt1 st.vt1.bytes.length (trimZ (st.vtab.getD [])) st.vts with
 | none =>
  obtain⟨st',o,ho,e,g1,g2,g3,g4,g5,g6,g7,g8⟩:=endObj_fresh st h.nested hfd;rw[hvt] at g5 g6 g7;rw[h.oend] at g6;have hfl:=vtFlds_flat o t (λf hf=>by have:=htle f hf;omega);obtain⟨E,hE⟩:=exA (t.map λf=>if f=0 then 0 else o-f);have hEl:E.length=t.length:=by rw[hE,List.length_map]
  obtain⟨W,hW⟩:=exA (o-st0.m.bytes.length);have hWi:(o:Int)-(st0.m.bytes.length:Nat)=(W:Nat):=by omega
  rw[hfl,<-hE,hWi,leI_nat,leI_nat,<-hEl] at g6;rw[<-hEl] at g5 g7;have heW:∀e∈E,e<W:=by
   intro e he;rw[hE] at he;obtain⟨f,hf,rfl⟩:=List.mem_map.1 he;split
   ·omega
   ·have:=htgt f hf (by assumption);omega
  have hob:=objBytes_length st ((2*E.length+4:Nat):Int);have hbv:BytesAt st'.m.bytes (2*E.length+4+o) (leB 2 (2*E.length+4)++(leB 2 W++E.flatMap (leB 2))):=by
   rw[<-g7];exact BytesAt.front (rest:=objBytes st ((2*E.length+4:Nat):Int)) (by rw[g6];simp only[List.append_assoc])
  have hbo:BytesAt st'.m.bytes o (leB 4 (2*E.length+4)):=by
   have:BytesAt (objBytes st ((2*E.length+4:Nat):Int)) (objBytes st ((2*E.length+4:Nat):Int)).length (leB 4 (2*E.length+4)) :=
    BytesAt.front (by unfold objBytes;rw[leI_nat])
   rw[hob,<-ho] at this;rw[g6,<-List.append_assoc,<-List.append_assoc];exact this.app _
  have ha4:at4 st'.m.bytes o=2*E.length+4:=by rw[hbo.at4 (leB_length _ _),le_leB];omega
  have hbs:∃zs,st'.m.bytes=zs++st.m.bytes:=by
   rw[g6];unfold objBytes;exact⟨leB 2 (2*E.length+4)++(leB 2 W++(E.flatMap (leB 2)++(leI 4 ((2*E.length+4:Nat):Int)++List.replicate (padB st.m.bytes.length 4) 0))),by simp only[List.append_assoc]⟩
  obtain⟨zs,hz⟩:=hbs;have hput:Put st0 st':=⟨⟨zs++ys,by rw[hz,hy,List.append_assoc]⟩,by rw[g2,h.fin]⟩;have hE60:E.length<=60:=by omega
  have htab:=tab_of (B:=st'.m.bytes) (o:=o) (v:=2*E.length+4+o) (W:=W) (E:=E) (ss:=ss) (l:=l) (t:=t) (k:=k) (by omega) (by omega) (by omega) (.inl (by rw[ha4];omega)) (by unfold vtOf;rw[ha4,if_pos (by omega)];omega) hbv hEl hE60
   (λi h1 h2=>by simp only[hE,List.getElem_map]) (by omega) (by omega) (by omega) heW (by omega) hk (by rw[h.len]) st.m.bytes.length (by omega) (λj hj hl=>by
    have:=hcell j hj hl
    split
    ·rename_i hpj
     rw[if_pos hpj] at this;refine⟨by omega,this.2.1,?_⟩;have h3:=LVal_app true _ zs _ _ this.2.2;rw[<-hz] at h3;exact h3
    ·rename_i hpj
     rw[if_neg hpj] at this;exact this)
  refine⟨o,st',e,g1,⟨λv hv=>?_,?_,?_⟩,hput,by omega,by omega,htab.1,htab.2⟩
  ·rw[g5,h.vts] at hv;rcases List.mem_append.1 hv with hv|hv
   ·obtain⟨xs,hx⟩:=hput.bytes;rw[hx];exact (hp.vt v hv).app xs
   ·rw[List.mem_singleton.1 hv];exact⟨E,W,hbv,hE60,by omega,by omega,by omega,heW,by omega⟩
  ·rw[g4,h.shared];exact hp.shm
  ·intro u hu;rw[g4,h.shared] at hu ⊢;obtain⟨xs,hx⟩:=hput.bytes;obtain⟨a1,a2⟩:=hp.sh u hu;rw[hx];exact⟨a1.app xs,a2⟩
 | some v =>
  obtain⟨st',o,ho,e,g1,g2,g3,g4,g5,g6,g7,g8⟩:=endObj_found st v h.nested hfd;have hvm:v∈st.vts:=by
   unfold vtFind at hfd;exact List.mem_reverse.1 (List.mem_of_find?_eq_some hfd)
  have hvs:vtSame st.vt1.bytes.length t (vtBytes st.vt1 v)=true:=by
   unfold vtFind at hfd;have:=List.find?_some hfd
   rwa [hvt] at this
  rw[h.vts] at hvm;obtain⟨E,W,hb,hE60,hW4,hWv,hW,heW,hv2'⟩:=(hp.vt v hvm).ok;have hvl:=hb.len;obtain⟨us,hu1⟩:∃us,st.vt1.bytes=us++st0.m.bytes:=by
   rw[vt1_bytes_eq,hy];exact⟨leB 4 ((st.m.prep 4 0).bytes.length+4)++(List.replicate (padB (ys++st0.m.bytes).length 4) 0++ys),by simp only[List.append_assoc]⟩
  have hvb:vtBytes st.vt1 v=E.flatMap (leB 2):=vtBytes_of (m:=st.vt1) (by rw[hu1];exact hb.app us) hE60;rw[hvb,<-ho] at hvs;obtain⟨hEl,hEe⟩:=vtSame_flat o t E (λe he=>by have:=heW e he;omega) hvs;have hbs:∃zs,st'.m.bytes=zs++st.m.bytes:=by
   rw[g6];unfold objBytes;exact⟨leI 4 ((v:Int)-o)++List.replicate (padB st.m.bytes.length 4) 0,by simp only[List.append_assoc]⟩
  obtain⟨zs,hz⟩:=hbs;have hput:Put st0 st':=⟨⟨zs++ys,by rw[hz,hy,List.append_assoc]⟩,by rw[g2,h.fin]⟩;obtain⟨xs,hx⟩:=hput.bytes;have hsg:leI 4 ((v:Int)-o)=leB 4 (2^32-(o-v)):=by
   rw[<-leI_nat];exact leI_congr 4 (by omega)
  have hbo:BytesAt st'.m.bytes o (leB 4 (2^32-(o-v))):=by
   have h3:BytesAt st'.m.bytes st'.m.bytes.length (leB 4 (2^32-(o-v))):=BytesAt.front (rest:=List.replicate (padB st.m.bytes.length 4) 0++st.m.bytes) (by rw[g6];unfold objBytes;rw[hsg]);rw[g7] at h3;exact h3
  have ha4:at4 st'.m.bytes o=2^32-(o-v):=by rw[hbo.at4 (leB_length _ _),le_leB];omega
  have htab:=tab_of (B:=st'.m.bytes) (o:=o) (v:=v) (W:=W) (E:=E) (ss:=ss) (l:=l) (t:=t) (k:=k) (by omega) (by omega) (by omega) (.inr (by rw[ha4];omega)) (by unfold vtOf;rw[ha4,if_neg (by omega)];omega) (by rw[hx];exact hb.app xs) hEl hE60
   (λi h1 h2=>by
    have:=hEe i h1 h2
    have hlt:=heW E[i] (List.getElem_mem h1);unfold vtEnt at this;simp only[Bool.or_eq_true,Bool.and_eq_true,decide_eq_true_eq] at this;have hti:=htle t[i] (List.getElem_mem h2);split
    ·rcases this with ⟨a,b⟩|a
     ·exact a
     ·omega
    ·omega) hW4 (by omega) hW heW hv2' hk (by rw[h.len]) st.m.bytes.length (by omega) (λj hj hl=>by
    have:=hcell j hj hl
    split
    ·rename_i hpj
     rw[if_pos hpj] at this;refine⟨by omega,this.2.1,?_⟩;have h3:=LVal_app true _ zs _ _ this.2.2;rw[<-hz] at h3;exact h3
    ·rename_i hpj
     rw[if_neg hpj] at this;exact this)
  refine⟨o,st',e,g1,⟨λv hv=>?_,?_,?_⟩,hput,by omega,by omega,htab.1,htab.2⟩
  ·rw[g5,h.vts] at hv;rw[hx];exact (hp.vt v hv).app xs
  ·rw[g4,h.shared];exact hp.shm
  ·intro u hu;rw[g4,h.shared] at hu ⊢;obtain⟨a1,a2⟩:=hp.sh u hu;rw[hx];exact⟨a1.app xs,a2⟩
end Go.Proofs.YtcfblkkpclfmaaaGreat
