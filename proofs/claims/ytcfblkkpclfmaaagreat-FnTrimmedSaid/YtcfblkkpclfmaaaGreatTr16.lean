/- Part 16 of the proof of FnTrimmed (StInv, PlainB, Obj, VBuild, Lay). No condition is laid on the statement. -/
import Derived.Test.YtcfblkkpclfmaaaGreatTr14
import Derived.Test.YtcfblkkpclfmaaaGreatTr15
import Derived.OpenShut
import Derived.Test.YtcfblkkpclfmaaaGreatTr01
set_option linter.unusedVariables false
set_option linter.unusedSimpArgs false
namespace Go.Proofs.YtcfblkkpclfmaaaGreat
open Go.RowKit
/-- Bytes that are put in front. -/
structure Grow (m m':BM) (k:Nat):Prop where
 bytes:∃ xs,m'.bytes=xs ++ m.bytes∧xs.length≤k
 least:algn m.least→algn m'.least
theorem Grow.refl (m:BM):Grow m m 0:=⟨⟨[],rfl,Nat.le_refl _⟩,id⟩
theorem Grow.trans {a b c:BM} {k j:Nat} (h:Grow a b k) (g:Grow b c j):Grow a c (k+j):=by
 obtain ⟨⟨xs,h1,h2⟩,h3⟩:=h
 obtain ⟨⟨ys,g1,g2⟩,g3⟩:=g
 exact ⟨⟨ys ++ xs,by rw [g1,h1,List.append_assoc],by rw [List.length_append];omega⟩,fun x=>g3 (h3 x)⟩
theorem Grow.mono {a b:BM} {k j:Nat} (h:Grow a b k) (hj:k≤j):Grow a b j:=by
 obtain ⟨⟨xs,h1,h2⟩,h3⟩:=h
 exact ⟨⟨xs,h1,by omega⟩,h3⟩
theorem Grow.prep (m:BM) (size add:Nat) (hs:algn size):Grow m (m.prep size add) 16:=by
 refine ⟨⟨List.replicate (m.pad size add) 0,rfl,?_⟩,fun h=>?_⟩
 ·have:=m.pad_lt size add hs
  have:=algn_le hs
  simp;omega
 ·show algn (max m.least size)
  rcases Nat.le_total m.least size with h1 | h1
  ·rw [Nat.max_eq_right h1];exact hs
  ·rw [Nat.max_eq_left h1];exact h
theorem Grow.put (m:BM) (xs:List UInt8):Grow m (m.put xs) xs.length:=⟨⟨xs,rfl,Nat.le_refl _⟩,id⟩
theorem Grow.len {m m':BM} {k:Nat} (h:Grow m m' k):m.bytes.length≤m'.bytes.length∧m'.bytes.length≤m.bytes.length+k:=by
 obtain ⟨⟨xs,h1,h2⟩,_⟩:=h
 rw [h1,List.length_append];omega
theorem Grow.prepPut (m:BM) (size:Nat) (xs:List UInt8) (hs:algn size) (hx:xs.length≤16):Grow m ((m.prep size 0).put xs) 40:=((Grow.prep m size 0 hs).trans (Grow.put _ xs)).mono (by omega)
theorem Grow.text (m:BM) (xs:List UInt8) (z:Bool):Grow m (m.text xs z) (xs.length+21):=by
 cases z with
 | true =>
  exact ((((Grow.prep m 4 (xs.length+1) (by unfold algn;omega)).trans (Grow.put _ [0])).trans (Grow.put _ xs)).trans (Grow.put _ (leB 4 xs.length))).mono (by simp [leB_length];omega)
 | false =>
  exact (((Grow.prep m 4 xs.length (by unfold algn;omega)).trans (Grow.put _ xs)).trans (Grow.put _ (leB 4 xs.length))).mono (by simp [leB_length];omega)
theorem Grow.refer {m m':BM} {off:Nat} (h:m.refer off=some m'):Grow m m' 40:=by
 unfold BM.refer at h
 split at h
 ·injection h with h;rw [← h];exact Grow.prepPut m 4 _ (by unfold algn;omega) (by rw [leB_length];omega)
 ·cases h
theorem Grow.vtPut (o:Nat):∀ (l:List Nat) (m:BM),Grow m (vtPut o l m) (4*l.length)
 | [],m=>Grow.refl m
 | f :: l,m=>by
  rw [vtPut_cons]
  have h1:=Grow.vtPut o l m
  have h2:Grow (Proofs.YtcfblkkpclfmaaaGreat.vtPut o l m) (((Proofs.YtcfblkkpclfmaaaGreat.vtPut o l m).prep 2 0).put (leI 2 (if f=0 then 0 else (o:Int)-(f:Int)))) 4:=by
   refine ⟨⟨leI 2 (if f=0 then 0 else (o:Int)-(f:Int)) ++ List.replicate ((Proofs.YtcfblkkpclfmaaaGreat.vtPut o l m).pad 2 0) 0,?_,?_⟩,(Grow.prep _ 2 0 (by unfold algn;omega)).least⟩
   ·show _ ++ (_ ++ _)=_
    rw [List.append_assoc]
   ·have:=(Proofs.YtcfblkkpclfmaaaGreat.vtPut o l m).pad_lt 2 0 (by unfold algn;omega)
    simp [leI_length];omega
  exact (h1.trans h2).mono (by simp;omega)
theorem over_app (m:BM) (ys a rest xs:List UInt8) (o:Nat) (h:m.bytes=ys ++ (a ++ rest)) (ho:o=a.length+rest.length) (hx:xs.length=a.length):(m.over o xs).bytes=ys ++ (xs ++ rest):=by
 show m.bytes.take (m.bytes.length-o) ++ xs ++ m.bytes.drop (m.bytes.length-o+xs.length)=_
 have hl:m.bytes.length-o=ys.length:=by rw [h];simp only [List.length_append];omega
 rw [hl,h,List.take_left,hx,List.append_assoc,← List.append_assoc ys a rest,show ys.length+a.length=(ys ++ a).length by simp,List.drop_left]
/-- The bytes behind PrependSOffsetT. -/
theorem BSt.vt1_split (st:BSt):∃ a zs,st.vt1.bytes=a ++ (zs ++ st.m.bytes)∧a.length=4∧zs.length≤3:=by
 refine ⟨leB 4 ((st.m.prep 4 0).bytes.length+4),List.replicate (st.m.pad 4 0) 0,rfl,leB_length _ _,?_⟩
 have:=st.m.pad_lt 4 0 (by unfold algn;omega)
 simp;omega
theorem Grow.vt1 (st:BSt):Grow st.m st.vt1 20:=((Grow.prep st.m 4 0 (by unfold algn;omega)).trans (Grow.put _ _)).mono (by rw [leB_length];omega)
theorem Grow.over {m0 m1 m:BM} {ys a zs xs:List UInt8} {k:Nat} (h1:m1.bytes=a ++ (zs ++ m0.bytes)) (h:m.bytes=ys ++ m1.bytes) (hx:xs.length=a.length) (hk:ys.length+a.length+zs.length≤k) (hl:algn m0.least→algn m.least):Grow m0 (m.over m1.bytes.length xs) k:=by
 refine ⟨⟨ys ++ (xs ++ zs),?_,by simp only [List.length_append];omega⟩,hl⟩
 rw [over_app m ys a (zs ++ m0.bytes) xs _ (by rw [h,h1]) (by rw [h1];simp) hx]
 simp [List.append_assoc]
theorem Grow.vt4 (st:BSt) (l:List Nat):Grow st.vt1 (st.vt4 l) (4*l.length+80):=by
 unfold BSt.vt4
 exact (((Grow.vtPut _ l st.vt1).trans (Grow.prepPut _ 2 _ (by unfold algn;omega) (by rw [leI_length];omega))).trans (Grow.prepPut _ 2 _ (by unfold algn;omega) (by rw [leI_length];omega))).mono (by omega)
/-- What a Builder's state is behind some steps. -/
structure StInv (st:BSt) (i:Nat):Prop where
 inv:BInv st
 least:algn st.m.least
 many:st.vts.length≤i
 sh:Maps.size (st.shared.getD (.map []))≤i
 len:st.m.bytes.length≤5000*i
theorem StInv.start (n:Nat):StInv (st0 n) 0:=⟨⟨fun v hv=>by simp [st0] at hv,fun l hl=>by simp [st0] at hl,by simp [st0],by simp [st0]⟩,by unfold algn;simp [st0],by simp [st0],by simp [st0,Maps.size],by simp [st0]⟩
/-- The bytes grow, all else stays but what is named. -/
theorem StInv.grow {st st':BSt} {i k:Nat} (h:StInv st i) (g:Grow st.m st'.m k) (hk:k≤5000) (hv:∀ l,st'.vtab=some l→l.length≤1000∧∀ x∈l,x≤st'.m.bytes.length) (hvs:st'.vts=st.vts) (hoe:st'.oend≤st'.m.bytes.length) (hsh:Maps.size (st'.shared.getD (.map []))≤i+1):StInv st' (i+1):=by
 obtain ⟨xs,hx,hxl⟩:=g.bytes
 have hl:=g.len
 refine ⟨⟨fun v hvm=>?_,hv,hoe,by rw [hvs];exact h.inv.many⟩,g.least h.least,by rw [hvs];have:=h.many;omega,hsh,by have:=h.len;omega⟩
 rw [hvs] at hvm
 have:=h.inv.vts v hvm
 rw [vtLen_app hx v this.1]
 omega
theorem StInv.bytes {st:BSt} {m':BM} {i k:Nat} (h:StInv st i) (g:Grow st.m m' k) (hk:k≤5000):StInv { st with m:=m' } (i+1):=by
 have hl:=g.len
 refine h.grow (st':={ st with m:=m' }) g hk (fun l hl'=>?_) rfl (by have:=h.inv.oend;show st.oend≤m'.bytes.length;omega) (by have:=h.sh;show Maps.size (st.shared.getD _)≤_;omega)
 have:=h.inv.vtab l hl'
 exact ⟨this.1,fun x hx=>by have:=this.2 x hx;show x≤m'.bytes.length;omega⟩
theorem StInv.up {st:BSt} {i:Nat} (h:StInv st i):StInv st (i+1):=h.bytes (m':=st.m) (Grow.refl _) (by omega)
theorem numSize_algn {k:Int} (h0:0≤k) (h1:k≤10):algn (numSize k):=by
 have:k=0∨k=1∨k=2∨k=3∨k=4∨k=5∨k=6∨k=7∨k=8∨k=9∨k=10:=by omega
 unfold algn
 rcases this with rfl | rfl | rfl | rfl | rfl | rfl | rfl | rfl | rfl | rfl | rfl <;> simp [numSize]
theorem Grow.scalar (m:BM) {k:Int} (n:Nat) (h0:0≤k) (h1:k≤10):Grow m ((m.prep (numSize k) 0).put (numB k n)) 40 :=
 Grow.prepPut m _ _ (numSize_algn h0 h1) (by rw [numB_length];have:=numSize_le k;omega)
theorem StInv.same {st st':BSt} {i:Nat} (h:StInv st i) (hm:st'.m=st.m) (hv:st'.vtab=st.vtab) (ho:st'.oend=st.oend) (hvs:st'.vts=st.vts) (hs:st'.shared=st.shared):StInv st' i:=by
 obtain ⟨⟨a,b,c,d⟩,e,f,g,l⟩:=h
 exact ⟨⟨by rw [hvs,hm];exact a,by rw [hv,hm];exact b,by rw [ho,hm];exact c,by rw [hvs];exact d⟩,by rw [hm];exact e,by rw [hvs];exact f,by rw [hs];exact g,by rw [hm];exact l⟩
theorem StInv.created {st st':BSt} {xs:List UInt8} {z:Bool} {n i:Nat} (h:StInv st i) (hx:xs.length≤1000) (e:st.created xs z=some (n,st')):StInv st' (i+1):=by
 cases hn:st.nested with
 | true=>rw [created_none _ _ _ hn] at e;cases e
 | false =>
  rw [created_eq _ _ _ hn] at e
  injection e with e
  injection e with _ e
  subst e
  exact (h.bytes (Grow.text st.m xs z) (by omega)).same rfl rfl rfl rfl rfl
theorem trimZ_le (l:List Nat):(trimZ l).length≤l.length:=by
 unfold trimZ
 rw [List.length_reverse]
 have:=List.length_filter_le (fun _:Nat=>true) l.reverse
 have h:=List.dropWhile_suffix (p:=fun x:Nat=>x == 0) (l:=l.reverse)
 have:=h.length_le
 simpa using this
theorem BSt.vt4_front (st:BSt) (l:List Nat):∃ ys,(st.vt4 l).bytes=leI 2 (((l.length+2)*2:Nat):Int) ++ ys:=⟨_,rfl⟩
theorem vt4_len (st:BSt) (l:List Nat):st.vt1.bytes.length+4≤(st.vt4 l).bytes.length∧st.vt1.bytes.length+2*l.length+4≤(st.vt4 l).bytes.length:=by
 have h3:∀ (l:List Nat) (m:BM),m.bytes.length+2*l.length≤(vtPut st.vt1.bytes.length l m).bytes.length:=by
  intro l
  induction l with
  | nil=>intro m;simp [vtPut]
  | cons f l ih =>
   intro m
   rw [vtPut_cons,List.length_cons]
   have:=ih m
   have:=BM.step2_len (vtPut st.vt1.bytes.length l m) (leI 2 (if f=0 then 0 else (st.vt1.bytes.length:Int)-(f:Int))) (leI_length _ _)
   omega
 have h0:=h3 l st.vt1
 have h1:=BM.step2_len (vtPut st.vt1.bytes.length l st.vt1) (leI 2 ((st.vt1.bytes.length:Int)-st.oend)) (leI_length _ _)
 have h2:=BM.step2_len (((vtPut st.vt1.bytes.length l st.vt1).prep 2 0).put (leI 2 ((st.vt1.bytes.length:Int)-st.oend))) (leI 2 (((l.length+2)*2:Nat):Int)) (leI_length _ _)
 unfold BSt.vt4
 omega
/-- What WriteVtable leaves of the bytes. -/
theorem writeVt_grow (st:BSt) (l0:List Nat) (hl:st.vtab.getD []=l0) (hl2:l0.length≤1000):Grow st.m st.writeVt.m 4200:=by
 have ht:=trimZ_le l0
 obtain ⟨a,zs,h1,h2,h3⟩:=st.vt1_split
 have g1:=Grow.vt1 st
 unfold BSt.writeVt
 rw [hl]
 cases vtFind st.vt1 st.vt1.bytes.length (trimZ l0) st.vts with
 | some v=>exact Grow.over (ys:=[]) h1 (by simp) (by rw [leI_length,h2]) (by simp;omega) g1.least
 | none =>
  have g4:=Grow.vt4 st (trimZ l0)
  obtain ⟨ys,h5,h6⟩:=g4.bytes
  exact Grow.over (ys:=ys) h1 h5 (by rw [leI_length,h2]) (by omega) (fun x=>g4.least (g1.least x))
theorem leI2_front (n:Nat) (ys:List UInt8) (h:n<65536):le ((leI 2 (n:Int) ++ ys).take 2)=n:=by
 rw [leI_nat]
 have:(leB 2 n ++ ys).take 2=leB 2 n:=by
  have h2:(leB 2 n).length=2:=leB_length 2 n
  rw [List.take_append_of_le_length (by omega),List.take_of_length_le (by omega)]
 rw [this,le_leB]
 exact Nat.mod_eq_of_lt (by omega)
theorem StInv.writeVt {st:BSt} {i:Nat} (h:StInv st i) (hi:i≤300):StInv { st.writeVt with nested:=false } (i+1):=by
 obtain ⟨l0,hl0⟩:∃ l0,l0=st.vtab.getD []:=⟨_,rfl⟩
 have hl2:l0.length≤1000:=by
  rw [hl0]
  cases hv:st.vtab with
  | none=>simp
  | some l=>exact (h.inv.vtab l hv).1
 have g:=writeVt_grow st l0 hl0.symm hl2
 have ht:=trimZ_le l0
 have hvt:∀ l,(st.vtab.map fun _=>([]:List Nat))=some l→l=[]:=by
  intro l e
  cases hv:st.vtab with
  | none=>rw [hv] at e;cases e
  | some l'=>rw [hv] at e;injection e with e;exact e.symm
 have hgl:=g.len
 have hoe:=h.inv.oend
 have hsh:st.writeVt.shared=st.shared:=by unfold BSt.writeVt;split <;> rfl
 have hoo:st.writeVt.oend=st.oend:=by unfold BSt.writeVt;split <;> rfl
 have hvv:st.writeVt.vtab=st.vtab.map fun _=>[]:=by unfold BSt.writeVt;split <;> rfl
 cases hf:vtFind st.vt1 st.vt1.bytes.length (trimZ (st.vtab.getD [])) st.vts with
 | some v =>
  have hvs:st.writeVt.vts=st.vts:=by unfold BSt.writeVt;rw [hf]
  exact h.grow (st':={ st.writeVt with nested:=false }) g (by omega) (fun l hl=>by
   have hl:st.writeVt.vtab=some l:=hl
   rw [hvv] at hl;rw [hvt l hl];simp) hvs (by show st.writeVt.oend≤_;rw [hoo];show _≤st.writeVt.m.bytes.length;omega) (by show Maps.size (st.writeVt.shared.getD _)≤_;rw [hsh];have:=h.sh;omega)
 | none =>
  rw [← hl0] at hf
  obtain ⟨m4,hm4⟩:∃ m4,m4=st.vt4 (trimZ l0):=⟨_,rfl⟩
  have hw:st.writeVt={ st with m:=m4.over st.vt1.bytes.length (leI 4 ((m4.bytes.length:Int)-st.vt1.bytes.length)),vtab:=st.vtab.map (fun _=>[]),vts:=st.vts ++ [m4.bytes.length] }:=by
   unfold BSt.writeVt;rw [← hl0,hf,hm4]
  have h4:=vt4_len st (trimZ l0)
  rw [← hm4] at h4
  have hol:=BM.over_len m4 st.vt1.bytes.length (leI 4 ((m4.bytes.length:Int)-st.vt1.bytes.length)) (by rw [leI_length];obtain ⟨a,zs,h1,h2,h3⟩:=st.vt1_split;rw [h1];simp only [List.length_append];omega) (by omega)
  have hfr:∃ ys,(m4.over st.vt1.bytes.length (leI 4 ((m4.bytes.length:Int)-st.vt1.bytes.length))).bytes=leI 2 ((((trimZ l0).length+2)*2:Nat):Int) ++ ys:=by
   obtain ⟨ys,hys⟩:=BSt.vt4_front st (trimZ l0)
   rw [← hm4] at hys
   have hyl:2≤m4.bytes.length-st.vt1.bytes.length:=by omega
   refine ⟨ys.take (m4.bytes.length-st.vt1.bytes.length-2) ++ leI 4 ((m4.bytes.length:Int)-st.vt1.bytes.length) ++ m4.bytes.drop (m4.bytes.length-st.vt1.bytes.length+(leI 4 ((m4.bytes.length:Int)-st.vt1.bytes.length)).length),?_⟩
   show m4.bytes.take (m4.bytes.length-st.vt1.bytes.length) ++ _ ++ _=_
   have e:m4.bytes.take (m4.bytes.length-st.vt1.bytes.length)=leI 2 ((((trimZ l0).length+2)*2:Nat):Int) ++ ys.take (m4.bytes.length-st.vt1.bytes.length-2):=by
    conv=>lhs;arg 2;rw [hys]
    rw [List.take_append,leI_length,List.take_of_length_le (by rw [leI_length];omega)]
   rw [e]
   simp only [List.append_assoc]
  rw [hw] at g hgl ⊢
  obtain ⟨xs,hx,hxl⟩:=g.bytes
  dsimp only at hx hgl
  refine ⟨⟨fun v hvm=>?_,fun l hl=>?_,?_,?_⟩,g.least h.least,?_,?_,?_⟩
  ·dsimp only at hvm ⊢
   rcases List.mem_append.1 hvm with hvm | hvm
   ·have:=h.inv.vts v hvm
    rw [vtLen_app hx v this.1]
    omega
   ·simp only [List.mem_singleton] at hvm
    subst hvm
    have hlen:vtLen (m4.over st.vt1.bytes.length (leI 4 ((m4.bytes.length:Int)-st.vt1.bytes.length))) m4.bytes.length=((trimZ l0).length+2)*2:=by
     unfold vtLen fromEnd
     rw [hol,Nat.sub_self,List.drop_zero]
     obtain ⟨ys,hys⟩:=hfr
     rw [hys]
     exact leI2_front _ ys (by omega)
    rw [hlen,hol]
    omega
  ·dsimp only at hl ⊢
   rw [hvt l hl];simp
  ·dsimp only;omega
  ·dsimp only;rw [List.length_append,List.length_singleton];have:=h.many;omega
  ·dsimp only;rw [List.length_append,List.length_singleton];have:=h.many;omega
  ·dsimp only;have:=h.sh;omega
  ·dsimp only;have:=h.len;omega
theorem put_size (D:DataW Unit) (k:Lit) (d:DataW Unit):Maps.size (D.put k d)≤Maps.size D+1:=by
 cases D with
 | map es =>
  rw [DataW.put_eq]
  unfold ChangeMaps.putKey
  simp only [Maps.size]
  rw [length_insert]
  have:=List.length_filter_le (ChangeMaps.notKey k) es
  omega
 | _=>simp [DataW.put,Maps.size]
end Go.Proofs.YtcfblkkpclfmaaaGreat
namespace Go.Proofs.YtcfblkkpclfmaaaGreat
open Go.RowKit
theorem padB_mod (u s:Nat) (hs:algn s):(padB u s+u) % s=0:=by
 unfold padB;unfold algn at hs
 rcases hs with rfl | rfl | rfl | rfl | rfl <;> omega
theorem prep_mod (m:BM) (size add:Nat) (hs:algn size):((m.prep size add).bytes.length+add) % size=0:=by
 rw [m.prep_len size add hs]
 have:=padB_mod (m.bytes.length+add) size hs
 unfold BM.pad
 rw [Nat.add_assoc];exact this
theorem prep_bytes (m:BM) (size add:Nat):(m.prep size add).bytes=List.replicate (m.pad size add) 0 ++ m.bytes:=rfl
theorem prep_id (m:BM) (size add:Nat) (hs:algn size) (h:(m.bytes.length+add) % size=0):(m.prep size add).bytes=m.bytes:=by
 have e:m.pad size add=0:=by
  unfold BM.pad padB
  rw [h]
  unfold algn at hs
  rw [Nat.sub_zero,Nat.mod_self]
 rw [prep_bytes,e];rfl
/-- The bytes of a string. -/
theorem text_true (m:BM) (xs:List UInt8):∃ k,k<4∧(m.text xs true).bytes=leB 4 xs.length ++ (xs ++ (0 :: (List.replicate k 0 ++ m.bytes)))∧(m.text xs true).bytes.length % 4=0:=by
 have ha:algn 4:=by unfold algn;omega
 refine ⟨m.pad 4 (xs.length+1),m.pad_lt 4 _ ha,rfl,?_⟩
 have h:=prep_mod m 4 (xs.length+1) ha
 have e:(m.text xs true).bytes=leB 4 xs.length ++ (xs ++ ([0] ++ (m.prep 4 (xs.length+1)).bytes)):=rfl
 rw [e]
 simp only [List.length_append,leB_length,List.length_singleton]
 omega
theorem text_false (m:BM) (xs:List UInt8):∃ k,k<4∧(m.text xs false).bytes=leB 4 xs.length ++ (xs ++ (List.replicate k 0 ++ m.bytes))∧(m.text xs false).bytes.length % 4=0:=by
 have ha:algn 4:=by unfold algn;omega
 refine ⟨m.pad 4 xs.length,m.pad_lt 4 _ ha,rfl,?_⟩
 have h:=prep_mod m 4 xs.length ha
 have e:(m.text xs false).bytes=leB 4 xs.length ++ (xs ++ (m.prep 4 xs.length).bytes):=rfl
 rw [e]
 simp only [List.length_append,leB_length]
 omega
theorem run_str_at {D:ByteArray} {l:List UInt8} (hD:D=strOf l) (i:Nat) {x:UInt8} (h:l[i]?=some x) (w:World):(Instr.index 9 (.string D) (.int .i64 i)).run Tryz.prog w=.ok (.int .u8 (x.toNat:Int)) w:=by
 subst hD
 obtain ⟨hlt,hx⟩:=List.getElem?_eq_some_iff.1 h
 rw [run_index_string w 9 _ .i64 i Tryz.underlying9,dif_pos ⟨by omega,by rw [strOf_size];omega⟩,← hx]
 rfl
end Go.Proofs.YtcfblkkpclfmaaaGreat
namespace Go.Proofs.YtcfblkkpclfmaaaGreat
open Go.RowKit
/-- A vtable's fields as they are written. -/
def vtFlds (o:Nat) (l:List Nat):List UInt8:=l.flatMap fun f:Nat=>leI 2 (if f=0 then 0 else (o:Int)-(f:Int))
theorem vtFlds_length (o:Nat) (l:List Nat):(vtFlds o l).length=2*l.length:=by
 unfold vtFlds
 induction l with
 | nil=>rfl
 | cons f l ih=>rw [List.flatMap_cons,List.length_append,ih,leI_length,List.length_cons];omega
theorem prep_even (m:BM) (h:m.bytes.length % 2=0):(m.prep 2 0).bytes=m.bytes:=prep_id m 2 0 (by unfold algn;omega) (by omega)
theorem vtPut_bytes (o:Nat) (m:BM) (h:m.bytes.length % 2=0):∀ l:List Nat,(vtPut o l m).bytes=vtFlds o l ++ m.bytes
 | []=>rfl
 | f :: l=>by
  have ih:=vtPut_bytes o m h l
  rw [vtPut_cons]
  show leI 2 _ ++ ((vtPut o l m).prep 2 0).bytes=_
  rw [prep_even _ (by rw [ih,List.length_append,vtFlds_length];omega),ih]
  show _=(leI 2 _ ++ vtFlds o l) ++ m.bytes
  rw [List.append_assoc]
theorem vtPut_least (o:Nat) (m:BM) (h:2≤m.least):∀ (l:List Nat),(vtPut o l m).least=m.least
 | []=>rfl
 | f :: l=>by
  rw [vtPut_cons]
  show max (vtPut o l m).least 2=_
  rw [vtPut_least o m h l];omega
/-- Ahead of the vtable: the place of the offset to it. -/
theorem vt1_len (st:BSt):st.vt1.bytes.length=4+(padB st.m.bytes.length 4+st.m.bytes.length)∧st.vt1.bytes.length % 4=0:=by
 have ha:algn 4:=by unfold algn;omega
 have e:st.vt1.bytes.length=4+(st.m.prep 4 0).bytes.length:=by
  show (leB 4 _ ++ _).length=_
  rw [List.length_append,leB_length]
 have h:=prep_mod st.m 4 0 ha
 have e2:(st.m.prep 4 0).bytes.length=padB st.m.bytes.length 4+st.m.bytes.length:=st.m.prep_len 4 0 ha
 omega
theorem vt4_bytes (st:BSt) (t:List Nat):(st.vt4 t).bytes=leI 2 (((t.length+2)*2:Nat):Int) ++ (leI 2 ((st.vt1.bytes.length:Int)-st.oend) ++ (vtFlds st.vt1.bytes.length t ++ st.vt1.bytes)):=by
 obtain ⟨h1,h2⟩:=vt1_len st
 have hp:=vtPut_bytes st.vt1.bytes.length st.vt1 (by omega) t
 have hl:=vtFlds_length st.vt1.bytes.length t
 unfold BSt.vt4
 show leI 2 _ ++ (((vtPut st.vt1.bytes.length t st.vt1).prep 2 0).put (leI 2 ((st.vt1.bytes.length:Int)-st.oend)) |>.prep 2 0).bytes=_
 have e1:((vtPut st.vt1.bytes.length t st.vt1).prep 2 0).bytes=vtFlds st.vt1.bytes.length t ++ st.vt1.bytes:=by
  rw [prep_even _ (by rw [hp,List.length_append,hl];omega),hp]
 have e2:(((vtPut st.vt1.bytes.length t st.vt1).prep 2 0).put (leI 2 ((st.vt1.bytes.length:Int)-st.oend))).bytes=leI 2 ((st.vt1.bytes.length:Int)-st.oend) ++ (vtFlds st.vt1.bytes.length t ++ st.vt1.bytes):=by
  show leI 2 _ ++ ((vtPut st.vt1.bytes.length t st.vt1).prep 2 0).bytes=_
  rw [e1]
 rw [prep_even _ (by rw [e2];simp only [List.length_append,leI_length,hl];omega),e2]
/-- The bytes that an object ends with: the offset to its vtable, zeros, what it holds. -/
def objBytes (st:BSt) (soff:Int):List UInt8:=leI 4 soff ++ (List.replicate (padB st.m.bytes.length 4) 0 ++ st.m.bytes)
theorem objBytes_length (st:BSt) (soff:Int):(objBytes st soff).length=st.vt1.bytes.length:=by
 rw [(vt1_len st).1]
 unfold objBytes
 simp only [List.length_append,leI_length,List.length_replicate]
theorem vt1_bytes_eq (st:BSt):st.vt1.bytes=leB 4 ((st.m.prep 4 0).bytes.length+4) ++ (List.replicate (padB st.m.bytes.length 4) 0 ++ st.m.bytes):=rfl
/-- An object that is ended with a vtable of its own. -/
theorem endObj_fresh (st:BSt) (hn:st.nested=true) (hf:vtFind st.vt1 st.vt1.bytes.length (trimZ (st.vtab.getD [])) st.vts=none) :
  ∃ st' o,o=st.vt1.bytes.length∧st.endObj=some (o,st')∧st'.nested=false∧st'.fin=st.fin∧st'.m.least=max st.m.least 4∧st'.shared=st.shared∧st'.vts=st.vts ++ [2*(trimZ (st.vtab.getD [])).length+4+o] ∧
   st'.m.bytes=leI 2 (((2*(trimZ (st.vtab.getD [])).length+4:Nat):Int)) ++ (leI 2 ((o:Int)-st.oend) ++ (vtFlds o (trimZ (st.vtab.getD [])) ++ objBytes st ((2*(trimZ (st.vtab.getD [])).length+4:Nat):Int))) ∧
   st'.m.bytes.length=2*(trimZ (st.vtab.getD [])).length+4+o∧st'.vtab=st.vtab.map (fun _=>[]):=by
 obtain ⟨t,ht⟩:∃ t,t=trimZ (st.vtab.getD []):=⟨_,rfl⟩
 rw [← ht] at hf ⊢
 have hb:=vt4_bytes st t
 have hfl:=vtFlds_length st.vt1.bytes.length t
 have hl4:(st.vt4 t).bytes.length=2*t.length+4+st.vt1.bytes.length:=by
  rw [hb];simp only [List.length_append,leI_length,hfl];omega
 have hw:st.writeVt={ st with m:=(st.vt4 t).over st.vt1.bytes.length (leI 4 (((st.vt4 t).bytes.length:Int)-st.vt1.bytes.length)),vtab:=st.vtab.map (fun _=>[]),vts:=st.vts ++ [(st.vt4 t).bytes.length] }:=by
  unfold BSt.writeVt
  rw [← ht,hf]
 have hov:((st.vt4 t).over st.vt1.bytes.length (leI 4 (((st.vt4 t).bytes.length:Int)-st.vt1.bytes.length))).bytes=leI 2 (((2*t.length+4:Nat):Int)) ++ (leI 2 ((st.vt1.bytes.length:Int)-st.oend) ++ (vtFlds st.vt1.bytes.length t ++ objBytes st ((2*t.length+4:Nat):Int))):=by
  have e:=over_app (st.vt4 t) (leI 2 (((t.length+2)*2:Nat):Int) ++ (leI 2 ((st.vt1.bytes.length:Int)-st.oend) ++ vtFlds st.vt1.bytes.length t)) (leB 4 ((st.m.prep 4 0).bytes.length+4)) (List.replicate (padB st.m.bytes.length 4) 0 ++ st.m.bytes) (leI 4 (((st.vt4 t).bytes.length:Int)-st.vt1.bytes.length)) st.vt1.bytes.length
   (by rw [hb,vt1_bytes_eq];simp only [List.append_assoc]) (by rw [vt1_bytes_eq,List.length_append]) (by rw [leI_length,leB_length])
  rw [e,hl4,show (((2*t.length+4+st.vt1.bytes.length:Nat):Int)-st.vt1.bytes.length)=((2*t.length+4:Nat):Int) by omega,show (t.length+2)*2=2*t.length+4 by omega]
  unfold objBytes
  simp only [List.append_assoc]
 refine ⟨{ st.writeVt with nested:=false },_,rfl,?_,rfl,?_,?_,?_,?_,?_,?_,?_⟩
 ·unfold BSt.endObj
  rw [if_pos hn]
 ·rw [hw]
 ·rw [hw]
  show (st.vt4 t).least=_
  have h1:st.vt1.least=max st.m.least 4:=rfl
  show max (max (vtPut st.vt1.bytes.length t st.vt1).least 2) 2=_
  rw [vtPut_least _ _ (by omega),h1];omega
 ·rw [hw]
 ·rw [hw]
  show st.vts ++ [(st.vt4 t).bytes.length]=_
  rw [hl4]
 ·rw [hw];exact hov
 ·rw [hw]
  show ((st.vt4 t).over _ _).bytes.length=_
  rw [BM.over_len _ _ _ (by rw [leI_length];have:=vt1_len st;omega) (by omega),hl4]
 ·rw [hw]
/-- An object that is ended with a vtable that is there already. -/
theorem endObj_found (st:BSt) (v:Nat) (hn:st.nested=true) (hf:vtFind st.vt1 st.vt1.bytes.length (trimZ (st.vtab.getD [])) st.vts=some v) :
  ∃ st' o,o=st.vt1.bytes.length∧st.endObj=some (o,st')∧st'.nested=false∧st'.fin=st.fin∧st'.m.least=max st.m.least 4∧st'.shared=st.shared∧st'.vts=st.vts ∧
   st'.m.bytes=objBytes st ((v:Int)-o)∧st'.m.bytes.length=o∧st'.vtab=st.vtab.map (fun _=>[]):=by
 have hw:st.writeVt={ st with m:=st.vt1.over st.vt1.bytes.length (leI 4 ((v:Int)-st.vt1.bytes.length)),vtab:=st.vtab.map (fun _=>[]) }:=by
  unfold BSt.writeVt
  rw [hf]
 have hov:(st.vt1.over st.vt1.bytes.length (leI 4 ((v:Int)-st.vt1.bytes.length))).bytes=objBytes st ((v:Int)-st.vt1.bytes.length):=by
  have e:=over_app st.vt1 [] (leB 4 ((st.m.prep 4 0).bytes.length+4)) (List.replicate (padB st.m.bytes.length 4) 0 ++ st.m.bytes) (leI 4 ((v:Int)-st.vt1.bytes.length)) st.vt1.bytes.length
   (by rw [vt1_bytes_eq];rfl) (by rw [vt1_bytes_eq,List.length_append]) (by rw [leI_length,leB_length])
  rw [e];rfl
 refine ⟨{ st.writeVt with nested:=false },_,rfl,?_,rfl,?_,?_,?_,?_,?_,?_,?_⟩
 ·unfold BSt.endObj
  rw [if_pos hn]
 ·rw [hw]
 ·rw [hw];rfl
 ·rw [hw]
 ·rw [hw]
 ·rw [hw];exact hov
 ·rw [hw]
  show (st.vt1.over _ _).bytes.length=_
  rw [hov,objBytes_length]
 ·rw [hw]
end Go.Proofs.YtcfblkkpclfmaaaGreat
namespace Go.Proofs.YtcfblkkpclfmaaaGreat
open Go.RowKit
/-- Numbers put in front, the last one first. -/
def bNums (k:Nat) (ns:List Nat) (m:BM):BM:=ns.foldr (fun n m=>(m.prep (numSize k) 0).put (numB k n)) m
/-- Offsets put in front, the last one first. -/
def bOffs:List Nat→BSt→Option BSt
 | [],st=>some st
 | o :: r,st=>(bOffs r st).bind fun s=>s.refer o
/-- A vector of numbers. -/
def bScalars (k:Nat) (ns:List Nat) (st:BSt):Option (Nat × BSt) :=
 (st.startVec (numSize k) ns.length (numSize k)).bind fun p=>BSt.endVec { p.2 with m:=bNums k ns p.2.m } ns.length
/-- A vector of offsets. -/
def bVec (os:List Nat) (st:BSt):Option (Nat × BSt) :=
 (st.startVec 4 os.length 4).bind fun p=>(bOffs os p.2).bind fun s=>s.endVec os.length
/-- The fields of an object that is begun. -/
def bField (i:Nat) (s:Slt Val) (o:Nat) (st:BSt):Option BSt :=
 if s.has=false then some st
 else if s.val.kind≤10 then st.prepSlot (numSize s.val.kind) (numB s.val.kind s.val.num) i (sameNum s.val.kind s.val.num s.dflt)
 else if s.val.kind=17 then
  let st':BSt:={ st with m:=(st.m.prep s.val.elem s.val.text.length).put s.val.text }
  st'.structSlot i st'.m.bytes.length 0
 else st.offSlot i o 0
def bFields (i:Nat):List (Slt Val)→List Nat→BSt→Option BSt
 | s :: r,o :: os,st=>(bField i s o st).bind fun st'=>bFields (i+1) r os st'
 | _,_,st=>some st
mutual
/-- What stands elsewhere: its offset, and what is left. -/
def bElse (sh:Bool):Val→BSt→Option (Nat × BSt)
 | .mk k e n t ns ks ss,st =>
  if k=11 then (if sh then st.sharedStr t else st.created t true)
  else if k=12 then st.created t false
  else if k=13 then bScalars e ns st
  else if k=14 then (bTexts sh ks st).bind fun p=>bVec p.1 p.2
  else if k=16 then (bKids sh ks st).bind fun p=>bVec p.1 p.2
  else if k=15 then (bSlots sh ss st).bind fun p=>(p.2.startObj ss.length).bind fun st1=>(bFields 0 ss p.1 st1).bind fun st2=>st2.endObj
  else some (0,st)
termination_by structural v=>v
/-- The items of a vector of strings. -/
def bTexts (sh:Bool):List Val→BSt→Option (List Nat × BSt)
 | [],st=>some ([],st)
 | .mk k e n t ns ks ss :: r,st=>(if sh then st.sharedStr t else st.created t true).bind fun p=>(bTexts sh r p.2).map fun q=>(p.1 :: q.1,q.2)
termination_by structural v=>v
/-- The items of a vector of tables. -/
def bKids (sh:Bool):List Val→BSt→Option (List Nat × BSt)
 | [],st=>some ([],st)
 | v :: r,st=>(bTab sh v st).bind fun p=>(bKids sh r p.2).map fun q=>(p.1 :: q.1,q.2)
termination_by structural v=>v
/-- What the slots of a table hold elsewhere. -/
def bSlots (sh:Bool):List (Slt Val)→BSt→Option (List Nat × BSt)
 | [],st=>some ([],st)
 | s :: r,st=>(bSlot sh s st).bind fun p=>(bSlots sh r p.2).map fun q=>(p.1 :: q.1,q.2)
termination_by structural v=>v
def bSlot (sh:Bool):Slt Val→BSt→Option (Nat × BSt)
 | ⟨h,v,d⟩,st=>if h then bElse sh v st else some (0,st)
termination_by structural v=>v
/-- A table. -/
def bTab (sh:Bool):Val→BSt→Option (Nat × BSt)
 | .mk k e n t ns ks ss,st=>(bSlots sh ss st).bind fun p=>(p.2.startObj ss.length).bind fun st1=>(bFields 0 ss p.1 st1).bind fun st2=>st2.endObj
termination_by structural v=>v
end
/-- A buffer. -/
def bBuilt (sh:Bool) (id:List UInt8) (v:Val) (st:BSt):Option BSt :=
 (bTab sh v st).bind fun p=>if id=[] then p.2.finish p.1 else p.2.finishId p.1 id
theorem bTab_def (sh:Bool) (v:Val) (st:BSt):bTab sh v st=(bSlots sh v.slots st).bind fun p=>(p.2.startObj v.slots.length).bind fun st1=>(bFields 0 v.slots p.1 st1).bind fun st2=>st2.endObj:=by
 cases v;rfl
theorem bSlot_def (sh:Bool) (s:Slt Val) (st:BSt):bSlot sh s st=if s.has then bElse sh s.val st else some (0,st):=by
 cases s;rfl
theorem bElse_tab (sh:Bool) (v:Val) (st:BSt) (h:v.kind=15):bElse sh v st=bTab sh v st:=by
 cases v with
 | mk k e n t ns ks ss =>
  have h':k=15:=h
  subst h'
  rw [bElse,bTab]
  simp
/-- Slot by slot. -/
theorem bSlots_snoc (sh:Bool) (l:List (Slt Val)) (s:Slt Val) (st:BSt):bSlots sh (l ++ [s]) st=(bSlots sh l st).bind fun p=>(bSlot sh s p.2).map fun q=>(p.1 ++ [q.1],q.2):=by
 induction l generalizing st with
 | nil =>
  show bSlots sh [s] st=(some ([],st)).bind _
  rw [bSlots,Option.bind_some]
  cases h:bSlot sh s st with
  | none=>rfl
  | some p=>simp [bSlots]
 | cons a r ih =>
  rw [List.cons_append,bSlots,bSlots]
  cases h:bSlot sh a st with
  | none=>rfl
  | some p =>
   simp only [Option.bind_some]
   rw [ih]
   cases h2:bSlots sh r p.2 with
   | none=>rfl
   | some q =>
    simp only [Option.bind_some,Option.map_some]
    cases h3:bSlot sh s q.2 with
    | none=>rfl
    | some x=>simp
theorem bKids_snoc (sh:Bool) (l:List Val) (s:Val) (st:BSt):bKids sh (l ++ [s]) st=(bKids sh l st).bind fun p=>(bTab sh s p.2).map fun q=>(p.1 ++ [q.1],q.2):=by
 induction l generalizing st with
 | nil =>
  show bKids sh [s] st=(some ([],st)).bind _
  rw [bKids,Option.bind_some]
  cases h:bTab sh s st with
  | none=>rfl
  | some p=>simp [bKids]
 | cons a r ih =>
  rw [List.cons_append,bKids,bKids]
  cases h:bTab sh a st with
  | none=>rfl
  | some p =>
   simp only [Option.bind_some]
   rw [ih]
   cases h2:bKids sh r p.2 with
   | none=>rfl
   | some q =>
    simp only [Option.bind_some,Option.map_some]
    cases h3:bTab sh s q.2 with
    | none=>rfl
    | some x=>simp
def bText (sh:Bool) (t:List UInt8) (st:BSt):Option (Nat × BSt):=if sh then st.sharedStr t else st.created t true
theorem bTexts_cons (sh:Bool) (v:Val) (r:List Val) (st:BSt):bTexts sh (v :: r) st=(bText sh v.text st).bind fun p=>(bTexts sh r p.2).map fun q=>(p.1 :: q.1,q.2):=by
 cases v;rfl
theorem bTexts_snoc (sh:Bool) (l:List Val) (s:Val) (st:BSt):bTexts sh (l ++ [s]) st=(bTexts sh l st).bind fun p=>(bText sh s.text p.2).map fun q=>(p.1 ++ [q.1],q.2):=by
 induction l generalizing st with
 | nil =>
  show bTexts sh [s] st=(some ([],st)).bind _
  rw [bTexts_cons,Option.bind_some]
  cases h:bText sh s.text st with
  | none=>rfl
  | some p=>simp [bTexts]
 | cons a r ih =>
  rw [List.cons_append,bTexts_cons,bTexts_cons]
  cases h:bText sh a.text st with
  | none=>rfl
  | some p =>
   simp only [Option.bind_some]
   rw [ih]
   cases h2:bTexts sh r p.2 with
   | none=>rfl
   | some q =>
    simp only [Option.bind_some,Option.map_some]
    cases h3:bText sh s.text q.2 with
    | none=>rfl
    | some x=>simp
theorem bFields_snoc (l:List (Slt Val)) (os:List Nat) (i:Nat) (s:Slt Val) (o:Nat) (st:BSt) (h:l.length=os.length):bFields i (l ++ [s]) (os ++ [o]) st=(bFields i l os st).bind fun st'=>bField (i+l.length) s o st':=by
 induction l generalizing os i st with
 | nil =>
  obtain rfl:os=[]:=List.eq_nil_of_length_eq_zero h.symm
  show (bField i s o st).bind (fun st'=>bFields (i+1) [] [] st')=(some st).bind _
  simp only [Option.bind_some,bFields,List.length_nil,Nat.add_zero]
  cases bField i s o st <;> rfl
 | cons a r ih =>
  match os,h with
  | x :: os,h =>
   simp only [List.cons_append,bFields]
   cases hb:bField i a x st with
   | none=>rfl
   | some st1 =>
    simp only [Option.bind_some]
    rw [ih os (i+1) st1 (by simpa using h),List.length_cons,show i+1+r.length=i+(r.length+1) by omega]
end Go.Proofs.YtcfblkkpclfmaaaGreat
namespace Go.Proofs.YtcfblkkpclfmaaaGreat
open Go.RowKit
def at4 (B:List UInt8) (a:Nat):Nat:=le ((fromEnd B a).take 4)
def at2 (B:List UInt8) (a:Nat):Nat:=le ((fromEnd B a).take 2)
/-- Where the offset at a place leads. -/
def refE (B:List UInt8) (a:Nat):Nat:=a-at4 B a
structure RefOk (al:Bool) (B:List UInt8) (a:Nat):Prop where
 len:a≤B.length
 low:4≤a
 pos:1≤at4 B a
 lt:at4 B a<a
 aln:al=true→a % 4=0
structure BytesAt (B:List UInt8) (a:Nat) (xs:List UInt8):Prop where
 len:a≤B.length
 low:xs.length≤a
 eq:(fromEnd B a).take xs.length=xs
def LText (al:Bool) (B:List UInt8) (t:List UInt8) (r:Nat):Prop:=BytesAt B r (leB 4 t.length ++ (t ++ [0]))∧(al=true→r % 4=0)
def LBytes (al:Bool) (B:List UInt8) (t:List UInt8) (r:Nat):Prop:=BytesAt B r (leB 4 t.length ++ t)∧(al=true→r % 4=0)
def LNums (al:Bool) (B:List UInt8) (e:Nat) (ns:List Nat) (r:Nat):Prop:=BytesAt B r (leB 4 ns.length ++ ns.flatMap (leB (numSize e)))∧(al=true→r % 4=0∧(r-4) % numSize e=0)
def LVec (al:Bool) (B:List UInt8) (n r:Nat):Prop:=BytesAt B r (leB 4 n)∧4+4*n≤r∧(al=true→r % 4=0)
/-- A table's vtable. -/
def vtOf (B:List UInt8) (o:Nat):Nat:=if at4 B o<2 ^ 31 then o+at4 B o else o-(2 ^ 32-at4 B o)
/-- Where a field stands in its table. -/
def fldOf (B:List UInt8) (o i:Nat):Nat:=if 6+2*i≤at2 B (vtOf B o) then at2 B (vtOf B o-(4+2*i)) else 0
structure TabHead (al:Bool) (B:List UInt8) (o:Nat):Prop where
 len:o≤B.length
 low:4≤o
 sgn:at4 B o<2 ^ 31∨2 ^ 32-at4 B o<o
 vlen:vtOf B o≤B.length
 size4:4≤at2 B (vtOf B o)
 size:at2 B (vtOf B o)≤vtOf B o
 even:at2 B (vtOf B o) % 2=0
 whole4:4≤at2 B (vtOf B o-2)
 whole:at2 B (vtOf B o-2)≤o
 aln:al=true→o % 4=0∧vtOf B o % 2=0
/-- A slot that is read as one that is there. -/
def present (s:Slt Val):Bool:=s.has && !(decide (s.val.kind≤10) && eqK s.val.kind s.val.num s.dflt)
mutual
/-- A value at a place: a number, a struct, or an offset to what it is. -/
def LVal (al:Bool) (B:List UInt8):Val→Nat→Prop
 | .mk k e n t ns ks ss,a =>
  if k≤10 then BytesAt B a (leB (numSize k) n)∧(al=true→a % numSize k=0)
  else if k=17 then BytesAt B a t∧(al=true→a % e=0)
  else RefOk al B a∧(
   if k=11 then LText al B t (refE B a)
   else if k=12 then LBytes al B t (refE B a)
   else if k=13 then LNums al B e ns (refE B a)
   else if k=14 then LVec al B ks.length (refE B a)∧LTexts al B ks (refE B a-4)
   else if k=16 then LVec al B ks.length (refE B a)∧LKids al B ks (refE B a-4)
   else TabHead al B (refE B a)∧LSlots al B ss 0 (refE B a))
termination_by structural v=>v
def LTexts (al:Bool) (B:List UInt8):List Val→Nat→Prop
 | [],_=>True
 | .mk k e n t ns ks ss :: r,a=>RefOk al B a∧LText al B t (refE B a)∧LTexts al B r (a-4)
termination_by structural v=>v
def LKids (al:Bool) (B:List UInt8):List Val→Nat→Prop
 | [],_=>True
 | v :: r,a=>RefOk al B a∧LTab al B v (refE B a)∧LKids al B r (a-4)
termination_by structural v=>v
/-- The slots of a table, from one on. -/
def LSlots (al:Bool) (B:List UInt8):List (Slt Val)→Nat→Nat→Prop
 | [],_,_=>True
 | s :: r,i,o=>LSlot al B s i o∧LSlots al B r (i+1) o
termination_by structural v=>v
def LSlot (al:Bool) (B:List UInt8):Slt Val→Nat→Nat→Prop
 | ⟨h,v,d⟩,i,o=>if present ⟨h,v,d⟩ then 4≤fldOf B o i∧fldOf B o i<at2 B (vtOf B o-2)∧LVal al B v (o-fldOf B o i) else fldOf B o i=0
termination_by structural v=>v
/-- A table at a place. -/
def LTab (al:Bool) (B:List UInt8):Val→Nat→Prop
 | .mk k e n t ns ks ss,o=>TabHead al B o∧LSlots al B ss 0 o
termination_by structural v=>v
end
theorem LTab_def (al:Bool) (B:List UInt8) (v:Val) (o:Nat):LTab al B v o=(TabHead al B o∧LSlots al B v.slots 0 o):=by cases v;rfl
theorem LTexts_cons (al:Bool) (B:List UInt8) (v:Val) (r:List Val) (a:Nat):LTexts al B (v :: r) a=(RefOk al B a∧LText al B v.text (refE B a)∧LTexts al B r (a-4)):=by cases v;rfl
theorem LSlot_def (al:Bool) (B:List UInt8) (s:Slt Val) (i o:Nat):LSlot al B s i o=(if present s then 4≤fldOf B o i∧fldOf B o i<at2 B (vtOf B o-2)∧LVal al B s.val (o-fldOf B o i) else fldOf B o i=0):=by cases s;rfl
/-! Bytes that are put in front turn nothing. -/
theorem at4_app (xs B:List UInt8) (a:Nat) (h:a≤B.length):at4 (xs ++ B) a=at4 B a:=by unfold at4;rw [fromEnd_append _ _ _ h]
theorem at2_app (xs B:List UInt8) (a:Nat) (h:a≤B.length):at2 (xs ++ B) a=at2 B a:=by unfold at2;rw [fromEnd_append _ _ _ h]
theorem refE_app (xs B:List UInt8) (a:Nat) (h:a≤B.length):refE (xs ++ B) a=refE B a:=by unfold refE;rw [at4_app _ _ _ h]
theorem RefOk.app {al:Bool} {B:List UInt8} {a:Nat} (h:RefOk al B a) (xs:List UInt8):RefOk al (xs ++ B) a :=
 ⟨by rw [List.length_append];have:=h.len;omega,h.low,by rw [at4_app _ _ _ h.len];exact h.pos,by rw [at4_app _ _ _ h.len];exact h.lt,h.aln⟩
theorem BytesAt.app {B:List UInt8} {a:Nat} {ys:List UInt8} (h:BytesAt B a ys) (xs:List UInt8):BytesAt (xs ++ B) a ys :=
 ⟨by rw [List.length_append];have:=h.len;omega,h.low,by rw [fromEnd_append _ _ _ h.len];exact h.eq⟩
theorem LText.app {al:Bool} {B t:List UInt8} {r:Nat} (h:LText al B t r) (xs:List UInt8):LText al (xs ++ B) t r:=⟨h.1.app xs,h.2⟩
theorem LBytes.app {al:Bool} {B t:List UInt8} {r:Nat} (h:LBytes al B t r) (xs:List UInt8):LBytes al (xs ++ B) t r:=⟨h.1.app xs,h.2⟩
theorem LNums.app {al:Bool} {B:List UInt8} {e:Nat} {ns:List Nat} {r:Nat} (h:LNums al B e ns r) (xs:List UInt8):LNums al (xs ++ B) e ns r:=⟨h.1.app xs,h.2⟩
theorem LVec.app {al:Bool} {B:List UInt8} {n r:Nat} (h:LVec al B n r) (xs:List UInt8):LVec al (xs ++ B) n r:=⟨h.1.app xs,h.2⟩
theorem vtOf_app (xs B:List UInt8) (o:Nat) (h:o≤B.length):vtOf (xs ++ B) o=vtOf B o:=by unfold vtOf;rw [at4_app _ _ _ h]
theorem TabHead.at2 {al:Bool} {B:List UInt8} {o:Nat} (h:TabHead al B o) (xs:List UInt8) (k:Nat):at2 (xs ++ B) (vtOf (xs ++ B) o-k)=at2 B (vtOf B o-k):=by
 rw [vtOf_app _ _ _ h.len,at2_app _ _ _ (by have:=h.vlen;omega)]
theorem TabHead.fld {al:Bool} {B:List UInt8} {o:Nat} (h:TabHead al B o) (xs:List UInt8) (i:Nat):fldOf (xs ++ B) o i=fldOf B o i:=by
 have h0:=h.at2 xs 0
 rw [Nat.sub_zero,Nat.sub_zero] at h0
 unfold fldOf
 rw [h0,h.at2 xs]
theorem TabHead.app {al:Bool} {B:List UInt8} {o:Nat} (h:TabHead al B o) (xs:List UInt8):TabHead al (xs ++ B) o:=by
 have h0:=h.at2 xs 0
 rw [Nat.sub_zero,Nat.sub_zero] at h0
 have h2:=h.at2 xs 2
 have hv:=vtOf_app xs B o h.len
 have h4:=at4_app xs B o h.len
 refine ⟨by rw [List.length_append];have:=h.len;omega,h.low,by rw [h4];exact h.sgn,by rw [hv,List.length_append];have:=h.vlen;omega,by rw [h0];exact h.size4,by rw [h0,hv];exact h.size,by rw [h0];exact h.even,by rw [h2];exact h.whole4,by rw [h2];exact h.whole,by rw [hv];exact h.aln⟩
mutual
theorem LVal_app (al:Bool) (B xs:List UInt8):∀ (v:Val) (a:Nat),LVal al B v a→LVal al (xs ++ B) v a
 | .mk k e n t ns ks ss,a,h=>by
  rw [LVal] at h ⊢
  split
  ·rename_i h1
   rw [if_pos h1] at h
   exact ⟨h.1.app xs,h.2⟩
  ·rename_i h1
   rw [if_neg h1] at h
   split
   ·rename_i h2
    rw [if_pos h2] at h
    exact ⟨h.1.app xs,h.2⟩
   ·rename_i h2
    rw [if_neg h2] at h
    obtain ⟨hr,h⟩:=h
    rw [refE_app _ _ _ hr.len]
    refine ⟨hr.app xs,?_⟩
    split
    ·rename_i h3;rw [if_pos h3] at h;exact h.app xs
    ·rename_i h3;rw [if_neg h3] at h
     split
     ·rename_i h4;rw [if_pos h4] at h;exact h.app xs
     ·rename_i h4;rw [if_neg h4] at h
      split
      ·rename_i h5;rw [if_pos h5] at h;exact h.app xs
      ·rename_i h5;rw [if_neg h5] at h
       split
       ·rename_i h6;rw [if_pos h6] at h;exact ⟨h.1.app xs,LTexts_app al B xs ks _ h.2⟩
       ·rename_i h6;rw [if_neg h6] at h
        split
        ·rename_i h7;rw [if_pos h7] at h;exact ⟨h.1.app xs,LKids_app al B xs ks _ h.2⟩
        ·rename_i h7;rw [if_neg h7] at h;exact ⟨h.1.app xs,LSlots_app al B xs ss 0 _ h.1 h.2⟩
termination_by structural v=>v
theorem LTexts_app (al:Bool) (B xs:List UInt8):∀ (l:List Val) (a:Nat),LTexts al B l a→LTexts al (xs ++ B) l a
 | [],_,_=>trivial
 | .mk k e n t ns ks ss :: r,a,h=>by
  rw [LTexts] at h ⊢
  rw [refE_app _ _ _ h.1.len]
  exact ⟨h.1.app xs,h.2.1.app xs,LTexts_app al B xs r _ h.2.2⟩
termination_by structural v=>v
theorem LKids_app (al:Bool) (B xs:List UInt8):∀ (l:List Val) (a:Nat),LKids al B l a→LKids al (xs ++ B) l a
 | [],_,_=>trivial
 | v :: r,a,h=>by
  rw [LKids] at h ⊢
  rw [refE_app _ _ _ h.1.len]
  exact ⟨h.1.app xs,LTab_app al B xs v _ h.2.1,LKids_app al B xs r _ h.2.2⟩
termination_by structural v=>v
theorem LSlots_app (al:Bool) (B xs:List UInt8):∀ (l:List (Slt Val)) (i o:Nat),TabHead al B o→LSlots al B l i o→LSlots al (xs ++ B) l i o
 | [],_,_,_,_=>trivial
 | s :: r,i,o,ht,h=>by
  rw [LSlots] at h ⊢
  exact ⟨LSlot_app al B xs s i o ht h.1,LSlots_app al B xs r (i+1) o ht h.2⟩
termination_by structural v=>v
theorem LSlot_app (al:Bool) (B xs:List UInt8):∀ (s:Slt Val) (i o:Nat),TabHead al B o→LSlot al B s i o→LSlot al (xs ++ B) s i o
 | ⟨hs,v,d⟩,i,o,ht,h=>by
  rw [LSlot] at h ⊢
  rw [ht.fld xs,ht.at2 xs]
  split
  ·rename_i h1
   rw [if_pos h1] at h
   exact ⟨h.1,h.2.1,LVal_app al B xs v _ h.2.2⟩
  ·rename_i h1
   rw [if_neg h1] at h
   exact h
termination_by structural v=>v
theorem LTab_app (al:Bool) (B xs:List UInt8):∀ (v:Val) (o:Nat),LTab al B v o→LTab al (xs ++ B) v o
 | .mk k e n t ns ks ss,o,h=>by
  rw [LTab] at h ⊢
  exact ⟨h.1.app xs,LSlots_app al B xs ss 0 o h.1 h.2⟩
termination_by structural v=>v
end
end Go.Proofs.YtcfblkkpclfmaaaGreat
