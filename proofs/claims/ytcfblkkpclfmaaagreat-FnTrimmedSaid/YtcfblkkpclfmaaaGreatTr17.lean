/- Part 17 of the proof of FnTrimmed (Laid1, Laid2). No condition is laid on the statement. -/
import Derived.Test.YtcfblkkpclfmaaaGreatTr16
import Derived.Maps.Views
set_option linter.unusedVariables false
set_option linter.unusedSimpArgs false
namespace Go.Proofs.YtcfblkkpclfmaaaGreat
open Go.RowKit Go.Maps
theorem fromEnd_full (B:List UInt8):fromEnd B B.length=B:=by unfold fromEnd;rw [Nat.sub_self];rfl
theorem fromEnd_sub (B:List UInt8) (v k:Nat) (h:k≤v) (hv:v≤B.length):fromEnd B (v-k)=(fromEnd B v).drop k:=by
 unfold fromEnd
 rw [List.drop_drop,show B.length-(v-k)=B.length-v+k by omega]
theorem BytesAt.front {B xs rest:List UInt8} (h:B=xs ++ rest):BytesAt B B.length xs :=
 ⟨Nat.le_refl _,by rw [h,List.length_append];omega,by rw [fromEnd_full,h,List.take_left]⟩
theorem BytesAt.left {B xs ys:List UInt8} {a:Nat} (h:BytesAt B a (xs ++ ys)):BytesAt B a xs :=
 ⟨h.len,by have:=h.low;rw [List.length_append] at this;omega,by
  have:=congrArg (List.take xs.length) h.eq
  rw [List.take_take,List.take_left,List.length_append,Nat.min_eq_left (by omega)] at this
  exact this⟩
theorem BytesAt.right {B xs ys:List UInt8} {a:Nat} (h:BytesAt B a (xs ++ ys)):BytesAt B (a-xs.length) ys:=by
 have hl:=h.low
 rw [List.length_append] at hl
 refine ⟨by have:=h.len;omega,by omega,?_⟩
 rw [fromEnd_sub _ _ _ (by omega) h.len]
 have:=congrArg (List.drop xs.length) h.eq
 rw [List.drop_left,List.drop_take,List.length_append,show xs.length+ys.length-xs.length=ys.length by omega] at this
 exact this
theorem BytesAt.at2 {B xs:List UInt8} {a:Nat} (h:BytesAt B a xs) (hx:xs.length=2):at2 B a=le xs:=by
 unfold Proofs.YtcfblkkpclfmaaaGreat.at2
 rw [← hx,h.eq]
theorem BytesAt.at4 {B xs:List UInt8} {a:Nat} (h:BytesAt B a xs) (hx:xs.length=4):at4 B a=le xs:=by
 unfold Proofs.YtcfblkkpclfmaaaGreat.at4
 rw [← hx,h.eq]
/-- What a Builder's state is of, where nothing is begun: its vtables, its shared strings. -/
structure VtOk (B:List UInt8) (v:Nat):Prop where
 ok:∃ (es:List Nat) (W:Nat),BytesAt B v (leB 2 (2*es.length+4) ++ (leB 2 W ++ es.flatMap (leB 2)))∧es.length≤60∧4≤W∧W≤v∧W<65536∧(∀ e∈es,e<W)∧v % 2=0
theorem VtOk.app {B:List UInt8} {v:Nat} (h:VtOk B v) (xs:List UInt8):VtOk (xs ++ B) v:=by
 obtain ⟨es,W,h1,h2⟩:=h.ok
 exact ⟨es,W,h1.app xs,h2⟩
structure PI (st:BSt):Prop where
 vt:∀ v∈st.vts,VtOk st.m.bytes v
 shm:IsMap (st.shared.getD (.map []))
 sh:∀ t,has (st.shared.getD (.map [])) (.string t)=true→LText true st.m.bytes t (numOf ((st.shared.getD (.map [])).atKey (.string t) (.lit (.int .u32 0))))∧0<numOf ((st.shared.getD (.map [])).atKey (.string t) (.lit (.int .u32 0)))
theorem PI.start (n:Nat):PI (st0 n):=⟨fun v hv=>by simp [st0] at hv,isMap_empty,fun t h=>by simp [st0,has] at h⟩
/-- Bytes are put in front, all else stays. -/
structure Put (st st':BSt):Prop where
 bytes:∃ xs,st'.m.bytes=xs ++ st.m.bytes
 fin:st'.fin=st.fin
theorem Put.refl (st:BSt):Put st st:=⟨⟨[],rfl⟩,rfl⟩
theorem Put.trans {a b c:BSt} (h:Put a b) (g:Put b c):Put a c:=by
 obtain ⟨xs,h1⟩:=h.bytes
 obtain ⟨ys,g1⟩:=g.bytes
 exact ⟨⟨ys ++ xs,by rw [g1,h1,List.append_assoc]⟩,g.fin.trans h.fin⟩
theorem Put.len {a b:BSt} (h:Put a b):a.m.bytes.length≤b.m.bytes.length:=by
 obtain ⟨xs,h1⟩:=h.bytes
 rw [h1,List.length_append];omega
theorem PI.put {st st':BSt} (h:PI st) (p:Put st st') (hv:st'.vts=st.vts) (hs:st'.shared=st.shared):PI st':=by
 obtain ⟨xs,hx⟩:=p.bytes
 refine ⟨fun v hm=>?_,by rw [hs];exact h.shm,fun t ht=>?_⟩
 ·rw [hv] at hm;rw [hx];exact (h.vt v hm).app xs
 ·rw [hs] at ht ⊢
  obtain ⟨h1,h2⟩:=h.sh t ht
  rw [hx];exact ⟨h1.app xs,h2⟩
/-! A string. -/
theorem created_laid (st:BSt) (t:List UInt8) (z:Bool) (hn:st.nested=false):∃ o st',st.created t z=some (o,st')∧st'.nested=false∧st'.vts=st.vts∧st'.shared=st.shared∧Put st st'∧4≤o∧o=st'.m.bytes.length ∧
  (if z then LText true st'.m.bytes t o else LBytes true st'.m.bytes t o):=by
 refine ⟨(st.m.text t z).bytes.length,{ st with m:=st.m.text t z,nested:=false },created_eq st t z hn,rfl,rfl,rfl,⟨?_,rfl⟩,?_,rfl,?_⟩
 ·cases z with
  | true =>
   obtain ⟨k,_,hb,_⟩:=text_true st.m t
   exact ⟨leB 4 t.length ++ (t ++ (0 :: List.replicate k 0)),by show (st.m.text t true).bytes=_;rw [hb];simp⟩
  | false =>
   obtain ⟨k,_,hb,_⟩:=text_false st.m t
   exact ⟨leB 4 t.length ++ (t ++ List.replicate k 0),by show (st.m.text t false).bytes=_;rw [hb];simp⟩
 ·cases z with
  | true=>obtain ⟨k,_,hb,_⟩:=text_true st.m t;rw [hb];simp [leB_length]
  | false=>obtain ⟨k,_,hb,_⟩:=text_false st.m t;rw [hb];simp [leB_length]
 ·cases z with
  | true =>
   obtain ⟨k,_,hb,h4⟩:=text_true st.m t
   refine ⟨BytesAt.front (rest:=List.replicate k 0 ++ st.m.bytes) ?_,fun _=>h4⟩
   show (st.m.text t true).bytes=_
   rw [hb];simp
  | false =>
   obtain ⟨k,_,hb,h4⟩:=text_false st.m t
   refine ⟨BytesAt.front (rest:=List.replicate k 0 ++ st.m.bytes) ?_,fun _=>h4⟩
   show (st.m.text t false).bytes=_
   rw [hb];simp
theorem text_laid (sh:Bool) (st:BSt) (t:List UInt8) (hn:st.nested=false) (hp:PI st):∃ o st',bText sh t st=some (o,st')∧st'.nested=false∧PI st'∧Put st st'∧0<o∧LText true st'.m.bytes t o:=by
 cases sh with
 | false =>
  obtain ⟨o,st',h1,h2,h3,h4,h5,h6,h7,h8⟩:=created_laid st t true hn
  exact ⟨o,st',h1,h2,hp.put h5 h3 h4,h5,by omega,h8⟩
 | true =>
  show ∃ o st',st.sharedStr t=_∧_
  unfold BSt.sharedStr
  obtain ⟨D,hD⟩:∃ D,D=st.shared.getD (.map []):=⟨_,rfl⟩
  have hm:=hp.shm
  have hs:=hp.sh
  rw [← hD] at hm hs ⊢
  cases hh:has D (.string t) with
  | true =>
   rw [if_pos rfl]
   obtain ⟨h1,h2⟩:=hs t hh
   exact ⟨_,_,rfl,hn,⟨hp.vt,by show IsMap D;exact hm,by show ∀ t,has D (.string t)=true→_;exact hs⟩,⟨⟨[],rfl⟩,rfl⟩,h2,h1⟩
  | false =>
   rw [if_neg (by simp)]
   obtain ⟨o,st',h1,h2,h3,h4,h5,h6,h7,h8⟩:=created_laid { st with shared:=some D } t true hn
   rw [h1]
   obtain ⟨xs,hx⟩:=h5.bytes
   have hx':st'.m.bytes=xs ++ st.m.bytes:=hx
   refine ⟨o,_,rfl,h2,⟨fun v hv=>?_,hm.put _ _,fun u hu=>?_⟩,⟨⟨xs,hx'⟩,h5.fin⟩,by omega,h8⟩
   ·have hv':v∈st.vts:=by
     have:({ st' with shared:=some (D.put (.string t) (.lit (.int .u32 o))) }:BSt).vts=st.vts:=h3
     rw [this] at hv;exact hv
    show VtOk st'.m.bytes v
    rw [hx'];exact (hp.vt v hv').app xs
   ·have hu':has (D.put (.string t) (.lit (.int .u32 o))) (.string u)=true:=hu
    show LText true st'.m.bytes u (numOf ((D.put (.string t) (.lit (.int .u32 o))).atKey (.string u) (.lit (.int .u32 0))))∧0<numOf ((D.put (.string t) (.lit (.int .u32 o))).atKey (.string u) (.lit (.int .u32 0)))
    by_cases e:u=t
    ·subst e
     rw [atKey_put_same hm (by trivial)]
     show LText true st'.m.bytes u ((o:Int).toNat)∧0<(o:Int).toNat
     rw [Int.toNat_natCast]
     exact ⟨h8,by omega⟩
    ·have hne:(Lit.string u)≠.string t:=fun h=>e (by injection h)
     rw [has_put_other hne] at hu'
     rw [atKey_put_other hne]
     obtain ⟨g1,g2⟩:=hs u hu'
     rw [hx']
     exact ⟨g1.app xs,g2⟩
/-! A vector of numbers. -/
theorem bNums_cons (k n:Nat) (r:List Nat) (m:BM):bNums k (n :: r) m=((bNums k r m).prep (numSize k) 0).put (numB k n):=rfl
theorem bNums_bytes (k:Nat) (hk:k≤10) (m:BM) (hz:m.bytes.length % numSize k=0):∀ ns:List Nat,(bNums k ns m).bytes=ns.flatMap (numB k) ++ m.bytes∧(bNums k ns m).bytes.length % numSize k=0
 | []=>⟨rfl,hz⟩
 | n :: r=>by
  obtain ⟨h1,h2⟩:=bNums_bytes k hk m hz r
  have ha:=numSize_algn (k:=(k:Int)) (by omega) (by omega)
  have e:(bNums k (n :: r) m).bytes=numB k n ++ (bNums k r m).bytes:=by
   rw [bNums_cons]
   show numB k n ++ ((bNums k r m).prep (numSize k) 0).bytes=_
   rw [prep_id _ _ _ ha (by simpa using h2)]
  refine ⟨by rw [e,h1,List.flatMap_cons,List.append_assoc],?_⟩
  rw [e,List.length_append,numB_length]
  rw [Nat.add_mod_left]
  exact h2
theorem padB_zero (u s:Nat) (h:u % s=0):padB u s=0:=by
 unfold padB;rw [h,Nat.sub_zero,Nat.mod_self]
theorem prep_room_le (m:BM) (size add:Nat) (hs:algn size) (h:m.bytes.length % size=0) (ha:add=0):m.room≤(m.prep size add).room:=by
 subst ha
 have hp:m.pad size 0=0:=padB_zero _ _ h
 show m.room≤prepRoom m.room m.bytes.length (m.pad size 0+size+0)-m.pad size 0
 rw [hp,Nat.sub_zero]
 have key:∀ (need f room:Nat),room≤roomL f room m.bytes.length need:=by
  intro need f
  induction f with
  | zero=>intro room;exact Nat.le_refl _
  | succ f ih =>
   intro room
   show room≤(if room≤need then roomL f (newL (room+m.bytes.length)-m.bytes.length) m.bytes.length need else room)
   split
   ·have:=newL_gt (room+m.bytes.length)
    have:=ih (newL (room+m.bytes.length)-m.bytes.length)
    omega
   ·exact Nat.le_refl _
 exact key _ _ _
theorem bNums_room (k:Nat) (hk:k≤10) (m:BM) (hz:m.bytes.length % numSize k=0):∀ ns:List Nat,m.room≤(bNums k ns m).room+ns.length*numSize k
 | []=>by simp [bNums]
 | n :: r=>by
  have ih:=bNums_room k hk m hz r
  have h2:=(bNums_bytes k hk m hz r).2
  have ha:=numSize_algn (k:=(k:Int)) (by omega) (by omega)
  have h3:=prep_room_le (bNums k r m) (numSize k) 0 ha h2 rfl
  rw [bNums_cons]
  show m.room≤((bNums k r m).prep (numSize k) 0).room-(numB k n).length+(r.length+1)*numSize k
  rw [numB_length,Nat.add_mul,Nat.one_mul]
  omega
theorem startVec_eq (st:BSt) (z n:Nat) (hn:st.nested=false):st.startVec z n z=some (((st.m.prep 4 (z*n)).prep z (z*n)).bytes.length,{ st with m:=(st.m.prep 4 (z*n)).prep z (z*n),nested:=true }):=by
 unfold BSt.startVec;rw [hn];rfl
/-- The room and the place that StartVector makes. -/
theorem startVec_m (m:BM) (z n:Nat) (hz:algn z):4+z*n<((m.prep 4 (z*n)).prep z (z*n)).room∧(((m.prep 4 (z*n)).prep z (z*n)).bytes.length+z*n) % z=0∧(((m.prep 4 (z*n)).prep z (z*n)).bytes.length+z*n) % 4=0∧∃ k,k≤22∧((m.prep 4 (z*n)).prep z (z*n)).bytes=List.replicate k 0 ++ m.bytes:=by
 have h4:algn 4:=by unfold algn;omega
 have r1:=m.prep_room 4 (z*n)
 have m1:=prep_mod m 4 (z*n) h4
 have m2:=prep_mod (m.prep 4 (z*n)) z (z*n) hz
 have r2:=(m.prep 4 (z*n)).prep_room z (z*n)
 have p1:=m.pad_lt 4 (z*n) h4
 have p2:=(m.prep 4 (z*n)).pad_lt z (z*n) hz
 have l2:=(m.prep 4 (z*n)).prep_len z (z*n) hz
 have hzc:z=1∨z=2∨z=4∨z=8∨z=16:=hz
 refine ⟨?_,m2,?_,?_⟩
 ·by_cases hs:z<4
  ·have h0:(m.prep 4 (z*n)).pad z (z*n)=0:=by
    refine padB_zero _ _ ?_
    rcases hzc with rfl | rfl | rfl | rfl | rfl <;> omega
   show 4+z*n<prepRoom (m.prep 4 (z*n)).room (m.prep 4 (z*n)).bytes.length ((m.prep 4 (z*n)).pad z (z*n)+z+z*n)-(m.prep 4 (z*n)).pad z (z*n)
   rw [h0,Nat.sub_zero]
   have key:∀ (need f room:Nat),room≤roomL f room (m.prep 4 (z*n)).bytes.length need:=by
    intro need f
    induction f with
    | zero=>intro room;exact Nat.le_refl _
    | succ f ih =>
     intro room
     show room≤(if room≤need then roomL f (newL (room+(m.prep 4 (z*n)).bytes.length)-(m.prep 4 (z*n)).bytes.length) (m.prep 4 (z*n)).bytes.length need else room)
     split
     ·have:=newL_gt (room+(m.prep 4 (z*n)).bytes.length)
      have:=ih (newL (room+(m.prep 4 (z*n)).bytes.length)-(m.prep 4 (z*n)).bytes.length)
      omega
     ·exact Nat.le_refl _
   exact Nat.lt_of_lt_of_le r1 (key _ _ _)
  ·omega
 ·rcases hzc with h | h | h | h | h <;> rw [h] at m2 l2 p2 m1 ⊢ <;> omega
 ·refine ⟨(m.prep 4 (z*n)).pad z (z*n)+m.pad 4 (z*n),by rcases hzc with h | h | h | h | h <;> omega,?_⟩
  show List.replicate _ 0 ++ (List.replicate _ 0 ++ m.bytes)=_
  rw [← List.append_assoc,List.replicate_append_replicate]
theorem endVec_eq (st:BSt) (n:Nat) (hn:st.nested=true) (hr:4≤st.m.room):st.endVec n=some (4+st.m.bytes.length,{ st with m:=st.m.put (leB 4 n),nested:=false }):=by
 unfold BSt.endVec;rw [if_pos hn,if_neg (by omega)]
theorem numB_ok {k n:Nat} (h:OkNum k n):numB k n=leB (numSize k) n:=by
 unfold numB
 split
 ·rename_i hk
  have:=h.2.2.1 (by omega)
  rw [show n=1 by omega]
 ·rfl
theorem scalars_laid (st:BSt) (k:Nat) (ns:List Nat) (hk:k≤10) (hns:∀ n∈ns,OkNum k n) (hn:st.nested=false):∃ o st',bScalars k ns st=some (o,st')∧st'.nested=false∧st'.vts=st.vts∧st'.shared=st.shared∧Put st st'∧0<o∧LNums true st'.m.bytes k ns o:=by
 have ha:=numSize_algn (k:=(k:Int)) (by omega) (by omega)
 obtain ⟨hr,h1,h2,j,hj,hb⟩:=startVec_m st.m (numSize k) ns.length ha
 obtain ⟨m,hm⟩:∃ m,m=(st.m.prep 4 (numSize k*ns.length)).prep (numSize k) (numSize k*ns.length):=⟨_,rfl⟩
 rw [← hm] at hr h1 h2 hb
 have hmz:m.bytes.length % numSize k=0:=by rw [Nat.add_mul_mod_self_left] at h1;exact h1
 obtain ⟨hnb,hnz⟩:=bNums_bytes k hk m hmz ns
 have hroom:=bNums_room k hk m hmz ns
 have hfl:ns.flatMap (numB k)=ns.flatMap (leB (numSize k)):=by
  have:∀ l:List Nat,(∀ n∈l,OkNum k n)→l.flatMap (numB k)=l.flatMap (leB (numSize k)):=by
   intro l
   induction l with
   | nil=>intro _;rfl
   | cons a r ih=>intro h;rw [List.flatMap_cons,List.flatMap_cons,numB_ok (h a (by simp)),ih (fun n hn=>h n (by simp [hn]))]
  exact this ns hns
 have hlen:(ns.flatMap (leB (numSize k))).length=numSize k*ns.length:=by
  have:∀ l:List Nat,(l.flatMap (leB (numSize k))).length=numSize k*l.length:=by
   intro l
   induction l with
   | nil=>rfl
   | cons a r ih=>rw [List.flatMap_cons,List.length_append,leB_length,ih,List.length_cons,Nat.mul_add,Nat.mul_one];omega
  exact this ns
 rw [hfl] at hnb
 rw [Nat.mul_comm] at hroom
 refine ⟨4+(bNums k ns m).bytes.length,{ st with m:=(bNums k ns m).put (leB 4 ns.length),nested:=false },?_,rfl,rfl,rfl,⟨⟨leB 4 ns.length ++ (ns.flatMap (leB (numSize k)) ++ List.replicate j 0),?_⟩,rfl⟩,by omega,?_⟩
 ·unfold bScalars
  rw [startVec_eq st _ _ hn,Option.bind_some,← hm]
  exact endVec_eq { st with m:=bNums k ns m,nested:=true } ns.length rfl (by show 4≤(bNums k ns m).room;omega)
 ·show leB 4 ns.length ++ (bNums k ns m).bytes=_
  rw [hnb,hb];simp
 ·have e:leB 4 ns.length ++ (bNums k ns m).bytes=(leB 4 ns.length ++ ns.flatMap (leB (numSize k))) ++ m.bytes:=by rw [hnb];simp
  have hl:4+(bNums k ns m).bytes.length=(leB 4 ns.length ++ (bNums k ns m).bytes).length:=by rw [List.length_append,leB_length]
  refine ⟨?_,fun _=>⟨?_,?_⟩⟩
  ·show BytesAt (leB 4 ns.length ++ (bNums k ns m).bytes) _ _
   rw [hl]
   exact BytesAt.front e
  ·rw [hnb,List.length_append,hlen,Nat.add_comm (numSize k*ns.length)];omega
  ·rw [show 4+(bNums k ns m).bytes.length-4=(bNums k ns m).bytes.length by omega];exact hnz
end Go.Proofs.YtcfblkkpclfmaaaGreat
namespace Go.Proofs.YtcfblkkpclfmaaaGreat
open Go.RowKit Go.Maps
/-- What an offset leads to. -/
def LObj (al:Bool) (B:List UInt8):Val→Nat→Prop
 | .mk k e n t ns ks ss,r =>
   if k=11 then LText al B t r
   else if k=12 then LBytes al B t r
   else if k=13 then LNums al B e ns r
   else if k=14 then LVec al B ks.length r∧LTexts al B ks (r-4)
   else if k=16 then LVec al B ks.length r∧LKids al B ks (r-4)
   else TabHead al B r∧LSlots al B ss 0 r
theorem LVal_ref {al:Bool} {B:List UInt8} {v:Val} {a:Nat} (h1:¬ v.kind≤10) (h2:v.kind≠17):LVal al B v a=(RefOk al B a∧LObj al B v (refE B a)):=by
 cases v with
 | mk k e n t ns ks ss =>
  rw [LVal,if_neg (show ¬ k≤10 from h1),if_neg (show ¬ k=17 from h2)]
  rfl
theorem LObj_app (al:Bool) (B xs:List UInt8) (v:Val) (r:Nat) (h:LObj al B v r):LObj al (xs ++ B) v r:=by
 cases v with
 | mk k e n t ns ks ss =>
  rw [LObj] at h ⊢
  split
  ·rename_i h3;rw [if_pos h3] at h;exact h.app xs
  ·rename_i h3;rw [if_neg h3] at h
   split
   ·rename_i h4;rw [if_pos h4] at h;exact h.app xs
   ·rename_i h4;rw [if_neg h4] at h
    split
    ·rename_i h5;rw [if_pos h5] at h;exact h.app xs
    ·rename_i h5;rw [if_neg h5] at h
     split
     ·rename_i h6;rw [if_pos h6] at h;exact ⟨h.1.app xs,LTexts_app al B xs ks _ h.2⟩
     ·rename_i h6;rw [if_neg h6] at h
      split
      ·rename_i h7;rw [if_pos h7] at h;exact ⟨h.1.app xs,LKids_app al B xs ks _ h.2⟩
      ·rename_i h7;rw [if_neg h7] at h;exact ⟨h.1.app xs,LSlots_app al B xs ss 0 _ h.1 h.2⟩
theorem refer_m {st:BSt} {off:Nat} (h4:st.m.bytes.length % 4=0) (ho:off≤st.m.bytes.length):∃ m,st.refer off=some { st with m:=m }∧m.bytes=leB 4 (st.m.bytes.length-off+4) ++ st.m.bytes∧st.m.room≤m.room+4:=by
 have e:=prep_id st.m 4 0 (by unfold algn;omega) (by simpa using h4)
 refine ⟨(st.m.prep 4 0).put (leB 4 ((st.m.prep 4 0).bytes.length-off+4)),?_,?_,?_⟩
 ·unfold BSt.refer BM.refer
  rw [e,if_pos ho];rfl
 ·show leB 4 _ ++ (st.m.prep 4 0).bytes=_
  rw [e]
 ·show st.m.room≤(st.m.prep 4 0).room-(leB 4 _).length+4
  rw [leB_length]
  have:=prep_room_le st.m 4 0 (by unfold algn;omega) h4 rfl
  omega
/-- An offset in front leads where it says. -/
theorem ref_front {B:List UInt8} {B':List UInt8} {o:Nat} (h:B'=leB 4 (B.length-o+4) ++ B) (ho:o≤B.length) (h0:0<o) (h4:B.length % 4=0) (hl:B.length<2000000):RefOk true B' B'.length∧refE B' B'.length=o:=by
 have hl':B'.length=4+B.length:=by rw [h,List.length_append,leB_length]
 have ha:at4 B' B'.length=B.length-o+4:=by
  have:=(BytesAt.front h).at4 (leB_length _ _)
  rw [this,le_leB];omega
 refine ⟨⟨Nat.le_refl _,by omega,by omega,by omega,fun _=>by omega⟩,?_⟩
 unfold refE
 rw [ha,hl'];omega
theorem offs_laid:∀ (os:List Nat) (st:BSt),st.m.bytes.length % 4=0→(∀ o∈os,0<o∧o≤st.m.bytes.length)→st.m.bytes.length+4*os.length<2000000→∃ m,bOffs os st=some { st with m:=m } ∧
  (∃ xs,m.bytes=xs ++ st.m.bytes)∧m.bytes.length=4*os.length+st.m.bytes.length∧st.m.room≤m.room+4*os.length∧∀ i (h:i<os.length),RefOk true m.bytes (m.bytes.length-4*i)∧refE m.bytes (m.bytes.length-4*i)=os[i]
 | [],st,_,_,_=>⟨st.m,rfl,⟨[],rfl⟩,by simp,by simp,fun i h=>by simp at h⟩
 | o :: r,st,h4,ho,hl=>by
  rw [List.length_cons] at hl
  obtain ⟨m,e,⟨xs,hx⟩,hlen,hroom,hi⟩:=offs_laid r st h4 (fun o hm=>ho o (by simp [hm])) (by omega)
  have hoo:=ho o (by simp)
  obtain ⟨m',e',hb',hr'⟩:=refer_m (st:={ st with m:=m }) (off:=o) (by show m.bytes.length % 4=0;omega) (by show o≤m.bytes.length;omega)
  have hb:m'.bytes=leB 4 (m.bytes.length-o+4) ++ m.bytes:=hb'
  have hl':m'.bytes.length=4+m.bytes.length:=by rw [hb,List.length_append,leB_length]
  obtain ⟨g1,g2⟩:=ref_front hb (by omega) hoo.1 (by omega) (by omega)
  have hr2:m.room≤m'.room+4:=hr'
  refine ⟨m',?_,⟨leB 4 (m.bytes.length-o+4) ++ xs,by rw [hb,hx,List.append_assoc]⟩,by rw [hl',List.length_cons];omega,by rw [List.length_cons];omega,fun i h=>?_⟩
  ·show (bOffs r st).bind _=_
   rw [e,Option.bind_some,e']
  ·cases i with
   | zero=>exact ⟨g1,g2⟩
   | succ i =>
    obtain ⟨k1,k2⟩:=hi i (by simpa using h)
    have ea:m'.bytes.length-4*(i+1)=m.bytes.length-4*i:=by omega
    rw [ea,hb]
    exact ⟨k1.app _,by rw [refE_app _ _ _ (by omega),k2];rfl⟩
theorem vec_laid (st:BSt) (os:List Nat) (hn:st.nested=false) (ho:∀ o∈os,0<o∧o≤st.m.bytes.length) (hl:st.m.bytes.length+4*os.length<1900000):∃ r st',bVec os st=some (r,st')∧st'.nested=false∧st'.vts=st.vts∧st'.shared=st.shared∧Put st st'∧0<r∧r=st'.m.bytes.length∧LVec true st'.m.bytes os.length r ∧
  ∀ i (h:i<os.length),RefOk true st'.m.bytes (r-4-4*i)∧refE st'.m.bytes (r-4-4*i)=os[i]:=by
 obtain ⟨hr,h1,h2,j,hj,hb⟩:=startVec_m st.m 4 os.length (by unfold algn;omega)
 obtain ⟨m,hm⟩:∃ m,m=(st.m.prep 4 (4*os.length)).prep 4 (4*os.length):=⟨_,rfl⟩
 rw [← hm] at hr h1 h2 hb
 have hml:m.bytes.length=j+st.m.bytes.length:=by rw [hb,List.length_append,List.length_replicate]
 obtain ⟨m',e,⟨xs,hx⟩,hlen,hroom,hi⟩:=offs_laid os { st with m:=m,nested:=true } (by show m.bytes.length % 4=0;omega) (fun o hm'=>by have:=ho o hm';show 0<o∧o≤m.bytes.length;omega) (by show m.bytes.length+_<_;omega)
 have hx':m'.bytes=xs ++ m.bytes:=hx
 have hlen':m'.bytes.length=4*os.length+m.bytes.length:=hlen
 have hroom':m.room≤m'.room+4*os.length:=hroom
 refine ⟨4+m'.bytes.length,{ st with m:=m'.put (leB 4 os.length),nested:=false },?_,rfl,rfl,rfl,⟨⟨leB 4 os.length ++ (xs ++ List.replicate j 0),?_⟩,rfl⟩,by omega,?_,⟨?_,?_,?_⟩,fun i h=>?_⟩
 ·unfold bVec
  rw [startVec_eq st 4 os.length hn,Option.bind_some,← hm]
  show (bOffs os { st with m:=m,nested:=true }).bind _=_
  rw [e,Option.bind_some]
  exact endVec_eq { st with m:=m',nested:=true } os.length rfl (by show 4≤m'.room;omega)
 ·show leB 4 os.length ++ m'.bytes=_
  rw [hx',hb];simp
 ·show _=(leB 4 os.length ++ m'.bytes).length
  rw [List.length_append,leB_length]
 ·show BytesAt (leB 4 os.length ++ m'.bytes) (4+m'.bytes.length) _
  rw [show 4+m'.bytes.length=(leB 4 os.length ++ m'.bytes).length by rw [List.length_append,leB_length]]
  exact BytesAt.front rfl
 ·omega
 ·intro _;omega
 ·obtain ⟨k1,k2⟩:=hi i h
  show RefOk true (leB 4 os.length ++ m'.bytes) _∧refE (leB 4 os.length ++ m'.bytes) _=_
  rw [show 4+m'.bytes.length-4-4*i=m'.bytes.length-4*i by omega]
  exact ⟨k1.app _,by rw [refE_app _ _ _ (by omega)];exact k2⟩
theorem texts_of (al:Bool) (B:List UInt8):∀ (ks:List Val) (a:Nat),(∀ i (h:i<ks.length),RefOk al B (a-4*i)∧LText al B (ks[i]).text (refE B (a-4*i)))→LTexts al B ks a
 | [],_,_=>trivial
 | v :: r,a,h=>by
  rw [LTexts_cons]
  obtain ⟨h1,h2⟩:=h 0 (by simp)
  refine ⟨h1,h2,texts_of al B r (a-4) fun i hi=>?_⟩
  have:=h (i+1) (by simpa using hi)
  rw [show a-4*(i+1)=a-4-4*i by omega] at this
  exact this
theorem kids_of (al:Bool) (B:List UInt8):∀ (ks:List Val) (a:Nat),(∀ i (h:i<ks.length),RefOk al B (a-4*i)∧LTab al B ks[i] (refE B (a-4*i)))→LKids al B ks a
 | [],_,_=>trivial
 | v :: r,a,h=>by
  rw [LKids]
  obtain ⟨h1,h2⟩:=h 0 (by simp)
  refine ⟨h1,h2,kids_of al B r (a-4) fun i hi=>?_⟩
  have:=h (i+1) (by simpa using hi)
  rw [show a-4*(i+1)=a-4-4*i by omega] at this
  exact this
/-! The fields of an object. -/
theorem OkNum.right {k n:Nat} (h:OkNum k n):Right (k:Int) n:=⟨by omega,by have:=h.1;omega,fun e=>h.2.2.1 (by omega),h.2.1⟩
theorem sameNum_eqK {k a b:Nat} (ha:OkNum k a) (hb:OkNum k b):sameNum k a b=eqK k a b:=by
 unfold sameNum eqK
 by_cases h9:k=9
 ·subst h9
  rw [if_pos (by decide),if_pos rfl]
  exact eq_f32 a b ha.2.1 hb.2.1 (ha.2.2.2.1 rfl) (hb.2.2.2.1 rfl)
 ·rw [if_neg (by omega),if_neg h9]
  by_cases h10:k=10
  ·subst h10
   rw [if_pos (by decide),if_pos rfl]
   exact eq_f64 a b ha.2.1 hb.2.1 (ha.2.2.2.2 rfl) (hb.2.2.2.2 rfl)
  ·rw [if_neg (by omega),if_neg h10]
/-- What is asked of a slot that is set, where the offset of what it holds elsewhere is o. -/
structure SlotOk (B:List UInt8) (s:Slt Val) (o:Nat):Prop where
 num:s.has=true→s.val.kind≤10→OkNum s.val.kind s.val.num∧OkNum s.val.kind s.dflt
 str:s.has=true→s.val.kind=17→(s.val.elem=1∨s.val.elem=2∨s.val.elem=4∨s.val.elem=8)∧0<s.val.text.length∧s.val.text.length≤64
 obj:s.has=true→¬ s.val.kind≤10→s.val.kind≠17→0<o∧o≤B.length∧LObj true B s.val o
/-- Behind some fields: l says where each of them stands. -/
structure FI (st0 st:BSt) (n i:Nat) (ss:List (Slt Val)) (l:List Nat):Prop where
 vtab:st.vtab=some l
 len:l.length=n
 some:∀ j (h:j<ss.length) (hl:j<l.length),j<i→if present ss[j] then st0.m.bytes.length<l[j]∧l[j]≤st.m.bytes.length∧LVal true st.m.bytes ss[j].val l[j] else l[j]=0
 none:∀ j (hl:j<l.length),i≤j→l[j]=0
 bytes:∃ xs,st.m.bytes=xs ++ st0.m.bytes
 grow:st.m.bytes.length≤st0.m.bytes.length+72*i
 nested:st.nested=true
 oend:st.oend=st0.m.bytes.length
 vts:st.vts=st0.vts
 shared:st.shared=st0.shared
 fin:st.fin=st0.fin
theorem slot_eq (st:BSt) (l:List Nat) (i:Nat) (hv:st.vtab=some l) (hi:i<l.length):st.slot (i:Nat)=some { st with vtab:=some (l.set i st.m.bytes.length) }:=by
 unfold BSt.slot
 rw [hv]
 show (if (0:Int)≤(i:Nat)∧((i:Nat):Int).toNat<l.length then _ else _)=_
 rw [if_pos ⟨by omega,by omega⟩]
 rfl
theorem FI.skip {st0 st:BSt} {n i:Nat} {ss:List (Slt Val)} {l:List Nat} (h:FI st0 st n i ss l) (hi:i<ss.length) (hil:i<l.length) (hp:present ss[i]=false):FI st0 st n (i+1) ss l:=by
 refine ⟨h.vtab,h.len,fun j hj hl hlt=>?_,fun j hl hle=>h.none j hl (by omega),h.bytes,by have:=h.grow;omega,h.nested,h.oend,h.vts,h.shared,h.fin⟩
 by_cases e:j=i
 ·subst e
  rw [hp,if_neg (by simp)]
  exact h.none j hl (Nat.le_refl _)
 ·exact h.some j hj hl (by omega)
/-- A field is put in front. -/
theorem FI.field {st0 st:BSt} {n i:Nat} {ss:List (Slt Val)} {l:List Nat} (h:FI st0 st n i ss l) (hi:i<ss.length) (hil:i<l.length) (hp:present ss[i]=true) (m:BM) (xs:List UInt8) (hm:m.bytes=xs ++ st.m.bytes) (hx0:0<xs.length) (hx:xs.length≤72) (hv:LVal true m.bytes ss[i].val m.bytes.length) :
  FI st0 { st with m:=m,vtab:=Option.some (l.set i m.bytes.length) } n (i+1) ss (l.set i m.bytes.length):=by
 have hml:m.bytes.length=xs.length+st.m.bytes.length:=by rw [hm,List.length_append]
 obtain ⟨ys,hy⟩:=h.bytes
 have hyl:st.m.bytes.length=ys.length+st0.m.bytes.length:=by rw [hy,List.length_append]
 refine ⟨rfl,by rw [List.length_set];exact h.len,fun j hj hl hlt=>?_,fun j hl hle=>?_,⟨xs ++ ys,by show m.bytes=_;rw [hm,hy,List.append_assoc]⟩,by show m.bytes.length≤_;have:=h.grow;omega,h.nested,h.oend,h.vts,h.shared,h.fin⟩
 ·by_cases e:j=i
  ·subst e
   rw [hp,if_pos rfl,List.getElem_set_self]
   exact ⟨by omega,Nat.le_refl _,hv⟩
  ·rw [List.getElem_set_ne (fun e'=>e e'.symm)]
   have:=h.some j hj (by rw [List.length_set] at hl;exact hl) (by omega)
   cases hpj:present ss[j] with
   | false=>rw [hpj,if_neg (by simp)] at this;rw [if_neg (by simp)];exact this
   | true =>
    rw [hpj,if_pos rfl] at this
    rw [if_pos rfl]
    refine ⟨this.1,by show _≤m.bytes.length;omega,?_⟩
    have h3:=LVal_app true _ xs _ _ this.2.2
    rw [← hm] at h3
    exact h3
 ·rw [List.getElem_set_ne (by omega)]
  exact h.none j (by rw [List.length_set] at hl;exact hl) (by omega)
theorem bField_laid {st0 st:BSt} {n i:Nat} {ss:List (Slt Val)} {l:List Nat} (h:FI st0 st n i ss l) (hi:i<ss.length) (hn:n=ss.length) (o:Nat) (hs:SlotOk st0.m.bytes ss[i] o) (hl4:st0.m.bytes.length+72*ss.length<1900000) :
  ∃ st' l',bField i ss[i] o st=some st'∧FI st0 st' n (i+1) ss l':=by
 have hil:i<l.length:=by rw [h.len];omega
 have hgr:=h.grow
 obtain ⟨ys,hy⟩:=h.bytes
 have hyl:st.m.bytes.length=ys.length+st0.m.bytes.length:=by rw [hy,List.length_append]
 obtain ⟨s,hse⟩:∃ s,s=ss[i]:=⟨_,rfl⟩
 rw [← hse] at hs ⊢
 unfold bField
 by_cases hh:s.has=false
 ·rw [if_pos hh]
  exact ⟨st,l,rfl,h.skip hi hil (by rw [← hse];unfold present;rw [hh];rfl)⟩
 ·have ht:s.has=true:=by cases hx:s.has <;> simp_all
  rw [if_neg hh]
  by_cases hk:s.val.kind≤10
  ·rw [if_pos hk]
   obtain ⟨o1,o2⟩:=hs.num ht hk
   have hsn:=sameNum_eqK o1 o2
   rw [hsn]
   unfold BSt.prepSlot
   cases he:eqK s.val.kind s.val.num s.dflt with
   | true =>
    rw [if_pos rfl]
    exact ⟨st,l,rfl,h.skip hi hil (by rw [← hse];unfold present;rw [he];simp [hk])⟩
   | false =>
    rw [if_neg (by simp)]
    have ha:=numSize_algn (k:=(s.val.kind:Int)) (by omega) (by omega)
    have hle:=numSize_le (s.val.kind:Int)
    obtain ⟨m,hm⟩:∃ m,m=(st.m.prep (numSize s.val.kind) 0).put (numB s.val.kind s.val.num):=⟨_,rfl⟩
    rw [← hm]
    have hmb:m.bytes=(numB s.val.kind s.val.num ++ List.replicate (st.m.pad (numSize s.val.kind) 0) 0) ++ st.m.bytes:=by
     rw [hm,List.append_assoc];rfl
    have hpl:=st.m.pad_lt (numSize s.val.kind) 0 ha
    have hz1:1≤numSize (s.val.kind:Int):=by unfold algn at ha;omega
    refine ⟨{ st with m:=m,vtab:=some (l.set i m.bytes.length) },l.set i m.bytes.length,slot_eq { st with m:=m } l i h.vtab hil,h.field hi hil ?_ m _ hmb ?_ ?_ ?_⟩
    ·rw [← hse];unfold present;rw [ht,he];simp
    ·rw [List.length_append,numB_length];omega
    ·rw [List.length_append,numB_length,List.length_replicate];omega
    ·rw [← hse]
     cases hv:s.val with
     | mk k e nn t ns ks zs =>
      rw [hv] at hk o1 hmb ha
      have hk':k≤10:=hk
      rw [LVal,if_pos hk']
      refine ⟨?_,fun _=>?_⟩
      ·rw [← numB_ok (k:=k) (n:=nn) o1]
       exact BytesAt.front (rest:=List.replicate (st.m.pad (numSize k) 0) 0 ++ st.m.bytes) (by rw [hmb,List.append_assoc];rfl)
      ·have hmod:=prep_mod st.m (numSize k) 0 ha
       have:m.bytes.length=numSize k+(st.m.prep (numSize k) 0).bytes.length:=by
        rw [hmb,List.append_assoc,List.length_append]
        show (numB k nn).length+_=_
        rw [numB_length];rfl
       rw [this,Nat.add_mod_left]
       simpa using hmod
  ·rw [if_neg hk]
   have hpr:present s=true:=by unfold present;rw [ht];simp [hk]
   by_cases h17:s.val.kind=17
   ·rw [if_pos h17]
    obtain ⟨he,ht1,ht2⟩:=hs.str ht h17
    have ha:algn s.val.elem:=by unfold algn;omega
    obtain ⟨m,hm⟩:∃ m,m=(st.m.prep s.val.elem s.val.text.length).put s.val.text:=⟨_,rfl⟩
    have hmb:m.bytes=(s.val.text ++ List.replicate (st.m.pad s.val.elem s.val.text.length) 0) ++ st.m.bytes:=by
     rw [hm,List.append_assoc];rfl
    have hpl:=st.m.pad_lt s.val.elem s.val.text.length ha
    have hml:m.bytes.length=s.val.text.length+(st.m.prep s.val.elem s.val.text.length).bytes.length:=by
     rw [hm];show (s.val.text ++ _).length=_;rw [List.length_append]
    refine ⟨{ st with m:=m,vtab:=some (l.set i m.bytes.length) },l.set i m.bytes.length,?_,h.field hi hil (by rw [← hse];exact hpr) m _ hmb ?_ ?_ ?_⟩
    ·rw [← hm]
     show BSt.structSlot { st with m:=m } i m.bytes.length 0=_
     unfold BSt.structSlot
     rw [if_neg (by omega),if_pos h.nested,if_pos rfl]
     exact slot_eq { st with m:=m } l i h.vtab hil
    ·rw [List.length_append];omega
    ·rw [List.length_append,List.length_replicate];omega
    ·rw [← hse]
     have hmod:=prep_mod st.m s.val.elem s.val.text.length ha
     cases hv:s.val with
     | mk k e nn t ns ks zs =>
      rw [hv] at hk h17 hmb hml hmod
      have hk':¬ k≤10:=hk
      have h17':k=17:=h17
      rw [LVal,if_neg hk',if_pos h17']
      refine ⟨BytesAt.front (rest:=List.replicate (st.m.pad e t.length) 0 ++ st.m.bytes) (by rw [hmb,List.append_assoc];rfl),fun _=>?_⟩
      show m.bytes.length % e=0
      rw [hml,Nat.add_comm];exact hmod
   ·rw [if_neg h17]
    obtain ⟨ho1,ho2,ho3⟩:=hs.obj ht hk h17
    have h4:algn 4:=by unfold algn;omega
    have hmod:=prep_mod st.m 4 0 h4
    have hplen:=st.m.prep_len 4 0 h4
    have hpl:=st.m.pad_lt 4 0 h4
    obtain ⟨m,hm⟩:∃ m,m=(st.m.prep 4 0).put (leB 4 ((st.m.prep 4 0).bytes.length-o+4)):=⟨_,rfl⟩
    have hmb0:m.bytes=leB 4 ((st.m.prep 4 0).bytes.length-o+4) ++ (st.m.prep 4 0).bytes:=by rw [hm];rfl
    have hmb:m.bytes=(leB 4 ((st.m.prep 4 0).bytes.length-o+4) ++ List.replicate (st.m.pad 4 0) 0) ++ st.m.bytes:=by
     rw [hmb0,List.append_assoc];rfl
    refine ⟨{ st with m:=m,vtab:=some (l.set i m.bytes.length) },l.set i m.bytes.length,?_,h.field hi hil (by rw [← hse];exact hpr) m _ hmb ?_ ?_ ?_⟩
    ·unfold BSt.offSlot BSt.refer BM.refer
     rw [if_neg (by omega),if_pos (by omega),Option.map_some,Option.bind_some,← hm]
     exact slot_eq { st with m:=m } l i h.vtab hil
    ·rw [List.length_append,leB_length];omega
    ·rw [List.length_append,leB_length,List.length_replicate];omega
    ·rw [← hse,LVal_ref hk h17]
     obtain ⟨g1,g2⟩:=ref_front hmb0 (by omega) ho1 (by simpa using hmod) (by omega)
     refine ⟨g1,?_⟩
     rw [g2,hmb,hy,← List.append_assoc]
     exact LObj_app true _ _ _ _ ho3
theorem bFields_laid {st0:BSt} {n:Nat} {ss:List (Slt Val)} (hn:n=ss.length) (hl4:st0.m.bytes.length+72*ss.length<1900000) (os:List Nat) (ho:os.length=ss.length) (hs:∀ j (h:j<ss.length),SlotOk st0.m.bytes ss[j] (os[j]'(by omega))) :
  ∀ (k i:Nat) (st:BSt) (l:List Nat),i+k=ss.length→FI st0 st n i ss l→∃ st' l',bFields i (ss.drop i) (os.drop i) st=some st'∧FI st0 st' n ss.length ss l'
 | 0,i,st,l,hk,h=>by
  obtain rfl:i=ss.length:=by omega
  rw [List.drop_length]
  exact ⟨st,l,rfl,h⟩
 | k+1,i,st,l,hk,h=>by
  have hi:i<ss.length:=by omega
  obtain ⟨st1,l1,e1,h1⟩:=bField_laid h hi hn _ (hs i hi) hl4
  obtain ⟨st',l',e2,h2⟩:=bFields_laid hn hl4 os ho hs k (i+1) st1 l1 (by omega) h1
  refine ⟨st',l',?_,h2⟩
  rw [List.drop_eq_getElem_cons hi,List.drop_eq_getElem_cons (by omega:i<os.length)]
  show (bField i ss[i] os[i] st).bind _=_
  rw [e1,Option.bind_some]
  exact e2
end Go.Proofs.YtcfblkkpclfmaaaGreat
