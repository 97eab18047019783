/- Part 12 of the proof of FnEvolved; no condition. -/
import Derived.Test.YtcfblkkpclfmaaaGreatEb11
import Derived.Test.YtcfblkkpclfmaaaGreatEb01
import Derived.Maps.Views
set_option linter.unusedVariables false
set_option linter.unusedSimpArgs false
set_option maxRecDepth 100000
set_option maxHeartbeats 16000000
namespace Go.Proofs.YtcfblkkpclfmaaaGreat
open Go.RowKit
def bNums(k:Nat)(ns:List Nat)(m:BM):BM:=ns.foldr (λn m=>(m.prep (numSize k) 0).put (numB k n)) m
def bOffs:List Nat->BSt->Option BSt
 | [],st=>some st
 | o::r,st=>(bOffs r st).bind λs=>s.refer o
def bScalars(k:Nat)(ns:List Nat)(st:BSt):Option (Nat × BSt) :=
 (st.startVec (numSize k) ns.length (numSize k)).bind λp=>BSt.endVec { p.2 with m:=bNums k ns p.2.m } ns.length
def bVec (os:List Nat)(st:BSt):Option (Nat × BSt) :=
 (st.startVec 4 os.length 4).bind λp=>(bOffs os p.2).bind λs=>s.endVec os.length
def bField(i:Nat)(s:Slt Val)(o:Nat)(st:BSt):Option BSt :=
 if s.has=false then some st
 else if s.val.kind<=10 then st.prepSlot (numSize s.val.kind) (numB s.val.kind s.val.num) i (sameNum s.val.kind s.val.num s.dflt)
 else if s.val.kind=17 then
  let st':BSt:={ st with m:=(st.m.prep s.val.elem s.val.text.length).put s.val.text }
  st'.structSlot i st'.m.bytes.length 0
 else st.offSlot i o 0
def bFields(i:Nat):List (Slt Val)->List Nat->BSt->Option BSt
 | s::r,o::os,st=>(bField i s o st).bind λst'=>bFields (i+1) r os st'
 | _,_,st=>some st
mutual
def bElse(sh:Bool):Val->BSt->Option (Nat × BSt)
 | .mk k e n t ns ks ss,st =>
  if k=11 then (if sh then st.sharedStr t else st.created t true)
  else if k=12 then st.created t false
  else if k=13 then bScalars e ns st
  else if k=14 then (bTexts sh ks st).bind λp=>bVec p.1 p.2
  else if k=16 then (bKids sh ks st).bind λp=>bVec p.1 p.2
  else if k=15 then (bSlots sh ss st).bind λp=>(p.2.startObj ss.length).bind λst1=>(bFields 0 ss p.1 st1).bind λst2=>st2.endObj
  else some (0,st)
termination_by structural v=>v
def bTexts(sh:Bool):List Val->BSt->Option (List Nat × BSt)
 | [],st=>some ([],st)
 | .mk k e n t ns ks ss::r,st=>(if sh then st.sharedStr t else st.created t true).bind λp=>(bTexts sh r p.2).map λq=>(p.1::q.1,q.2)
termination_by structural v=>v
def bKids(sh:Bool):List Val->BSt->Option (List Nat × BSt)
 | [],st=>some ([],st)
 | v::r,st=>(bTab sh v st).bind λp=>(bKids sh r p.2).map λq=>(p.1::q.1,q.2)
termination_by structural v=>v
def bSlots(sh:Bool):List (Slt Val)->BSt->Option (List Nat × BSt)
 | [],st=>some ([],st)
 | s::r,st=>(bSlot sh s st).bind λp=>(bSlots sh r p.2).map λq=>(p.1::q.1,q.2)
termination_by structural v=>v
def bSlot(sh:Bool):Slt Val->BSt->Option (Nat × BSt)
 | ⟨h,v,d⟩,st=>if h then bElse sh v st else some (0,st)
termination_by structural v=>v
def bTab (sh:Bool):Val->BSt->Option (Nat × BSt)
 | .mk k e n t ns ks ss,st=>(bSlots sh ss st).bind λp=>(p.2.startObj ss.length).bind λst1=>(bFields 0 ss p.1 st1).bind λst2=>st2.endObj
termination_by structural v=>v
end
def bBuilt(sh:Bool)(id:List UInt8)(v:Val)(st:BSt):Option BSt :=
 (bTab sh v st).bind λp=>if id=[] then p.2.finish p.1 else p.2.finishId p.1 id
theorem bTab_def(sh:Bool)(v:Val)(st:BSt):bTab sh v st=(bSlots sh v.slots st).bind λp=>(p.2.startObj v.slots.length).bind λst1=>(bFields 0 v.slots p.1 st1).bind λst2=>st2.endObj:=by
 cases v;rfl
theorem bSlot_def(sh:Bool)(s:Slt Val)(st:BSt):bSlot sh s st=if s.has then bElse sh s.val st else some (0,st):=by
 cases s;rfl
theorem bElse_tab(sh:Bool)(v:Val)(st:BSt)(h:v.kind=15):bElse sh v st=bTab sh v st:=by
 cases v with
 | mk k e n t ns ks ss =>
  have h':k=15:=h;subst h';rw[bElse,bTab];simp
theorem bSlots_snoc(sh:Bool)(l:List (Slt Val))(s:Slt Val)(st:BSt):bSlots sh (l++[s]) st=(bSlots sh l st).bind λp=>(bSlot sh s p.2).map λq=>(p.1++[q.1],q.2):=by
 induction l generalizing st with
 | nil =>
  show bSlots sh [s] st=(some ([],st)).bind _;rw[bSlots,Option.bind_some];cases h:bSlot sh s st with
  | none=>rfl
  | some p=>simp[bSlots]
 | cons a r ih =>
  rw[List.cons_append,bSlots,bSlots];cases h:bSlot sh a st with
  | none=>rfl
  | some p =>
   simp only[Option.bind_some];rw[ih];cases h2:bSlots sh r p.2 with
   | none=>rfl
   | some q =>
    simp only[Option.bind_some,Option.map_some];cases h3:bSlot sh s q.2 with
    | none=>rfl
    | some x=>simp
theorem bKids_snoc(sh:Bool)(l:List Val)(s:Val)(st:BSt):bKids sh (l++[s]) st=(bKids sh l st).bind λp=>(bTab sh s p.2).map λq=>(p.1++[q.1],q.2):=by
 induction l generalizing st with
 | nil =>
  show bKids sh [s] st=(some ([],st)).bind _;rw[bKids,Option.bind_some];cases h:bTab sh s st with
  | none=>rfl
  | some p=>simp[bKids]
 | cons a r ih =>
  rw[List.cons_append,bKids,bKids];cases h:bTab sh a st with
  | none=>rfl
  | some p =>
   simp only[Option.bind_some];rw[ih];cases h2:bKids sh r p.2 with
   | none=>rfl
   | some q =>
    simp only[Option.bind_some,Option.map_some];cases h3:bTab sh s q.2 with
    | none=>rfl
    | some x=>simp
def bText(sh:Bool)(t:List UInt8)(st:BSt):Option (Nat × BSt):=if sh then st.sharedStr t else st.created t true
theorem bTexts_cons(sh:Bool)(v:Val)(r:List Val)(st:BSt):bTexts sh (v::r) st=(bText sh v.text st).bind λp=>(bTexts sh r p.2).map λq=>(p.1::q.1,q.2):=by
 cases v;rfl
theorem bTexts_snoc(sh:Bool)(l:List Val)(s:Val)(st:BSt):bTexts sh (l++[s]) st=(bTexts sh l st).bind λp=>(bText sh s.text p.2).map λq=>(p.1++[q.1],q.2):=by
 induction l generalizing st with
 | nil =>
  show bTexts sh [s] st=(some ([],st)).bind _;rw[bTexts_cons,Option.bind_some];cases h:bText sh s.text st with
  | none=>rfl
  | some p=>simp[bTexts]
 | cons a r ih =>
  rw[List.cons_append,bTexts_cons,bTexts_cons];cases h:bText sh a.text st with
  | none=>rfl
  | some p =>
   simp only[Option.bind_some];rw[ih];cases h2:bTexts sh r p.2 with
   | none=>rfl
   | some q =>
    simp only[Option.bind_some,Option.map_some];cases h3:bText sh s.text q.2 with
    | none=>rfl
    | some x=>simp
theorem bFields_snoc(l:List (Slt Val))(os:List Nat)(i:Nat)(s:Slt Val)(o:Nat)(st:BSt)(h:l.length=os.length):bFields i (l++[s]) (os++[o]) st=(bFields i l os st).bind λst'=>bField (i+l.length) s o st':=by
 induction l generalizing os i st with
 | nil =>
  obtain rfl:os=[]:=List.eq_nil_of_length_eq_zero h.symm;show (bField i s o st).bind (λst'=>bFields (i+1) [] [] st')=(some st).bind _;simp only[Option.bind_some,bFields,List.length_nil,Nat.add_zero];cases bField i s o st<;>rfl
 | cons a r ih =>
  match os,h with
  | x::os,h =>
   simp only[List.cons_append,bFields];cases hb:bField i a x st with
   | none=>rfl
   | some st1 =>
    simp only[Option.bind_some];rw[ih os (i+1) st1 (by simpa using h),List.length_cons,show i+1+r.length=i+(r.length+1) by omega]
def at4 (B:List UInt8)(a:Nat):Nat:=le ((fromEnd B a).take 4)
def at2 (B:List UInt8)(a:Nat):Nat:=le ((fromEnd B a).take 2)
def refE (B:List UInt8)(a:Nat):Nat:=a-at4 B a
structure RefOk(al:Bool)(B:List UInt8)(a:Nat):Prop where
 len:a<=B.length
 low:4<=a
 pos:1<=at4 B a
 lt:at4 B a<a
 aln:al=true->a%4=0
structure BytesAt(B:List UInt8)(a:Nat)(xs:List UInt8):Prop where
 len:a<=B.length
 low:xs.length<=a
 eq:(fromEnd B a).take xs.length=xs
def LText(al:Bool)(B:List UInt8)(t:List UInt8)(r:Nat):Prop:=BytesAt B r (leB 4 t.length++(t++[0]))/\(al=true->r%4=0)
def LBytes(al:Bool)(B:List UInt8)(t:List UInt8)(r:Nat):Prop:=BytesAt B r (leB 4 t.length++t)/\(al=true->r%4=0)
def LNums(al:Bool)(B:List UInt8)(e:Nat)(ns:List Nat)(r:Nat):Prop:=BytesAt B r (leB 4 ns.length++ns.flatMap (leB (numSize e)))/\(al=true->r%4=0/\(r-4)%numSize e=0)
def LVec (al:Bool)(B:List UInt8)(n r:Nat):Prop:=BytesAt B r (leB 4 n)/\4+4*n<=r/\(al=true->r%4=0)
def vtOf (B:List UInt8)(o:Nat):Nat:=if at4 B o<2^31 then o+at4 B o else o-(2^32-at4 B o)
def fldOf(B:List UInt8)(o i:Nat):Nat:=if 6+2*i<=at2 B (vtOf B o) then at2 B (vtOf B o-(4+2*i)) else 0
structure TabHead(al:Bool)(B:List UInt8)(o:Nat):Prop where
 len:o<=B.length
 low:4<=o
 sgn:at4 B o<2^31\/2^32-at4 B o<o
 vlen:vtOf B o<=B.length
 size4:4<=at2 B (vtOf B o)
 size:at2 B (vtOf B o)<=vtOf B o
 even:at2 B (vtOf B o)%2=0
 whole4:4<=at2 B (vtOf B o-2)
 whole:at2 B (vtOf B o-2)<=o
 aln:al=true->o%4=0/\vtOf B o%2=0
def present(s:Slt Val):Bool:=s.has&&!(decide (s.val.kind<=10)&&eqK s.val.kind s.val.num s.dflt)
mutual
def LVal (al:Bool)(B:List UInt8):Val->Nat->Prop
 | .mk k e n t ns ks ss,a =>
  if k<=10 then BytesAt B a (leB (numSize k) n)/\(al=true->a%numSize k=0)
  else if k=17 then BytesAt B a t/\(al=true->a%e=0)
  else RefOk al B a/\(
   if k=11 then LText al B t (refE B a)
   else if k=12 then LBytes al B t (refE B a)
   else if k=13 then LNums al B e ns (refE B a)
   else if k=14 then LVec al B ks.length (refE B a)/\LTexts al B ks (refE B a-4)
   else if k=16 then LVec al B ks.length (refE B a)/\LKids al B ks (refE B a-4)
   else TabHead al B (refE B a)/\LSlots al B ss 0 (refE B a))
termination_by structural v=>v
def LTexts(al:Bool)(B:List UInt8):List Val->Nat->Prop
 | [],_=>True
 | .mk k e n t ns ks ss::r,a=>RefOk al B a/\LText al B t (refE B a)/\LTexts al B r (a-4)
termination_by structural v=>v
def LKids(al:Bool)(B:List UInt8):List Val->Nat->Prop
 | [],_=>True
 | v::r,a=>RefOk al B a/\LTab al B v (refE B a)/\LKids al B r (a-4)
termination_by structural v=>v
def LSlots(al:Bool)(B:List UInt8):List (Slt Val)->Nat->Nat->Prop
 | [],_,_=>True
 | s::r,i,o=>LSlot al B s i o/\LSlots al B r (i+1) o
termination_by structural v=>v
def LSlot(al:Bool)(B:List UInt8):Slt Val->Nat->Nat->Prop
 | ⟨h,v,d⟩,i,o=>if present ⟨h,v,d⟩ then 4<=fldOf B o i/\fldOf B o i<at2 B (vtOf B o-2)/\LVal al B v (o-fldOf B o i) else fldOf B o i=0
termination_by structural v=>v
def LTab (al:Bool)(B:List UInt8):Val->Nat->Prop
 | .mk k e n t ns ks ss,o=>TabHead al B o/\LSlots al B ss 0 o
termination_by structural v=>v
end
theorem LTab_def(al:Bool)(B:List UInt8)(v:Val)(o:Nat):LTab al B v o=(TabHead al B o/\LSlots al B v.slots 0 o):=by cases v;rfl
theorem LTexts_cons(al:Bool)(B:List UInt8)(v:Val)(r:List Val)(a:Nat):LTexts al B (v::r) a=(RefOk al B a/\LText al B v.text (refE B a)/\LTexts al B r (a-4)):=by cases v;rfl
theorem LSlot_def(al:Bool)(B:List UInt8)(s:Slt Val)(i o:Nat):LSlot al B s i o=(if present s then 4<=fldOf B o i/\fldOf B o i<at2 B (vtOf B o-2)/\LVal al B s.val (o-fldOf B o i) else fldOf B o i=0):=by cases s;rfl
/-! Bytes that are put in front turn nothing. -/
theorem at4_app(xs B:List UInt8)(a:Nat)(h:a<=B.length):at4 (xs++B) a=at4 B a:=by unfold at4;rw[fromEnd_append _ _ _ h]
theorem at2_app(xs B:List UInt8)(a:Nat)(h:a<=B.length):at2 (xs++B) a=at2 B a:=by unfold at2;rw[fromEnd_append _ _ _ h]
theorem refE_app(xs B:List UInt8)(a:Nat)(h:a<=B.length):refE (xs++B) a=refE B a:=by unfold refE;rw[at4_app _ _ _ h]
theorem RefOk.app{al:Bool}{B:List UInt8}{a:Nat}(h:RefOk al B a)(xs:List UInt8):RefOk al (xs++B) a :=
 ⟨by rw[List.length_append];have:=h.len;omega,h.low,by rw[at4_app _ _ _ h.len];exact h.pos,by rw[at4_app _ _ _ h.len];exact h.lt,h.aln⟩
theorem BytesAt.app{B:List UInt8}{a:Nat}{ys:List UInt8}(h:BytesAt B a ys)(xs:List UInt8):BytesAt (xs++B) a ys :=
 ⟨by rw[List.length_append];have:=h.len;omega,h.low,by rw[fromEnd_append _ _ _ h.len];exact h.eq⟩
theorem LText.app{al:Bool}{B t:List UInt8}{r:Nat}(h:LText al B t r)(xs:List UInt8):LText al (xs++B) t r:=⟨h.1.app xs,h.2⟩
theorem LBytes.app{al:Bool}{B t:List UInt8}{r:Nat}(h:LBytes al B t r)(xs:List UInt8):LBytes al (xs++B) t r:=⟨h.1.app xs,h.2⟩
theorem LNums.app{al:Bool}{B:List UInt8}{e:Nat}{ns:List Nat}{r:Nat}(h:LNums al B e ns r)(xs:List UInt8):LNums al (xs++B) e ns r:=⟨h.1.app xs,h.2⟩
theorem LVec.app{al:Bool}{B:List UInt8}{n r:Nat}(h:LVec al B n r)(xs:List UInt8):LVec al (xs++B) n r:=⟨h.1.app xs,h.2⟩
theorem vtOf_app(xs B:List UInt8)(o:Nat)(h:o<=B.length):vtOf (xs++B) o=vtOf B o:=by unfold vtOf;rw[at4_app _ _ _ h]
theorem TabHead.at2{al:Bool}{B:List UInt8}{o:Nat}(h:TabHead al B o)(xs:List UInt8)(k:Nat):at2 (xs++B) (vtOf (xs++B) o-k)=at2 B (vtOf B o-k):=by
 rw[vtOf_app _ _ _ h.len,at2_app _ _ _ (by have:=h.vlen;omega)]
theorem TabHead.fld{al:Bool}{B:List UInt8}{o:Nat}(h:TabHead al B o)(xs:List UInt8)(i:Nat):fldOf (xs++B) o i=fldOf B o i:=by
 have h0:=h.at2 xs 0;rw[Nat.sub_zero,Nat.sub_zero] at h0;unfold fldOf;rw[h0,h.at2 xs]
theorem TabHead.app{al:Bool}{B:List UInt8}{o:Nat}(h:TabHead al B o)(xs:List UInt8):TabHead al (xs++B) o:=by
 have h0:=h.at2 xs 0;rw[Nat.sub_zero,Nat.sub_zero] at h0;have h2:=h.at2 xs 2;have hv:=vtOf_app xs B o h.len;have h4:=at4_app xs B o h.len;refine⟨by rw[List.length_append];have:=h.len;omega,h.low,by rw[h4];exact h.sgn,by rw[hv,List.length_append];have:=h.vlen;omega,by rw[h0];exact h.size4,by rw[h0,hv];exact h.size,by rw[h0];exact h.even,by rw[h2];exact h.whole4,by rw[h2];exact h.whole,by rw[hv];exact h.aln⟩
mutual
theorem LVal_app(al:Bool)(B xs:List UInt8):∀(v:Val) (a:Nat),LVal al B v a->LVal al (xs++B) v a
 | .mk k e n t ns ks ss,a,h=>by
  rw[LVal] at h ⊢;split
  ·rename_i h1
   rw[if_pos h1] at h;exact⟨h.1.app xs,h.2⟩
  ·rename_i h1
   rw[if_neg h1] at h;split
   ·rename_i h2
    rw[if_pos h2] at h;exact⟨h.1.app xs,h.2⟩
   ·rename_i h2
    rw[if_neg h2] at h;obtain⟨hr,h⟩:=h;rw[refE_app _ _ _ hr.len];refine⟨hr.app xs,?_⟩;split
    ·rename_i h3;rw[if_pos h3] at h;exact h.app xs
    ·rename_i h3;rw[if_neg h3] at h
     split
     ·rename_i h4;rw[if_pos h4] at h;exact h.app xs
     ·rename_i h4;rw[if_neg h4] at h
      split
      ·rename_i h5;rw[if_pos h5] at h;exact h.app xs
      ·rename_i h5;rw[if_neg h5] at h
       split
       ·rename_i h6;rw[if_pos h6] at h;exact⟨h.1.app xs,LTexts_app al B xs ks _ h.2⟩
       ·rename_i h6;rw[if_neg h6] at h
        split
        ·rename_i h7;rw[if_pos h7] at h;exact⟨h.1.app xs,LKids_app al B xs ks _ h.2⟩
        ·rename_i h7;rw[if_neg h7] at h;exact⟨h.1.app xs,LSlots_app al B xs ss 0 _ h.1 h.2⟩
termination_by structural v=>v
theorem LTexts_app(al:Bool)(B xs:List UInt8):∀(l:List Val) (a:Nat),LTexts al B l a->LTexts al (xs++B) l a
 | [],_,_=>trivial
 | .mk k e n t ns ks ss::r,a,h=>by
  rw[LTexts] at h ⊢;rw[refE_app _ _ _ h.1.len];exact⟨h.1.app xs,h.2.1.app xs,LTexts_app al B xs r _ h.2.2⟩
termination_by structural v=>v
theorem LKids_app(al:Bool)(B xs:List UInt8):∀(l:List Val) (a:Nat),LKids al B l a->LKids al (xs++B) l a
 | [],_,_=>trivial
 | v::r,a,h=>by
  rw[LKids] at h ⊢;rw[refE_app _ _ _ h.1.len];exact⟨h.1.app xs,LTab_app al B xs v _ h.2.1,LKids_app al B xs r _ h.2.2⟩
termination_by structural v=>v
theorem LSlots_app(al:Bool)(B xs:List UInt8):∀(l:List (Slt Val)) (i o:Nat),TabHead al B o->LSlots al B l i o->LSlots al (xs++B) l i o
 | [],_,_,_,_=>trivial
 | s::r,i,o,ht,h=>by
  rw[LSlots] at h ⊢;exact⟨LSlot_app al B xs s i o ht h.1,LSlots_app al B xs r (i+1) o ht h.2⟩
termination_by structural v=>v
theorem LSlot_app(al:Bool)(B xs:List UInt8):∀(s:Slt Val) (i o:Nat),TabHead al B o->LSlot al B s i o->LSlot al (xs++B) s i o
 | ⟨hs,v,d⟩,i,o,ht,h=>by
  rw[LSlot] at h ⊢;rw[ht.fld xs,ht.at2 xs];split
  ·rename_i h1
   rw[if_pos h1] at h;exact⟨h.1,h.2.1,LVal_app al B xs v _ h.2.2⟩
  ·rename_i h1
   rw[if_neg h1] at h;exact h
termination_by structural v=>v
theorem LTab_app(al:Bool)(B xs:List UInt8):∀(v:Val) (o:Nat),LTab al B v o->LTab al (xs++B) v o
 | .mk k e n t ns ks ss,o,h=>by
  rw[LTab] at h ⊢;exact⟨h.1.app xs,LSlots_app al B xs ss 0 o h.1 h.2⟩
termination_by structural v=>v
end
end Go.Proofs.YtcfblkkpclfmaaaGreat
namespace Go.Proofs.YtcfblkkpclfmaaaGreat
open Go.RowKit Go.Maps
theorem fromEnd_full(B:List UInt8):fromEnd B B.length=B:=by unfold fromEnd;rw[Nat.sub_self];rfl
theorem fromEnd_sub(B:List UInt8)(v k:Nat)(h:k<=v)(hv:v<=B.length):fromEnd B (v-k)=(fromEnd B v).drop k:=by
 unfold fromEnd;rw[List.drop_drop,show B.length-(v-k)=B.length-v+k by omega]
theorem BytesAt.front{B xs rest:List UInt8}(h:B=xs++rest):BytesAt B B.length xs :=
 ⟨Nat.le_refl _,by rw[h,List.length_append];omega,by rw[fromEnd_full,h,List.take_left]⟩
theorem BytesAt.left{B xs ys:List UInt8}{a:Nat}(h:BytesAt B a (xs++ys)):BytesAt B a xs :=
 ⟨h.len,by have:=h.low;rw[List.length_append] at this;omega,by
  have:=congrArg (List.take xs.length) h.eq
  rw[List.take_take,List.take_left,List.length_append,Nat.min_eq_left (by omega)] at this;exact this⟩
theorem BytesAt.right{B xs ys:List UInt8}{a:Nat}(h:BytesAt B a (xs++ys)):BytesAt B (a-xs.length) ys:=by
 have hl:=h.low;rw[List.length_append] at hl;refine⟨by have:=h.len;omega,by omega,?_⟩;rw[fromEnd_sub _ _ _ (by omega) h.len];have:=congrArg (List.drop xs.length) h.eq
 rw[List.drop_left,List.drop_take,List.length_append,show xs.length+ys.length-xs.length=ys.length by omega] at this;exact this
theorem BytesAt.at2{B xs:List UInt8}{a:Nat}(h:BytesAt B a xs)(hx:xs.length=2):at2 B a=le xs:=by
 unfold Proofs.YtcfblkkpclfmaaaGreat.at2;rw[<-hx,h.eq]
theorem BytesAt.at4{B xs:List UInt8}{a:Nat}(h:BytesAt B a xs)(hx:xs.length=4):at4 B a=le xs:=by
 unfold Proofs.YtcfblkkpclfmaaaGreat.at4;rw[<-hx,h.eq]
structure VtOk(B:List UInt8)(v:Nat):Prop where
 ok:∃(es:List Nat) (W:Nat),BytesAt B v (leB 2 (2*es.length+4)++(leB 2 W++es.flatMap (leB 2)))/\es.length<=60/\4<=W/\W<=v/\W<65536/\(∀e∈es,e<W)/\v%2=0
theorem VtOk.app{B:List UInt8}{v:Nat}(h:VtOk B v)(xs:List UInt8):VtOk (xs++B) v:=by
 obtain⟨es,W,h1,h2⟩:=h.ok;exact⟨es,W,h1.app xs,h2⟩
structure PI(st:BSt):Prop where
 vt:∀v∈st.vts,VtOk st.m.bytes v
 shm:IsMap (st.shared.getD (.map []))
 sh:∀t,has (st.shared.getD (.map [])) (.string t)=true->LText true st.m.bytes t (numOf ((st.shared.getD (.map [])).atKey (.string t) (.lit (.int .u32 0))))/\0<numOf ((st.shared.getD (.map [])).atKey (.string t) (.lit (.int .u32 0)))
theorem PI.start(n:Nat):PI (st0 n):=⟨λv hv=>by simp[st0] at hv,isMap_empty,λt h=>by simp[st0,has] at h⟩
structure Put(st st':BSt):Prop where
 bytes:∃xs,st'.m.bytes=xs++st.m.bytes
 fin:st'.fin=st.fin
theorem Put.refl(st:BSt):Put st st:=⟨⟨[],rfl⟩,rfl⟩
theorem Put.trans{a b c:BSt}(h:Put a b)(g:Put b c):Put a c:=by
 obtain⟨xs,h1⟩:=h.bytes;obtain⟨ys,g1⟩:=g.bytes;exact⟨⟨ys++xs,by rw[g1,h1,List.append_assoc]⟩,g.fin.trans h.fin⟩
theorem Put.len{a b:BSt}(h:Put a b):a.m.bytes.length<=b.m.bytes.length:=by
 obtain⟨xs,h1⟩:=h.bytes;rw[h1,List.length_append];omega
theorem PI.put{st st':BSt}(h:PI st)(p:Put st st')(hv:st'.vts=st.vts)(hs:st'.shared=st.shared):PI st':=by
 obtain⟨xs,hx⟩:=p.bytes;refine⟨λv hm=>?_,by rw[hs];exact h.shm,λt ht=>?_⟩
 ·rw[hv] at hm;rw[hx];exact (h.vt v hm).app xs
 ·rw[hs] at ht ⊢;obtain⟨h1,h2⟩:=h.sh t ht;rw[hx];exact⟨h1.app xs,h2⟩
/-! A string. -/
theorem created_laid(st:BSt)(t:List UInt8)(z:Bool)(hn:st.nested=false):∃o st',st.created t z=some (o,st')/\st'.nested=false/\st'.vts=st.vts/\st'.shared=st.shared/\Put st st'/\4<=o/\o=st'.m.bytes.length /\
  (if z then LText true st'.m.bytes t o else LBytes true st'.m.bytes t o):=by
 refine⟨(st.m.text t z).bytes.length,{ st with m:=st.m.text t z,nested:=false },created_eq st t z hn,rfl,rfl,rfl,⟨?_,rfl⟩,?_,rfl,?_⟩
 ·cases z with
  | true =>
   obtain⟨k,_,hb,_⟩:=text_true st.m t;exact⟨leB 4 t.length++(t++(0::List.replicate k 0)),by show (st.m.text t true).bytes=_;rw[hb];simp⟩
  | false =>
   obtain⟨k,_,hb,_⟩:=text_false st.m t;exact⟨leB 4 t.length++(t++List.replicate k 0),by show (st.m.text t false).bytes=_;rw[hb];simp⟩
 ·cases z with
  | true=>obtain⟨k,_,hb,_⟩:=text_true st.m t;rw[hb];simp[leB_length]
  | false=>obtain⟨k,_,hb,_⟩:=text_false st.m t;rw[hb];simp[leB_length]
 ·cases z with
  | true =>
   obtain⟨k,_,hb,h4⟩:=text_true st.m t;refine⟨BytesAt.front (rest:=List.replicate k 0++st.m.bytes) ?_,λ_=>h4⟩;show (st.m.text t true).bytes=_;rw[hb];simp
  | false =>
   obtain⟨k,_,hb,h4⟩:=text_false st.m t;refine⟨BytesAt.front (rest:=List.replicate k 0++st.m.bytes) ?_,λ_=>h4⟩;show (st.m.text t false).bytes=_;rw[hb];simp
theorem text_laid(sh:Bool)(st:BSt)(t:List UInt8)(hn:st.nested=false)(hp:PI st):∃o st',bText sh t st=some (o,st')/\st'.nested=false/\PI st'/\Put st st'/\0<o/\LText true st'.m.bytes t o:=by
 cases sh with
 | false =>
  obtain⟨o,st',h1,h2,h3,h4,h5,h6,h7,h8⟩:=created_laid st t true hn;exact⟨o,st',h1,h2,hp.put h5 h3 h4,h5,by omega,h8⟩
 | true =>
  show ∃o st',st.sharedStr t=_/\_;unfold BSt.sharedStr;obtain⟨D,hD⟩:=exA (st.shared.getD (.map []));have hm:=hp.shm;have hs:=hp.sh;rw[<-hD] at hm hs ⊢;cases hh:has D (.string t) with
  | true =>
   rw[if_pos rfl];obtain⟨h1,h2⟩:=hs t hh;exact⟨_,_,rfl,hn,⟨hp.vt,by show IsMap D;exact hm,by show ∀t,has D (.string t)=true->_;exact hs⟩,⟨⟨[],rfl⟩,rfl⟩,h2,h1⟩
  | false =>
   rw[if_neg (by simp)];obtain⟨o,st',h1,h2,h3,h4,h5,h6,h7,h8⟩:=created_laid { st with shared:=some D } t true hn;rw[h1];obtain⟨xs,hx⟩:=h5.bytes;have hx':st'.m.bytes=xs++st.m.bytes:=hx;refine⟨o,_,rfl,h2,⟨λv hv=>?_,hm.put _ _,λu hu=>?_⟩,⟨⟨xs,hx'⟩,h5.fin⟩,by omega,h8⟩
   ·have hv':v∈st.vts:=by
     have:({ st' with shared:=some (D.put (.string t) (.lit (.int .u32 o))) }:BSt).vts=st.vts:=h3
     rw[this] at hv;exact hv
    show VtOk st'.m.bytes v;rw[hx'];exact (hp.vt v hv').app xs
   ·have hu':has (D.put (.string t) (.lit (.int .u32 o))) (.string u)=true:=hu;show LText true st'.m.bytes u (numOf ((D.put (.string t) (.lit (.int .u32 o))).atKey (.string u) (.lit (.int .u32 0))))/\0<numOf ((D.put (.string t) (.lit (.int .u32 o))).atKey (.string u) (.lit (.int .u32 0)));by_cases e:u=t
    ·subst e;rw[atKey_put_same hm (by trivial)];show LText true st'.m.bytes u ((o:Int).toNat)/\0<(o:Int).toNat
     rw[Int.toNat_natCast];exact⟨h8,by omega⟩
    ·have hne:(Lit.string u)≠.string t:=λh=>e (by injection h);rw[has_put_other hne] at hu';rw[atKey_put_other hne];obtain⟨g1,g2⟩:=hs u hu';rw[hx'];exact⟨g1.app xs,g2⟩
/-! A vector of numbers. -/
theorem bNums_cons(k n:Nat)(r:List Nat)(m:BM):bNums k (n::r) m=((bNums k r m).prep (numSize k) 0).put (numB k n):=rfl
theorem bNums_bytes(k:Nat)(hk:k<=10)(m:BM)(hz:m.bytes.length%numSize k=0):∀ns:List Nat,(bNums k ns m).bytes=ns.flatMap (numB k)++m.bytes/\(bNums k ns m).bytes.length%numSize k=0
 | []=>⟨rfl,hz⟩
 | n::r=>by
  obtain⟨h1,h2⟩:=bNums_bytes k hk m hz r;have ha:=numSize_algn (k:=(k:Int)) (by omega) (by omega);have e:(bNums k (n::r) m).bytes=numB k n++(bNums k r m).bytes:=by
   rw[bNums_cons];show numB k n++((bNums k r m).prep (numSize k) 0).bytes=_;rw[prep_id _ _ _ ha (by simpa using h2)]
  refine⟨by rw[e,h1,List.flatMap_cons,List.append_assoc],?_⟩;rw[e,List.length_append,numB_length];rw[Nat.add_mod_left];exact h2
theorem padB_zero(u s:Nat)(h:u%s=0):padB u s=0:=by
 unfold padB;rw[h,Nat.sub_zero,Nat.mod_self]
theorem prep_room_le(m:BM)(size add:Nat)(hs:algn size)(h:m.bytes.length%size=0)(ha:add=0):m.room<=(m.prep size add).room:=by
 subst ha;have hp:m.pad size 0=0:=padB_zero _ _ h;show m.room<=prepRoom m.room m.bytes.length (m.pad size 0+size+0)-m.pad size 0;rw[hp,Nat.sub_zero];have key:∀(need f room:Nat),room<=roomL f room m.bytes.length need:=by
  intro need f;induction f with
  | zero=>intro room;exact Nat.le_refl _
  | succ f ih =>
   intro room;show room<=(if room<=need then roomL f (newL (room+m.bytes.length)-m.bytes.length) m.bytes.length need else room);split
   ·have:=newL_gt (room+m.bytes.length)
    have:=ih (newL (room+m.bytes.length)-m.bytes.length)
    omega
   ·exact Nat.le_refl _
 exact key _ _ _
theorem bNums_room(k:Nat)(hk:k<=10)(m:BM)(hz:m.bytes.length%numSize k=0):∀ns:List Nat,m.room<=(bNums k ns m).room+ns.length*numSize k
 | []=>by simp[bNums]
 | n::r=>by
  have ih:=bNums_room k hk m hz r;have h2:=(bNums_bytes k hk m hz r).2;have ha:=numSize_algn (k:=(k:Int)) (by omega) (by omega);have h3:=prep_room_le (bNums k r m) (numSize k) 0 ha h2 rfl;rw[bNums_cons];show m.room<=((bNums k r m).prep (numSize k) 0).room-(numB k n).length+(r.length+1)*numSize k;rw[numB_length,Nat.add_mul,Nat.one_mul];omega
theorem startVec_eq(st:BSt)(z n:Nat)(hn:st.nested=false):st.startVec z n z=some (((st.m.prep 4 (z*n)).prep z (z*n)).bytes.length,{ st with m:=(st.m.prep 4 (z*n)).prep z (z*n),nested:=true }):=by
 unfold BSt.startVec;rw[hn];rfl
theorem startVec_m(m:BM)(z n:Nat)(hz:algn z):4+z*n<((m.prep 4 (z*n)).prep z (z*n)).room/\(((m.prep 4 (z*n)).prep z (z*n)).bytes.length+z*n)%z=0/\(((m.prep 4 (z*n)).prep z (z*n)).bytes.length+z*n)%4=0/\∃k,k<=22/\((m.prep 4 (z*n)).prep z (z*n)).bytes=List.replicate k 0++m.bytes:=by
 have h4:algn 4:=by unfold algn;omega
 have r1:=m.prep_room 4 (z*n);have m1:=prep_mod m 4 (z*n) h4;have m2:=prep_mod (m.prep 4 (z*n)) z (z*n) hz;have r2:=(m.prep 4 (z*n)).prep_room z (z*n);have p1:=m.pad_lt 4 (z*n) h4;have p2:=(m.prep 4 (z*n)).pad_lt z (z*n) hz;have l2:=(m.prep 4 (z*n)).prep_len z (z*n) hz;have hzc:z=1\/z=2\/z=4\/z=8\/z=16:=hz;refine⟨?_,m2,?_,?_⟩
 ·by_cases hs:z<4
  ·have h0:(m.prep 4 (z*n)).pad z (z*n)=0:=by
    refine padB_zero _ _ ?_;rcases hzc with rfl|rfl|rfl|rfl|rfl<;>omega
   show 4+z*n<prepRoom (m.prep 4 (z*n)).room (m.prep 4 (z*n)).bytes.length ((m.prep 4 (z*n)).pad z (z*n)+z+z*n)-(m.prep 4 (z*n)).pad z (z*n);rw[h0,Nat.sub_zero];have key:∀(need f room:Nat),room<=roomL f room (m.prep 4 (z*n)).bytes.length need:=by
    intro need f;induction f with
    | zero=>intro room;exact Nat.le_refl _
    | succ f ih =>
     intro room;show room<=(if room<=need then roomL f (newL (room+(m.prep 4 (z*n)).bytes.length)-(m.prep 4 (z*n)).bytes.length) (m.prep 4 (z*n)).bytes.length need else room);split
     ·have:=newL_gt (room+(m.prep 4 (z*n)).bytes.length)
      have:=ih (newL (room+(m.prep 4 (z*n)).bytes.length)-(m.prep 4 (z*n)).bytes.length)
      omega
     ·exact Nat.le_refl _
   exact Nat.lt_of_lt_of_le r1 (key _ _ _)
  ·omega
 ·rcases hzc with h|h|h|h|h<;>rw[h] at m2 l2 p2 m1 ⊢<;>omega
 ·refine⟨(m.prep 4 (z*n)).pad z (z*n)+m.pad 4 (z*n),by rcases hzc with h|h|h|h|h<;>omega,?_⟩;show List.replicate _ 0++(List.replicate _ 0++m.bytes)=_;rw[<-List.append_assoc,List.replicate_append_replicate]
theorem endVec_eq(st:BSt)(n:Nat)(hn:st.nested=true)(hr:4<=st.m.room):st.endVec n=some (4+st.m.bytes.length,{ st with m:=st.m.put (leB 4 n),nested:=false }):=by
 unfold BSt.endVec;rw[if_pos hn,if_neg (by omega)]
theorem numB_ok{k n:Nat}(h:OkNum k n):numB k n=leB (numSize k) n:=by
 unfold numB;split
 ·rename_i hk
  have:=h.2.2.1 (by omega)
  rw[show n=1 by omega]
 ·rfl
theorem scalars_laid(st:BSt)(k:Nat)(ns:List Nat)(hk:k<=10)(hns:∀n∈ns,OkNum k n)(hn:st.nested=false):∃o st',bScalars k ns st=some (o,st')/\st'.nested=false/\st'.vts=st.vts/\st'.shared=st.shared/\Put st st'/\0<o/\LNums true st'.m.bytes k ns o:=by
 have ha:=numSize_algn (k:=(k:Int)) (by omega) (by omega);obtain⟨hr,h1,h2,j,hj,hb⟩:=startVec_m st.m (numSize k) ns.length ha;obtain⟨m,hm⟩:=exA ((st.m.prep 4 (numSize k*ns.length)).prep (numSize k) (numSize k*ns.length));rw[<-hm] at hr h1 h2 hb;have hmz:m.bytes.length%numSize k=0:=by rw[Nat.add_mul_mod_self_left] at h1;exact h1
 obtain⟨hnb,hnz⟩:=bNums_bytes k hk m hmz ns;have hroom:=bNums_room k hk m hmz ns;have hfl:ns.flatMap (numB k)=ns.flatMap (leB (numSize k)):=by
  have:∀l:List Nat,(∀n∈l,OkNum k n)->l.flatMap (numB k)=l.flatMap (leB (numSize k)):=by
   intro l;induction l with
   | nil=>intro _;rfl
   | cons a r ih=>intro h;rw[List.flatMap_cons,List.flatMap_cons,numB_ok (h a (by simp)),ih (λn hn=>h n (by simp[hn]))]
  exact this ns hns
 have hlen:(ns.flatMap (leB (numSize k))).length=numSize k*ns.length:=by
  have:∀l:List Nat,(l.flatMap (leB (numSize k))).length=numSize k*l.length:=by
   intro l;induction l with
   | nil=>rfl
   | cons a r ih=>rw[List.flatMap_cons,List.length_append,leB_length,ih,List.length_cons,Nat.mul_add,Nat.mul_one];omega
  exact this ns
 rw[hfl] at hnb;rw[Nat.mul_comm] at hroom;refine⟨4+(bNums k ns m).bytes.length,{ st with m:=(bNums k ns m).put (leB 4 ns.length),nested:=false },?_,rfl,rfl,rfl,⟨⟨leB 4 ns.length++(ns.flatMap (leB (numSize k))++List.replicate j 0),?_⟩,rfl⟩,by omega,?_⟩
 ·unfold bScalars;rw[startVec_eq st _ _ hn,Option.bind_some,<-hm];exact endVec_eq { st with m:=bNums k ns m,nested:=true } ns.length rfl (by show 4<=(bNums k ns m).room;omega)
 ·show leB 4 ns.length++(bNums k ns m).bytes=_;rw[hnb,hb];simp
 ·have e:leB 4 ns.length++(bNums k ns m).bytes=(leB 4 ns.length++ns.flatMap (leB (numSize k)))++m.bytes:=by rw[hnb];simp
  have hl:4+(bNums k ns m).bytes.length=(leB 4 ns.length++(bNums k ns m).bytes).length:=by rw[List.length_append,leB_length]
  refine⟨?_,λ_=>⟨?_,?_⟩⟩
  ·show BytesAt (leB 4 ns.length++(bNums k ns m).bytes) _ _;rw[hl];exact BytesAt.front e
  ·rw[hnb,List.length_append,hlen,Nat.add_comm (numSize k*ns.length)];omega
  ·rw[show 4+(bNums k ns m).bytes.length-4=(bNums k ns m).bytes.length by omega];exact hnz
end Go.Proofs.YtcfblkkpclfmaaaGreat
namespace Go.Proofs.YtcfblkkpclfmaaaGreat
open Go.RowKit Go.Maps
def LObj (al:Bool)(B:List UInt8):Val->Nat->Prop
 | .mk k e n t ns ks ss,r =>
   if k=11 then LText al B t r
   else if k=12 then LBytes al B t r
   else if k=13 then LNums al B e ns r
   else if k=14 then LVec al B ks.length r/\LTexts al B ks (r-4)
   else if k=16 then LVec al B ks.length r/\LKids al B ks (r-4)
   else TabHead al B r/\LSlots al B ss 0 r
theorem LVal_ref{al:Bool}{B:List UInt8}{v:Val}{a:Nat}(h1:¬v.kind<=10)(h2:v.kind≠17):LVal al B v a=(RefOk al B a/\LObj al B v (refE B a)):=by
 cases v with
 | mk k e n t ns ks ss =>
  rw[LVal,if_neg (show ¬k<=10 from h1),if_neg (show ¬k=17 from h2)];rfl
theorem LObj_app(al:Bool)(B xs:List UInt8)(v:Val)(r:Nat)(h:LObj al B v r):LObj al (xs++B) v r:=by
 cases v with
 | mk k e n t ns ks ss =>
  rw[LObj] at h ⊢;split
  ·rename_i h3;rw[if_pos h3] at h;exact h.app xs
  ·rename_i h3;rw[if_neg h3] at h
   split
   ·rename_i h4;rw[if_pos h4] at h;exact h.app xs
   ·rename_i h4;rw[if_neg h4] at h
    split
    ·rename_i h5;rw[if_pos h5] at h;exact h.app xs
    ·rename_i h5;rw[if_neg h5] at h
     split
     ·rename_i h6;rw[if_pos h6] at h;exact⟨h.1.app xs,LTexts_app al B xs ks _ h.2⟩
     ·rename_i h6;rw[if_neg h6] at h
      split
      ·rename_i h7;rw[if_pos h7] at h;exact⟨h.1.app xs,LKids_app al B xs ks _ h.2⟩
      ·rename_i h7;rw[if_neg h7] at h;exact⟨h.1.app xs,LSlots_app al B xs ss 0 _ h.1 h.2⟩
theorem refer_m{st:BSt}{off:Nat}(h4:st.m.bytes.length%4=0)(ho:off<=st.m.bytes.length):∃m,st.refer off=some { st with m:=m }/\m.bytes=leB 4 (st.m.bytes.length-off+4)++st.m.bytes/\st.m.room<=m.room+4:=by
 have e:=prep_id st.m 4 0 (by unfold algn;omega) (by simpa using h4);refine⟨(st.m.prep 4 0).put (leB 4 ((st.m.prep 4 0).bytes.length-off+4)),?_,?_,?_⟩
 ·unfold BSt.refer BM.refer;rw[e,if_pos ho];rfl
 ·show leB 4 _++(st.m.prep 4 0).bytes=_;rw[e]
 ·show st.m.room<=(st.m.prep 4 0).room-(leB 4 _).length+4;rw[leB_length];have:=prep_room_le st.m 4 0 (by unfold algn;omega) h4 rfl
  omega
theorem ref_front{B:List UInt8}{B':List UInt8}{o:Nat}(h:B'=leB 4 (B.length-o+4)++B)(ho:o<=B.length)(h0:0<o)(h4:B.length%4=0)(hl:B.length<2000000):RefOk true B' B'.length/\refE B' B'.length=o:=by
 have hl':B'.length=4+B.length:=by rw[h,List.length_append,leB_length]
 have ha:at4 B' B'.length=B.length-o+4:=by
  have:=(BytesAt.front h).at4 (leB_length _ _)
  rw[this,le_leB];omega
 refine⟨⟨Nat.le_refl _,by omega,by omega,by omega,λ_=>by omega⟩,?_⟩;unfold refE;rw[ha,hl'];omega
theorem offs_laid:∀(os:List Nat) (st:BSt),st.m.bytes.length%4=0->(∀o∈os,0<o/\o<=st.m.bytes.length)->st.m.bytes.length+4*os.length<2000000->∃m,bOffs os st=some { st with m:=m } /\
  (∃xs,m.bytes=xs++st.m.bytes)/\m.bytes.length=4*os.length+st.m.bytes.length/\st.m.room<=m.room+4*os.length/\∀i (h:i<os.length),RefOk true m.bytes (m.bytes.length-4*i)/\refE m.bytes (m.bytes.length-4*i)=os[i]
 | [],st,_,_,_=>⟨st.m,rfl,⟨[],rfl⟩,by simp,by simp,λi h=>by simp at h⟩
 | o::r,st,h4,ho,hl=>by
  rw[List.length_cons] at hl;obtain⟨m,e,⟨xs,hx⟩,hlen,hroom,hi⟩:=offs_laid r st h4 (λo hm=>ho o (by simp[hm])) (by omega);have hoo:=ho o (by simp);obtain⟨m',e',hb',hr'⟩:=refer_m (st:={ st with m:=m }) (off:=o) (by show m.bytes.length%4=0;omega) (by show o<=m.bytes.length;omega);have hb:m'.bytes=leB 4 (m.bytes.length-o+4)++m.bytes:=hb';have hl':m'.bytes.length=4+m.bytes.length:=by rw[hb,List.length_append,leB_length]
  obtain⟨g1,g2⟩:=ref_front hb (by omega) hoo.1 (by omega) (by omega);have hr2:m.room<=m'.room+4:=hr';refine⟨m',?_,⟨leB 4 (m.bytes.length-o+4)++xs,by rw[hb,hx,List.append_assoc]⟩,by rw[hl',List.length_cons];omega,by rw[List.length_cons];omega,λi h=>?_⟩
  ·show (bOffs r st).bind _=_;rw[e,Option.bind_some,e']
  ·cases i with
   | zero=>exact⟨g1,g2⟩
   | succ i =>
    obtain⟨k1,k2⟩:=hi i (by simpa using h);have ea:m'.bytes.length-4*(i+1)=m.bytes.length-4*i:=(by omega);rw[ea,hb];exact⟨k1.app _,by rw[refE_app _ _ _ (by omega),k2];rfl⟩
theorem vec_laid(st:BSt)(os:List Nat)(hn:st.nested=false)(ho:∀o∈os,0<o/\o<=st.m.bytes.length)(hl:st.m.bytes.length+4*os.length<1900000):∃r st',bVec os st=some (r,st')/\st'.nested=false/\st'.vts=st.vts/\st'.shared=st.shared/\Put st st'/\0<r/\r=st'.m.bytes.length/\LVec true st'.m.bytes os.length r /\
  ∀i (h:i<os.length),RefOk true st'.m.bytes (r-4-4*i)/\refE st'.m.bytes (r-4-4*i)=os[i]:=by
 obtain⟨hr,h1,h2,j,hj,hb⟩:=startVec_m st.m 4 os.length (by unfold algn;omega);obtain⟨m,hm⟩:=exA ((st.m.prep 4 (4*os.length)).prep 4 (4*os.length));rw[<-hm] at hr h1 h2 hb;have hml:m.bytes.length=j+st.m.bytes.length:=by rw[hb,List.length_append,List.length_replicate]
 obtain⟨m',e,⟨xs,hx⟩,hlen,hroom,hi⟩:=offs_laid os { st with m:=m,nested:=true } (by show m.bytes.length%4=0;omega) (λo hm'=>by have:=ho o hm';show 0<o/\o<=m.bytes.length;omega) (by show m.bytes.length+_<_;omega);have hx':m'.bytes=xs++m.bytes:=hx;have hlen':m'.bytes.length=4*os.length+m.bytes.length:=hlen;have hroom':m.room<=m'.room+4*os.length:=hroom;refine⟨4+m'.bytes.length,{ st with m:=m'.put (leB 4 os.length),nested:=false },?_,rfl,rfl,rfl,⟨⟨leB 4 os.length++(xs++List.replicate j 0),?_⟩,rfl⟩,by omega,?_,⟨?_,?_,?_⟩,λi h=>?_⟩
 ·unfold bVec;rw[startVec_eq st 4 os.length hn,Option.bind_some,<-hm];show (bOffs os { st with m:=m,nested:=true }).bind _=_;rw[e,Option.bind_some];exact endVec_eq { st with m:=m',nested:=true } os.length rfl (by show 4<=m'.room;omega)
 ·show leB 4 os.length++m'.bytes=_;rw[hx',hb];simp
 ·show _=(leB 4 os.length++m'.bytes).length;rw[List.length_append,leB_length]
 ·show BytesAt (leB 4 os.length++m'.bytes) (4+m'.bytes.length) _;rw[show 4+m'.bytes.length=(leB 4 os.length++m'.bytes).length by rw[List.length_append,leB_length]];exact BytesAt.front rfl
 ·omega
 ·intro _;omega
 ·obtain⟨k1,k2⟩:=hi i h;show RefOk true (leB 4 os.length++m'.bytes) _/\refE (leB 4 os.length++m'.bytes) _=_;rw[show 4+m'.bytes.length-4-4*i=m'.bytes.length-4*i by omega];exact⟨k1.app _,by rw[refE_app _ _ _ (by omega)];exact k2⟩
theorem texts_of(al:Bool)(B:List UInt8):∀(ks:List Val) (a:Nat),(∀i (h:i<ks.length),RefOk al B (a-4*i)/\LText al B (ks[i]).text (refE B (a-4*i)))->LTexts al B ks a
 | [],_,_=>trivial
 | v::r,a,h=>by
  rw[LTexts_cons];obtain⟨h1,h2⟩:=h 0 (by simp);refine⟨h1,h2,texts_of al B r (a-4) λi hi=>?_⟩;have:=h (i+1) (by simpa using hi)
  rw[show a-4*(i+1)=a-4-4*i by omega] at this;exact this
theorem kids_of(al:Bool)(B:List UInt8):∀(ks:List Val) (a:Nat),(∀i (h:i<ks.length),RefOk al B (a-4*i)/\LTab al B ks[i] (refE B (a-4*i)))->LKids al B ks a
 | [],_,_=>trivial
 | v::r,a,h=>by
  rw[LKids];obtain⟨h1,h2⟩:=h 0 (by simp);refine⟨h1,h2,kids_of al B r (a-4) λi hi=>?_⟩;have:=h (i+1) (by simpa using hi)
  rw[show a-4*(i+1)=a-4-4*i by omega] at this;exact this
/-! The fields of an object. -/
theorem OkNum.right{k n:Nat}(h:OkNum k n):Right (k:Int) n:=⟨by omega,by have:=h.1;omega,λe=>h.2.2.1 (by omega),h.2.1⟩
theorem sameNum_eqK{k a b:Nat}(ha:OkNum k a)(hb:OkNum k b):sameNum k a b=eqK k a b:=by
 unfold sameNum eqK;by_cases h9:k=9
 ·subst h9;rw[if_pos (by decide),if_pos rfl];exact eq_f32 a b ha.2.1 hb.2.1 (ha.2.2.2.1 rfl) (hb.2.2.2.1 rfl)
 ·rw[if_neg (by omega),if_neg h9];by_cases h10:k=10
  ·subst h10;rw[if_pos (by decide),if_pos rfl];exact eq_f64 a b ha.2.1 hb.2.1 (ha.2.2.2.2 rfl) (hb.2.2.2.2 rfl)
  ·rw[if_neg (by omega),if_neg h10]
structure SlotOk(B:List UInt8)(s:Slt Val)(o:Nat):Prop where
 num:s.has=true->s.val.kind<=10->OkNum s.val.kind s.val.num/\OkNum s.val.kind s.dflt
 str:s.has=true->s.val.kind=17->(s.val.elem=1\/s.val.elem=2\/s.val.elem=4\/s.val.elem=8)/\0<s.val.text.length/\s.val.text.length<=64
 obj:s.has=true->¬s.val.kind<=10->s.val.kind≠17->0<o/\o<=B.length/\LObj true B s.val o
structure FI(st0 st:BSt)(n i:Nat)(ss:List (Slt Val))(l:List Nat):Prop where
 vtab:st.vtab=some l
 len:l.length=n
 some:∀j (h:j<ss.length) (hl:j<l.length),j<i->if present ss[j] then st0.m.bytes.length<l[j]/\l[j]<=st.m.bytes.length/\LVal true st.m.bytes ss[j].val l[j] else l[j]=0
 none:∀j (hl:j<l.length),i<=j->l[j]=0
 bytes:∃xs,st.m.bytes=xs++st0.m.bytes
 grow:st.m.bytes.length<=st0.m.bytes.length+72*i
 nested:st.nested=true
 oend:st.oend=st0.m.bytes.length
 vts:st.vts=st0.vts
 shared:st.shared=st0.shared
 fin:st.fin=st0.fin
theorem slot_eq(st:BSt)(l:List Nat)(i:Nat)(hv:st.vtab=some l)(hi:i<l.length):st.slot (i:Nat)=some { st with vtab:=some (l.set i st.m.bytes.length) }:=by
 unfold BSt.slot;rw[hv];show (if (0:Int)<=(i:Nat)/\((i:Nat):Int).toNat<l.length then _ else _)=_;rw[if_pos ⟨by omega,by omega⟩];rfl
theorem FI.skip{st0 st:BSt}{n i:Nat}{ss:List (Slt Val)}{l:List Nat}(h:FI st0 st n i ss l)(hi:i<ss.length)(hil:i<l.length)(hp:present ss[i]=false):FI st0 st n (i+1) ss l:=by
 refine⟨h.vtab,h.len,λj hj hl hlt=>?_,λj hl hle=>h.none j hl (by omega),h.bytes,by have:=h.grow;omega,h.nested,h.oend,h.vts,h.shared,h.fin⟩;by_cases e:j=i
 ·subst e;rw[hp,if_neg (by simp)];exact h.none j hl (Nat.le_refl _)
 ·exact h.some j hj hl (by omega)
theorem FI.field{st0 st:BSt}{n i:Nat}{ss:List (Slt Val)}{l:List Nat}(h:FI st0 st n i ss l)(hi:i<ss.length)(hil:i<l.length)(hp:present ss[i]=true)(m:BM)(xs:List UInt8)(hm:m.bytes=xs++st.m.bytes)(hx0:0<xs.length)(hx:xs.length<=72)(hv:LVal true m.bytes ss[i].val m.bytes.length):
  FI st0 { st with m:=m,vtab:=Option.some (l.set i m.bytes.length) } n (i+1) ss (l.set i m.bytes.length):=by
 have hml:m.bytes.length=xs.length+st.m.bytes.length:=by rw[hm,List.length_append]
 obtain⟨ys,hy⟩:=h.bytes;have hyl:st.m.bytes.length=ys.length+st0.m.bytes.length:=by rw[hy,List.length_append]
 refine⟨rfl,by rw[List.length_set];exact h.len,λj hj hl hlt=>?_,λj hl hle=>?_,⟨xs++ys,by show m.bytes=_;rw[hm,hy,List.append_assoc]⟩,by show m.bytes.length<=_;have:=h.grow;omega,h.nested,h.oend,h.vts,h.shared,h.fin⟩
 ·by_cases e:j=i
  ·subst e;rw[hp,if_pos rfl,List.getElem_set_self];exact⟨by omega,Nat.le_refl _,hv⟩
  ·rw[List.getElem_set_ne (λe'=>e e'.symm)];have:=h.some j hj (by rw[List.length_set] at hl;exact hl) (by omega)
   cases hpj:present ss[j] with
   | false=>rw[hpj,if_neg (by simp)] at this;rw[if_neg (by simp)];exact this
   | true =>
    rw[hpj,if_pos rfl] at this;rw[if_pos rfl];refine⟨this.1,by show _<=m.bytes.length;omega,?_⟩;have h3:=LVal_app true _ xs _ _ this.2.2;rw[<-hm] at h3;exact h3
 ·rw[List.getElem_set_ne (by omega)];exact h.none j (by rw[List.length_set] at hl;exact hl) (by omega)
theorem bField_laid{st0 st:BSt}{n i:Nat}{ss:List (Slt Val)}{l:List Nat}(h:FI st0 st n i ss l)(hi:i<ss.length)(hn:n=ss.length)(o:Nat)(hs:SlotOk st0.m.bytes ss[i] o)(hl4:st0.m.bytes.length+72*ss.length<1900000):
  ∃st' l',bField i ss[i] o st=some st'/\FI st0 st' n (i+1) ss l':=by
 have hil:i<l.length:=by rw[h.len];omega
 have hgr:=h.grow;obtain⟨ys,hy⟩:=h.bytes;have hyl:st.m.bytes.length=ys.length+st0.m.bytes.length:=by rw[hy,List.length_append]
 obtain⟨s,hse⟩:=exA (ss[i]);rw[<-hse] at hs ⊢;unfold bField;by_cases hh:s.has=false
 ·rw[if_pos hh];exact⟨st,l,rfl,h.skip hi hil (by rw[<-hse];unfold present;rw[hh];rfl)⟩
 ·have ht:s.has=true:=by cases hx:s.has<;>simp_all
  rw[if_neg hh];by_cases hk:s.val.kind<=10
  ·rw[if_pos hk];obtain⟨o1,o2⟩:=hs.num ht hk;have hsn:=sameNum_eqK o1 o2;rw[hsn];unfold BSt.prepSlot;cases he:eqK s.val.kind s.val.num s.dflt with
   | true =>
    rw[if_pos rfl];exact⟨st,l,rfl,h.skip hi hil (by rw[<-hse];unfold present;rw[he];simp[hk])⟩
   | false =>
    rw[if_neg (by simp)];have ha:=numSize_algn (k:=(s.val.kind:Int)) (by omega) (by omega);have hle:=numSize_le (s.val.kind:Int);obtain⟨m,hm⟩:=exA ((st.m.prep (numSize s.val.kind) 0).put (numB s.val.kind s.val.num));rw[<-hm];have hmb:m.bytes=(numB s.val.kind s.val.num++List.replicate (st.m.pad (numSize s.val.kind) 0) 0)++st.m.bytes:=by
     rw[hm,List.append_assoc];rfl
    have hpl:=st.m.pad_lt (numSize s.val.kind) 0 ha;have hz1:1<=numSize (s.val.kind:Int):=(by unfold algn at ha;omega);refine⟨{ st with m:=m,vtab:=some (l.set i m.bytes.length) },l.set i m.bytes.length,slot_eq { st with m:=m } l i h.vtab hil,h.field hi hil ?_ m _ hmb ?_ ?_ ?_⟩
    ·rw[<-hse];unfold present;rw[ht,he];simp
    ·rw[List.length_append,numB_length];omega
    ·rw[List.length_append,numB_length,List.length_replicate];omega
    ·rw[<-hse];cases hv:s.val with
     | mk k e nn t ns ks zs =>
      rw[hv] at hk o1 hmb ha;have hk':k<=10:=hk;rw[LVal,if_pos hk'];refine⟨?_,λ_=>?_⟩
      ·rw[<-numB_ok (k:=k) (n:=nn) o1];exact BytesAt.front (rest:=List.replicate (st.m.pad (numSize k) 0) 0++st.m.bytes) (by rw[hmb,List.append_assoc];rfl)
      ·have hmod:=prep_mod st.m (numSize k) 0 ha;have:m.bytes.length=numSize k+(st.m.prep (numSize k) 0).bytes.length:=by
        rw[hmb,List.append_assoc,List.length_append];show (numB k nn).length+_=_;rw[numB_length];rfl
       rw[this,Nat.add_mod_left];simpa using hmod
  ·rw[if_neg hk];have hpr:present s=true:=(by unfold present;rw[ht];simp[hk]);by_cases h17:s.val.kind=17
   ·rw[if_pos h17];obtain⟨he,ht1,ht2⟩:=hs.str ht h17;have ha:algn s.val.elem:=(by unfold algn;omega);obtain⟨m,hm⟩:=exA ((st.m.prep s.val.elem s.val.text.length).put s.val.text);have hmb:m.bytes=(s.val.text++List.replicate (st.m.pad s.val.elem s.val.text.length) 0)++st.m.bytes:=by
     rw[hm,List.append_assoc];rfl
    have hpl:=st.m.pad_lt s.val.elem s.val.text.length ha;have hml:m.bytes.length=s.val.text.length+(st.m.prep s.val.elem s.val.text.length).bytes.length:=by
     rw[hm];show (s.val.text++_).length=_;rw[List.length_append]
    refine⟨{ st with m:=m,vtab:=some (l.set i m.bytes.length) },l.set i m.bytes.length,?_,h.field hi hil (by rw[<-hse];exact hpr) m _ hmb ?_ ?_ ?_⟩
    ·rw[<-hm];show BSt.structSlot { st with m:=m } i m.bytes.length 0=_;unfold BSt.structSlot;rw[if_neg (by omega),if_pos h.nested,if_pos rfl];exact slot_eq { st with m:=m } l i h.vtab hil
    ·rw[List.length_append];omega
    ·rw[List.length_append,List.length_replicate];omega
    ·rw[<-hse];have hmod:=prep_mod st.m s.val.elem s.val.text.length ha;cases hv:s.val with
     | mk k e nn t ns ks zs =>
      rw[hv] at hk h17 hmb hml hmod;have hk':¬k<=10:=hk;have h17':k=17:=h17;rw[LVal,if_neg hk',if_pos h17'];refine⟨BytesAt.front (rest:=List.replicate (st.m.pad e t.length) 0++st.m.bytes) (by rw[hmb,List.append_assoc];rfl),λ_=>?_⟩;show m.bytes.length%e=0;rw[hml,Nat.add_comm];exact hmod
   ·rw[if_neg h17];obtain⟨ho1,ho2,ho3⟩:=hs.obj ht hk h17;have h4:algn 4:=(by unfold algn;omega);have hmod:=prep_mod st.m 4 0 h4;have hplen:=st.m.prep_len 4 0 h4;have hpl:=st.m.pad_lt 4 0 h4;obtain⟨m,hm⟩:=exA ((st.m.prep 4 0).put (leB 4 ((st.m.prep 4 0).bytes.length-o+4)));have hmb0:m.bytes=leB 4 ((st.m.prep 4 0).bytes.length-o+4)++(st.m.prep 4 0).bytes:=(by rw[hm];rfl);have hmb:m.bytes=(leB 4 ((st.m.prep 4 0).bytes.length-o+4)++List.replicate (st.m.pad 4 0) 0)++st.m.bytes:=by
     rw[hmb0,List.append_assoc];rfl
    refine⟨{ st with m:=m,vtab:=some (l.set i m.bytes.length) },l.set i m.bytes.length,?_,h.field hi hil (by rw[<-hse];exact hpr) m _ hmb ?_ ?_ ?_⟩
    ·unfold BSt.offSlot BSt.refer BM.refer;rw[if_neg (by omega),if_pos (by omega),Option.map_some,Option.bind_some,<-hm];exact slot_eq { st with m:=m } l i h.vtab hil
    ·rw[List.length_append,leB_length];omega
    ·rw[List.length_append,leB_length,List.length_replicate];omega
    ·rw[<-hse,LVal_ref hk h17];obtain⟨g1,g2⟩:=ref_front hmb0 (by omega) ho1 (by simpa using hmod) (by omega);refine⟨g1,?_⟩;rw[g2,hmb,hy,<-List.append_assoc];exact LObj_app true _ _ _ _ ho3
theorem bFields_laid{st0:BSt}{n:Nat}{ss:List (Slt Val)}(hn:n=ss.length)(hl4:st0.m.bytes.length+72*ss.length<1900000)(os:List Nat)(ho:os.length=ss.length)(hs:∀j (h:j<ss.length),SlotOk st0.m.bytes ss[j] (os[j]'(by omega))):
  ∀(k i:Nat) (st:BSt) (l:List Nat),i+k=ss.length->FI st0 st n i ss l->∃st' l',bFields i (ss.drop i) (os.drop i) st=some st'/\FI st0 st' n ss.length ss l'
 | 0,i,st,l,hk,h=>by
  obtain rfl:i=ss.length:=by omega
  rw[List.drop_length];exact⟨st,l,rfl,h⟩
 | k+1,i,st,l,hk,h=>by
  have hi:i<ss.length:=by omega
  obtain⟨st1,l1,e1,h1⟩:=bField_laid h hi hn _ (hs i hi) hl4;obtain⟨st',l',e2,h2⟩:=bFields_laid hn hl4 os ho hs k (i+1) st1 l1 (by omega) h1;refine⟨st',l',?_,h2⟩;rw[List.drop_eq_getElem_cons hi,List.drop_eq_getElem_cons (by omega:i<os.length)];show (bField i ss[i] os[i] st).bind _=_;rw[e1,Option.bind_some];exact e2
end Go.Proofs.YtcfblkkpclfmaaaGreat
namespace Go.Proofs.YtcfblkkpclfmaaaGreat
open Go.RowKit Go.Maps
theorem trimZ_split:∀l:List Nat,∃k,l=trimZ l++List.replicate k 0:=by
 intro l;have key:∀r:List Nat,∃k,r=List.replicate k 0++r.dropWhile (·==0):=by
  intro r;induction r with
  | nil=>exact⟨0,rfl⟩
  | cons a r ih =>
   by_cases h:a=0
   ·subst h;obtain⟨k,hk⟩:=ih;refine⟨k+1,?_⟩;rw[List.dropWhile_cons_of_pos (by simp),List.replicate_succ,List.cons_append];exact congrArg _ hk
   ·exact⟨0,by rw[List.dropWhile_cons_of_neg (by simpa using h)];rfl⟩
 obtain⟨k,hk⟩:=key l.reverse;refine⟨k,?_⟩;have:=congrArg List.reverse hk
 rw[List.reverse_reverse,List.reverse_append,List.reverse_replicate] at this;exact this
theorem flat_at2{B:List UInt8}:∀(E:List Nat) (a i:Nat) (h:i<E.length),BytesAt B a (E.flatMap (leB 2))->at2 B (a-2*i)=E[i]%65536
 | e::r,a,0,_,h=>by
  rw[List.flatMap_cons] at h;rw[Nat.mul_zero,Nat.sub_zero,h.left.at2 (leB_length _ _),le_leB];rfl
 | e::r,a,i+1,hi,h=>by
  rw[List.flatMap_cons] at h;have:=flat_at2 r (a-2) i (by simpa using hi) (by have:=h.right;rwa [leB_length] at this)
  rw[show a-2*(i+1)=a-2-2*i by omega,this];rfl
theorem flat2_length(E:List Nat):(E.flatMap (leB 2)).length=2*E.length:=by
 induction E with
 | nil=>rfl
 | cons a r ih=>rw[List.flatMap_cons,List.length_append,leB_length,ih,List.length_cons];omega
theorem tab_of{B:List UInt8}{o v W:Nat}{E:List Nat}{ss:List (Slt Val)}{l t:List Nat}{k:Nat}(ho4:4<=o)(hol:o<=B.length)(hoa:o%4=0)(hsg:at4 B o<2^31\/2^32-at4 B o<o)(hvt:vtOf B o=v)
  (hb:BytesAt B v (leB 2 (2*E.length+4)++(leB 2 W++E.flatMap (leB 2)))) (hE:E.length=t.length) (hE60:E.length<=60) (hEi:∀i (h:i<E.length) (h2:i<t.length),E[i]=if t[i]=0 then 0 else o-t[i]) (hW4:4<=W) (hWo:W<=o) (hW:W<65536) (heW:∀e∈E,e<W) (hv2:v%2=0)
  (hl:l=t++List.replicate k 0) (hls:l.length=ss.length) (L0:Nat) (hL0:L0+4<=o)
  (hs:∀j (h:j<ss.length) (hl:j<l.length),if present ss[j] then 0<l[j]/\l[j]<=L0/\LVal true B ss[j].val l[j] else l[j]=0):TabHead true B o/\LSlots true B ss 0 o/\∀j,ss.length<=j->fldOf B o j=0:=by
 have h0:at2 B v=2*E.length+4:=by rw[hb.left.at2 (leB_length _ _),le_leB];omega
 have hr:=hb.right;rw[leB_length] at hr;have h2:at2 B (v-2)=W:=by rw[hr.left.at2 (leB_length _ _),le_leB];omega
 have hr2:=hr.right;rw[leB_length,show v-2-2=v-4 by omega] at hr2;have hlow:=hb.low;simp only[List.length_append,leB_length,flat2_length] at hlow;have hh:TabHead true B o:=⟨hol,ho4,hsg,by rw[hvt];exact hb.len,by rw[hvt,h0];omega,by rw[hvt,h0];omega,by rw[hvt,h0];omega,by rw[hvt,h2];exact hW4,by rw[hvt,h2];exact hWo,λ_=>⟨hoa,by rw[hvt];exact hv2⟩⟩;refine⟨hh,?_⟩;have hf:∀i,fldOf B o i=if h:i<E.length then E[i] else 0:=by
  intro i;unfold fldOf;rw[hvt,h0];by_cases hi:i<E.length
  ·rw[if_pos (by omega),dif_pos hi,show v-(4+2*i)=v-4-2*i by omega,flat_at2 E (v-4) i hi hr2];have:=heW E[i] (List.getElem_mem hi)
   omega
  ·rw[if_neg (by omega),dif_neg hi]
 have key:∀(n i:Nat),i+n=ss.length->LSlots true B (ss.drop i) i o:=by
  intro n;induction n with
  | zero =>
   intro i hi;rw[List.drop_of_length_le (by omega)];trivial
  | succ n ih =>
   intro i hi;have hil:i<ss.length:=(by omega);rw[List.drop_eq_getElem_cons hil,LSlots];refine⟨?_,ih (i+1) (by omega)⟩;have hsi:=hs i hil (by omega);rw[LSlot_def,hf i,hvt,h2];have hti:∀h2:i<t.length,l[i]'(by omega)=t[i]:=by
    intro h2;subst hl;rw[List.getElem_append_left h2]
   have htn:t.length<=i->l[i]'(by omega)=0:=by
    intro h2;subst hl;rw[List.getElem_append_right h2,List.getElem_replicate]
   cases hp:present ss[i] with
   | true =>
    rw[hp,if_pos rfl] at hsi;rw[if_pos rfl];obtain⟨g1,g2,g3⟩:=hsi;have hit:i<t.length:=by
     refine Nat.lt_of_not_le λhle=>?_;have:=htn hle
     omega
    have e:=hti hit;have hEi':=hEi i (by omega) hit;rw[if_neg (by omega)] at hEi';rw[dif_pos (by omega),hEi'];rw[e] at g1 g2 g3;refine⟨by omega,?_,?_⟩
    ·rw[<-hEi'];exact heW _ (List.getElem_mem (by omega))
    ·rw[show o-(o-t[i])=t[i] by omega];exact g3
   | false =>
    rw[hp,if_neg (by simp)] at hsi;rw[if_neg (by simp)];by_cases hit:i<t.length
    ·have e:=hti hit;rw[dif_pos (by omega),hEi i (by omega) hit,if_pos (by omega)]
    ·rw[dif_neg (by omega)]
 have h9:=key ss.length 0 (by omega);rw[List.drop_zero] at h9;have htl:t.length<=ss.length:=by rw[<-hls,hl,List.length_append];omega
 exact⟨h9,λj hj=>by rw[hf j,dif_neg (by omega)]⟩
theorem vtSame_flat(o:Nat):∀(t es:List Nat),(∀e∈es,e<65536)->vtSame o t (es.flatMap (leB 2))=true->es.length=t.length/\∀i (h:i<es.length) (h2:i<t.length),vtEnt o t[i] es[i]=true
 | [],[],_,_=>⟨rfl,λi h=>by simp at h⟩
 | [],e::es,_,h=>by simp[vtSame,leB] at h
 | f::r,[],_,h=>by simp[vtSame] at h
 | f::r,e::es,he,h=>by
  have hle:(leB 2 e)=[UInt8.ofNat e,UInt8.ofNat (e / 256)]:=rfl;rw[List.flatMap_cons,hle] at h;simp only[List.cons_append,List.nil_append,vtSame,Bool.and_eq_true] at h;obtain⟨h1,h2⟩:=h;obtain⟨i1,i2⟩:=vtSame_flat o r es (λx hx=>he x (by simp[hx])) h2;have hee:(UInt8.ofNat e).toNat+256*(UInt8.ofNat (e / 256)).toNat=e:=by
   have:=he e (by simp)
   rw[UInt8.toNat_ofNat',UInt8.toNat_ofNat'];omega
  rw[hee] at h1;refine⟨by rw[List.length_cons,List.length_cons,i1],λi h h'=>?_⟩;cases i with
  | zero=>exact h1
  | succ i=>exact i2 i (by simpa using h) (by simpa using h')
theorem vtBytes_of{m:BM}{v:Nat}{es:List Nat}{W:Nat}(h:BytesAt m.bytes v (leB 2 (2*es.length+4)++(leB 2 W++es.flatMap (leB 2))))(h60:es.length<=60):vtBytes m v=es.flatMap (leB 2):=by
 have h0:vtLen m v=2*es.length+4:=by
  have:=h.left.at2 (leB_length _ _)
  rw[le_leB] at this;unfold at2 at this;unfold vtLen;omega
 have hl:(leB 2 (2*es.length+4)++(leB 2 W++es.flatMap (leB 2))).length=2*es.length+4:=by
  simp only[List.length_append,leB_length,flat2_length];omega
 unfold vtBytes;rw[h0,<-hl,h.eq,<-List.append_assoc];exact List.drop_left' (by rw[List.length_append,leB_length,leB_length])
theorem vtFlds_flat(o:Nat)(t:List Nat)(h:∀f∈t,f<=o):vtFlds o t=(t.map λf=>if f=0 then 0 else o-f).flatMap (leB 2):=by
 unfold vtFlds;induction t with
 | nil=>rfl
 | cons f r ih =>
  rw[List.flatMap_cons,List.map_cons,List.flatMap_cons,ih (λx hx=>h x (by simp[hx]))];congr 1
  have:=h f (by simp)
  split
  ·exact leI_nat 2 0
  ·rw[<-leI_nat];congr 1;omega
theorem end_laid{st0 st:BSt}{ss:List (Slt Val)}{l:List Nat}(h:FI st0 st ss.length ss.length ss l)(hp:PI st0)(hl60:ss.length<=60)(hb0:st0.m.bytes.length<1600000):∃o st',st.endObj=some (o,st')/\st'.nested=false/\PI st'/\Put st0 st'/\0<o/\o<=st'.m.bytes.length/\TabHead true st'.m.bytes o/\LSlots true st'.m.bytes ss 0 o/\∀j,ss.length<=j->fldOf st'.m.bytes o j=0:=by
 obtain⟨k,hk⟩:=trimZ_split l;obtain⟨t,ht⟩:=exA (trimZ l);rw[<-ht] at hk;have htl:t.length+k=ss.length:=by
  have:=congrArg List.length hk
  rw[List.length_append,List.length_replicate,h.len] at this;omega
 have hgr:=h.grow;obtain⟨ys,hy⟩:=h.bytes;have hyl:st.m.bytes.length=ys.length+st0.m.bytes.length:=by rw[hy,List.length_append]
 obtain⟨hv1,hv2⟩:=vt1_len st;have hpd:padB st.m.bytes.length 4<=3:=by
  unfold padB;omega
 have hvt:trimZ (st.vtab.getD [])=t:=by rw[h.vtab,ht];rfl
 have hcell:∀j (hj:j<ss.length) (hl:j<l.length),if present ss[j] then st0.m.bytes.length<l[j]/\l[j]<=st.m.bytes.length/\LVal true st.m.bytes ss[j].val l[j] else l[j]=0:=λj hj hl=>h.some j hj hl hj;have htle:∀f∈t,f<=st.m.bytes.length:=by
  intro f hf;obtain⟨j,hj,rfl⟩:=List.getElem_of_mem hf;have hjl:j<l.length:=by rw[h.len];omega
  have e:l[j]=t[j]:=by subst hk;rw[List.getElem_append_left hj]
  have:=hcell j (by omega) hjl
  rw[e] at this;split at this
  ·omega
  ·omega
 have htgt:∀f∈t,f≠0->st0.m.bytes.length<f:=by
  intro f hf h0;obtain⟨j,hj,rfl⟩:=List.getElem_of_mem hf;have hjl:j<l.length:=by rw[h.len];omega
  have e:l[j]=t[j]:=by subst hk;rw[List.getElem_append_left hj]
  have:=hcell j (by omega) hjl
  rw[e] at this;split at this
  ·omega
  ·omega
 cases hfd:vtFind st.vt1 st.vt1.bytes.length (trimZ (st.vtab.getD [])) st.vts with
 | none =>
  obtain⟨st',o,ho,e,g1,g2,g3,g4,g5,g6,g7,g8⟩:=endObj_fresh st h.nested hfd;rw[hvt] at g5 g6 g7;rw[h.oend] at g6;have hfl:=vtFlds_flat o t (λf hf=>by have:=htle f hf;omega);obtain⟨E,hE⟩:=exA (t.map λf=>if f=0 then 0 else o-f);have hEl:E.length=t.length:=by rw[hE,List.length_map]
  obtain⟨W,hW⟩:=exA (o-st0.m.bytes.length);have hWi:(o:Int)-(st0.m.bytes.length:Nat)=(W:Nat):=by omega
  rw[hfl,<-hE,hWi,leI_nat,leI_nat,<-hEl] at g6;rw[<-hEl] at g5 g7;have heW:∀e∈E,e<W:=by
   intro e he;rw[hE] at he;obtain⟨f,hf,rfl⟩:=List.mem_map.1 he;split
   ·omega
   ·have:=htgt f hf (by assumption);omega
  have hob:=objBytes_length st ((2*E.length+4:Nat):Int);have hbv:BytesAt st'.m.bytes (2*E.length+4+o) (leB 2 (2*E.length+4)++(leB 2 W++E.flatMap (leB 2))):=by
   rw[<-g7];exact BytesAt.front (rest:=objBytes st ((2*E.length+4:Nat):Int)) (by rw[g6];simp only[List.append_assoc])
  have hbo:BytesAt st'.m.bytes o (leB 4 (2*E.length+4)):=by
   have:BytesAt (objBytes st ((2*E.length+4:Nat):Int)) (objBytes st ((2*E.length+4:Nat):Int)).length (leB 4 (2*E.length+4)) :=
    BytesAt.front (by unfold objBytes;rw[leI_nat])
   rw[hob,<-ho] at this;rw[g6,<-List.append_assoc,<-List.append_assoc];exact this.app _
  have ha4:at4 st'.m.bytes o=2*E.length+4:=by rw[hbo.at4 (leB_length _ _),le_leB];omega
  have hbs:∃zs,st'.m.bytes=zs++st.m.bytes:=by
   rw[g6];unfold objBytes;exact⟨leB 2 (2*E.length+4)++(leB 2 W++(E.flatMap (leB 2)++(leI 4 ((2*E.length+4:Nat):Int)++List.replicate (padB st.m.bytes.length 4) 0))),by simp only[List.append_assoc]⟩
  obtain⟨zs,hz⟩:=hbs;have hput:Put st0 st':=⟨⟨zs++ys,by rw[hz,hy,List.append_assoc]⟩,by rw[g2,h.fin]⟩;have hE60:E.length<=60:=by omega
  have htab:=tab_of (B:=st'.m.bytes) (o:=o) (v:=2*E.length+4+o) (W:=W) (E:=E) (ss:=ss) (l:=l) (t:=t) (k:=k) (by omega) (by omega) (by omega) (.inl (by rw[ha4];omega)) (by unfold vtOf;rw[ha4,if_pos (by omega)];omega) hbv hEl hE60
   (λi h1 h2=>by simp only[hE,List.getElem_map]) (by omega) (by omega) (by omega) heW (by omega) hk (by rw[h.len]) st.m.bytes.length (by omega) (λj hj hl=>by
    have:=hcell j hj hl
    split
    ·rename_i hpj
     rw[if_pos hpj] at this;refine⟨by omega,this.2.1,?_⟩;have h3:=LVal_app true _ zs _ _ this.2.2;rw[<-hz] at h3;exact h3
    ·rename_i hpj
     rw[if_neg hpj] at this;exact this)
  refine⟨o,st',e,g1,⟨λv hv=>?_,?_,?_⟩,hput,by omega,by omega,htab.1,htab.2⟩
  ·rw[g5,h.vts] at hv;rcases List.mem_append.1 hv with hv|hv
   ·obtain⟨xs,hx⟩:=hput.bytes;rw[hx];exact (hp.vt v hv).app xs
   ·rw[List.mem_singleton.1 hv];exact⟨E,W,hbv,hE60,by omega,by omega,by omega,heW,by omega⟩
  ·rw[g4,h.shared];exact hp.shm
  ·intro u hu;rw[g4,h.shared] at hu ⊢;obtain⟨xs,hx⟩:=hput.bytes;obtain⟨a1,a2⟩:=hp.sh u hu;rw[hx];exact⟨a1.app xs,a2⟩
 | some v =>
  obtain⟨st',o,ho,e,g1,g2,g3,g4,g5,g6,g7,g8⟩:=endObj_found st v h.nested hfd;have hvm:v∈st.vts:=by
   unfold vtFind at hfd;exact List.mem_reverse.1 (List.mem_of_find?_eq_some hfd)
  have hvs:vtSame st.vt1.bytes.length t (vtBytes st.vt1 v)=true:=by
   unfold vtFind at hfd;have:=List.find?_some hfd
   rwa [hvt] at this
  rw[h.vts] at hvm;obtain⟨E,W,hb,hE60,hW4,hWv,hW,heW,hv2'⟩:=(hp.vt v hvm).ok;have hvl:=hb.len;obtain⟨us,hu1⟩:∃us,st.vt1.bytes=us++st0.m.bytes:=by
   rw[vt1_bytes_eq,hy];exact⟨leB 4 ((st.m.prep 4 0).bytes.length+4)++(List.replicate (padB (ys++st0.m.bytes).length 4) 0++ys),by simp only[List.append_assoc]⟩
  have hvb:vtBytes st.vt1 v=E.flatMap (leB 2):=vtBytes_of (m:=st.vt1) (by rw[hu1];exact hb.app us) hE60;rw[hvb,<-ho] at hvs;obtain⟨hEl,hEe⟩:=vtSame_flat o t E (λe he=>by have:=heW e he;omega) hvs;have hbs:∃zs,st'.m.bytes=zs++st.m.bytes:=by
   rw[g6];unfold objBytes;exact⟨leI 4 ((v:Int)-o)++List.replicate (padB st.m.bytes.length 4) 0,by simp only[List.append_assoc]⟩
  obtain⟨zs,hz⟩:=hbs;have hput:Put st0 st':=⟨⟨zs++ys,by rw[hz,hy,List.append_assoc]⟩,by rw[g2,h.fin]⟩;obtain⟨xs,hx⟩:=hput.bytes;have hsg:leI 4 ((v:Int)-o)=leB 4 (2^32-(o-v)):=by
   rw[<-leI_nat];exact leI_congr 4 (by omega)
  have hbo:BytesAt st'.m.bytes o (leB 4 (2^32-(o-v))):=by
   have h3:BytesAt st'.m.bytes st'.m.bytes.length (leB 4 (2^32-(o-v))):=BytesAt.front (rest:=List.replicate (padB st.m.bytes.length 4) 0++st.m.bytes) (by rw[g6];unfold objBytes;rw[hsg]);rw[g7] at h3;exact h3
  have ha4:at4 st'.m.bytes o=2^32-(o-v):=by rw[hbo.at4 (leB_length _ _),le_leB];omega
  have htab:=tab_of (B:=st'.m.bytes) (o:=o) (v:=v) (W:=W) (E:=E) (ss:=ss) (l:=l) (t:=t) (k:=k) (by omega) (by omega) (by omega) (.inr (by rw[ha4];omega)) (by unfold vtOf;rw[ha4,if_neg (by omega)];omega) (by rw[hx];exact hb.app xs) hEl hE60
   (λi h1 h2=>by
    have:=hEe i h1 h2
    have hlt:=heW E[i] (List.getElem_mem h1);unfold vtEnt at this;simp only[Bool.or_eq_true,Bool.and_eq_true,decide_eq_true_eq] at this;have hti:=htle t[i] (List.getElem_mem h2);split
    ·rcases this with ⟨a,b⟩|a
     ·exact a
     ·omega
    ·omega) hW4 (by omega) hW heW hv2' hk (by rw[h.len]) st.m.bytes.length (by omega) (λj hj hl=>by
    have:=hcell j hj hl
    split
    ·rename_i hpj
     rw[if_pos hpj] at this;refine⟨by omega,this.2.1,?_⟩;have h3:=LVal_app true _ zs _ _ this.2.2;rw[<-hz] at h3;exact h3
    ·rename_i hpj
     rw[if_neg hpj] at this;exact this)
  refine⟨o,st',e,g1,⟨λv hv=>?_,?_,?_⟩,hput,by omega,by omega,htab.1,htab.2⟩
  ·rw[g5,h.vts] at hv;rw[hx];exact (hp.vt v hv).app xs
  ·rw[g4,h.shared];exact hp.shm
  ·intro u hu;rw[g4,h.shared] at hu ⊢;obtain⟨a1,a2⟩:=hp.sh u hu;rw[hx];exact⟨a1.app xs,a2⟩
end Go.Proofs.YtcfblkkpclfmaaaGreat
namespace Go.Proofs.YtcfblkkpclfmaaaGreat
open Go.RowKit Go.Maps
inductive Bld:Val->Prop
 | mk (k e n:Nat) (t:List UInt8) (ns:List Nat) (ks:List Val) (ss:List (Slt Val)) (hk:k<=17) (lt:t.length<=1000) (ln:ns.length<=200) (lk:ks.length<=200) (ls:ss.length<=60)
  (h13:k=13->e<=10/\∀x∈ns,OkNum e x) (h17:k=17->(e=1\/e=2\/e=4\/e=8)/\0<t.length/\t.length<=64)
  (hk14:k=14->∀v∈ks,v.kind=11) (hk16:k=16->∀v∈ks,v.kind=15) (hgk:∀v∈ks,Bld v) (hgs:∀s∈ss,s.has=true->Bld s.val) (hd2:∀s∈ss,s.has=true->s.val.kind<=10->OkNum s.val.kind s.dflt)
  (h10:k<=10->OkNum k n):Bld (.mk k e n t ns ks ss)
theorem Good.bld{v:Val}(h:Good v):Bld v:=by
 induction h with
 | mk k e n t ns ks ss hk hnum htext hnums hkids hslots helem lt ln lk ls h13 h17 hk14 hk16 hgk hmer hgs hd1 hd2 h10 ihk ihs =>
  refine .mk k e n t ns ks ss hk lt ln lk ls h13 (λh=>?_) hk14 hk16 ihk (λs hs _=>ihs s hs) (λs hs _=>hd2 s hs) h10;obtain⟨a,b,c,d⟩:=h17 h;exact⟨a,List.length_pos_iff.2 b,c⟩
theorem Bld.num{v:Val}(h:Bld v)(hk:v.kind<=10):OkNum v.kind v.num:=by
 cases h with
 | mk k e n t ns ks ss hk' lt ln lk ls h13 h17 hk14 hk16 hgk hgs hd2 h10=>exact h10 hk
theorem Bld.str{v:Val}(h:Bld v)(hk:v.kind=17):(v.elem=1\/v.elem=2\/v.elem=4\/v.elem=8)/\0<v.text.length/\v.text.length<=64:=by
 cases h with
 | mk k e n t ns ks ss hk' lt ln lk ls h13 h17 hk14 hk16 hgk hgs hd2 h10=>exact h17 hk
theorem StInv.growD{st:BSt}{m':BM}{i k d:Nat}(h:StInv st i)(g:Grow st.m m' k)(hk:k<=5000*d):StInv { st with m:=m' } (i+d):=by
 obtain⟨xs,hx,hxl⟩:=g.bytes;have hl:=g.len;refine⟨⟨λv hvm=>?_,λl hl'=>?_,by have:=h.inv.oend;show st.oend<=m'.bytes.length;omega,h.inv.many⟩,g.least h.least,by have:=h.many;show st.vts.length<=_;omega,by have:=h.sh;show Maps.size (st.shared.getD _)<=_;omega,by have:=h.len;show m'.bytes.length<=_;omega⟩
 ·have:=h.inv.vts v hvm
  show v<=m'.bytes.length/\4<=vtLen m' v/\vtLen m' v<=v;rw[vtLen_app hx v this.1];omega
 ·have:=h.inv.vtab l hl'
  exact⟨this.1,λx hx=>by have:=this.2 x hx;show x<=m'.bytes.length;omega⟩
theorem StInv.le{st:BSt}{i j:Nat}(h:StInv st i)(hij:i<=j):StInv st j :=
 ⟨h.inv,h.least,by have:=h.many;omega,by have:=h.sh;omega,by have:=h.len;omega⟩
theorem StInv.sharedStr{st st':BSt}{t:List UInt8}{o i:Nat}(h:StInv st i)(ht:t.length<=1000)(e:st.sharedStr t=some (o,st')):StInv st' (i+1):=by
 unfold BSt.sharedStr at e;split at e
 ·injection e with e;injection e with _ e;subst e;have:=h.up
  exact⟨⟨this.inv.vts,this.inv.vtab,this.inv.oend,this.inv.many⟩,this.least,this.many,this.sh,this.len⟩
 ·cases hc:BSt.created { st with shared:=some (st.shared.getD (.map [])) } t true with
  | none=>rw[hc] at e;cases e
  | some p =>
   rw[hc] at e;injection e with e;injection e with _ e;subst e;have h0:StInv { st with shared:=some (st.shared.getD (.map [])) } i:=⟨⟨h.inv.vts,h.inv.vtab,h.inv.oend,h.inv.many⟩,h.least,h.many,h.sh,h.len⟩;have h1:=h0.created ht hc;refine⟨⟨h1.inv.vts,h1.inv.vtab,h1.inv.oend,h1.inv.many⟩,h1.least,h1.many,?_,h1.len⟩;have:=put_size (st.shared.getD (.map [])) (.string t) (.lit (.int .u32 p.1))
   have:=h.sh
   show Maps.size ((st.shared.getD (.map [])).put (.string t) (.lit (.int .u32 p.1)))<=i+1;omega
theorem StInv.text{sh:Bool}{st st':BSt}{t:List UInt8}{o i:Nat}(h:StInv st i)(ht:t.length<=1000)(e:bText sh t st=some (o,st')):StInv st' (i+1):=by
 cases sh with
 | true=>exact h.sharedStr ht e
 | false=>exact h.created ht e
theorem bNums_grow(k:Nat)(hk:k<=10)(m:BM):∀ns:List Nat,Grow m (bNums k ns m) (40*ns.length)
 | []=>Grow.refl m
 | n::r=>by
  rw[bNums_cons,List.length_cons];exact ((bNums_grow k hk m r).trans (Grow.scalar _ (k:=(k:Int)) n (by omega) (by omega))).mono (by omega)
theorem bOffs_grow:∀(os:List Nat) (st st':BSt),bOffs os st=some st'->∃m,st'={ st with m:=m }/\Grow st.m m (40*os.length)
 | [],st,st',e=>by
  injection e with e;exact⟨st.m,e.symm,Grow.refl _⟩
 | o::r,st,st',e=>by
  have e':(bOffs r st).bind (λs=>s.refer o)=some st':=e;cases h:bOffs r st with
  | none=>rw[h] at e';cases e'
  | some s1 =>
   rw[h,Option.bind_some] at e';obtain⟨m,rfl,g⟩:=bOffs_grow r st s1 h;unfold BSt.refer at e';cases hm:BM.refer m o with
   | none=>simp only[hm] at e';cases e'
   | some m2 =>
    simp only[hm] at e';injection e' with e';exact⟨m2,e'.symm,by rw[List.length_cons];exact (g.trans (Grow.refer hm)).mono (by omega)⟩
theorem startVec_grow(m:BM)(z n:Nat)(hz:algn z):Grow m ((m.prep 4 (z*n)).prep z (z*n)) 32:=(Grow.prep m 4 _ (by unfold algn;omega)).trans (Grow.prep _ z _ hz)
theorem endVec_some{st st':BSt}{n o:Nat}(e:st.endVec n=some (o,st')):st'={ st with m:=st.m.put (leB 4 n),nested:=false }:=by
 unfold BSt.endVec at e;split at e
 ·split at e
  ·cases e
  ·injection e with e;injection e with _ e;exact e.symm
 ·cases e
theorem StInv.scalars{st st':BSt}{k o i:Nat}{ns:List Nat}(h:StInv st i)(hk:k<=10)(hl:ns.length<=200)(e:bScalars k ns st=some (o,st')):StInv st' (i+2):=by
 have ha:=numSize_algn (k:=(k:Int)) (by omega) (by omega);unfold bScalars BSt.startVec at e;split at e
 ·cases e
 ·rw[Option.bind_some] at e;have:=endVec_some e
  subst this;have g:=((startVec_grow st.m (numSize k) ns.length ha).trans (bNums_grow k hk _ ns)).trans (Grow.put _ (leB 4 ns.length));exact (h.growD (d:=2) g (by rw[leB_length];omega)).same rfl rfl rfl rfl rfl
theorem StInv.vec{st st':BSt}{o i:Nat}{os:List Nat}(h:StInv st i)(hl:os.length<=200)(e:bVec os st=some (o,st')):StInv st' (i+2):=by
 unfold bVec BSt.startVec at e;split at e
 ·cases e
 ·rw[Option.bind_some] at e;cases hb:bOffs os { st with m:=(st.m.prep 4 (4*os.length)).prep 4 (4*os.length),nested:=true } with
  | none=>simp only[hb] at e;cases e
  | some s1 =>
   simp only[hb,Option.bind_some] at e;have:=endVec_some e
   subst this;obtain⟨m,rfl,g⟩:=bOffs_grow _ _ _ hb;have g2:=((startVec_grow st.m 4 os.length (by unfold algn;omega)).trans g).trans (Grow.put _ (leB 4 os.length));exact (h.growD (d:=2) g2 (by rw[leB_length];omega)).same rfl rfl rfl rfl rfl
theorem slot_some{st st':BSt}{i:Int}(e:st.slot i=some st'):st'.m=st.m:=by
 unfold BSt.slot at e;split at e
 ·cases e
 ·split at e
  ·injection e with e;rw[<-e]
  ·cases e
theorem bField_grow{i o:Nat}{s:Slt Val}{st st':BSt}{B:List UInt8}(hs:SlotOk B s o)(e:bField i s o st=some st'):Grow st.m st'.m 80:=by
 unfold bField at e;split at e
 ·injection e with e;subst e;exact (Grow.refl _).mono (by omega)
 ·rename_i hh
  have ht:s.has=true:=by cases hx:s.has<;>simp_all
  split at e
  ·rename_i hk
   unfold BSt.prepSlot at e;split at e
   ·injection e with e;subst e;exact (Grow.refl _).mono (by omega)
   ·rw[slot_some e];exact (Grow.scalar st.m (k:=(s.val.kind:Int)) s.val.num (by omega) (by omega)).mono (by omega)
  ·split at e
   ·rename_i h17
    obtain⟨he,_,ht2⟩:=hs.str ht h17;have ha:algn s.val.elem:=(by unfold algn;omega);have e1:BSt.structSlot { st with m:=(st.m.prep s.val.elem s.val.text.length).put s.val.text } i ((st.m.prep s.val.elem s.val.text.length).put s.val.text).bytes.length 0=some st':=e;clear e;have e:=e1;unfold BSt.structSlot at e;have g:Grow st.m ((st.m.prep s.val.elem s.val.text.length).put s.val.text) 80:=((Grow.prep st.m _ _ ha).trans (Grow.put _ _)).mono (by omega);split at e
    ·injection e with e;subst e;exact g
    ·split at e
     ·split at e
      ·rw[slot_some e];exact g
      ·cases e
     ·cases e
   ·unfold BSt.offSlot at e;split at e
    ·injection e with e;subst e;exact (Grow.refl _).mono (by omega)
    ·unfold BSt.refer at e;cases hm:BM.refer st.m o with
     | none=>simp only[hm] at e;cases e
     | some m2 =>
      simp only[hm,Option.map_some,Option.bind_some] at e;rw[slot_some e];exact (Grow.refer hm).mono (by omega)
theorem bFields_grow{B:List UInt8}:∀(ss:List (Slt Val)) (os:List Nat) (i:Nat) (st st':BSt),(∀j (h:j<ss.length) (h2:j<os.length),SlotOk B ss[j] os[j])->bFields i ss os st=some st'->Grow st.m st'.m (80*ss.length)
 | [],_,i,st,st',_,e=>by
  have e':some st=some st':=by cases ‹List Nat›<;>exact e
  injection e' with e';subst e';exact Grow.refl _
 | s::r,[],i,st,st',_,e=>by
  injection e with e;subst e;exact (Grow.refl _).mono (by omega)
 | s::r,o::os,i,st,st',h,e=>by
  have e':(bField i s o st).bind (λst'=>bFields (i+1) r os st')=some st':=e;cases hb:bField i s o st with
  | none=>rw[hb] at e';cases e'
  | some s1 =>
   rw[hb,Option.bind_some] at e';have g1:=bField_grow (h 0 (by simp) (by simp)) hb;have g2:=bFields_grow r os (i+1) s1 st' (λj h1 h2=>h (j+1) (by simpa using h1) (by simpa using h2)) e';exact (g1.trans g2).mono (by rw[List.length_cons];omega)
structure Out(st st':BSt)(i:Nat):Prop where
 nested:st'.nested=false
 pi:PI st'
 put:Put st st'
 inv:StInv st' i
def LaidAt(sh:Bool)(v:Val):Prop:=Bld v->¬v.kind<=10->v.kind≠17->∀(st:BSt) (i:Nat),st.nested=false->PI st->StInv st i->i+2*nodes v<=300->∃o st',bElse sh v st=some (o,st')/\Out st st' (i+2*nodes v)/\0<o/\o<=st'.m.bytes.length/\LObj true st'.m.bytes v o
theorem LText.len{al:Bool}{B t:List UInt8}{r:Nat}(h:LText al B t r):r<=B.length:=h.1.len
theorem nodes_pos(v:Val):1<=nodes v:=by cases v with|mk k e n t ns ks ss=>rw[nodes];omega
theorem texts_laid(sh:Bool):∀(ks:List Val) (st:BSt) (i:Nat),(∀v∈ks,v.text.length<=1000)->st.nested=false->PI st->StInv st i->∃os st',bTexts sh ks st=some (os,st')/\Out st st' (i+2*nodesL ks)/\os.length=ks.length/\∀j (h:j<ks.length) (h2:j<os.length),0<os[j]/\os[j]<=st'.m.bytes.length/\LText true st'.m.bytes ks[j].text os[j]
 | [],st,i,_,hn,hp,hi=>⟨[],st,rfl,⟨hn,hp,Put.refl _,hi.le (by omega)⟩,rfl,λj h=>by simp at h⟩
 | v::r,st,i,hl,hn,hp,hi=>by
  obtain⟨o,st1,e1,n1,p1,u1,o1,t1⟩:=text_laid sh st v.text hn hp;have i1:=hi.text (hl v (by simp)) e1;obtain⟨os,st2,e2,h2,hlen,hj⟩:=texts_laid sh r st1 (i+1) (λx hx=>hl x (by simp[hx])) n1 p1 i1;obtain⟨xs,hx⟩:=h2.put.bytes;have hnp:=nodes_pos v;refine⟨o::os,st2,?_,⟨h2.nested,h2.pi,u1.trans h2.put,h2.inv.le (by rw[nodesL];omega)⟩,by rw[List.length_cons,List.length_cons,hlen],λj h h'=>?_⟩
  ·rw[bTexts_cons,e1,Option.bind_some,e2];rfl
  ·cases j with
   | zero =>
    have:=t1.len
    have:=h2.put.len
    exact⟨o1,by show o<=_;omega,by show LText true st2.m.bytes v.text o;rw[hx];exact t1.app xs⟩
   | succ j=>exact hj j (by simpa using h) (by simpa using h')
theorem kids_laid(sh:Bool):∀(ks:List Val) (st:BSt) (i:Nat),(∀v∈ks,LaidAt sh v/\Bld v/\v.kind=15)->st.nested=false->PI st->StInv st i->i+2*nodesL ks<=300->∃os st',bKids sh ks st=some (os,st')/\Out st st' (i+2*nodesL ks)/\os.length=ks.length/\∀j (h:j<ks.length) (h2:j<os.length),0<os[j]/\os[j]<=st'.m.bytes.length/\LTab true st'.m.bytes ks[j] os[j]
 | [],st,i,_,hn,hp,hi,_=>⟨[],st,rfl,⟨hn,hp,Put.refl _,hi.le (by omega)⟩,rfl,λj h=>by simp at h⟩
 | v::r,st,i,hl,hn,hp,hi,hb=>by
  rw[nodesL] at hb ⊢;obtain⟨ha,hbv,hk⟩:=hl v (by simp);obtain⟨o,st1,e1,h1,o1,o2,t1⟩:=ha hbv (by omega) (by omega) st i hn hp hi (by omega);have e1':bTab sh v st=some (o,st1):=by rw[<-bElse_tab sh v st hk];exact e1
  have t1':LTab true st1.m.bytes v o:=by
   cases v with
   | mk k e n t ns ks ss =>
    have hk':k=15:=hk;subst hk';rw[LTab];rw[LObj] at t1;simpa using t1
  obtain⟨os,st2,e2,h2,hlen,hj⟩:=kids_laid sh r st1 (i+2*nodes v) (λx hx=>hl x (by simp[hx])) h1.nested h1.pi h1.inv (by omega);obtain⟨xs,hx⟩:=h2.put.bytes;refine⟨o::os,st2,?_,⟨h2.nested,h2.pi,h1.put.trans h2.put,h2.inv.le (by omega)⟩,by rw[List.length_cons,List.length_cons,hlen],λj h h'=>?_⟩
  ·rw[bKids,e1',Option.bind_some,e2];rfl
  ·cases j with
   | zero =>
    have:=h2.put.len
    exact⟨o1,by show o<=_;omega,by show LTab true st2.m.bytes v o;rw[hx];exact LTab_app true _ xs _ _ t1'⟩
   | succ j=>exact hj j (by simpa using h) (by simpa using h')
theorem slots_laid(sh:Bool):∀(ss:List (Slt Val)) (st:BSt) (i:Nat),(∀s∈ss,s.has=true->LaidAt sh s.val/\Bld s.val/\(s.val.kind<=10->OkNum s.val.kind s.dflt))->st.nested=false->PI st->StInv st i->i+2*nodesS ss<=300->∃os st',bSlots sh ss st=some (os,st')/\Out st st' (i+2*nodesS ss)/\os.length=ss.length/\∀j (h:j<ss.length) (h2:j<os.length),SlotOk st'.m.bytes ss[j] os[j]
 | [],st,i,_,hn,hp,hi,_=>⟨[],st,rfl,⟨hn,hp,Put.refl _,hi.le (by omega)⟩,rfl,λj h=>by simp at h⟩
 | s::r,st,i,hl,hn,hp,hi,hb=>by
  rw[nodesS_cons] at hb ⊢;have key:∃o st1,bSlot sh s st=some (o,st1)/\Out st st1 (i+2*nodesT s)/\SlotOk st1.m.bytes s o:=by
   rw[bSlot_def];cases hh:s.has with
   | false=>exact⟨0,st,rfl,⟨hn,hp,Put.refl _,hi.le (by omega)⟩,⟨(λh=>by rw[hh] at h;cases h),(λh=>by rw[hh] at h;cases h),(λh=>by rw[hh] at h;cases h)⟩⟩
   | true =>
    obtain⟨ha,hbv,hd⟩:=hl s (by simp) hh;rw[nodesT_has hh] at hb ⊢;have hnum:s.has=true->s.val.kind<=10->OkNum s.val.kind s.val.num/\OkNum s.val.kind s.dflt:=λ_ hk=>⟨hbv.num hk,hd hk⟩;have hstr:s.has=true->s.val.kind=17->(s.val.elem=1\/s.val.elem=2\/s.val.elem=4\/s.val.elem=8)/\0<s.val.text.length/\s.val.text.length<=64:=λ_ hk=>hbv.str hk;by_cases hk:s.val.kind<=10\/s.val.kind=17
    ·refine⟨0,st,?_,⟨hn,hp,Put.refl _,hi.le (by omega)⟩,⟨hnum,hstr,λ_ h1 h2=>by omega⟩⟩;show bElse sh s.val st=_;cases hv:s.val with
     | mk k e n t ns ks ss =>
      rw[hv] at hk;have hk':k<=10\/k=17:=hk;rw[bElse,if_neg (by omega),if_neg (by omega),if_neg (by omega),if_neg (by omega),if_neg (by omega),if_neg (by omega)]
    ·obtain⟨o,st1,e1,h1,o1,o2,t1⟩:=ha hbv (by omega) (by omega) st i hn hp hi (by omega);exact⟨o,st1,e1,h1,⟨hnum,hstr,λ_ _ _=>⟨o1,o2,t1⟩⟩⟩
  obtain⟨o,st1,e1,h1,s1⟩:=key;obtain⟨os,st2,e2,h2,hlen,hj⟩:=slots_laid sh r st1 (i+2*nodesT s) (λx hx=>hl x (by simp[hx])) h1.nested h1.pi h1.inv (by omega);obtain⟨xs,hx⟩:=h2.put.bytes;refine⟨o::os,st2,?_,⟨h2.nested,h2.pi,h1.put.trans h2.put,h2.inv.le (by omega)⟩,by rw[List.length_cons,List.length_cons,hlen],λj h h'=>?_⟩
  ·rw[bSlots,e1,Option.bind_some,e2];rfl
  ·cases j with
   | zero =>
    have hpl:=h2.put.len;refine⟨s1.num,s1.str,λa b c=>?_⟩;obtain⟨q1,q2,q3⟩:=s1.obj a b c;exact⟨q1,by show o<=_;omega,by show LObj true st2.m.bytes s.val o;rw[hx];exact LObj_app true _ xs _ _ q3⟩
   | succ j=>exact hj j (by simpa using h) (by simpa using h')
theorem obj_laid(sh:Bool)(ss:List (Slt Val))(st:BSt)(i:Nat)(hls:ss.length<=60)(hl:∀s∈ss,s.has=true->LaidAt sh s.val/\Bld s.val/\(s.val.kind<=10->OkNum s.val.kind s.dflt))(hn:st.nested=false)(hp:PI st)(hi:StInv st i)(hb:i+2*nodesS ss+2<=300):
  ∃o st',((bSlots sh ss st).bind λp=>(p.2.startObj ss.length).bind λst1=>(bFields 0 ss p.1 st1).bind λst2=>st2.endObj)=some (o,st')/\Out st st' (i+2*nodesS ss+2)/\0<o/\o<=st'.m.bytes.length/\TabHead true st'.m.bytes o/\LSlots true st'.m.bytes ss 0 o/\∀j,ss.length<=j->fldOf st'.m.bytes o j=0:=by
 obtain⟨os,st1,e1,h1,hlen,hj⟩:=slots_laid sh ss st i hl hn hp hi (by omega);have hlen1:=h1.inv.len;have es:st1.startObj ss.length=some { st1 with nested:=true,vtab:=some (List.replicate ss.length 0),oend:=st1.m.bytes.length }:=by
  unfold BSt.startObj;rw[h1.nested];rfl
 have hF:FI st1 { st1 with nested:=true,vtab:=some (List.replicate ss.length 0),oend:=st1.m.bytes.length } ss.length 0 ss (List.replicate ss.length 0) :=
  ⟨rfl,by simp,λj _ _ h=>by omega,λj hl _=>by simp,⟨[],rfl⟩,by simp,rfl,rfl,rfl,rfl,rfl⟩
 obtain⟨st2,l,e2,hF2⟩:=bFields_laid (st0:=st1) (n:=ss.length) (ss:=ss) rfl (by omega) os hlen (λj h=>hj j h (by omega)) ss.length 0 _ _ (by omega) hF;rw[List.drop_zero,List.drop_zero] at e2;have g2:Grow st1.m st2.m (80*ss.length):=bFields_grow (B:=st1.m.bytes) ss os 0 { st1 with nested:=true,vtab:=some (List.replicate ss.length 0),oend:=st1.m.bytes.length } st2 (λj a b=>hj j a b) e2;obtain⟨o,st3,e3,n3,p3,u3,o1,o2,t1,t2⟩:=end_laid hF2 h1.pi hls (by omega);have i2:StInv st2 (i+2*nodesS ss+1):=by
  refine h1.inv.grow g2 (by omega) (λl' hl'=>?_) hF2.vts ?_ ?_
  ·rw[hF2.vtab] at hl';injection hl' with hl';subst hl';refine⟨by rw[hF2.len];omega,λx hx=>?_⟩;obtain⟨j,hjl,rfl⟩:=List.getElem_of_mem hx;have:=hF2.some j (by have:=hF2.len;omega) hjl (by have:=hF2.len;omega)
   split at this
   ·exact this.2.1
   ·omega
  ·rw[hF2.oend];exact g2.len.1
  ·rw[hF2.shared];have:=h1.inv.sh;omega
 have e3':st2.endObj=some (st2.vt1.bytes.length,{ st2.writeVt with nested:=false }):=by
  unfold BSt.endObj;rw[if_pos hF2.nested]
 have i3:=i2.writeVt (by omega);rw[e3'] at e3;injection e3 with e3;injection e3 with ea eb;rw[eb] at i3 e3';rw[ea] at e3';refine⟨o,st3,?_,⟨n3,p3,h1.put.trans u3,i3⟩,o1,o2,t1,t2⟩;rw[e1,Option.bind_some];show (st1.startObj ss.length).bind _=_;rw[es,Option.bind_some];show (bFields 0 ss os _).bind _=_;rw[e2,Option.bind_some,e3']
theorem else_laid(sh:Bool):∀v,LaidAt sh v:=by
 intro v;induction v using Val.ind with
 | h k e n t ns ks ss ihk ihs =>
  intro hb h10 h17 st i hn hp hi hbd;rw[nodes] at hbd ⊢;have h10':¬k<=10:=h10;have h17':k≠17:=h17;cases hb with
  | mk _ _ _ _ _ _ _ hk lt ln lk ls h13 hst hk14 hk16 hgk hgs hd2 hnum =>
   have hslots:∀s∈ss,s.has=true->LaidAt sh s.val/\Bld s.val/\(s.val.kind<=10->OkNum s.val.kind s.dflt):=λs hs hh=>⟨ihs s hs,hgs s hs hh,hd2 s hs hh⟩;rw[bElse];unfold LObj;by_cases h11:k=11
   ·rw[if_pos h11];simp only[if_pos h11];obtain⟨o,st',e1,a1,a2,a3,a4,a5⟩:=text_laid sh st t hn hp;have e2:(if sh=true then st.sharedStr t else st.created t true)=some (o,st'):=e1;exact⟨o,st',e2,⟨a1,a2,a3,(hi.text lt e1).le (by omega)⟩,a4,a5.len,a5⟩
   rw[if_neg h11];simp only[if_neg h11];by_cases h12:k=12
   ·rw[if_pos h12];simp only[if_pos h12];obtain⟨o,st',e1,a1,a2,a3,a4,a5,a6,a7⟩:=created_laid st t false hn;exact⟨o,st',e1,⟨a1,hp.put a4 a2 a3,a4,(hi.created lt e1).le (by omega)⟩,by omega,by omega,a7⟩
   rw[if_neg h12];simp only[if_neg h12];by_cases h13':k=13
   ·rw[if_pos h13'];simp only[if_pos h13'];obtain⟨he,hok⟩:=h13 h13';obtain⟨o,st',e1,a1,a2,a3,a4,a5,a6⟩:=scalars_laid st e ns he hok hn;exact⟨o,st',e1,⟨a1,hp.put a4 a2 a3,a4,(hi.scalars he ln e1).le (by omega)⟩,a5,a6.1.len,a6⟩
   rw[if_neg h13'];simp only[if_neg h13'];by_cases h14:k=14
   ·rw[if_pos h14];simp only[if_pos h14];obtain⟨os,st1,e1,h1,hlen,hj⟩:=texts_laid sh ks st i (λv hv=>by
     have:=hgk v hv
     cases this with|mk _ _ _ _ _ _ _ _ lt _ _ _ _ _ _ _ _ _ _ _=>exact lt) hn hp hi
    have hl1:=h1.inv.len;obtain⟨r,st2,e2,a1,a2,a3,a4,a5,a6,a7,a8⟩:=vec_laid st1 os h1.nested (λo ho=>by
     obtain⟨j,hjl,rfl⟩:=List.getElem_of_mem ho;have:=hj j (by omega) hjl
     exact⟨this.1,this.2.1⟩) (by omega)
    obtain⟨xs,hx⟩:=a4.bytes;refine⟨r,st2,by rw[e1,Option.bind_some];exact e2,⟨a1,h1.pi.put a4 a2 a3,h1.put.trans a4,(h1.inv.vec (by omega) e2).le (by omega)⟩,a5,by omega,by rw[hlen] at a7;exact a7,?_⟩;refine texts_of true _ ks _ λj hjl=>?_;obtain⟨b1,b2⟩:=a8 j (by omega);refine⟨b1,?_⟩;rw[b2,hx];exact (hj j hjl (by omega)).2.2.app xs
   rw[if_neg h14];simp only[if_neg h14];by_cases h16:k=16
   ·rw[if_pos h16];simp only[if_pos h16];obtain⟨os,st1,e1,h1,hlen,hj⟩:=kids_laid sh ks st i (λv hv=>⟨ihk v hv,hgk v hv,hk16 h16 v hv⟩) hn hp hi (by omega);have hl1:=h1.inv.len;obtain⟨r,st2,e2,a1,a2,a3,a4,a5,a6,a7,a8⟩:=vec_laid st1 os h1.nested (λo ho=>by
     obtain⟨j,hjl,rfl⟩:=List.getElem_of_mem ho;have:=hj j (by omega) hjl
     exact⟨this.1,this.2.1⟩) (by omega)
    obtain⟨xs,hx⟩:=a4.bytes;refine⟨r,st2,by rw[e1,Option.bind_some];exact e2,⟨a1,h1.pi.put a4 a2 a3,h1.put.trans a4,(h1.inv.vec (by omega) e2).le (by omega)⟩,a5,by omega,by rw[hlen] at a7;exact a7,?_⟩;refine kids_of true _ ks _ λj hjl=>?_;obtain⟨b1,b2⟩:=a8 j (by omega);refine⟨b1,?_⟩;rw[b2,hx];exact LTab_app true _ xs _ _ (hj j hjl (by omega)).2.2
   rw[if_neg h16];simp only[if_neg h16];have h15:k=15:=(by omega);rw[if_pos h15];obtain⟨o,st',e1,a1,a2,a3,a4,a5,_⟩:=obj_laid sh ss st i ls hslots hn hp hi (by omega);exact⟨o,st',e1,⟨a1.nested,a1.pi,a1.put,a1.inv.le (by omega)⟩,a2,a3,a4,a5⟩
end Go.Proofs.YtcfblkkpclfmaaaGreat
