/- Part 16 of the proof of FnRead (PlainB, Obj, VBuild, Lay, Laid1). No condition is laid on the statement. -/
import Derived.Test.YtcfblkkpclfmaaaGreatQa15
import Derived.OpenShut
import Derived.Test.YtcfblkkpclfmaaaGreatQa01
import Derived.Maps.Views
set_option linter.unusedVariables false
set_option linter.unusedSimpArgs false
set_option maxRecDepth 100000
set_option maxHeartbeats 16000000
namespace Go.Proofs.YtcfblkkpclfmaaaGreat
open Go.RowKit
theorem padB_mod(u s:Nat)(hs:algn s):(padB u s+u)%s=0:=by
 unfold padB;unfold algn at hs;rcases hs with rfl|rfl|rfl|rfl|rfl<;>omega
theorem prep_mod(m:BM)(size add:Nat)(hs:algn size):((m.prep size add).bytes.length+add)%size=0:=by
 rw[m.prep_len size add hs];have:=padB_mod (m.bytes.length+add) size hs
 unfold BM.pad;rw[Nat.add_assoc];exact this
theorem prep_bytes(m:BM)(size add:Nat):(m.prep size add).bytes=List.replicate (m.pad size add) 0++m.bytes:=rfl
theorem prep_id(m:BM)(size add:Nat)(hs:algn size)(h:(m.bytes.length+add)%size=0):(m.prep size add).bytes=m.bytes:=by
 have e:m.pad size add=0:=by
  unfold BM.pad padB;rw[h];unfold algn at hs;rw[Nat.sub_zero,Nat.mod_self]
 rw[prep_bytes,e];rfl
theorem text_true(m:BM)(xs:List UInt8):∃k,k<4/\(m.text xs true).bytes=leB 4 xs.length++(xs++(0::(List.replicate k 0++m.bytes)))/\(m.text xs true).bytes.length%4=0:=by
 have ha:algn 4:=by unfold algn;omega
 refine⟨m.pad 4 (xs.length+1),m.pad_lt 4 _ ha,rfl,?_⟩;have h:=prep_mod m 4 (xs.length+1) ha;have e:(m.text xs true).bytes=leB 4 xs.length++(xs++([0]++(m.prep 4 (xs.length+1)).bytes)):=rfl;rw[e];simp only[List.length_append,leB_length,List.length_singleton];omega
theorem text_false(m:BM)(xs:List UInt8):∃k,k<4/\(m.text xs false).bytes=leB 4 xs.length++(xs++(List.replicate k 0++m.bytes))/\(m.text xs false).bytes.length%4=0:=by
 have ha:algn 4:=by unfold algn;omega
 refine⟨m.pad 4 xs.length,m.pad_lt 4 _ ha,rfl,?_⟩;have h:=prep_mod m 4 xs.length ha;have e:(m.text xs false).bytes=leB 4 xs.length++(xs++(m.prep 4 xs.length).bytes):=rfl;rw[e];simp only[List.length_append,leB_length];omega
theorem run_str_at{D:ByteArray}{l:List UInt8}(hD:D=strOf l)(i:Nat){x:UInt8}(h:l[i]?=some x)(w:World):(Instr.index 9 (.string D) (.int .i64 i)).run Tryz.prog w=.ok (.int .u8 (x.toNat:Int)) w:=by
 subst hD;obtain⟨hlt,hx⟩:=List.getElem?_eq_some_iff.1 h;rw[run_index_string w 9 _ .i64 i Tryz.underlying9,dif_pos ⟨by omega,by rw[strOf_size];omega⟩,<-hx];rfl
def vtFlds(o:Nat)(l:List Nat):List UInt8:=l.flatMap λf:Nat=>leI 2 (if f=0 then 0 else (o:Int)-(f:Int))
theorem vtFlds_length(o:Nat)(l:List Nat):(vtFlds o l).length=2*l.length:=by
 unfold vtFlds;induction l with
 | nil=>rfl
 | cons f l ih=>rw[List.flatMap_cons,List.length_append,ih,leI_length,List.length_cons];omega
theorem prep_even(m:BM)(h:m.bytes.length%2=0):(m.prep 2 0).bytes=m.bytes:=prep_id m 2 0 (by unfold algn;omega) (by omega)
theorem vtPut_bytes(o:Nat)(m:BM)(h:m.bytes.length%2=0):∀l:List Nat,(vtPut o l m).bytes=vtFlds o l++m.bytes
 | []=>rfl
 | f::l=>by
  have ih:=vtPut_bytes o m h l;rw[vtPut_cons];show leI 2 _++((vtPut o l m).prep 2 0).bytes=_;rw[prep_even _ (by rw[ih,List.length_append,vtFlds_length];omega),ih];show _=(leI 2 _++vtFlds o l)++m.bytes;rw[List.append_assoc]
theorem vtPut_least(o:Nat)(m:BM)(h:2<=m.least):∀(l:List Nat),(vtPut o l m).least=m.least
 | []=>rfl
 | f::l=>by
  rw[vtPut_cons];show max (vtPut o l m).least 2=_;rw[vtPut_least o m h l];omega
theorem vt1_len(st:BSt):st.vt1.bytes.length=4+(padB st.m.bytes.length 4+st.m.bytes.length)/\st.vt1.bytes.length%4=0:=by
 have ha:algn 4:=by unfold algn;omega
 have e:st.vt1.bytes.length=4+(st.m.prep 4 0).bytes.length:=by
  show (leB 4 _++_).length=_;rw[List.length_append,leB_length]
 have h:=prep_mod st.m 4 0 ha;have e2:(st.m.prep 4 0).bytes.length=padB st.m.bytes.length 4+st.m.bytes.length:=st.m.prep_len 4 0 ha;omega
theorem vt4_bytes(st:BSt)(t:List Nat):(st.vt4 t).bytes=leI 2 (((t.length+2)*2:Nat):Int)++(leI 2 ((st.vt1.bytes.length:Int)-st.oend)++(vtFlds st.vt1.bytes.length t++st.vt1.bytes)):=by
 obtain⟨h1,h2⟩:=vt1_len st;have hp:=vtPut_bytes st.vt1.bytes.length st.vt1 (by omega) t;have hl:=vtFlds_length st.vt1.bytes.length t;unfold BSt.vt4;show leI 2 _++(((vtPut st.vt1.bytes.length t st.vt1).prep 2 0).put (leI 2 ((st.vt1.bytes.length:Int)-st.oend)) |>.prep 2 0).bytes=_;have e1:((vtPut st.vt1.bytes.length t st.vt1).prep 2 0).bytes=vtFlds st.vt1.bytes.length t++st.vt1.bytes:=by
  rw[prep_even _ (by rw[hp,List.length_append,hl];omega),hp]
 have e2:(((vtPut st.vt1.bytes.length t st.vt1).prep 2 0).put (leI 2 ((st.vt1.bytes.length:Int)-st.oend))).bytes=leI 2 ((st.vt1.bytes.length:Int)-st.oend)++(vtFlds st.vt1.bytes.length t++st.vt1.bytes):=by
  show leI 2 _++((vtPut st.vt1.bytes.length t st.vt1).prep 2 0).bytes=_;rw[e1]
 rw[prep_even _ (by rw[e2];simp only[List.length_append,leI_length,hl];omega),e2]
def objBytes(st:BSt)(soff:Int):List UInt8:=leI 4 soff++(List.replicate (padB st.m.bytes.length 4) 0++st.m.bytes)
theorem objBytes_length(st:BSt)(soff:Int):(objBytes st soff).length=st.vt1.bytes.length:=by
 rw[(vt1_len st).1];unfold objBytes;simp only[List.length_append,leI_length,List.length_replicate]
theorem vt1_bytes_eq(st:BSt):st.vt1.bytes=leB 4 ((st.m.prep 4 0).bytes.length+4)++(List.replicate (padB st.m.bytes.length 4) 0++st.m.bytes):=rfl
theorem endObj_fresh(st:BSt)(hn:st.nested=true)(hf:vtFind st.vt1 st.vt1.bytes.length (trimZ (st.vtab.getD [])) st.vts=none):
  ∃st' o,o=st.vt1.bytes.length/\st.endObj=some (o,st')/\st'.nested=false/\st'.fin=st.fin/\st'.m.least=max st.m.least 4/\st'.shared=st.shared/\st'.vts=st.vts++[2*(trimZ (st.vtab.getD [])).length+4+o] /\
   st'.m.bytes=leI 2 (((2*(trimZ (st.vtab.getD [])).length+4:Nat):Int))++(leI 2 ((o:Int)-st.oend)++(vtFlds o (trimZ (st.vtab.getD []))++objBytes st ((2*(trimZ (st.vtab.getD [])).length+4:Nat):Int))) /\
   st'.m.bytes.length=2*(trimZ (st.vtab.getD [])).length+4+o/\st'.vtab=st.vtab.map (λ_=>[]):=by
 obtain⟨t,ht⟩:=exA (trimZ (st.vtab.getD []));rw[<-ht] at hf ⊢;have hb:=vt4_bytes st t;have hfl:=vtFlds_length st.vt1.bytes.length t;have hl4:(st.vt4 t).bytes.length=2*t.length+4+st.vt1.bytes.length:=by
  rw[hb];simp only[List.length_append,leI_length,hfl];omega
 have hw:st.writeVt={ st with m:=(st.vt4 t).over st.vt1.bytes.length (leI 4 (((st.vt4 t).bytes.length:Int)-st.vt1.bytes.length)),vtab:=st.vtab.map (λ_=>[]),vts:=st.vts++[(st.vt4 t).bytes.length] }:=by
  unfold BSt.writeVt;rw[<-ht,hf]
 have hov:((st.vt4 t).over st.vt1.bytes.length (leI 4 (((st.vt4 t).bytes.length:Int)-st.vt1.bytes.length))).bytes=leI 2 (((2*t.length+4:Nat):Int))++(leI 2 ((st.vt1.bytes.length:Int)-st.oend)++(vtFlds st.vt1.bytes.length t++objBytes st ((2*t.length+4:Nat):Int))):=by
  have e:=over_app (st.vt4 t) (leI 2 (((t.length+2)*2:Nat):Int)++(leI 2 ((st.vt1.bytes.length:Int)-st.oend)++vtFlds st.vt1.bytes.length t)) (leB 4 ((st.m.prep 4 0).bytes.length+4)) (List.replicate (padB st.m.bytes.length 4) 0++st.m.bytes) (leI 4 (((st.vt4 t).bytes.length:Int)-st.vt1.bytes.length)) st.vt1.bytes.length
   (by rw[hb,vt1_bytes_eq];simp only[List.append_assoc]) (by rw[vt1_bytes_eq,List.length_append]) (by rw[leI_length,leB_length])
  rw[e,hl4,show (((2*t.length+4+st.vt1.bytes.length:Nat):Int)-st.vt1.bytes.length)=((2*t.length+4:Nat):Int) by omega,show (t.length+2)*2=2*t.length+4 by omega];unfold objBytes;simp only[List.append_assoc]
 refine⟨{ st.writeVt with nested:=false },_,rfl,?_,rfl,?_,?_,?_,?_,?_,?_,?_⟩
 ·unfold BSt.endObj;rw[if_pos hn]
 ·rw[hw]
 ·rw[hw];show (st.vt4 t).least=_;have h1:st.vt1.least=max st.m.least 4:=rfl;show max (max (vtPut st.vt1.bytes.length t st.vt1).least 2) 2=_;rw[vtPut_least _ _ (by omega),h1];omega
 ·rw[hw]
 ·rw[hw];show st.vts++[(st.vt4 t).bytes.length]=_;rw[hl4]
 ·rw[hw];exact hov
 ·rw[hw];show ((st.vt4 t).over _ _).bytes.length=_;rw[BM.over_len _ _ _ (by rw[leI_length];have:=vt1_len st;omega) (by omega),hl4]
 ·rw[hw]
theorem endObj_found(st:BSt)(v:Nat)(hn:st.nested=true)(hf:vtFind st.vt1 st.vt1.bytes.length (trimZ (st.vtab.getD [])) st.vts=some v):
  ∃st' o,o=st.vt1.bytes.length/\st.endObj=some (o,st')/\st'.nested=false/\st'.fin=st.fin/\st'.m.least=max st.m.least 4/\st'.shared=st.shared/\st'.vts=st.vts /\
   st'.m.bytes=objBytes st ((v:Int)-o)/\st'.m.bytes.length=o/\st'.vtab=st.vtab.map (λ_=>[]):=by
 have hw:st.writeVt={ st with m:=st.vt1.over st.vt1.bytes.length (leI 4 ((v:Int)-st.vt1.bytes.length)),vtab:=st.vtab.map (λ_=>[]) }:=by
  unfold BSt.writeVt;rw[hf]
 have hov:(st.vt1.over st.vt1.bytes.length (leI 4 ((v:Int)-st.vt1.bytes.length))).bytes=objBytes st ((v:Int)-st.vt1.bytes.length):=by
  have e:=over_app st.vt1 [] (leB 4 ((st.m.prep 4 0).bytes.length+4)) (List.replicate (padB st.m.bytes.length 4) 0++st.m.bytes) (leI 4 ((v:Int)-st.vt1.bytes.length)) st.vt1.bytes.length
   (by rw[vt1_bytes_eq];rfl) (by rw[vt1_bytes_eq,List.length_append]) (by rw[leI_length,leB_length])
  rw[e];rfl
 refine⟨{ st.writeVt with nested:=false },_,rfl,?_,rfl,?_,?_,?_,?_,?_,?_,?_⟩
 ·unfold BSt.endObj;rw[if_pos hn]
 ·rw[hw]
 ·rw[hw];rfl
 ·rw[hw]
 ·rw[hw]
 ·rw[hw];exact hov
 ·rw[hw];show (st.vt1.over _ _).bytes.length=_;rw[hov,objBytes_length]
 ·rw[hw]
def bNums(k:Nat)(ns:List Nat)(m:BM):BM:=ns.foldr (λn m=>(m.prep (numSize k) 0).put (numB k n)) m
def bOffs:List Nat->BSt->Option BSt
 | [],st=>some st
 | o::r,st=>(bOffs r st).bind λs=>s.refer o
def bScalars(k:Nat)(ns:List Nat)(st:BSt):Option (Nat × BSt) :=
 (st.startVec (numSize k) ns.length (numSize k)).bind λp=>BSt.endVec { p.2 with m:=bNums k ns p.2.m } ns.length
def bVec (os:List Nat)(st:BSt):Option (Nat × BSt) :=
 (st.startVec 4 os.length 4).bind λp=>(bOffs os p.2).bind λs=>s.endVec os.length
def bField(i:Nat)(s:Slt Val)(o:Nat)(st:BSt):Option BSt :=
 if s.has=false then some st
 else if s.val.kind<=10 then st.prepSlot (numSize s.val.kind) (numB s.val.kind s.val.num) i (sameNum s.val.kind s.val.num s.dflt)
 else if s.val.kind=17 then
  let st':BSt:={ st with m:=(st.m.prep s.val.elem s.val.text.length).put s.val.text }
  st'.structSlot i st'.m.bytes.length 0
 else st.offSlot i o 0
def bFields(i:Nat):List (Slt Val)->List Nat->BSt->Option BSt
 | s::r,o::os,st=>(bField i s o st).bind λst'=>bFields (i+1) r os st'
 | _,_,st=>some st
mutual
def bElse(sh:Bool):Val->BSt->Option (Nat × BSt)
 | .mk k e n t ns ks ss,st =>
  if k=11 then (if sh then st.sharedStr t else st.created t true)
  else if k=12 then st.created t false
  else if k=13 then bScalars e ns st
  else if k=14 then (bTexts sh ks st).bind λp=>bVec p.1 p.2
  else if k=16 then (bKids sh ks st).bind λp=>bVec p.1 p.2
  else if k=15 then (bSlots sh ss st).bind λp=>(p.2.startObj ss.length).bind λst1=>(bFields 0 ss p.1 st1).bind λst2=>st2.endObj
  else some (0,st)
termination_by structural v=>v
def bTexts(sh:Bool):List Val->BSt->Option (List Nat × BSt)
 | [],st=>some ([],st)
 | .mk k e n t ns ks ss::r,st=>(if sh then st.sharedStr t else st.created t true).bind λp=>(bTexts sh r p.2).map λq=>(p.1::q.1,q.2)
termination_by structural v=>v
def bKids(sh:Bool):List Val->BSt->Option (List Nat × BSt)
 | [],st=>some ([],st)
 | v::r,st=>(bTab sh v st).bind λp=>(bKids sh r p.2).map λq=>(p.1::q.1,q.2)
termination_by structural v=>v
def bSlots(sh:Bool):List (Slt Val)->BSt->Option (List Nat × BSt)
 | [],st=>some ([],st)
 | s::r,st=>(bSlot sh s st).bind λp=>(bSlots sh r p.2).map λq=>(p.1::q.1,q.2)
termination_by structural v=>v
def bSlot(sh:Bool):Slt Val->BSt->Option (Nat × BSt)
 | ⟨h,v,d⟩,st=>if h then bElse sh v st else some (0,st)
termination_by structural v=>v
def bTab (sh:Bool):Val->BSt->Option (Nat × BSt)
 | .mk k e n t ns ks ss,st=>(bSlots sh ss st).bind λp=>(p.2.startObj ss.length).bind λst1=>(bFields 0 ss p.1 st1).bind λst2=>st2.endObj
termination_by structural v=>v
end
def bBuilt(sh:Bool)(id:List UInt8)(v:Val)(st:BSt):Option BSt :=
 (bTab sh v st).bind λp=>if id=[] then p.2.finish p.1 else p.2.finishId p.1 id
theorem bTab_def(sh:Bool)(v:Val)(st:BSt):bTab sh v st=(bSlots sh v.slots st).bind λp=>(p.2.startObj v.slots.length).bind λst1=>(bFields 0 v.slots p.1 st1).bind λst2=>st2.endObj:=by
 cases v;rfl
theorem bSlot_def(sh:Bool)(s:Slt Val)(st:BSt):bSlot sh s st=if s.has then bElse sh s.val st else some (0,st):=by
 cases s;rfl
theorem bElse_tab(sh:Bool)(v:Val)(st:BSt)(h:v.kind=15):bElse sh v st=bTab sh v st:=by
 cases v with
 | mk k e n t ns ks ss =>
  have h':k=15:=h;subst h';rw[bElse,bTab];simp
theorem bSlots_snoc(sh:Bool)(l:List (Slt Val))(s:Slt Val)(st:BSt):bSlots sh (l++[s]) st=(bSlots sh l st).bind λp=>(bSlot sh s p.2).map λq=>(p.1++[q.1],q.2):=by
 induction l generalizing st with
 | nil =>
  show bSlots sh [s] st=(some ([],st)).bind _;rw[bSlots,Option.bind_some];cases h:bSlot sh s st with
  | none=>rfl
  | some p=>simp[bSlots]
 | cons a r ih =>
  rw[List.cons_append,bSlots,bSlots];cases h:bSlot sh a st with
  | none=>rfl
  | some p =>
   simp only[Option.bind_some];rw[ih];cases h2:bSlots sh r p.2 with
   | none=>rfl
   | some q =>
    simp only[Option.bind_some,Option.map_some];cases h3:bSlot sh s q.2 with
    | none=>rfl
    | some x=>simp
theorem bKids_snoc(sh:Bool)(l:List Val)(s:Val)(st:BSt):bKids sh (l++[s]) st=(bKids sh l st).bind λp=>(bTab sh s p.2).map λq=>(p.1++[q.1],q.2):=by
 induction l generalizing st with
 | nil =>
  show bKids sh [s] st=(some ([],st)).bind _;rw[bKids,Option.bind_some];cases h:bTab sh s st with
  | none=>rfl
  | some p=>simp[bKids]
 | cons a r ih =>
  rw[List.cons_append,bKids,bKids];cases h:bTab sh a st with
  | none=>rfl
  | some p =>
   simp only[Option.bind_some];rw[ih];cases h2:bKids sh r p.2 with
   | none=>rfl
   | some q =>
    simp only[Option.bind_some,Option.map_some];cases h3:bTab sh s q.2 with
    | none=>rfl
    | some x=>simp
def bText(sh:Bool)(t:List UInt8)(st:BSt):Option (Nat × BSt):=if sh then st.sharedStr t else st.created t true
theorem bTexts_cons(sh:Bool)(v:Val)(r:List Val)(st:BSt):bTexts sh (v::r) st=(bText sh v.text st).bind λp=>(bTexts sh r p.2).map λq=>(p.1::q.1,q.2):=by
 cases v;rfl
theorem bTexts_snoc(sh:Bool)(l:List Val)(s:Val)(st:BSt):bTexts sh (l++[s]) st=(bTexts sh l st).bind λp=>(bText sh s.text p.2).map λq=>(p.1++[q.1],q.2):=by
 induction l generalizing st with
 | nil =>
  show bTexts sh [s] st=(some ([],st)).bind _;rw[bTexts_cons,Option.bind_some];cases h:bText sh s.text st with
  | none=>rfl
  | some p=>simp[bTexts]
 | cons a r ih =>
  rw[List.cons_append,bTexts_cons,bTexts_cons];cases h:bText sh a.text st with
  | none=>rfl
  | some p =>
   simp only[Option.bind_some];rw[ih];cases h2:bTexts sh r p.2 with
   | none=>rfl
   | some q =>
    simp only[Option.bind_some,Option.map_some];cases h3:bText sh s.text q.2 with
    | none=>rfl
    | some x=>simp
theorem bFields_snoc(l:List (Slt Val))(os:List Nat)(i:Nat)(s:Slt Val)(o:Nat)(st:BSt)(h:l.length=os.length):bFields i (l++[s]) (os++[o]) st=(bFields i l os st).bind λst'=>bField (i+l.length) s o st':=by
 induction l generalizing os i st with
 | nil =>
  obtain rfl:os=[]:=List.eq_nil_of_length_eq_zero h.symm;show (bField i s o st).bind (λst'=>bFields (i+1) [] [] st')=(some st).bind _;simp only[Option.bind_some,bFields,List.length_nil,Nat.add_zero];cases bField i s o st<;>rfl
 | cons a r ih =>
  match os,h with
  | x::os,h =>
   simp only[List.cons_append,bFields];cases hb:bField i a x st with
   | none=>rfl
   | some st1 =>
    simp only[Option.bind_some];rw[ih os (i+1) st1 (by simpa using h),List.length_cons,show i+1+r.length=i+(r.length+1) by omega]
def at4 (B:List UInt8)(a:Nat):Nat:=le ((fromEnd B a).take 4)
def at2 (B:List UInt8)(a:Nat):Nat:=le ((fromEnd B a).take 2)
def refE (B:List UInt8)(a:Nat):Nat:=a-at4 B a
structure RefOk(al:Bool)(B:List UInt8)(a:Nat):Prop where
 len:a<=B.length
 low:4<=a
 pos:1<=at4 B a
 lt:at4 B a<a
 aln:al=true->a%4=0
structure BytesAt(B:List UInt8)(a:Nat)(xs:List UInt8):Prop where
 len:a<=B.length
 low:xs.length<=a
 eq:(fromEnd B a).take xs.length=xs
def LText(al:Bool)(B:List UInt8)(t:List UInt8)(r:Nat):Prop:=BytesAt B r (leB 4 t.length++(t++[0]))/\(al=true->r%4=0)
def LBytes(al:Bool)(B:List UInt8)(t:List UInt8)(r:Nat):Prop:=BytesAt B r (leB 4 t.length++t)/\(al=true->r%4=0)
def LNums(al:Bool)(B:List UInt8)(e:Nat)(ns:List Nat)(r:Nat):Prop:=BytesAt B r (leB 4 ns.length++ns.flatMap (leB (numSize e)))/\(al=true->r%4=0/\(r-4)%numSize e=0)
def LVec (al:Bool)(B:List UInt8)(n r:Nat):Prop:=BytesAt B r (leB 4 n)/\4+4*n<=r/\(al=true->r%4=0)
def vtOf (B:List UInt8)(o:Nat):Nat:=if at4 B o<2^31 then o+at4 B o else o-(2^32-at4 B o)
def fldOf(B:List UInt8)(o i:Nat):Nat:=if 6+2*i<=at2 B (vtOf B o) then at2 B (vtOf B o-(4+2*i)) else 0
structure TabHead(al:Bool)(B:List UInt8)(o:Nat):Prop where
 len:o<=B.length
 low:4<=o
 sgn:at4 B o<2^31\/2^32-at4 B o<o
 vlen:vtOf B o<=B.length
 size4:4<=at2 B (vtOf B o)
 size:at2 B (vtOf B o)<=vtOf B o
 even:at2 B (vtOf B o)%2=0
 whole4:4<=at2 B (vtOf B o-2)
 whole:at2 B (vtOf B o-2)<=o
 aln:al=true->o%4=0/\vtOf B o%2=0
def present(s:Slt Val):Bool:=s.has&&!(decide (s.val.kind<=10)&&eqK s.val.kind s.val.num s.dflt)
mutual
def LVal (al:Bool)(B:List UInt8):Val->Nat->Prop
 | .mk k e n t ns ks ss,a =>
  if k<=10 then BytesAt B a (leB (numSize k) n)/\(al=true->a%numSize k=0)
  else if k=17 then BytesAt B a t/\(al=true->a%e=0)
  else RefOk al B a/\(
   if k=11 then LText al B t (refE B a)
   else if k=12 then LBytes al B t (refE B a)
   else if k=13 then LNums al B e ns (refE B a)
   else if k=14 then LVec al B ks.length (refE B a)/\LTexts al B ks (refE B a-4)
   else if k=16 then LVec al B ks.length (refE B a)/\LKids al B ks (refE B a-4)
   else TabHead al B (refE B a)/\LSlots al B ss 0 (refE B a))
termination_by structural v=>v
def LTexts(al:Bool)(B:List UInt8):List Val->Nat->Prop
 | [],_=>True
 | .mk k e n t ns ks ss::r,a=>RefOk al B a/\LText al B t (refE B a)/\LTexts al B r (a-4)
termination_by structural v=>v
def LKids(al:Bool)(B:List UInt8):List Val->Nat->Prop
 | [],_=>True
 | v::r,a=>RefOk al B a/\LTab al B v (refE B a)/\LKids al B r (a-4)
termination_by structural v=>v
def LSlots(al:Bool)(B:List UInt8):List (Slt Val)->Nat->Nat->Prop
 | [],_,_=>True
 | s::r,i,o=>LSlot al B s i o/\LSlots al B r (i+1) o
termination_by structural v=>v
def LSlot(al:Bool)(B:List UInt8):Slt Val->Nat->Nat->Prop
 | ⟨h,v,d⟩,i,o=>if present ⟨h,v,d⟩ then 4<=fldOf B o i/\fldOf B o i<at2 B (vtOf B o-2)/\LVal al B v (o-fldOf B o i) else fldOf B o i=0
termination_by structural v=>v
def LTab (al:Bool)(B:List UInt8):Val->Nat->Prop
 | .mk k e n t ns ks ss,o=>TabHead al B o/\LSlots al B ss 0 o
termination_by structural v=>v
end
theorem LTab_def(al:Bool)(B:List UInt8)(v:Val)(o:Nat):LTab al B v o=(TabHead al B o/\LSlots al B v.slots 0 o):=by cases v;rfl
theorem LTexts_cons(al:Bool)(B:List UInt8)(v:Val)(r:List Val)(a:Nat):LTexts al B (v::r) a=(RefOk al B a/\LText al B v.text (refE B a)/\LTexts al B r (a-4)):=by cases v;rfl
theorem LSlot_def(al:Bool)(B:List UInt8)(s:Slt Val)(i o:Nat):LSlot al B s i o=(if present s then 4<=fldOf B o i/\fldOf B o i<at2 B (vtOf B o-2)/\LVal al B s.val (o-fldOf B o i) else fldOf B o i=0):=by cases s;rfl
/-! Bytes that are put in front turn nothing. -/
theorem at4_app(xs B:List UInt8)(a:Nat)(h:a<=B.length):at4 (xs++B) a=at4 B a:=by unfold at4;rw[fromEnd_append _ _ _ h]
theorem at2_app(xs B:List UInt8)(a:Nat)(h:a<=B.length):at2 (xs++B) a=at2 B a:=by unfold at2;rw[fromEnd_append _ _ _ h]
theorem refE_app(xs B:List UInt8)(a:Nat)(h:a<=B.length):refE (xs++B) a=refE B a:=by unfold refE;rw[at4_app _ _ _ h]
theorem RefOk.app{al:Bool}{B:List UInt8}{a:Nat}(h:RefOk al B a)(xs:List UInt8):RefOk al (xs++B) a :=
 ⟨by rw[List.length_append];have:=h.len;omega,h.low,by rw[at4_app _ _ _ h.len];exact h.pos,by rw[at4_app _ _ _ h.len];exact h.lt,h.aln⟩
theorem BytesAt.app{B:List UInt8}{a:Nat}{ys:List UInt8}(h:BytesAt B a ys)(xs:List UInt8):BytesAt (xs++B) a ys :=
 ⟨by rw[List.length_append];have:=h.len;omega,h.low,by rw[fromEnd_append _ _ _ h.len];exact h.eq⟩
theorem LText.app{al:Bool}{B t:List UInt8}{r:Nat}(h:LText al B t r)(xs:List UInt8):LText al (xs++B) t r:=⟨h.1.app xs,h.2⟩
theorem LBytes.app{al:Bool}{B t:List UInt8}{r:Nat}(h:LBytes al B t r)(xs:List UInt8):LBytes al (xs++B) t r:=⟨h.1.app xs,h.2⟩
theorem LNums.app{al:Bool}{B:List UInt8}{e:Nat}{ns:List Nat}{r:Nat}(h:LNums al B e ns r)(xs:List UInt8):LNums al (xs++B) e ns r:=⟨h.1.app xs,h.2⟩
theorem LVec.app{al:Bool}{B:List UInt8}{n r:Nat}(h:LVec al B n r)(xs:List UInt8):LVec al (xs++B) n r:=⟨h.1.app xs,h.2⟩
theorem vtOf_app(xs B:List UInt8)(o:Nat)(h:o<=B.length):vtOf (xs++B) o=vtOf B o:=by unfold vtOf;rw[at4_app _ _ _ h]
theorem TabHead.at2{al:Bool}{B:List UInt8}{o:Nat}(h:TabHead al B o)(xs:List UInt8)(k:Nat):at2 (xs++B) (vtOf (xs++B) o-k)=at2 B (vtOf B o-k):=by
 rw[vtOf_app _ _ _ h.len,at2_app _ _ _ (by have:=h.vlen;omega)]
theorem TabHead.fld{al:Bool}{B:List UInt8}{o:Nat}(h:TabHead al B o)(xs:List UInt8)(i:Nat):fldOf (xs++B) o i=fldOf B o i:=by
 have h0:=h.at2 xs 0;rw[Nat.sub_zero,Nat.sub_zero] at h0;unfold fldOf;rw[h0,h.at2 xs]
theorem TabHead.app{al:Bool}{B:List UInt8}{o:Nat}(h:TabHead al B o)(xs:List UInt8):TabHead al (xs++B) o:=by
 have h0:=h.at2 xs 0;rw[Nat.sub_zero,Nat.sub_zero] at h0;have h2:=h.at2 xs 2;have hv:=vtOf_app xs B o h.len;have h4:=at4_app xs B o h.len;refine⟨by rw[List.length_append];have:=h.len;omega,h.low,by rw[h4];exact h.sgn,by rw[hv,List.length_append];have:=h.vlen;omega,by rw[h0];exact h.size4,by rw[h0,hv];exact h.size,by rw[h0];exact h.even,by rw[h2];exact h.whole4,by rw[h2];exact h.whole,by rw[hv];exact h.aln⟩
mutual
theorem LVal_app(al:Bool)(B xs:List UInt8):∀(v:Val) (a:Nat),LVal al B v a->LVal al (xs++B) v a
 | .mk k e n t ns ks ss,a,h=>by
  rw[LVal] at h ⊢;split
  ·rename_i h1
   rw[if_pos h1] at h;exact⟨h.1.app xs,h.2⟩
  ·rename_i h1
   rw[if_neg h1] at h;split
   ·rename_i h2
    rw[if_pos h2] at h;exact⟨h.1.app xs,h.2⟩
   ·rename_i h2
    rw[if_neg h2] at h;obtain⟨hr,h⟩:=h;rw[refE_app _ _ _ hr.len];refine⟨hr.app xs,?_⟩;split
    ·rename_i h3;rw[if_pos h3] at h;exact h.app xs
    ·rename_i h3;rw[if_neg h3] at h
     split
     ·rename_i h4;rw[if_pos h4] at h;exact h.app xs
     ·rename_i h4;rw[if_neg h4] at h
      split
      ·rename_i h5;rw[if_pos h5] at h;exact h.app xs
      ·rename_i h5;rw[if_neg h5] at h
       split
       ·rename_i h6;rw[if_pos h6] at h;exact⟨h.1.app xs,LTexts_app al B xs ks _ h.2⟩
       ·rename_i h6;rw[if_neg h6] at h
        split
        ·rename_i h7;rw[if_pos h7] at h;exact⟨h.1.app xs,LKids_app al B xs ks _ h.2⟩
        ·rename_i h7;rw[if_neg h7] at h;exact⟨h.1.app xs,LSlots_app al B xs ss 0 _ h.1 h.2⟩
termination_by structural v=>v
theorem LTexts_app(al:Bool)(B xs:List UInt8):∀(l:List Val) (a:Nat),LTexts al B l a->LTexts al (xs++B) l a
 | [],_,_=>trivial
 | .mk k e n t ns ks ss::r,a,h=>by
  rw[LTexts] at h ⊢;rw[refE_app _ _ _ h.1.len];exact⟨h.1.app xs,h.2.1.app xs,LTexts_app al B xs r _ h.2.2⟩
termination_by structural v=>v
theorem LKids_app(al:Bool)(B xs:List UInt8):∀(l:List Val) (a:Nat),LKids al B l a->LKids al (xs++B) l a
 | [],_,_=>trivial
 | v::r,a,h=>by
  rw[LKids] at h ⊢;rw[refE_app _ _ _ h.1.len];exact⟨h.1.app xs,LTab_app al B xs v _ h.2.1,LKids_app al B xs r _ h.2.2⟩
termination_by structural v=>v
theorem LSlots_app(al:Bool)(B xs:List UInt8):∀(l:List (Slt Val)) (i o:Nat),TabHead al B o->LSlots al B l i o->LSlots al (xs++B) l i o
 | [],_,_,_,_=>trivial
 | s::r,i,o,ht,h=>by
  rw[LSlots] at h ⊢;exact⟨LSlot_app al B xs s i o ht h.1,LSlots_app al B xs r (i+1) o ht h.2⟩
termination_by structural v=>v
theorem LSlot_app(al:Bool)(B xs:List UInt8):∀(s:Slt Val) (i o:Nat),TabHead al B o->LSlot al B s i o->LSlot al (xs++B) s i o
 | ⟨hs,v,d⟩,i,o,ht,h=>by
  rw[LSlot] at h ⊢;rw[ht.fld xs,ht.at2 xs];split
  ·rename_i h1
   rw[if_pos h1] at h;exact⟨h.1,h.2.1,LVal_app al B xs v _ h.2.2⟩
  ·rename_i h1
   rw[if_neg h1] at h;exact h
termination_by structural v=>v
theorem LTab_app(al:Bool)(B xs:List UInt8):∀(v:Val) (o:Nat),LTab al B v o->LTab al (xs++B) v o
 | .mk k e n t ns ks ss,o,h=>by
  rw[LTab] at h ⊢;exact⟨h.1.app xs,LSlots_app al B xs ss 0 o h.1 h.2⟩
termination_by structural v=>v
end
end Go.Proofs.YtcfblkkpclfmaaaGreat
namespace Go.Proofs.YtcfblkkpclfmaaaGreat
open Go.RowKit Go.Maps
theorem fromEnd_full(B:List UInt8):fromEnd B B.length=B:=by unfold fromEnd;rw[Nat.sub_self];rfl
theorem fromEnd_sub(B:List UInt8)(v k:Nat)(h:k<=v)(hv:v<=B.length):fromEnd B (v-k)=(fromEnd B v).drop k:=by
 unfold fromEnd;rw[List.drop_drop,show B.length-(v-k)=B.length-v+k by omega]
theorem BytesAt.front{B xs rest:List UInt8}(h:B=xs++rest):BytesAt B B.length xs :=
 ⟨Nat.le_refl _,by rw[h,List.length_append];omega,by rw[fromEnd_full,h,List.take_left]⟩
theorem BytesAt.left{B xs ys:List UInt8}{a:Nat}(h:BytesAt B a (xs++ys)):BytesAt B a xs :=
 ⟨h.len,by have:=h.low;rw[List.length_append] at this;omega,by
  have:=congrArg (List.take xs.length) h.eq
  rw[List.take_take,List.take_left,List.length_append,Nat.min_eq_left (by omega)] at this;exact this⟩
theorem BytesAt.right{B xs ys:List UInt8}{a:Nat}(h:BytesAt B a (xs++ys)):BytesAt B (a-xs.length) ys:=by
 have hl:=h.low;rw[List.length_append] at hl;refine⟨by have:=h.len;omega,by omega,?_⟩;rw[fromEnd_sub _ _ _ (by omega) h.len];have:=congrArg (List.drop xs.length) h.eq
 rw[List.drop_left,List.drop_take,List.length_append,show xs.length+ys.length-xs.length=ys.length by omega] at this;exact this
theorem BytesAt.at2{B xs:List UInt8}{a:Nat}(h:BytesAt B a xs)(hx:xs.length=2):at2 B a=le xs:=by
 unfold Proofs.YtcfblkkpclfmaaaGreat.at2;rw[<-hx,h.eq]
theorem BytesAt.at4{B xs:List UInt8}{a:Nat}(h:BytesAt B a xs)(hx:xs.length=4):at4 B a=le xs:=by
 unfold Proofs.YtcfblkkpclfmaaaGreat.at4;rw[<-hx,h.eq]
structure VtOk(B:List UInt8)(v:Nat):Prop where
 ok:∃(es:List Nat) (W:Nat),BytesAt B v (leB 2 (2*es.length+4)++(leB 2 W++es.flatMap (leB 2)))/\es.length<=60/\4<=W/\W<=v/\W<65536/\(∀e∈es,e<W)/\v%2=0
theorem VtOk.app{B:List UInt8}{v:Nat}(h:VtOk B v)(xs:List UInt8):VtOk (xs++B) v:=by
 obtain⟨es,W,h1,h2⟩:=h.ok;exact⟨es,W,h1.app xs,h2⟩
structure PI(st:BSt):Prop where
 vt:∀v∈st.vts,VtOk st.m.bytes v
 shm:IsMap (st.shared.getD (.map []))
 sh:∀t,has (st.shared.getD (.map [])) (.string t)=true->LText true st.m.bytes t (numOf ((st.shared.getD (.map [])).atKey (.string t) (.lit (.int .u32 0))))/\0<numOf ((st.shared.getD (.map [])).atKey (.string t) (.lit (.int .u32 0)))
theorem PI.start(n:Nat):PI (st0 n):=⟨λv hv=>by simp[st0] at hv,isMap_empty,λt h=>by simp[st0,has] at h⟩
structure Put(st st':BSt):Prop where
 bytes:∃xs,st'.m.bytes=xs++st.m.bytes
 fin:st'.fin=st.fin
theorem Put.refl(st:BSt):Put st st:=⟨⟨[],rfl⟩,rfl⟩
theorem Put.trans{a b c:BSt}(h:Put a b)(g:Put b c):Put a c:=by
 obtain⟨xs,h1⟩:=h.bytes;obtain⟨ys,g1⟩:=g.bytes;exact⟨⟨ys++xs,by rw[g1,h1,List.append_assoc]⟩,g.fin.trans h.fin⟩
theorem Put.len{a b:BSt}(h:Put a b):a.m.bytes.length<=b.m.bytes.length:=by
 obtain⟨xs,h1⟩:=h.bytes;rw[h1,List.length_append];omega
theorem PI.put{st st':BSt}(h:PI st)(p:Put st st')(hv:st'.vts=st.vts)(hs:st'.shared=st.shared):PI st':=by
 obtain⟨xs,hx⟩:=p.bytes;refine⟨λv hm=>?_,by rw[hs];exact h.shm,λt ht=>?_⟩
 ·rw[hv] at hm;rw[hx];exact (h.vt v hm).app xs
 ·rw[hs] at ht ⊢;obtain⟨h1,h2⟩:=h.sh t ht;rw[hx];exact⟨h1.app xs,h2⟩
/-! A string. -/
theorem created_laid(st:BSt)(t:List UInt8)(z:Bool)(hn:st.nested=false):∃o st',st.created t z=some (o,st')/\st'.nested=false/\st'.vts=st.vts/\st'.shared=st.shared/\Put st st'/\4<=o/\o=st'.m.bytes.length /\
  (if z then LText true st'.m.bytes t o else LBytes true st'.m.bytes t o):=by
 refine⟨(st.m.text t z).bytes.length,{ st with m:=st.m.text t z,nested:=false },created_eq st t z hn,rfl,rfl,rfl,⟨?_,rfl⟩,?_,rfl,?_⟩
 ·cases z with
  | true =>
   obtain⟨k,_,hb,_⟩:=text_true st.m t;exact⟨leB 4 t.length++(t++(0::List.replicate k 0)),by show (st.m.text t true).bytes=_;rw[hb];simp⟩
  | false =>
   obtain⟨k,_,hb,_⟩:=text_false st.m t;exact⟨leB 4 t.length++(t++List.replicate k 0),by show (st.m.text t false).bytes=_;rw[hb];simp⟩
 ·cases z with
  | true=>obtain⟨k,_,hb,_⟩:=text_true st.m t;rw[hb];simp[leB_length]
  | false=>obtain⟨k,_,hb,_⟩:=text_false st.m t;rw[hb];simp[leB_length]
 ·cases z with
  | true =>
   obtain⟨k,_,hb,h4⟩:=text_true st.m t;refine⟨BytesAt.front (rest:=List.replicate k 0++st.m.bytes) ?_,λ_=>h4⟩;show (st.m.text t true).bytes=_;rw[hb];simp
  | false =>
   obtain⟨k,_,hb,h4⟩:=text_false st.m t;refine⟨BytesAt.front (rest:=List.replicate k 0++st.m.bytes) ?_,λ_=>h4⟩;show (st.m.text t false).bytes=_;rw[hb];simp
theorem text_laid(sh:Bool)(st:BSt)(t:List UInt8)(hn:st.nested=false)(hp:PI st):∃o st',bText sh t st=some (o,st')/\st'.nested=false/\PI st'/\Put st st'/\0<o/\LText true st'.m.bytes t o:=by
 cases sh with
 | false =>
  obtain⟨o,st',h1,h2,h3,h4,h5,h6,h7,h8⟩:=created_laid st t true hn;exact⟨o,st',h1,h2,hp.put h5 h3 h4,h5,by omega,h8⟩
 | true =>
  show ∃o st',st.sharedStr t=_/\_;unfold BSt.sharedStr;obtain⟨D,hD⟩:=exA (st.shared.getD (.map []));have hm:=hp.shm;have hs:=hp.sh;rw[<-hD] at hm hs ⊢;cases hh:has D (.string t) with
  | true =>
   rw[if_pos rfl];obtain⟨h1,h2⟩:=hs t hh;exact⟨_,_,rfl,hn,⟨hp.vt,by show IsMap D;exact hm,by show ∀t,has D (.string t)=true->_;exact hs⟩,⟨⟨[],rfl⟩,rfl⟩,h2,h1⟩
  | false =>
   rw[if_neg (by simp)];obtain⟨o,st',h1,h2,h3,h4,h5,h6,h7,h8⟩:=created_laid { st with shared:=some D } t true hn;rw[h1];obtain⟨xs,hx⟩:=h5.bytes;have hx':st'.m.bytes=xs++st.m.bytes:=hx;refine⟨o,_,rfl,h2,⟨λv hv=>?_,hm.put _ _,λu hu=>?_⟩,⟨⟨xs,hx'⟩,h5.fin⟩,by omega,h8⟩
   ·have hv':v∈st.vts:=by
     have:({ st' with shared:=some (D.put (.string t) (.lit (.int .u32 o))) }:BSt).vts=st.vts:=h3
     rw[this] at hv;exact hv
    show VtOk st'.m.bytes v;rw[hx'];exact (hp.vt v hv').app xs
   ·have hu':has (D.put (.string t) (.lit (.int .u32 o))) (.string u)=true:=hu;show LText true st'.m.bytes u (numOf ((D.put (.string t) (.lit (.int .u32 o))).atKey (.string u) (.lit (.int .u32 0))))/\0<numOf ((D.put (.string t) (.lit (.int .u32 o))).atKey (.string u) (.lit (.int .u32 0)));by_cases e:u=t
    ·subst e;rw[atKey_put_same hm (by trivial)];show LText true st'.m.bytes u ((o:Int).toNat)/\0<(o:Int).toNat
     rw[Int.toNat_natCast];exact⟨h8,by omega⟩
    ·have hne:(Lit.string u)≠.string t:=λh=>e (by injection h);rw[has_put_other hne] at hu';rw[atKey_put_other hne];obtain⟨g1,g2⟩:=hs u hu';rw[hx'];exact⟨g1.app xs,g2⟩
/-! A vector of numbers. -/
theorem bNums_cons(k n:Nat)(r:List Nat)(m:BM):bNums k (n::r) m=((bNums k r m).prep (numSize k) 0).put (numB k n):=rfl
theorem bNums_bytes(k:Nat)(hk:k<=10)(m:BM)(hz:m.bytes.length%numSize k=0):∀ns:List Nat,(bNums k ns m).bytes=ns.flatMap (numB k)++m.bytes/\(bNums k ns m).bytes.length%numSize k=0
 | []=>⟨rfl,hz⟩
 | n::r=>by
  obtain⟨h1,h2⟩:=bNums_bytes k hk m hz r;have ha:=numSize_algn (k:=(k:Int)) (by omega) (by omega);have e:(bNums k (n::r) m).bytes=numB k n++(bNums k r m).bytes:=by
   rw[bNums_cons];show numB k n++((bNums k r m).prep (numSize k) 0).bytes=_;rw[prep_id _ _ _ ha (by simpa using h2)]
  refine⟨by rw[e,h1,List.flatMap_cons,List.append_assoc],?_⟩;rw[e,List.length_append,numB_length];rw[Nat.add_mod_left];exact h2
theorem padB_zero(u s:Nat)(h:u%s=0):padB u s=0:=by
 unfold padB;rw[h,Nat.sub_zero,Nat.mod_self]
theorem prep_room_le(m:BM)(size add:Nat)(hs:algn size)(h:m.bytes.length%size=0)(ha:add=0):m.room<=(m.prep size add).room:=by
 subst ha;have hp:m.pad size 0=0:=padB_zero _ _ h;show m.room<=prepRoom m.room m.bytes.length (m.pad size 0+size+0)-m.pad size 0;rw[hp,Nat.sub_zero];have key:∀(need f room:Nat),room<=roomL f room m.bytes.length need:=by
  intro need f;induction f with
  | zero=>intro room;exact Nat.le_refl _
  | succ f ih =>
   intro room;show room<=(if room<=need then roomL f (newL (room+m.bytes.length)-m.bytes.length) m.bytes.length need else room);split
   ·have:=newL_gt (room+m.bytes.length)
    have:=ih (newL (room+m.bytes.length)-m.bytes.length)
    omega
   ·exact Nat.le_refl _
 exact key _ _ _
theorem bNums_room(k:Nat)(hk:k<=10)(m:BM)(hz:m.bytes.length%numSize k=0):∀ns:List Nat,m.room<=(bNums k ns m).room+ns.length*numSize k
 | []=>by simp[bNums]
 | n::r=>by
  have ih:=bNums_room k hk m hz r;have h2:=(bNums_bytes k hk m hz r).2;have ha:=numSize_algn (k:=(k:Int)) (by omega) (by omega);have h3:=prep_room_le (bNums k r m) (numSize k) 0 ha h2 rfl;rw[bNums_cons];show m.room<=((bNums k r m).prep (numSize k) 0).room-(numB k n).length+(r.length+1)*numSize k;rw[numB_length,Nat.add_mul,Nat.one_mul];omega
theorem startVec_eq(st:BSt)(z n:Nat)(hn:st.nested=false):st.startVec z n z=some (((st.m.prep 4 (z*n)).prep z (z*n)).bytes.length,{ st with m:=(st.m.prep 4 (z*n)).prep z (z*n),nested:=true }):=by
 unfold BSt.startVec;rw[hn];rfl
theorem startVec_m(m:BM)(z n:Nat)(hz:algn z):4+z*n<((m.prep 4 (z*n)).prep z (z*n)).room/\(((m.prep 4 (z*n)).prep z (z*n)).bytes.length+z*n)%z=0/\(((m.prep 4 (z*n)).prep z (z*n)).bytes.length+z*n)%4=0/\∃k,k<=22/\((m.prep 4 (z*n)).prep z (z*n)).bytes=List.replicate k 0++m.bytes:=by
 have h4:algn 4:=by unfold algn;omega
 have r1:=m.prep_room 4 (z*n);have m1:=prep_mod m 4 (z*n) h4;have m2:=prep_mod (m.prep 4 (z*n)) z (z*n) hz;have r2:=(m.prep 4 (z*n)).prep_room z (z*n);have p1:=m.pad_lt 4 (z*n) h4;have p2:=(m.prep 4 (z*n)).pad_lt z (z*n) hz;have l2:=(m.prep 4 (z*n)).prep_len z (z*n) hz;have hzc:z=1\/z=2\/z=4\/z=8\/z=16:=hz;refine⟨?_,m2,?_,?_⟩
 ·by_cases hs:z<4
  ·have h0:(m.prep 4 (z*n)).pad z (z*n)=0:=by
    refine padB_zero _ _ ?_;rcases hzc with rfl|rfl|rfl|rfl|rfl<;>omega
   show 4+z*n<prepRoom (m.prep 4 (z*n)).room (m.prep 4 (z*n)).bytes.length ((m.prep 4 (z*n)).pad z (z*n)+z+z*n)-(m.prep 4 (z*n)).pad z (z*n);rw[h0,Nat.sub_zero];have key:∀(need f room:Nat),room<=roomL f room (m.prep 4 (z*n)).bytes.length need:=by
    intro need f;induction f with
    | zero=>intro room;exact Nat.le_refl _
    | succ f ih =>
     intro room;show room<=(if room<=need then roomL f (newL (room+(m.prep 4 (z*n)).bytes.length)-(m.prep 4 (z*n)).bytes.length) (m.prep 4 (z*n)).bytes.length need else room);split
     ·have:=newL_gt (room+(m.prep 4 (z*n)).bytes.length)
      have:=ih (newL (room+(m.prep 4 (z*n)).bytes.length)-(m.prep 4 (z*n)).bytes.length)
      omega
     ·exact Nat.le_refl _
   exact Nat.lt_of_lt_of_le r1 (key _ _ _)
  ·omega
 ·rcases hzc with h|h|h|h|h<;>rw[h] at m2 l2 p2 m1 ⊢<;>omega
 ·refine⟨(m.prep 4 (z*n)).pad z (z*n)+m.pad 4 (z*n),by rcases hzc with h|h|h|h|h<;>omega,?_⟩;show List.replicate _ 0++(List.replicate _ 0++m.bytes)=_;rw[<-List.append_assoc,List.replicate_append_replicate]
theorem endVec_eq(st:BSt)(n:Nat)(hn:st.nested=true)(hr:4<=st.m.room):st.endVec n=some (4+st.m.bytes.length,{ st with m:=st.m.put (leB 4 n),nested:=false }):=by
 unfold BSt.endVec;rw[if_pos hn,if_neg (by omega)]
theorem numB_ok{k n:Nat}(h:OkNum k n):numB k n=leB (numSize k) n:=by
 unfold numB;split
 ·rename_i hk
  have:=h.2.2.1 (by omega)
  rw[show n=1 by omega]
 ·rfl
theorem scalars_laid(st:BSt)(k:Nat)(ns:List Nat)(hk:k<=10)(hns:∀n∈ns,OkNum k n)(hn:st.nested=false):∃o st',bScalars k ns st=some (o,st')/\st'.nested=false/\st'.vts=st.vts/\st'.shared=st.shared/\Put st st'/\0<o/\LNums true st'.m.bytes k ns o:=by
 have ha:=numSize_algn (k:=(k:Int)) (by omega) (by omega);obtain⟨hr,h1,h2,j,hj,hb⟩:=startVec_m st.m (numSize k) ns.length ha;obtain⟨m,hm⟩:=exA ((st.m.prep 4 (numSize k*ns.length)).prep (numSize k) (numSize k*ns.length));rw[<-hm] at hr h1 h2 hb;have hmz:m.bytes.length%numSize k=0:=by rw[Nat.add_mul_mod_self_left] at h1;exact h1
 obtain⟨hnb,hnz⟩:=bNums_bytes k hk m hmz ns;have hroom:=bNums_room k hk m hmz ns;have hfl:ns.flatMap (numB k)=ns.flatMap (leB (numSize k)):=by
  have:∀l:List Nat,(∀n∈l,OkNum k n)->l.flatMap (numB k)=l.flatMap (leB (numSize k)):=by
   intro l;induction l with
   | nil=>intro _;rfl
   | cons a r ih=>intro h;rw[List.flatMap_cons,List.flatMap_cons,numB_ok (h a (by simp)),ih (λn hn=>h n (by simp[hn]))]
  exact this ns hns
 have hlen:(ns.flatMap (leB (numSize k))).length=numSize k*ns.length:=by
  have:∀l:List Nat,(l.flatMap (leB (numSize k))).length=numSize k*l.length:=by
   intro l;induction l with
   | nil=>rfl
   | cons a r ih=>rw[List.flatMap_cons,List.length_append,leB_length,ih,List.length_cons,Nat.mul_add,Nat.mul_one];omega
  exact this ns
 rw[hfl] at hnb;rw[Nat.mul_comm] at hroom;refine⟨4+(bNums k ns m).bytes.length,{ st with m:=(bNums k ns m).put (leB 4 ns.length),nested:=false },?_,rfl,rfl,rfl,⟨⟨leB 4 ns.length++(ns.flatMap (leB (numSize k))++List.replicate j 0),?_⟩,rfl⟩,by omega,?_⟩
 ·unfold bScalars;rw[startVec_eq st _ _ hn,Option.bind_some,<-hm];exact endVec_eq { st with m:=bNums k ns m,nested:=true } ns.length rfl (by show 4<=(bNums k ns m).room;omega)
 ·show leB 4 ns.length++(bNums k ns m).bytes=_;rw[hnb,hb];simp
 ·have e:leB 4 ns.length++(bNums k ns m).bytes=(leB 4 ns.length++ns.flatMap (leB (numSize k)))++m.bytes:=by rw[hnb];simp
  have hl:4+(bNums k ns m).bytes.length=(leB 4 ns.length++(bNums k ns m).bytes).length:=by rw[List.length_append,leB_length]
  refine⟨?_,λ_=>⟨?_,?_⟩⟩
  ·show BytesAt (leB 4 ns.length++(bNums k ns m).bytes) _ _;rw[hl];exact BytesAt.front e
  ·rw[hnb,List.length_append,hlen,Nat.add_comm (numSize k*ns.length)];omega
  ·rw[show 4+(bNums k ns m).bytes.length-4=(bNums k ns m).bytes.length by omega];exact hnz
end Go.Proofs.YtcfblkkpclfmaaaGreat
