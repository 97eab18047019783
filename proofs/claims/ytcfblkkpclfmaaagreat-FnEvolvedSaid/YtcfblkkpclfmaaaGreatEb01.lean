/- Part 1 of the proof of FnEvolved; no condition. -/
import Derived.WalkKit
import Derived.Deep.Draws
import Derived.Laws.IdiomCopy
import Derived.Laws.CopyRow
import Derived.Lib.Hide
import Derived.OrdersHeld
import Derived.Deep.RegionHeld
import Derived.KernelRfl
import Derived.Laws.Panics
import Derived.Laws.BytesArg
import Derived.WalkLawsBesides
import Derived.WalkSpells
import GoSem.Op.Equal
import Derived.OwnWalk
import Derived.Maps.AppendAt
import Derived.Test.YtcfblkkpclfmaaaGreatProg
import Derived.RegionTactic
import Derived.BigQuiet
set_option linter.unusedVariables false
set_option linter.unusedSimpArgs false
set_option maxRecDepth 100000
set_option maxHeartbeats 16000000
namespace Go.Proofs.YtcfblkkpclfmaaaGreat
open Go.RowKit
theorem zA{α:Type}(l:List α)(i:Nat)(a:α):l.toArray.setIfInBounds i a=(l.set i a).toArray:=List.setIfInBounds_toArray l i a
theorem zB{α:Type}(a:α)(l:List α)(b:α):(a::l).set 0 b=b::l:=rfl
theorem zC{α:Type}(a:α)(l:List α)(i:Nat)(b:α):(a::l).set (i+1) b=a::l.set i b:=rfl
theorem Hd{p:Prop}(h:p):RowKit.Hid p:=h
theorem zD{α:Type}(a:α)(l:List α)(i:Nat):(a::l).take (i+1)=a::l.take i:=rfl
theorem zE{α:Type}(l:List α):l.take 0=[]:=rfl
theorem zF{α:Type}(a:α)(l:List α)(i:Nat):(a::l).drop (i+1)=l.drop i:=rfl
theorem zG{α:Type}(l:List α):l.drop 0=l:=rfl
theorem kr{α:Type}{a b:α}(h:a=b:=by kernel_rfl):a=b:=h
theorem exA{α:Type}(a:α):∃x,x=a:=⟨a,rfl⟩
theorem tk{P:Program}{ops:Array Oper}{Q:Exit->Act->World->Prop}{md:Region.Mode}{S:World->Prop}(i:Nat)(v:Value){oi:Oper}{fuel:Nat}{listed:Array Bool}{a:Act}{w:World}(hi:ops[i]?=some oi)(hy:∀w,S w->(execOp a.eval oi).run P w=.ok (.value v) w)(h:wpAnyH P md ops Q S fuel (listed.setIfInBounds i true) (a.put oi.dst v) w)(hs:Region.noSelect ops=true:=by kernel_rfl)(hf:Region.free md ops listed i=true:=by kernel_rfl)(hr:(Region.ready md ops listed).contains i=true:=by kernel_rfl)(hw:Region.wanted oi (yielded ops a.tmps)=true:=by kernel_rfl)(hQ:∀c a w,Q (.panic c) (a.put oi.dst v) w->Q (.panic c) a w:=by exact λ_ _ _ h=>h)(hS:S w:=by assumption):wpAnyH P md ops Q S (fuel+1) listed a w:=wpAnyH_take hi hs hf hr hQ (Or.inl ⟨hw,hy⟩) hS h
theorem rd{P:Program}{ops:Array Oper}{Q:Exit->Act->World->Prop}{md:Region.Mode}{S:World->Prop}(i:Nat){o:Oper}{fuel:Nat}{listed:Array Bool}{a:Act}{w:World}(ho:ops[i]?=some o)(h:∀K':Act->World->Prop,Shut (∀a w,S w->(S w->wpAnyH P md ops Q S fuel (listed.setIfInBounds i true) a w)->K' a w)->if Region.wanted o (yielded ops a.tmps)=true then Oper.wp P o a w K' Q else K' (a.put o.dst undef) w)(hr:Region.ready md ops listed=[i]:=by kernel_rfl):wpAnyH P md ops Q S (fuel+1) listed a w:=wpAnyH_ready (rs:=[i]) hr (by simp) (AllReadyH.cons ho h AllReadyH.nil)
theorem rd2{P:Program}{ops:Array Oper}{Q:Exit->Act->World->Prop}{md:Region.Mode}{S:World->Prop}(i j:Nat){o p:Oper}{fuel:Nat}{listed:Array Bool}{a:Act}{w:World}(ho:ops[i]?=some o)(hp:ops[j]?=some p)(h:(∀K':Act->World->Prop,Shut (∀a w,S w->(S w->wpAnyH P md ops Q S fuel (listed.setIfInBounds i true) a w)->K' a w)->if Region.wanted o (yielded ops a.tmps)=true then Oper.wp P o a w K' Q else K' (a.put o.dst undef) w))(g:(∀K':Act->World->Prop,Shut (∀a w,S w->(S w->wpAnyH P md ops Q S fuel (listed.setIfInBounds j true) a w)->K' a w)->if Region.wanted p (yielded ops a.tmps)=true then Oper.wp P p a w K' Q else K' (a.put p.dst undef) w))(hr:Region.ready md ops listed=[i,j]:=by kernel_rfl):wpAnyH P md ops Q S (fuel+1) listed a w:=wpAnyH_ready (rs:=[i,j]) hr (by simp) (AllReadyH.cons ho h (AllReadyH.cons hp g AllReadyH.nil))
theorem rd3{P:Program}{ops:Array Oper}{Q:Exit->Act->World->Prop}{md:Region.Mode}{S:World->Prop}(i j k:Nat){o p q:Oper}{fuel:Nat}{listed:Array Bool}{a:Act}{w:World}(ho:ops[i]?=some o)(hp:ops[j]?=some p)(hq:ops[k]?=some q)(h:(∀K':Act->World->Prop,Shut (∀a w,S w->(S w->wpAnyH P md ops Q S fuel (listed.setIfInBounds i true) a w)->K' a w)->if Region.wanted o (yielded ops a.tmps)=true then Oper.wp P o a w K' Q else K' (a.put o.dst undef) w))(g:(∀K':Act->World->Prop,Shut (∀a w,S w->(S w->wpAnyH P md ops Q S fuel (listed.setIfInBounds j true) a w)->K' a w)->if Region.wanted p (yielded ops a.tmps)=true then Oper.wp P p a w K' Q else K' (a.put p.dst undef) w))(f:(∀K':Act->World->Prop,Shut (∀a w,S w->(S w->wpAnyH P md ops Q S fuel (listed.setIfInBounds k true) a w)->K' a w)->if Region.wanted q (yielded ops a.tmps)=true then Oper.wp P q a w K' Q else K' (a.put q.dst undef) w))(hr:Region.ready md ops listed=[i,j,k]:=by kernel_rfl):wpAnyH P md ops Q S (fuel+1) listed a w:=wpAnyH_ready (rs:=[i,j,k]) hr (by simp) (AllReadyH.cons ho h (AllReadyH.cons hp g (AllReadyH.cons hq f AllReadyH.nil)))
theorem db{p:Prop}[Decidable p](h:p):Value.bool true=Value.bool (decide p):=congrArg Value.bool (decide_eq_true h).symm
theorem df{p:Prop}[Decidable p](h:¬p):Value.bool false=Value.bool (decide p):=congrArg Value.bool (decide_eq_false h).symm
structure Fr(S:Nat->Prop)(w w':World):Prop where
 os:w'.os=w.os
 tape:w'.tape=w.tape
 output:w'.output=w.output
 size:w.heap.size<=w'.heap.size
 block:∀k,k<w.heap.size->¬S k->w'.heap[k]?=w.heap[k]?
theorem Fr.refl(S:Nat->Prop)(w:World):Fr S w w:=⟨rfl,rfl,rfl,Nat.le_refl _,λ_ _ _=>rfl⟩
theorem Fr.trans{S:Nat->Prop}{a b c:World}(h:Fr S a b)(k:Fr S b c):Fr S a c :=
 ⟨k.os.trans h.os,k.tape.trans h.tape,k.output.trans h.output,Nat.le_trans h.size k.size,
  λi hi hs=>(k.block i (Nat.lt_of_lt_of_le hi h.size) hs).trans (h.block i hi hs)⟩
theorem Fr.trans2{S S':Nat->Prop}{a b c:World}(h:Fr S a b)(k:Fr S' b c)(hs:∀i,i<a.heap.size->S' i->S i):Fr S a c :=
 ⟨k.os.trans h.os,k.tape.trans h.tape,k.output.trans h.output,Nat.le_trans h.size k.size,
  λi hi hn=>(k.block i (Nat.lt_of_lt_of_le hi h.size) (λx=>hn (hs i hi x))).trans (h.block i hi hn)⟩
theorem Fr.mono{S S':Nat->Prop}{a b:World}(h:Fr S a b)(hs:∀i,i<a.heap.size->S i->S' i):Fr S' a b :=
 ⟨h.os,h.tape,h.output,h.size,λi hi hn=>h.block i hi (λx=>hn (hs i hi x))⟩
theorem Fr.drew{S:Nat->Prop}{a b:World}(h:Fr S a b):Fr S a b.drew:=⟨h.os,h.tape,h.output,h.size,h.block⟩
theorem Fr.drewN{S:Nat->Prop}{a b:World}(h:Fr S a b)(n:Nat):Fr S a (b.drewN n):=⟨h.os,h.tape,h.output,h.size,h.block⟩
theorem Fr.fromDrew{S:Nat->Prop}{a b:World}(h:Fr S a.drew b):Fr S a b:=⟨h.os,h.tape,h.output,h.size,h.block⟩
theorem Fr.fromDrewN{S:Nat->Prop}{a b:World}{n:Nat}(h:Fr S (a.drewN n) b):Fr S a b:=⟨h.os,h.tape,h.output,h.size,h.block⟩
theorem Fr.alloc{S:Nat->Prop}{a b:World}(h:Fr S a b)(o:Obj):Fr S a (b.alloc o) :=
 h.trans ⟨rfl,rfl,rfl,by simp,λk hk _=>Below.heap_alloc _ _ _ hk⟩
theorem Fr.setCell{S:Nat->Prop}{a b:World}(h:Fr S a b){p:Addr}(hp:p.block<a.heap.size->S p.block)(u:Value):Fr S a (b.setCell p u):=by
 refine⟨h.os,h.tape,h.output,by simpa [World.setCell] using h.size,λk hk hn=>?_⟩;rw[Below.heap_setCell _ _ _ _ (by intro e;subst e;exact hn (hp hk))];exact h.block k hk hn
theorem Fr.set1(w:World)(b o:Nat)(v:Value):Fr (λx=>x=b) w (w.setCell ⟨b,o,none⟩ v):=Fr.setCell (S:=λx=>x=b) (Fr.refl _ _) (λ_=>rfl) v
theorem Fr.below{S:Nat->Prop}{B:Nat}{a b:World}(h:Fr S a b)(hB:B<=a.heap.size)(hs:∀k,k<B->¬S k):Below B a b :=
 ⟨h.os,h.tape,h.output,h.size,λk hk=>h.block k (Nat.lt_of_lt_of_le hk hB) (hs k hk)⟩
abbrev Fr0(w w':World):Prop:=Fr (λ_=>False) w w'
theorem Fr0.below{a b:World}(h:Fr0 a b):Below a.heap.size a b:=Fr.below h (Nat.le_refl _) (λ_ _ x=>x)
theorem Fr.cell{S:Nat->Prop}{a b:World}(h:Fr S a b){p:Addr}(hp:p.block<a.heap.size)(hs:¬S p.block):b.cell? p=a.cell? p :=
 World.cell?_of_block (w:=a) (h.block p.block hp hs)
theorem Fr.frozen{S:Nat->Prop}{a b:World}(h:Fr S a b){p:Addr}(hp:p.block<a.heap.size)(hs:¬S p.block):b.frozen? p=a.frozen? p :=
 World.frozen?_of_block (w:=a) (h.block p.block hp hs)
theorem cell_of{w:World}{b:Nat}{c:Array Value}{t:TypeId}{fr:Nat × Nat}(h:w.heap[b]?=some (.cells c t fr))(i:Nat):w.cell? ⟨b,i,none⟩=c[i]?:=by
 simp[World.cell?,h]
theorem frozen_of{w:World}{b:Nat}{c:Array Value}{t:TypeId}(h:w.heap[b]?=some (.cells c t (0,0)))(i:Nat):w.frozen? ⟨b,i,none⟩=false:=by
 simp[World.frozen?,h]
theorem lt_of_block{w:World}{b:Nat}{o:Obj}(h:w.heap[b]?=some o):b<w.heap.size:=(Array.getElem?_eq_some_iff.1 h).1
theorem heap_alloc_new(w:World)(o:Obj):(w.alloc o).heap[w.heap.size]?=some o:=by
 show (w.heap.push o)[w.heap.size]?=_;simp
theorem heap_setCell_same{w:World}{b:Nat}{c:Array Value}{t:TypeId}{fr:Nat × Nat}(h:w.heap[b]?=some (.cells c t fr))(i:Nat)(v:Value):
  (w.setCell ⟨b,i,none⟩ v).heap[b]?=some (.cells (c.setIfInBounds i v) t fr):=by
 simp[World.setCell,Array.getElem?_modify,h]
theorem heap_setCell_other(w:World)(a:Addr)(u:Value)(k:Nat)(h:k≠a.block):(w.setCell a u).heap[k]?=w.heap[k]?:=Below.heap_setCell w a u k h
theorem heap_alloc_old(w:World)(o:Obj)(k:Nat)(h:k<w.heap.size):(w.alloc o).heap[k]?=w.heap[k]?:=Below.heap_alloc w o k h
theorem heap_alloc_get(w:World)(o:Obj)(k:Nat):(w.alloc o).heap[k]?=if k=w.heap.size then some o else w.heap[k]?:=by
 show (w.heap.push o)[k]?=_;rw[Array.getElem?_push]
theorem size_alloc(w:World)(o:Obj):(w.alloc o).heap.size=w.heap.size+1:=by simp
theorem setCell_setCell(w:World)(a:Addr)(u v:Value):(w.setCell a u).setCell a v=w.setCell a v:=by
 unfold World.setCell;congr 1
 apply Array.ext
 ·simp
 ·intro i h1 h2;simp only[Array.getElem_modify];split
  ·cases hx:w.heap[i]'(by simpa using h1)<;>simp
   split<;>simp
  ·rfl
def splice(c:Array Value)(o:Nat)(vs:List Value):Array Value:=(c.toList.take o++vs++c.toList.drop (o+vs.length)).toArray
theorem splice_nil(c:Array Value)(o:Nat):splice c o []=c:=by simp[splice]
theorem splice_size(c:Array Value)(o:Nat)(vs:List Value)(h:o+vs.length<=c.size):(splice c o vs).size=c.size:=by
 simp[splice];omega
theorem splice_cons(c:Array Value)(o:Nat)(v:Value)(vs:List Value)(h:o+(vs.length+1)<=c.size):splice (c.setIfInBounds o v) (o+1) vs=splice c o (v::vs):=by
 have e:=list_seg_step c.toList o v vs (by simpa using h);simp only[splice,Array.toList_setIfInBounds,List.length_cons];exact congrArg List.toArray e
theorem heap_setCells_same{b:Nat}{t:TypeId}{fr:Nat × Nat}:∀(vs:List Value) (o:Nat) (c:Array Value) (w:World),w.heap[b]?=some (.cells c t fr)->o+vs.length<=c.size ->
  (w.setCells b o vs).heap[b]?=some (.cells (splice c o vs) t fr)
 | [],o,c,w,h,_=>by rw[splice_nil];exact h
 | v::r,o,c,w,h,hs=>by
  have ih:=heap_setCells_same r (o+1) (c.setIfInBounds o v) (w.setCell ⟨b,o,none⟩ v) (heap_setCell_same h o v) (by simp at hs ⊢;omega);rw[splice_cons _ _ _ _ (by simpa using hs)] at ih;exact ih
theorem heap_setCells_other{b:Nat}(k:Nat)(hk:k≠b):∀(vs:List Value) (o:Nat) (w:World),(w.setCells b o vs).heap[k]?=w.heap[k]?
 | [],_,_=>rfl
 | v::r,o,w=>by
  show ((w.setCell ⟨b,o,none⟩ v).setCells b (o+1) r).heap[k]?=_;rw[heap_setCells_other k hk r,heap_setCell_other _ _ _ _ hk]
theorem setCells_size{b:Nat}:∀(vs:List Value) (o:Nat) (w:World),(w.setCells b o vs).heap.size=w.heap.size
 | [],_,_=>rfl
 | v::r,o,w=>by
  show ((w.setCell ⟨b,o,none⟩ v).setCells b (o+1) r).heap.size=_;rw[setCells_size r];simp[World.setCell]
theorem setCells_rest{b:Nat}:∀(vs:List Value) (o:Nat) (w:World),(w.setCells b o vs).os=w.os/\(w.setCells b o vs).tape=w.tape/\(w.setCells b o vs).output=w.output
 | [],_,_=>⟨rfl,rfl,rfl⟩
 | v::r,o,w=>setCells_rest r (o+1) (w.setCell ⟨b,o,none⟩ v)
theorem Fr.setCells{S:Nat->Prop}{a w:World}(h:Fr S a w){b:Nat}(hb:b<a.heap.size->S b)(o:Nat)(vs:List Value):Fr S a (w.setCells b o vs):=by
 obtain⟨e1,e2,e3⟩:=setCells_rest (b:=b) vs o w;refine⟨e1.trans h.os,e2.trans h.tape,e3.trans h.output,by rw[setCells_size];exact h.size,λk hk hn=>?_⟩;rw[heap_setCells_other k (by intro e;subst e;exact hn (hb hk))];exact h.block k hk hn
def cellsOf(l:List UInt8):List Value:=l.map λb=>.int .u8 b.toNat
theorem cellsOf_length(l:List UInt8):(cellsOf l).length=l.length:=by simp[cellsOf]
theorem cellsOf_one(l:List UInt8):∀v∈cellsOf l,v.oneCell'=true:=by
 intro v hv;simp[cellsOf] at hv;obtain⟨b,_,rfl⟩:=hv;rfl
theorem run_copy_string{P:Program}(w:World)(dT sT ty elem:TypeId)(g o dLen dCap:Nat)(s:ByteArray)(cur:Array Value)(t:TypeId)
  (hu:P.underlying dT=some (.slice elem)) (hs:(P.info? elem).map (·.size)=some 1)
  (hg:w.heap[g]?=some (.cells cur t (0,0))) (hfit:o+min s.size dLen<=cur.size):
  (Builtin.copy_ #[dT,sT] ty #[.slice (some ⟨g,o,none⟩) dLen dCap,.string s]).run P w =
   .ok (goInt (min s.size dLen:Nat)) (w.setRow g (cur.toList.take o++cellsOf (s.data.toList.take (min s.size dLen))++cur.toList.drop (o+min s.size dLen)).toArray):=by
 have hlen:(cellsOf (s.data.toList.take (min s.size dLen))).length=min s.size dLen:=by
  simp[cellsOf]
 have hst:=run_storeCells_at P g o t (cellsOf (s.data.toList.take (min s.size dLen))) 0 cur w hg (by rw[hlen];omega) (cellsOf_one _);rw[hlen] at hst;cases hq:P.info? elem with
 | none=>simp[hq] at hs
 | some i =>
  have hi:i.size=1:=by simpa [hq] using hs
  simp only[Nat.add_zero] at hst;have hmin:Nat.min s.size dLen=min s.size dLen:=rfl;have hst2:=hst;simp only[cellsOf,List.map_take] at hst2;simp[Builtin.copy_,Builtin.lenOf,Builtin.firstCells,sizeOf,typeInfo,run_underlying hu,hq,hmin,hst2,cellsOf,List.map_take]
theorem run_bounds{P:Program}(w:World){α:Type}(k:IntKind)(x y:Int)(code:BoundsCode):
  ∃u v n,(boundsPanic k x y code:Sem α).run P w=.halt (.panic (.iface u v)) (w.drewN n):=by
 unfold boundsPanic;split
 ·refine⟨P.rt.boundsError,?_,1,?_⟩;rotate_left
  ·simp[runtimePanic,goPanic,go_sem,World.drewN];rfl
 ·refine⟨P.rt.boundsError,?_,0,?_⟩;rotate_left
  ·simp[runtimePanic,goPanic,go_sem,World.drewN];rfl
theorem elem_of{P:Program}{t e:TypeId}(h:P.underlying t=some (.slice e)):P.elem t=e:=by simp[Program.elem,h]
theorem run_index_out{P:Program}(w:World)(t:TypeId)(a0:Option Addr)(len cap:Nat)(k:IntKind)(i:Int){e:TypeId}(h0:P.underlying t=some (.slice e))(hnil:a0=none->len=0)(ho:i<0\/(len:Int)<=i):
  ∃u v n,(Instr.indexAt t (.slice a0 len cap) (.int k i)).run P w=.halt (.panic (.iface u v)) (w.drewN n):=by
 have h:P.underlying t=some (.slice (P.elem t)):=by rw[elem_of h0];exact h0
 cases a0 with
 | some a =>
  rw[run_indexAt_slice (h:=h),if_neg (by omega)];exact run_bounds w k i len .index
 | none =>
  obtain rfl:=hnil rfl;have e:(Instr.indexAt t (.slice none 0 cap) (.int k i)).run P w=(boundsPanic k i 0 .index).run P w:=by
   simp[Instr.indexAt,run_underlying h,asIntOf]
  rw[e];exact run_bounds w k i 0 .index
def Mem (w:World)(b off:Nat)(l:List UInt8):Prop:=∀i x,l[i]?=some x->w.cell? ⟨b,off+i,none⟩=some (.int .u8 x.toNat)
theorem Mem.drop{w:World}{b off:Nat}{l:List UInt8}(h:Mem w b off l)(k:Nat):Mem w b (off+k) (l.drop k):=λi x hx=>by
 rw[List.getElem?_drop] at hx;have:=h _ _ hx
 rwa [Nat.add_assoc]
theorem Mem.of_block{w:World}{b:Nat}{l:List UInt8}{t:TypeId}{fr:Nat × Nat}(h:w.heap[b]?=some (.cells (cellsOf l).toArray t fr)):Mem w b 0 l:=λi x hx=>by
 rw[cell_of h,Nat.zero_add];simp[cellsOf,hx]
def strOf(l:List UInt8):ByteArray:=⟨l.toArray⟩
theorem strOf_size(l:List UInt8):(strOf l).size=l.length:=by simp[strOf,ByteArray.size]
theorem run_bytes_string{P:Program}{w:World}{b off len cap:Nat}{l:List UInt8}(hm:Mem w b off l)(hlen:l.length=len){src e dst:TypeId}(hs:P.underlying src=some (.slice e))(he:P.underlying e=some (.int .u8))(hd:P.underlying dst=some .string):
  (convert src dst (.slice (some ⟨b,off,none⟩) len cap)).run P w=.ok (.string (strOf l)) w:=by
 have h:=run_convert_bytes_arg (P:=P) w src e hs he b off len cap (l.map λx=>(x.toNat:Int)) (by simpa using hlen) (λi hi=>by
  have hl:i<l.length:=by omega
  have:=hm i l[i] (by simp[hl])
  rw[this];simp[List.getD,hl]) dst hd
 have e:strOfNums (l.map λx=>(x.toNat:Int))=strOf l:=by
  unfold strOfNums strOf;congr 2
  rw[List.map_map];conv=>rhs;rw[<-List.map_id l]
  apply List.map_congr_left
  intro x _;apply UInt8.toNat_inj.1
  simp
 rw[e] at h;exact h
def le:List UInt8->Nat
 | []=>0
 | x::r=>x.toNat+256*le r
theorem le_lt(l:List UInt8):le l<2^(8*l.length):=by
 induction l with
 | nil=>simp[le]
 | cons x r ih =>
  have:=x.toNat_lt
  have e:2^(8*(x::r).length)=256*2^(8*r.length):=by
   rw[List.length_cons,Nat.mul_add,Nat.pow_add];omega
  rw[e,le];omega
def leB:Nat->Nat->List UInt8
 | 0,_=>[]
 | k+1,n=>UInt8.ofNat n::leB k (n / 256)
theorem leB_length(k n:Nat):(leB k n).length=k:=by
 induction k generalizing n with
 | zero=>rfl
 | succ k ih=>simp[leB,ih]
theorem le_leB(k n:Nat):le (leB k n)=n%2^(8*k):=by
 induction k generalizing n with
 | zero=>simp[leB,le,Nat.mod_one]
 | succ k ih =>
  have e:2^(8*(k+1))=256*2^(8*k):=by rw[Nat.mul_add,Nat.pow_add];omega
  rw[leB,le,ih,e,Nat.mod_mul];simp
theorem leB_le(l:List UInt8):leB l.length (le l)=l:=by
 induction l with
 | nil=>rfl
 | cons x r ih =>
  have h:(x.toNat+256*le r) / 256=le r:=by have:=x.toNat_lt;omega
  rw[List.length_cons,leB,le,h,ih];congr 1
  apply UInt8.toNat_inj.1
  simp
def numSize(k:Int):Nat :=
 if k=0\/k=1\/k=2\/k=32 then 1
 else if k=3\/k=4\/k=35 then 2
 else if k=5\/k=6\/k=9\/k=33\/k=34 then 4
 else if k=7\/k=8\/k=10 then 8
 else 0
theorem numSize_le(k:Int):numSize k<=8:=by
 unfold numSize;split<;>(try split)<;>(try split)<;>(try split)<;>omega
def numB (k:Int)(n:Nat):List UInt8:=leB (numSize k) (if k=0/\n≠0 then 1 else n)
theorem numB_length(k:Int)(n:Nat):(numB k n).length=numSize k:=leB_length _ _
def numVal(k:Int)(n:Nat):Nat:=if k=0 then (if n=1 then 1 else 0) else n
theorem wrap_u64_nat(z:Nat)(h:z<2^64):IntKind.u64.wrap (z:Int)=z:=by
 simp[IntKind.wrap,IntKind.bits,IntKind.signed];omega
def leI:Nat->Int->List UInt8
 | 0,_=>[]
 | k+1,x=>UInt8.ofNat (x%256).toNat::leI k (x / 256)
theorem leI_length(k:Nat)(x:Int):(leI k x).length=k:=by
 induction k generalizing x with
 | zero=>rfl
 | succ k ih=>simp[leI,ih]
theorem leI_nat(k n:Nat):leI k (n:Int)=leB k n:=by
 induction k generalizing n with
 | zero=>rfl
 | succ k ih =>
  have e:(n:Int) / 256=((n / 256:Nat):Int):=by omega
  rw[leI,leB,e,ih];congr 1
  apply UInt8.toNat_inj.1
  simp;omega
theorem leI_congr(k:Nat){x y:Int}(h:x%2^(8*k)=y%2^(8*k)):leI k x=leI k y:=by
 induction k generalizing x y with
 | zero=>rfl
 | succ k ih =>
  have e:(2:Int)^(8*(k+1))=256*2^(8*k):=by rw[Nat.mul_add,Int.pow_add];omega
  rw[e] at h;rw[leI,leI];have hx:x%256=y%256:=by
   have h1:=congrArg (λz:Int=>z%256) h;rw[Int.emod_emod_of_dvd _ (Int.dvd_mul_right _ _),Int.emod_emod_of_dvd _ (Int.dvd_mul_right _ _)] at h1;exact h1
  have hq:(x / 256)%2^(8*k)=(y / 256)%2^(8*k):=by
   have e1:=Int.mul_ediv_add_emod x 256;have e2:=Int.mul_ediv_add_emod y 256;have hd:(256*2^(8*k):Int) ∣ x-y:=Int.dvd_of_emod_eq_zero (by rw[Int.sub_emod,h];simp);have h3:x-y=256*(x / 256-y / 256):=(by rw[Int.mul_sub];omega);rw[h3] at hd;have h4:(2^(8*k):Int) ∣ (x / 256-y / 256):=Int.dvd_of_mul_dvd_mul_left (by decide) hd;have h5:=Int.emod_eq_zero_of_dvd h4;exact Int.emod_eq_emod_iff_emod_sub_eq_zero.2 h5
  rw[hx,ih hq]
theorem byteI(x:Int):((UInt8.ofNat (x%256).toNat).toNat:Int)=x%256:=by
 have:(x%256).toNat<256:=by omega
 rw[UInt8.toNat_ofNat'];omega
/-! How Go's 'or' and conversions put bytes together, at any kind of integers. -/
theorem wrap_emod(k:IntKind)(n:Int):(k.wrap n)%2^k.bits=n%2^k.bits:=by
 unfold IntKind.wrap;simp only;split
 ·rw[Int.sub_emod_right,Int.emod_emod]
 ·rw[Int.emod_emod]
theorem wrap_congr(k:IntKind){m n:Int}(h:m%2^k.bits=n%2^k.bits):k.wrap m=k.wrap n:=by
 unfold IntKind.wrap;rw[h]
theorem ofInt_congr(k:IntKind){m n:Int}(h:m%2^k.bits=n%2^k.bits):BitVec.ofInt k.bits m=BitVec.ofInt k.bits n:=by
 apply BitVec.eq_of_toNat_eq
 simp only[BitVec.toNat_ofInt];have e:((2^k.bits:Nat):Int)=2^k.bits:=by simp
 rw[e,h]
theorem bits_or_nat(k:IntKind)(a b:Nat):bits .or k a b=k.wrap ((a ||| b:Nat):Int):=by
 simp only[bits,BitVec.ofInt_natCast,BitVec.toNat_or,BitVec.toNat_ofNat];apply wrap_congr
 rw[<-Nat.or_mod_two_pow];simp
theorem bits_or_wrap(k:IntKind)(x y:Int):bits .or k x (k.wrap y)=bits .or k x y:=by
 simp only[bits];rw[ofInt_congr k (wrap_emod k y)]
theorem bits_wrap_or(k:IntKind)(x y:Int):bits .or k (k.wrap x) y=bits .or k x y:=by
 simp only[bits];rw[ofInt_congr k (wrap_emod k x)]
theorem or_above(k:IntKind)(a b c j:Nat)(hc:c=2^j)(h:a<c):bits .or k (k.wrap a) ((b:Int)*(c:Int))=k.wrap ((a+b*c:Nat):Int):=by
 subst hc;rw[bits_wrap_or,<-Int.natCast_mul,bits_or_nat];congr 2
 rw[Nat.mul_comm,Nat.or_comm,<-Nat.two_pow_add_eq_or_of_lt h,Nat.add_comm]
theorem or_zero(k:IntKind)(a:Nat):bits .or k 0 a=k.wrap (a:Int):=by
 have:=bits_or_nat k 0 a
 simpa using this
theorem le2(x0 x1:UInt8):le [x0,x1]=x0.toNat+x1.toNat*256:=by simp only[le];omega
theorem le4(x0 x1 x2 x3:UInt8):le [x0,x1,x2,x3]=x0.toNat+x1.toNat*256+x2.toNat*65536+x3.toNat*16777216:=by simp only[le];omega
theorem le8(x0 x1 x2 x3 x4 x5 x6 x7:UInt8):le [x0,x1,x2,x3,x4,x5,x6,x7]=x0.toNat+x1.toNat*256+x2.toNat*65536+x3.toNat*16777216+x4.toNat*4294967296+x5.toNat*1099511627776+x6.toNat*281474976710656+x7.toNat*72057594037927936:=by simp only[le];omega
theorem or2(k:IntKind)(x0 x1:UInt8):bits .or k (k.wrap (x0.toNat:Int)) ((x1.toNat:Int)*256)=k.wrap ((x0.toNat+x1.toNat*256:Nat):Int):=by
 have:=x0.toNat_lt
 exact or_above k x0.toNat x1.toNat 256 8 rfl (by omega)
theorem or4(k:IntKind)(x0 x1 x2 x3:UInt8):bits .or k (bits .or k (bits .or k (k.wrap (x0.toNat:Int)) ((x1.toNat:Int)*256)) ((x2.toNat:Int)*65536)) ((x3.toNat:Int)*16777216)=k.wrap ((le [x0,x1,x2,x3]:Nat):Int):=by
 have:=x0.toNat_lt;have:=x1.toNat_lt;have:=x2.toNat_lt
 have h2:=or_above k (x0.toNat+x1.toNat*256) x2.toNat 65536 16 rfl (by omega);have h3:=or_above k (x0.toNat+x1.toNat*256+x2.toNat*65536) x3.toNat 16777216 24 rfl (by omega);rw[or2];refine (congrArg (λz=>bits .or k z ((x3.toNat:Int)*16777216)) h2).trans ?_;refine h3.trans ?_;rw[le4]
theorem or8(k:IntKind)(x0 x1 x2 x3 x4 x5 x6 x7:UInt8):
  bits .or k (bits .or k (bits .or k (bits .or k (bits .or k (bits .or k (bits .or k (k.wrap (x0.toNat:Int)) ((x1.toNat:Int)*256)) ((x2.toNat:Int)*65536)) ((x3.toNat:Int)*16777216)) ((x4.toNat:Int)*4294967296)) ((x5.toNat:Int)*1099511627776)) ((x6.toNat:Int)*281474976710656)) ((x7.toNat:Int)*72057594037927936)=k.wrap ((le [x0,x1,x2,x3,x4,x5,x6,x7]:Nat):Int):=by
 have:=x0.toNat_lt;have:=x1.toNat_lt;have:=x2.toNat_lt;have:=x3.toNat_lt;have:=x4.toNat_lt;have:=x5.toNat_lt;have:=x6.toNat_lt
 rw[or4,le4];refine (congrArg (λz=>bits .or k (bits .or k (bits .or k z ((x5.toNat:Int)*1099511627776)) ((x6.toNat:Int)*281474976710656)) ((x7.toNat:Int)*72057594037927936)) (or_above k _ x4.toNat 4294967296 32 rfl (by omega))).trans ?_;refine (congrArg (λz=>bits .or k (bits .or k z ((x6.toNat:Int)*281474976710656)) ((x7.toNat:Int)*72057594037927936)) (or_above k _ x5.toNat 1099511627776 40 rfl (by omega))).trans ?_;refine (congrArg (λz=>bits .or k z ((x7.toNat:Int)*72057594037927936)) (or_above k _ x6.toNat 281474976710656 48 rfl (by omega))).trans ?_;refine (or_above k _ x7.toNat 72057594037927936 56 rfl (by omega)).trans ?_;rw[le8]
end Go.Proofs.YtcfblkkpclfmaaaGreat
namespace Go.Proofs.YtcfblkkpclfmaaaGreat
open Ieee
theorem val_inj(B:Nat)(hB:0<B)(r q:Nat)(hr:B<=r)(hq:B<=q)(h:(B+r%B)*2^(r / B-1)=(B+q%B)*2^(q / B-1)):r=q:=by
 have key:∀r q:Nat,B<=r->B<=q->r / B<q / B->(B+r%B)*2^(r / B-1)<(B+q%B)*2^(q / B-1):=by
  intro r q hr hq hlt;have h1:1<=r / B:=(Nat.one_le_div_iff hB).2 hr;have hrm:=Nat.mod_lt r hB;have e1:(B+r%B)*2^(r / B-1)<(2*B)*2^(r / B-1):=(Nat.mul_lt_mul_right (Nat.two_pow_pos _)).2 (by omega);have e2:(2*B)*2^(r / B-1)=B*2^(r / B):=by
   rw[show r / B=(r / B-1)+1 by omega,Nat.pow_succ];simp only[Nat.add_sub_cancel];rw[Nat.mul_comm 2 B,Nat.mul_assoc,Nat.mul_comm 2]
  have e3:B*2^(r / B)<=B*2^(q / B-1):=Nat.mul_le_mul_left _ (Nat.pow_le_pow_right (by omega) (by omega));have e4:B*2^(q / B-1)<=(B+q%B)*2^(q / B-1):=Nat.mul_le_mul_right _ (by omega);omega
 by_cases hlt:r / B<q / B
 ·have:=key r q hr hq hlt;omega
 ·by_cases hgt:q / B<r / B
  ·have:=key q r hq hr hgt;omega
  ·have he:r / B=q / B:=by omega
   rw[he] at h;have:=Nat.eq_of_mul_eq_mul_right (Nat.two_pow_pos _) h
   have h1:=Nat.div_add_mod r B;have h2:=Nat.div_add_mod q B;rw[he] at h1;omega
theorem val_lt(B:Nat)(hB:0<B)(r q:Nat)(hr:r<B)(hq:B<=q):r<(B+q%B)*2^(q / B-1):=by
 have:B*1<=(B+q%B)*2^(q / B-1):=Nat.mul_le_mul (by omega) (Nat.two_pow_pos _)
 omega
def fval (B r:Nat):Nat:=if r<B then r else (B+r%B)*2^(r / B-1)
theorem fval_inj(B:Nat)(hB:0<B)(r q:Nat)(h:fval B r=fval B q):r=q:=by
 unfold fval at h;split at h<;>split at h
 ·exact h
 ·have:=val_lt B hB r q (by omega) (by omega);omega
 ·have:=val_lt B hB q r (by omega) (by omega);omega
 ·exact val_inj B hB r q (by omega) (by omega) h
theorem scale_eq(m n a b:Nat):(m <<< (a-min a b)=n <<< (b-min a b)) ↔ m*2^a=n*2^b:=by
 rw[Nat.shiftLeft_eq,Nat.shiftLeft_eq];have ha:2^a=2^(a-min a b)*2^(min a b):=by rw[<-Nat.pow_add];congr 1;omega
 have hb:2^b=2^(b-min a b)*2^(min a b):=by rw[<-Nat.pow_add];congr 1;omega
 rw[ha,hb,<-Nat.mul_assoc,<-Nat.mul_assoc];exact⟨λh=>by rw[h],λh=>Nat.eq_of_mul_eq_mul_right (Nat.two_pow_pos _) h⟩
theorem signed_eq(s t:Bool)(x y:Nat):((if s then -(x:Int) else (x:Int))=(if t then -(y:Int) else (y:Int))) ↔ (x=y/\(s=t\/x=0)):=by
 cases s<;>cases t<;>simp<;>omega
theorem num_order(s t:Bool)(m n a b:Nat)(lp:Int):((Datum.number s m (lp+a)).order (.number t n (lp+b))==some .eq)=decide (m*2^a=n*2^b/\(s=t\/m=0)):=by
 have e1:(lp+(a:Int)-min (lp+a) (lp+b)).toNat=a-min a b:=by omega
 have e2:(lp+(b:Int)-min (lp+a) (lp+b)).toNat=b-min a b:=by omega
 simp only[Datum.order,signed];rw[e1,e2];have hs:=signed_eq s t (m <<< (a-min a b)) (n <<< (b-min a b));rw[scale_eq] at hs;have hz:(m <<< (a-min a b)=0) ↔ m=0:=by
  rw[Nat.shiftLeft_eq];have:=Nat.two_pow_pos (a-min a b)
  constructor
  ·intro h;rcases Nat.mul_eq_zero.1 h with h|h<;>omega
  ·rintro rfl;simp
 rw[hz] at hs;rw[Bool.eq_iff_iff,beq_iff_eq,decide_eq_true_iff,<-hs,Option.some.injEq,Int.compare_eq_eq]
theorem read_num(f:Format)(x:Nat)(h:x%f.signWeight<f.infRung):∃m a,f.read x=.number (x / f.signWeight%2==1) m (f.leastPlace+(a:Nat))/\m*2^a=fval f.binade (x%f.signWeight)/\(m=0 ↔ x%f.signWeight=0):=by
 unfold Format.read fval;have hB:0<f.binade:=Nat.two_pow_pos _;by_cases h1:x%f.signWeight<f.binade
 ·refine⟨x%f.signWeight,0,?_,by rw[if_pos h1];simp,Iff.rfl⟩;simp[h1]
 ·refine⟨f.binade+x%f.signWeight%f.binade,x%f.signWeight / f.binade-1,?_,by rw[if_neg h1],by omega⟩;simp[h1,h]
theorem read_inf(f:Format)(x:Nat)(hB:f.binade<=f.infRung)(h:x%f.signWeight=f.infRung):f.read x=.infinity (x / f.signWeight%2==1):=by
 unfold Format.read;simp only[h];rw[if_neg (by omega),if_neg (by omega),if_pos trivial]
theorem inf_order(p q:Bool):((Datum.infinity p).order (.infinity q)==some .eq)=decide (p=q):=by
 cases p<;>cases q<;>decide
theorem order_word(f:Format)(hB:f.binade<=f.infRung)(x y:Nat)(hx:x<2*f.signWeight)(hy:y<2*f.signWeight)(nx:x%f.signWeight<=f.infRung)(ny:y%f.signWeight<=f.infRung):
  (f.order x y==some .eq)=decide (x=y\/(x%f.signWeight=0/\y%f.signWeight=0)):=by
 have hb0:0<f.binade:=Nat.two_pow_pos _;have hw:0<f.signWeight:=Nat.two_pow_pos _;have dx:=Nat.div_add_mod x f.signWeight;have dy:=Nat.div_add_mod y f.signWeight;have lx:x / f.signWeight<2:=(Nat.div_lt_iff_lt_mul hw).2 hx;have ly:y / f.signWeight<2:=(Nat.div_lt_iff_lt_mul hw).2 hy;have hq:(x / f.signWeight%2==1)=(y / f.signWeight%2==1) ↔ x / f.signWeight=y / f.signWeight:=by
  have h01:∀n:Nat,n<2->n=0\/n=1:=by intro n;omega
  have h1:=h01 _ lx;have h2:=h01 _ ly;rcases h1 with h1|h1<;>rcases h2 with h2|h2<;>rw[h1,h2]<;>simp
 have hxy:x=y ↔ x / f.signWeight=y / f.signWeight/\x%f.signWeight=y%f.signWeight:=by
  constructor
  ·rintro rfl;exact⟨rfl,rfl⟩
  ·rintro⟨h1,h2⟩;rw[<-dx,<-dy,h1,h2]
 unfold Format.order;by_cases ix:x%f.signWeight<f.infRung
 ·obtain⟨m,a,ex,vx,zx⟩:=read_num f x ix;by_cases iy:y%f.signWeight<f.infRung
  ·obtain⟨n,b,ey,vy,zy⟩:=read_num f y iy;rw[ex,ey,num_order];apply decide_eq_decide.2
   rw[vx,vy,hq,zx];constructor
   ·rintro⟨h1,h2⟩;have:=fval_inj _ hb0 _ _ h1
    rcases h2 with h2|h2
    ·exact .inl (hxy.2 ⟨h2,this⟩)
    ·exact .inr ⟨h2,by omega⟩
   ·rintro (h|⟨h1,h2⟩)
    ·obtain⟨h1,h2⟩:=hxy.1 h;exact⟨by rw[h2],.inl h1⟩
    ·exact⟨by rw[h1,h2],.inr h1⟩
  ·have ey:=read_inf f y hB (by omega);rw[ex,ey];have e0:¬(x=y\/(x%f.signWeight=0/\y%f.signWeight=0)):=by
    rintro (h|h)
    ·have:=(hxy.1 h).2;omega
    ·omega
   rw[decide_eq_false e0];cases hs:(y / f.signWeight%2==1)<;>simp[Datum.order]<;>decide
 ·have ex:=read_inf f x hB (by omega);by_cases iy:y%f.signWeight<f.infRung
  ·obtain⟨n,b,ey,vy,zy⟩:=read_num f y iy;rw[ex,ey];have e0:¬(x=y\/(x%f.signWeight=0/\y%f.signWeight=0)):=by
    rintro (h|h)
    ·have:=(hxy.1 h).2;omega
    ·omega
   rw[decide_eq_false e0];cases hs:(x / f.signWeight%2==1)<;>simp[Datum.order]<;>decide
  ·have ey:=read_inf f y hB (by omega);rw[ex,ey];have e0:(x=y\/(x%f.signWeight=0/\y%f.signWeight=0)) ↔ (x / f.signWeight%2==1)=(y / f.signWeight%2==1):=by
    rw[hq,hxy];constructor
    ·rintro (h|h)
     ·exact h.1
     ·omega
    ·intro h;exact .inl ⟨h,by omega⟩
   rw[inf_order];exact decide_eq_decide.2 e0.symm
theorem eq_f32(x y:Nat)(hx:x<2^32)(hy:y<2^32)(nx:x%2^31<=2139095040)(ny:y%2^31<=2139095040):Op.floatEq .f32 x y=decide (x=y\/(x%2^31=0/\y%2^31=0)) :=
 order_word Ieee.single (by decide) x y hx hy nx ny
theorem eq_f64(x y:Nat)(hx:x<2^64)(hy:y<2^64)(nx:x%2^63<=9218868437227405312)(ny:y%2^63<=9218868437227405312):Op.floatEq .f64 x y=decide (x=y\/(x%2^63=0/\y%2^63=0)) :=
 order_word Ieee.double (by decide) x y hx hy nx ny
end Go.Proofs.YtcfblkkpclfmaaaGreat
namespace Go.Proofs.YtcfblkkpclfmaaaGreat
structure Slt(α:Type) where
 has:Bool
 val:α
 dflt:Nat
inductive Val where
 | mk (kind elem num:Nat) (text:List UInt8) (nums:List Nat) (kids:List Val) (slots:List (Slt Val))
namespace Val
def kind:Val->Nat|.mk k _ _ _ _ _ _=>k
def elem:Val->Nat|.mk _ e _ _ _ _ _=>e
def num:Val->Nat|.mk _ _ n _ _ _ _=>n
def text:Val->List UInt8|.mk _ _ _ t _ _ _=>t
def nums:Val->List Nat|.mk _ _ _ _ ns _ _=>ns
def kids:Val->List Val|.mk _ _ _ _ _ ks _=>ks
def slots:Val->List (Slt Val)|.mk _ _ _ _ _ _ ss=>ss
def absent(v:Val):Val:=.mk v.kind v.elem 0 [] [] [] []
end Val
theorem Val.ind{P:Val->Prop}(h:∀k e n t ns ks ss,(∀v∈ks,P v)->(∀s∈ss,P s.val)->P (.mk k e n t ns ks ss)):∀v,P v:=by
 intro v;refine Val.rec (motive_1:=P) (motive_2:=λl=>∀v∈l,P v) (motive_3:=λl=>∀s∈l,P s.val) (motive_4:=λs=>P s.val) ?_ ?_ ?_ ?_ ?_ ?_ v
 ·intro k e n t ns ks ss h1 h2;exact h k e n t ns ks ss h1 h2
 ·intro v hv;cases hv
 ·intro v r h1 h2 x hx;rcases List.mem_cons.1 hx with rfl|hx
  ·exact h1
  ·exact h2 x hx
 ·intro v hv;cases hv
 ·intro v r h1 h2 x hx;rcases List.mem_cons.1 hx with rfl|hx
  ·exact h1
  ·exact h2 x hx
 ·intro has v d h;exact h
def eqK (k a b:Nat):Bool :=
 if k=9 then decide (a=b\/(a%2^31=0/\b%2^31=0)) else if k=10 then decide (a=b\/(a%2^63=0/\b%2^63=0)) else decide (a=b)
def OkNum(k n:Nat):Prop:=k<=10/\n<2^(8*numSize k)/\(k=0->n<=1)/\(k=9->n%2^31<=2139095040)/\(k=10->n%2^63<=9218868437227405312)
mutual
def read0:Val->Val
 | .mk k e n t ns ks ss=>.mk k e n t ns (read0L ks) (read0S ss)
termination_by structural v=>v
def read0L:List Val->List Val
 | []=>[]
 | v::r=>read0 v::read0L r
termination_by structural v=>v
def read0S:List (Slt Val)->List (Slt Val)
 | []=>[]
 | s::r=>read0T s::read0S r
termination_by structural v=>v
def read0T:Slt Val->Slt Val
 | ⟨h,v,d⟩=>if v.kind<=10/\(h=false\/eqK v.kind v.num d=true) then ⟨false,.mk v.kind 0 d [] [] [] [],d⟩ else if h=true then ⟨true,read0 v,d⟩ else ⟨false,v.absent,d⟩
termination_by structural v=>v
end
theorem read0L_eq:∀l,read0L l=l.map read0
 | []=>rfl
 | v::r=>by rw[read0L,read0L_eq r];rfl
theorem read0S_eq:∀l,read0S l=l.map read0T
 | []=>rfl
 | v::r=>by rw[read0S,read0S_eq r];rfl
mutual
def both:Val->Val->Option Val
 | .mk k e n t ns ks ss,b =>
  if k=b.kind/\e=b.elem/\ss.length=b.slots.length/\(k=17->t.length=b.text.length) then
   (bothS ss b.slots).bind λos=>(bothK ks b.kids).map λkk=>.mk k e 0 t [] kk os
  else none
termination_by structural v=>v
def bothS:List (Slt Val)->List (Slt Val)->Option (List (Slt Val))
 | [],_=>some []
 | s::r,l=>match l with
  | []=>none
  | t::u=>(bothT s t).bind λx=>(bothS r u).map λxs=>x::xs
termination_by structural v=>v
def bothT:Slt Val->Slt Val->Option (Slt Val)
 | ⟨h,v,d⟩,t=>(both v t.val).bind λx=>if d=t.dflt then some ⟨false,x,d⟩ else none
termination_by structural v=>v
def bothK:List Val->List Val->Option (List Val)
 | [],l=>some l
 | a::r,l=>match l with
  | []=>some (a::r)
  | b::_=>(both a b).map λk=>[k]
termination_by structural v=>v
end
def foldBoth:List Val->Option Val
 | []=>some (.mk 0 0 0 [] [] [] [])
 | a::r=>r.foldlM both a
mutual
def shape:Val->Val
 | .mk k e n t ns ks ss=>.mk k e 0 (if k=17 then List.replicate t.length 0 else []) [] (if k=16 then (match ks with | []=>[] | _::_=>(match foldBoth (shapeL ks) with | some m=>[m] | none=>[])) else []) (shapeS ss)
termination_by structural v=>v
def shapeL:List Val->List Val
 | []=>[]
 | v::r=>shape v::shapeL r
termination_by structural v=>v
def shapeS:List (Slt Val)->List (Slt Val)
 | []=>[]
 | s::r=>shapeT s::shapeS r
termination_by structural v=>v
def shapeT:Slt Val->Slt Val
 | ⟨h,v,d⟩=>⟨false,shape v,d⟩
termination_by structural v=>v
end
theorem shapeL_eq:∀l,shapeL l=l.map shape
 | []=>rfl
 | v::r=>by rw[shapeL,shapeL_eq r];rfl
theorem shapeT_eq(s:Slt Val):shapeT s=⟨false,shape s.val,s.dflt⟩:=by cases s;rfl
theorem shapeS_eq:∀l,shapeS l=l.map λs=>⟨false,shape s.val,s.dflt⟩
 | []=>rfl
 | v::r=>by rw[shapeS,shapeS_eq r,shapeT_eq];rfl
def merged(l:List Val):Option Val:=foldBoth (l.map shape)
mutual
def nodes:Val->Nat
 | .mk _ _ _ _ _ ks ss=>1+nodesL ks+nodesS ss
termination_by structural v=>v
def nodesL:List Val->Nat
 | []=>0
 | v::r=>nodes v+nodesL r
termination_by structural v=>v
def nodesS:List (Slt Val)->Nat
 | []=>0
 | s::r=>nodesT s+nodesS r
termination_by structural v=>v
def nodesT:Slt Val->Nat
 | ⟨h,v,_⟩=>if h=true then nodes v else 0
termination_by structural v=>v
end
theorem nodesS_cons(s:Slt Val)(r:List (Slt Val)):nodesS (s::r)=nodesT s+nodesS r:=rfl
theorem nodesT_le(s:Slt Val):nodesT s<=nodes s.val:=by cases s;rw[nodesT];split<;>simp_all
theorem nodesT_has{s:Slt Val}(h:s.has=true):nodesT s=nodes s.val:=by cases s;rw[nodesT];exact if_pos h
inductive Good:Val->Prop
 | mk (k e n:Nat) (t:List UInt8) (ns:List Nat) (ks:List Val) (ss:List (Slt Val)) (hk:k<=17) (hnum:k > 10->n=0) (htext:k≠11->k≠12->k≠17->t=[]) (hnums:k≠13->ns=[]) (hkids:k≠14->k≠16->ks=[]) (hslots:k≠15->ss=[]) (helem:k≠13->k≠17->e=0)
  (lt:t.length<=1000) (ln:ns.length<=200) (lk:ks.length<=200) (ls:ss.length<=60)
  (h13:k=13->e<=10/\∀x∈ns,OkNum e x) (h17:k=17->(e=1\/e=2\/e=4\/e=8)/\t≠[]/\t.length<=64/\t.length%e=0)
  (hk14:k=14->∀v∈ks,v.kind=11) (hk16:k=16->∀v∈ks,v.kind=15) (hgk:∀v∈ks,Good v) (hmer:k=16->(merged ks).isSome) (hgs:∀s∈ss,Good s.val) (hd1:∀s∈ss,s.val.kind > 10->s.dflt=0) (hd2:∀s∈ss,s.val.kind<=10->OkNum s.val.kind s.dflt)
  (h10:k<=10->OkNum k n):Good (.mk k e n t ns ks ss)
end Go.Proofs.YtcfblkkpclfmaaaGreat
namespace Go.Proofs.YtcfblkkpclfmaaaGreat
open Go.RowKit
def cellsAt(w:World)(g o n:Nat):List Value:=(List.range n).map λj=>(w.cell? ⟨g,o+j,none⟩).getD (.bool false)
theorem cellsAt_length(w:World)(g o n:Nat):(cellsAt w g o n).length=n:=by simp[cellsAt]
theorem cellsAt_get(w:World)(g o n j:Nat)(h:j<n):(cellsAt w g o n)[j]?=some ((w.cell? ⟨g,o+j,none⟩).getD (.bool false)):=by
 unfold cellsAt;rw[List.getElem?_map,List.getElem?_range h];rfl
theorem cellsAt_cell{w:World}{g o n j:Nat}{x:Value}(h:(cellsAt w g o n)[j]?=some x)(hx:x≠.bool false):w.cell? ⟨g,o+j,none⟩=some x:=by
 have hj:j<n:=by have:=(List.getElem?_eq_some_iff.1 h).1;rwa [cellsAt_length] at this
 rw[cellsAt_get _ _ _ _ _ hj,Option.some.injEq] at h;cases hc:w.cell? ⟨g,o+j,none⟩ with
 | none=>rw[hc] at h;exact absurd h.symm hx
 | some y=>rw[hc] at h;rw[<-h];rfl
theorem cellsAt_of{w:World}{g o n:Nat}{cs:List Value}(hl:cs.length=n)(h:∀j u,cs[j]?=some u->w.cell? ⟨g,o+j,none⟩=some u):cellsAt w g o n=cs:=by
 apply List.ext_getElem?
 intro j;by_cases hj:j<n
 ·rw[cellsAt_get _ _ _ _ _ hj];have:cs[j]?=some (cs[j]'(by omega)):=List.getElem?_eq_getElem (by omega)
  rw[this,h j _ this];rfl
 ·rw[List.getElem?_eq_none (by rw[cellsAt_length];omega),List.getElem?_eq_none (by omega)]
structure NumsIs(B:Nat->Prop)(w:World)(nv:Value)(ns:List Nat):Prop where
 ok:∃a cap,nv=.slice a ns.length cap/\ns.length<=cap/\cap<=maxLen/\(ns≠[]->∃g o,a=some ⟨g,o,none⟩/\g<w.heap.size/\B g/\∀i (h:i<ns.length),w.cell? ⟨g,o+i,none⟩=some (.int .u64 ns[i]))/\∀n∈ns,n<2^64
inductive VIs (B:Nat->Prop) (w:World):List Value->Val->Prop
 | mk (k e n:Nat) (t:List UInt8) (ns:List Nat) (ks:List Val) (ss:List (Slt Val)) (nv:Value) (ka:Option Addr) (kc kg ko:Nat) (sa:Option Addr) (sc sg so:Nat)
  (hk:k<256) (he:e<256) (hn:n<2^64) (ht:t.length<=maxLen) (hnv:NumsIs B w nv ns)
  (hka:ks≠[]->ka=some ⟨kg,ko,none⟩/\kg<w.heap.size/\B kg) (hkc:ks.length<=kc/\kc<=maxLen) (hks:∀i (h:i<ks.length),VIs B w (cellsAt w kg (ko+i*7) 7) ks[i])
  (hsa:ss≠[]->sa=some ⟨sg,so,none⟩/\sg<w.heap.size/\B sg) (hsc:ss.length<=sc/\sc<=maxLen) (hsd:∀i (h:i<ss.length),w.cell? ⟨sg,so+i*9,none⟩=some (.bool ss[i].has)/\w.cell? ⟨sg,so+i*9+8,none⟩=some (.int .u64 ss[i].dflt)/\ss[i].dflt<2^64)
  (hss:∀i (h:i<ss.length),VIs B w (cellsAt w sg (so+i*9+1) 7) ss[i].val):
  VIs B w [.int .u8 k,.int .u8 e,.int .u64 n,.string (strOf t),nv,.slice ka ks.length kc,.slice sa ss.length sc] (.mk k e n t ns ks ss)
theorem VIs.length{B:Nat->Prop}{w:World}{cs:List Value}{v:Val}(h:VIs B w cs v):cs.length=7:=by cases h;rfl
theorem NumsIs.mono{B B':Nat->Prop}{w w':World}{nv:Value}{ns:List Nat}(h:NumsIs B w nv ns)(hs:w.heap.size<=w'.heap.size)(hB:∀b,b<w.heap.size->B b->B' b/\w'.heap[b]?=w.heap[b]?):NumsIs B' w' nv ns:=by
 obtain⟨a,cap,h1,h2,h3,h4,h5⟩:=h.ok;refine⟨a,cap,h1,h2,h3,λhne=>?_,h5⟩;obtain⟨g,o,e,hg,hb,hc⟩:=h4 hne;exact⟨g,o,e,by omega,(hB g hg hb).1,λi hi=>by rw[World.cell?_of_block (w:=w) (hB g hg hb).2];exact hc i hi⟩
theorem cellsAt_mono{w w':World}{g:Nat}(h:w'.heap[g]?=w.heap[g]?)(o n:Nat):cellsAt w' g o n=cellsAt w g o n:=by
 unfold cellsAt;congr 1
 funext j
 rw[World.cell?_of_block (w:=w) h]
theorem VIs.mono{B B':Nat->Prop}{w w':World}(hs:w.heap.size<=w'.heap.size)(hB:∀b,b<w.heap.size->B b->B' b/\w'.heap[b]?=w.heap[b]?){cs:List Value}{v:Val}(h:VIs B w cs v):VIs B' w' cs v:=by
 induction h with
 | mk k e n t ns ks ss nv ka kc kg ko sa sc sg so hk he hn ht hnv hka hkc hks hsa hsc hsd hss ihk ihs =>
  refine .mk k e n t ns ks ss nv ka kc kg ko sa sc sg so hk he hn ht (hnv.mono hs hB) (λhne=>?_) hkc (λi hi=>?_) (λhne=>?_) hsc (λi hi=>?_) (λi hi=>?_)
  ·obtain⟨a,b,c⟩:=hka hne;exact⟨a,by omega,(hB kg b c).1⟩
  ·obtain⟨a,b,c⟩:=hka (by intro e;subst e;simp at hi);have:=ihk i hi
   rw[cellsAt_mono (hB kg b c).2];exact this
  ·obtain⟨a,b,c⟩:=hsa hne;exact⟨a,by omega,(hB sg b c).1⟩
  ·obtain⟨a,b,c⟩:=hsa (by intro e;subst e;simp at hi);rw[show w'.cell? ⟨sg,so+i*9,none⟩=w.cell? ⟨sg,so+i*9,none⟩ from World.cell?_of_block (w:=w) (hB sg b c).2,show w'.cell? ⟨sg,so+i*9+8,none⟩=w.cell? ⟨sg,so+i*9+8,none⟩ from World.cell?_of_block (w:=w) (hB sg b c).2];exact hsd i hi
  ·obtain⟨a,b,c⟩:=hsa (by intro e;subst e;simp at hi);have:=ihs i hi
   rw[cellsAt_mono (hB sg b c).2];exact this
theorem VIs.fr{S:Nat->Prop}{B B':Nat->Prop}{w w':World}{cs:List Value}{v:Val}(h:VIs B w cs v)(hf:Fr S w w')(hB:∀b,b<w.heap.size->B b->B' b/\¬S b):VIs B' w' cs v :=
 h.mono hf.size λb hb hbb=>⟨(hB b hb hbb).1,hf.block b hb (hB b hb hbb).2⟩
theorem VIs.fr0{B B':Nat->Prop}{w w':World}{cs:List Value}{v:Val}(h:VIs B w cs v)(hf:Fr0 w w')(hB:∀b,b<w.heap.size->B b->B' b):VIs B' w' cs v:=h.fr hf λb h1 h2=>⟨hB b h1 h2,λx=>x⟩
theorem VIs.lit{B:Nat->Prop}{w:World}{cs:List Value}{v:Val}(h:VIs B w cs v):∃na nl nc ka nk kc sa ns sc,cs=[.int .u8 v.kind,.int .u8 v.elem,.int .u64 v.num,.string (strOf v.text),.slice na nl nc,.slice ka nk kc,.slice sa ns sc]:=by
 cases h with
 | mk k e n t ns ks ss nv ka kc kg ko sa sc sg so hk he hn ht hnv hka hkc hks hsa hsc hsd hss =>
  obtain⟨na,nc,rfl,_⟩:=hnv.ok;exact⟨_,_,_,_,_,_,_,_,_,rfl⟩
theorem VIs.at{B:Nat->Prop}{w:World}{g o:Nat}{v:Val}(h:VIs B w (cellsAt w g o 7) v):∃na nl nc ka nk kc sa ns sc,VIs B w [.int .u8 v.kind,.int .u8 v.elem,.int .u64 v.num,.string (strOf v.text),.slice na nl nc,.slice ka nk kc,.slice sa ns sc] v /\
  w.cell? ⟨g,o,none⟩=some (.int .u8 v.kind)/\w.cell? ⟨g,o+1,none⟩=some (.int .u8 v.elem)/\w.cell? ⟨g,o+2,none⟩=some (.int .u64 v.num)/\w.cell? ⟨g,o+3,none⟩=some (.string (strOf v.text)) /\
  w.cell? ⟨g,o+4,none⟩=some (.slice na nl nc)/\w.cell? ⟨g,o+5,none⟩=some (.slice ka nk kc)/\w.cell? ⟨g,o+6,none⟩=some (.slice sa ns sc):=by
 obtain⟨na,nl,nc,ka,nk,kc,sa,ns,sc,e⟩:=h.lit;have hc:∀j u,(cellsAt w g o 7)[j]?=some u->u≠.bool false->w.cell? ⟨g,o+j,none⟩=some u:=λj u hu hne=>cellsAt_cell hu hne;rw[e] at hc h;exact⟨na,nl,nc,ka,nk,kc,sa,ns,sc,h,hc 0 _ rfl (by simp),hc 1 _ rfl (by simp),hc 2 _ rfl (by simp),hc 3 _ rfl (by simp),hc 4 _ rfl (by simp),hc 5 _ rfl (by simp),hc 6 _ rfl (by simp)⟩
theorem VIs.one{B:Nat->Prop}{w:World}{cs:List Value}{v:Val}(h:VIs B w cs v):∀u∈cs,u.oneCell'=true:=by
 obtain⟨na,nl,nc,ka,nk,kc,sa,ns,sc,rfl⟩:=h.lit;intro u hu;simp only[List.mem_cons,List.not_mem_nil,or_false] at hu;rcases hu with rfl|rfl|rfl|rfl|rfl|rfl|rfl<;>rfl
theorem ownFr{S:Nat->Prop}{w w':World}{base:Nat}{e:TypeId}{size n:Nat}{v:Value}{xs:List Value}(h:w.ownsRow base e size v n xs)(hf:Fr S w w')(hs:∀k,v.ownBlock=some k->¬S k):w'.ownsRow base e size v n xs:=by
 refine⟨h.1,?_⟩;rcases h.2 with hn|⟨g,cap,cur,rfl,hb,hgg,rest⟩
 ·exact .inl hn
 ·refine .inr ⟨g,cap,cur,rfl,hb,?_,rest⟩;rw[hf.block g (lt_of_block hgg) (hs g rfl)];exact hgg
theorem newsL(w:World)(t:TypeId)(xs:List Value)(n:Nat)(hn:w.heap.size=n):∀j u,xs[j]?=some u->(w.alloc (.cells xs.toArray t)).cell? ((⟨n,0,none⟩:Addr).add j)=some u:=by
 intro j u hu;subst hn;have hadd:(⟨w.heap.size,0,none⟩:Addr).add j=⟨w.heap.size,j,none⟩:=by unfold Addr.add;split<;>simp_all
 rw[hadd,cell_of (heap_alloc_new w _)];simpa using hu
theorem keep_alloc{w:World}{k o:Nat}{u:Value}(ob:Obj)(h:w.cell? ⟨k,o,none⟩=some u):(w.alloc ob).cell? ⟨k,o,none⟩=some u:=by
 rw[World.cell?_of_block (w:=w) (heap_alloc_old w ob k (World.block_lt_of_cell? _ _ h))];exact h
theorem keep_allocF{w:World}{k o:Nat}{u:Value}(ob:Obj)(h:w.cell? ⟨k,o,none⟩=some u)(hf:w.frozen? ⟨k,o,none⟩=false):(w.alloc ob).frozen? ⟨k,o,none⟩=false:=by
 rw[World.frozen?_of_block (w:=w) (heap_alloc_old w ob k (World.block_lt_of_cell? _ _ h))];exact hf
theorem keep_fr{S:Nat->Prop}{w w':World}{k o:Nat}{u:Value}(hf:Fr S w w')(h:w.cell? ⟨k,o,none⟩=some u)(hs:¬S k):w'.cell? ⟨k,o,none⟩=some u:=(Fr.cell hf (p:=⟨k,o,none⟩) (World.block_lt_of_cell? _ _ h) hs).trans h
theorem kf7{S:Nat->Prop}{w w':World}{k o0 o1 o2 o3 o4 o5 o6:Nat}{u0 u1 u2 u3 u4 u5 u6:Value}(hf:Fr S w w')(h0:w.cell? ⟨k,o0,none⟩=some u0)(h1:w.cell? ⟨k,o1,none⟩=some u1)(h2:w.cell? ⟨k,o2,none⟩=some u2)(h3:w.cell? ⟨k,o3,none⟩=some u3)(h4:w.cell? ⟨k,o4,none⟩=some u4)(h5:w.cell? ⟨k,o5,none⟩=some u5)(h6:w.cell? ⟨k,o6,none⟩=some u6)(hs:¬S k):w'.cell? ⟨k,o0,none⟩=some u0/\w'.cell? ⟨k,o1,none⟩=some u1/\w'.cell? ⟨k,o2,none⟩=some u2/\w'.cell? ⟨k,o3,none⟩=some u3/\w'.cell? ⟨k,o4,none⟩=some u4/\w'.cell? ⟨k,o5,none⟩=some u5/\w'.cell? ⟨k,o6,none⟩=some u6:=⟨keep_fr hf h0 hs,keep_fr hf h1 hs,keep_fr hf h2 hs,keep_fr hf h3 hs,keep_fr hf h4 hs,keep_fr hf h5 hs,keep_fr hf h6 hs⟩
theorem keep_frF{S:Nat->Prop}{w w':World}{k o:Nat}{u:Value}(hf:Fr S w w')(h:w.cell? ⟨k,o,none⟩=some u)(hz:w.frozen? ⟨k,o,none⟩=false)(hs:¬S k):w'.frozen? ⟨k,o,none⟩=false:=(Fr.frozen hf (p:=⟨k,o,none⟩) (World.block_lt_of_cell? _ _ h) hs).trans hz
def slotC(s:Slt Val)(cs:List Value):List Value:=.bool s.has::(cs++[.int .u64 s.dflt])
structure ItRow{ι:Type}(z:Nat)(f:ι->List Value)(P:(Nat->Prop)->World->ι->Prop)(B:Nat->Prop)(base:Nat)(T:TypeId)(w:World)(kv:Value)(its:List ι):Prop where
 own:w.ownsRow base T z kv its.length (its.map f).flatten
 item:∀x∈its,P B w x
def valP (B:Nat->Prop)(w:World)(x:List Value × Val):Prop:=VIs B w x.1 x.2
def sltP (B:Nat->Prop)(w:World)(x:List Value × Slt Val):Prop:=VIs B w x.1 x.2.val/\x.2.dflt<2^64
abbrev VRow:=ItRow 7 (λx:List Value × Val=>x.1) valP
abbrev SRow:=ItRow 9 (λx:List Value × Slt Val=>slotC x.2 x.1) sltP
def PMono{ι:Type}(P:(Nat->Prop)->World->ι->Prop):Prop:=∀(B B':Nat->Prop) (w w':World) (x:ι),w.heap.size<=w'.heap.size->(∀b,b<w.heap.size->B b->B' b/\w'.heap[b]?=w.heap[b]?)->P B w x->P B' w' x
theorem valP_mono:PMono valP:=λB B' w w' x hs hB h=>VIs.mono hs hB h
theorem sltP_mono:PMono sltP:=λB B' w w' x hs hB h=>⟨VIs.mono hs hB h.1,h.2⟩
def BI (B:Nat->Prop)(W c:Nat)(kv:Value)(b:Nat):Prop:=(B b/\b<W)\/(W+c<=b/\some b≠kv.ownBlock)
theorem ownBlock_lt{w:World}{base:Nat}{e:TypeId}{size n:Nat}{v:Value}{xs:List Value}(h:w.ownsRow base e size v n xs):∀k,v.ownBlock=some k->base<=k/\k<w.heap.size:=by
 intro k hk;rcases h.2 with ⟨rfl,_⟩|⟨g,cap,cur,rfl,hb,hg,_⟩
 ·cases hk
 ·injection hk with hk;subst hk;exact⟨hb,lt_of_block hg⟩
theorem ItRow.snoc{ι:Type}{z:Nat}{f:ι->List Value}{P:(Nat->Prop)->World->ι->Prop}(hP:PMono P){B:Nat->Prop}{W c n:Nat}{T:TypeId}{wr w6 w7:World}{kv:Value}{its:List ι}{x:ι}{o:Obj}{g7 cap7 q j:Nat}{u:Value}
  (h:ItRow z f P (BI B W c kv) (W+c) T wr kv its) (hW:W+c<=wr.heap.size) (h56:Fr0 wr w6) (hx:P (λb=>(B b/\b<W)\/wr.heap.size<=b) w6 x) (hgrow:(w6.alloc o).grownBy w7 kv.ownBlock)
  (hown7:w7.ownsRow (W+c) T z (.slice (some ⟨g7,0,none⟩) n cap7) n ((its.map f).flatten++f x)) (hn:n=its.length+1) (hat7:kv.ownBlock=some g7\/g7=w6.heap.size+1) (hq:W<=q/\q<W+c):
  ItRow z f P (BI B W c (.slice (some ⟨g7,0,none⟩) n cap7)) (W+c) T (w7.setCell ⟨q,j,none⟩ u) (.slice (some ⟨g7,0,none⟩) n cap7) (its++[x]):=by
 have hrl:=ownBlock_lt h.own;have hg7:W+c<=g7/\g7<w7.heap.size:=by
  rcases hown7.2 with ⟨h0,_⟩|⟨g,cap,cur,e1,hb,hg,_⟩
  ·cases h0
  ·injection e1 with e1 _ _;injection e1 with e1;injection e1 with e1;subst e1;exact⟨hb,lt_of_block hg⟩
 have hs7:=hgrow.size;rw[size_alloc] at hs7;have hs6:=h56.size;have hset:∀b,b≠q->(w7.setCell ⟨q,j,none⟩ u).heap[b]?=w7.heap[b]?:=λb hb=>heap_setCell_other w7 _ u b hb;have h67:∀b,b<w6.heap.size->some b≠kv.ownBlock->w7.heap[b]?=w6.heap[b]?:=λb hb hne=>(hgrow.block b (by rw[size_alloc];omega) hne).trans (heap_alloc_old w6 o b hb);have hssz:(w7.setCell ⟨q,j,none⟩ u).heap.size=w7.heap.size:=by simp[World.setCell]
 refine⟨?_,λy hy=>?_⟩
 ·have h1:=ownFr (S:=λk=>k=q) hown7 (Fr.set1 w7 q j u) (λk hk e=>by
   have e2:some g7=some k:=hk;injection e2 with e2;omega)
  rw[List.map_append,List.flatten_append,List.length_append,List.length_singleton,<-hn];simpa using h1
 ·rcases List.mem_append.1 hy with hy|hy
  ·refine hP _ _ wr _ y (by rw[hssz];omega) (λb hb hbb=>?_) (h.item y hy);have hne:some b≠kv.ownBlock:=by
    rcases hbb with ⟨_,hbW⟩|⟨_,hne⟩
    ·intro e;have:=(hrl b e.symm).1;omega
    ·exact hne
   refine⟨?_,?_⟩
   ·rcases hbb with hbb|⟨hb1,_⟩
    ·exact .inl hbb
    ·refine .inr ⟨hb1,λe=>?_⟩;have e2:some b=some g7:=e;injection e2 with e2;subst e2;rcases hat7 with h7|h7
     ·exact hne h7.symm
     ·omega
   ·rw[hset b (by rcases hbb with ⟨_,hbW⟩|⟨hb1,_⟩<;>omega),h67 b (by omega) hne];exact h56.block b hb (λx=>x)
  ·obtain rfl:=List.mem_singleton.1 hy;refine hP _ _ w6 _ y (by rw[hssz];omega) (λb hb hbb=>?_) hx;have hne:some b≠kv.ownBlock:=by
    intro e;have:=hrl b e.symm
    rcases hbb with ⟨_,hbW⟩|hbb<;>omega
   refine⟨?_,?_⟩
   ·rcases hbb with hbb|hbb
    ·exact .inl hbb
    ·refine .inr ⟨by omega,λe=>?_⟩;have e2:some b=some g7:=e;injection e2 with e2;subst e2;rcases hat7 with h7|h7
     ·exact hne h7.symm
     ·omega
   ·rw[hset b (by rcases hbb with ⟨_,hbW⟩|hbb<;>omega),h67 b hb hne]
theorem ItRow.fr{ι:Type}{z:Nat}{f:ι->List Value}{P:(Nat->Prop)->World->ι->Prop}(hP:PMono P){B B' S:Nat->Prop}{base:Nat}{T:TypeId}{w w':World}{kv:Value}{its:List ι}(h:ItRow z f P B base T w kv its)(hf:Fr S w w')(hk:∀k,kv.ownBlock=some k->¬S k)(hB:∀b,b<w.heap.size->B b->B' b/\¬S b):ItRow z f P B' base T w' kv its :=
 ⟨ownFr h.own hf hk,λx hx=>hP _ _ w _ x hf.size (λb h1 h2=>⟨(hB b h1 h2).1,hf.block b h1 (hB b h1 h2).2⟩) (h.item x hx)⟩
theorem flat_get{z:Nat}:∀(css:List (List Value)) (hz:∀c∈css,c.length=z) (i j:Nat) (hi:i<css.length) (hj:j<z),css.flatten[i*z+j]?=(css[i])[j]?
 | [],_,_,_,hi,_=>by simp at hi
 | x::r,hz,0,j,_,hj=>by
  rw[List.flatten_cons,Nat.zero_mul,Nat.zero_add,List.getElem?_append_left (by rw[hz x (by simp)];exact hj)];rfl
 | x::r,hz,i+1,j,hi,hj=>by
  have ih:=flat_get r (λc hc=>hz c (by simp[hc])) i j (by simpa using hi) hj;have hx:=hz x (by simp);rw[List.flatten_cons,Nat.add_mul,Nat.one_mul,List.getElem?_append_right (by rw[hx];omega),hx,show i*z+z+j-z=i*z+j by omega,ih];simp
theorem own_flat_cells{w:World}{base z g cap n:Nat}{T:TypeId}{css:List (List Value)}(h:w.ownsRow base T z (.slice (some ⟨g,0,none⟩) n cap) n css.flatten)(hz:∀c∈css,c.length=z)(i:Nat)(hi:i<css.length):cellsAt w g (i*z) z=css[i]:=by
 rcases h.2 with ⟨h0,_⟩|⟨g',cap',cur,e1,hb,hg,h1,h2,h3,h4⟩
 ·cases h0
 ·injection e1 with e1 _ _;injection e1 with e1;injection e1 with e1;subst e1;refine cellsAt_of (hz _ (List.getElem_mem hi)) λj u hu=>?_;have hj:j<z:=by have:=(List.getElem?_eq_some_iff.1 hu).1;rwa [hz _ (List.getElem_mem hi)] at this
  rw[<-flat_get css hz i j hi hj,<-h4,List.getElem?_take] at hu;split at hu
  ·rw[cell_of hg];simpa using hu
  ·cases hu
theorem own_form{w:World}{base z n:Nat}{T:TypeId}{kv:Value}{xs:List Value}(h:w.ownsRow base T z kv n xs):∃a cap g,kv=.slice a n cap/\n<=cap/\cap<=maxLen/\(0<n->a=some ⟨g,0,none⟩/\g<w.heap.size/\base<=g/\kv.ownBlock=some g):=by
 rcases h.2 with ⟨rfl,rfl⟩|⟨g,cap,cur,rfl,hb,hg,h1,h2,h3,h4⟩
 ·exact⟨none,0,0,rfl,by omega,by omega,λh=>by omega⟩
 ·exact⟨_,cap,g,rfl,h1,h2,λ_=>⟨rfl,lt_of_block hg,hb,rfl⟩⟩
theorem VIs.of_rows{B Bk Bs:Nat->Prop}{base base':Nat}{T T':TypeId}{w:World}{k e n:Nat}{t:List UInt8}{ns:List Nat}{nv kv sv:Value}{kits:List (List Value × Val)}{sits:List (List Value × Slt Val)}(hk:k<256)(he:e<256)(hn:n<2^64)(ht:t.length<=maxLen)(hnv:NumsIs B w nv ns)
  (hks:VRow Bk base T w kv kits) (hss:SRow Bs base' T' w sv sits) (hB:∀g,kv.ownBlock=some g\/sv.ownBlock=some g->B g) (hBk:∀b,b<w.heap.size->Bk b->B b) (hBs:∀b,b<w.heap.size->Bs b->B b):
  VIs B w [.int .u8 k,.int .u8 e,.int .u64 n,.string (strOf t),nv,kv,sv] (.mk k e n t ns (kits.map (·.2)) (sits.map (·.2))):=by
 obtain⟨ka,kc,kg,rfl,hk1,hk2,hk3⟩:=own_form hks.own;obtain⟨sa,sc,sg,rfl,hs1,hs2,hs3⟩:=own_form hss.own;have hz7:∀c∈kits.map (λx:List Value × Val=>x.1),c.length=7:=by
  intro c hc;obtain⟨x,hx,rfl⟩:=List.mem_map.1 hc;exact VIs.length (hks.item x hx)
 have hz9:∀c∈sits.map (λx:List Value × Slt Val=>slotC x.2 x.1),c.length=9:=by
  intro c hc;obtain⟨x,hx,rfl⟩:=List.mem_map.1 hc;have:=VIs.length (hss.item x hx).1
  simp[slotC,this]
 have hown7:∀i (h:i<kits.length),cellsAt w kg (i*7) 7=kits[i].1:=by
  intro i h;have hko:=hks.own;rw[(hk3 (by omega)).1] at hko;rw[own_flat_cells hko hz7 i (by rw[List.length_map];exact h),List.getElem_map]
 have hown9:∀i (h:i<sits.length),cellsAt w sg (i*9) 9=slotC sits[i].2 sits[i].1:=by
  intro i h;have hso:=hss.own;rw[(hs3 (by omega)).1] at hso;rw[own_flat_cells hso hz9 i (by rw[List.length_map];exact h),List.getElem_map]
 have hhas:∀i (h:i<sits.length),w.cell? ⟨sg,i*9,none⟩=some (.bool sits[i].2.has):=by
  intro i h;have hso:=hss.own;rw[(hs3 (by omega)).1] at hso;rcases hso.2 with ⟨h0,_⟩|⟨g',cap',cur,e1,hb,hgg,h1,h2,h3,h4⟩
  ·cases h0
  ·injection e1 with e1 _ _;injection e1 with e1;injection e1 with e1;subst e1;have hx:=flat_get _ hz9 i 0 (by rw[List.length_map];exact h) (by omega);rw[List.getElem_map,<-h4,List.getElem?_take] at hx;split at hx
   ·rw[cell_of hgg];simpa [slotC] using hx
   ·simp[slotC] at hx
 have hd:∀i (h:i<sits.length),w.cell? ⟨sg,i*9+8,none⟩=some (.int .u64 sits[i].2.dflt):=by
  intro i h;have hcl:=VIs.length (hss.item sits[i] (List.getElem_mem h)).1;have he8:(slotC sits[i].2 sits[i].1)[8]?=some (.int .u64 sits[i].2.dflt):=by
   unfold slotC;rw[List.getElem?_cons_succ,List.getElem?_append_right (by omega),hcl];rfl
  exact cellsAt_cell (w:=w) (g:=sg) (o:=i*9) (n:=9) (j:=8) (x:=.int .u64 sits[i].2.dflt) (by rw[hown9 i h,he8]) (by simp)
 have hval:∀i (h:i<sits.length),cellsAt w sg (i*9+1) 7=sits[i].1:=by
  intro i h;have hcl:=VIs.length (hss.item sits[i] (List.getElem_mem h)).1;have h9:=hown9 i h;apply List.ext_getElem?
  intro j;by_cases hj:j<7
  ·rw[cellsAt_get _ _ _ _ _ hj];have hx:=cellsAt_get w sg (i*9) 9 (j+1) (by omega);rw[h9] at hx;rw[show i*9+1+j=i*9+(j+1) by omega,<-hx];unfold slotC;rw[List.getElem?_cons_succ,List.getElem?_append_left (by omega)]
  ·rw[List.getElem?_eq_none (by rw[cellsAt_length];omega),List.getElem?_eq_none (by omega)]
 have hlk:(kits.map (·.2)).length=kits.length:=List.length_map _;have hls:(sits.map (·.2)).length=sits.length:=List.length_map _;rw[<-hlk,<-hls];refine .mk k e n t ns _ _ nv ka kc kg 0 sa sc sg 0 hk he hn ht hnv (λhne=>?_) ⟨by rw[hlk];exact hk1,hk2⟩ (λi hi=>?_) (λhne=>?_) ⟨by rw[hls];exact hs1,hs2⟩ (λi hi=>?_) (λi hi=>?_)
 ·have h0:0<kits.length:=by rw[<-hlk];exact List.length_pos_iff.2 hne
  exact⟨(hk3 h0).1,(hk3 h0).2.1,hB kg (.inl (hk3 h0).2.2.2)⟩
 ·have hi':i<kits.length:=by rw[<-hlk];exact hi
  rw[Nat.zero_add,hown7 i hi',List.getElem_map];exact VIs.mono (Nat.le_refl _) (λb h1 h2=>⟨hBk b h1 h2,rfl⟩) (hks.item kits[i] (List.getElem_mem hi'))
 ·have h0:0<sits.length:=by rw[<-hls];exact List.length_pos_iff.2 hne
  exact⟨(hs3 h0).1,(hs3 h0).2.1,hB sg (.inr (hs3 h0).2.2.2)⟩
 ·have hi':i<sits.length:=by rw[<-hls];exact hi
  rw[Nat.zero_add,List.getElem_map];exact⟨hhas i hi',hd i hi',(hss.item sits[i] (List.getElem_mem hi')).2⟩
 ·have hi':i<sits.length:=by rw[<-hls];exact hi
  rw[Nat.zero_add,hval i hi',List.getElem_map];exact VIs.mono (Nat.le_refl _) (λb h1 h2=>⟨hBs b h1 h2,rfl⟩) (hss.item sits[i] (List.getElem_mem hi')).1
theorem ItRow.nil{ι:Type}(z:Nat)(f:ι->List Value)(P:(Nat->Prop)->World->ι->Prop)(B:Nat->Prop)(base:Nat)(T:TypeId)(w:World):ItRow z f P B base T w (.slice none 0 0) []:=⟨World.ownsRow_nil _ _ _ _,λx h=>by simp at h⟩
theorem infoU8:(Tryz.prog.info? 5).map (λi=>(i.zero,i.size,i.bytes))=some (some (.int .u8 0),1,1):=by kernel_rfl
theorem setRow_alloc(w:World)(c c':Array Value)(t:TypeId):(w.alloc (.cells c t)).setRow w.heap.size c'=w.alloc (.cells c' t):=by
 unfold World.setRow;show World.mk _ _ _ _ _=World.mk _ _ _ _ _;congr 1
 show (w.heap.push _).modify w.heap.size _=w.heap.push _;apply Array.ext
 ·simp
 ·intro i h1 h2;simp only[Array.getElem_modify,Array.getElem_push];split
  ·rename_i h;subst h;simp
  ·rename_i h;have:i<w.heap.size:=by simp at h1;omega
   simp[this]
theorem slice_calls(s:ByteArray)(w:World)(hs:s.size<=1000000000):
  Calls Tryz.prog 50 #[.string s] w λe w'=>e=.returned (.slice (some ⟨w.heap.size,0,none⟩) s.size s.size)/\w.alloc (.cells (cellsOf s.data.toList).toArray 5)=w':=by
 obtain⟨i0,hi,hz0,hz1,hz2⟩:=info_parts infoU8;have hmk:=run_make (P:=Tryz.prog) w 81 5 i0 (.int .u8 0) Tryz.underlying81 hi hz0 .i64 .i64 s.size s.size (by omega) (by omega) (by rw[hz2];omega) (by omega);rw[hz1] at hmk;simp only[Int.toNat_natCast,Nat.mul_one] at hmk;have hcp:=run_copy_string (P:=Tryz.prog) (w.alloc (.cells (madeCells (Value.int .u8 0).cells s.size) 5)) 81 9 3 5 w.heap.size 0 s.size s.size s
  (madeCells (Value.int .u8 0).cells s.size) 5 Tryz.underlying81 (by rw[hi];simp[hz1]) (heap_alloc_new w _) (by rw[size_madeCells];omega)
 have e1:(madeCells (Value.int .u8 0).cells s.size).toList.drop (0+min s.size s.size)=[]:=by
  apply List.drop_of_length_le;simp[size_madeCells]
 have e2:s.data.toList.take (min s.size s.size)=s.data.toList:=by
  apply List.take_of_length_le;simp
 rw[e1,e2,setRow_alloc] at hcp;simp only[List.take_zero,List.nil_append,List.append_nil] at hcp;clear e1 e2;simp only[Value.cells] at hmk hcp;go_enter Tryz.func50,Tryz.ntmps50;go_wp2_with fail;go_ret;exact⟨rfl,rfl⟩
section
variable {P:Program} {ops:Array Oper} {Q:Exit->Act->World->Prop}
/-! What the operations yield, as a row of values. -/
def earlier(ops:Array Oper):Bool:=ops.toList.zipIdx.all λx=>x.1.after.all λe=>!Region.binds .any e || decide (e.on<x.2)
theorem earlier_rank(h:earlier ops=true):∀i o,ops[i]?=some o->∀e∈o.after,Region.binds .any e=true->e.on<ops.size/\e.on<i:=by
 intro i o ho e he hb;have hi:=(Array.getElem?_eq_some_iff.1 ho).1;unfold earlier at h;rw[List.all_eq_true] at h;have h1:=h (o,i) (by rw[List.mem_zipIdx_iff_getElem?];simpa using ho);simp only[Array.all_eq_true] at h1;obtain⟨j,hj,rfl⟩:=Array.getElem_of_mem he;have h2:=h1 j hj;simp only[hb,Bool.not_true,Bool.false_or,decide_eq_true_eq] at h2;omega
end
section
variable {P:Program} {ops:Array Oper} {Q:Exit->Act->World->Prop}
theorem set_true{listed:Array Bool}{i j:Nat}(h:(listed.setIfInBounds i true).getD j false=true)(hij:j≠i):listed.getD j false=true:=by
 simp only[Array.getD,Array.size_setIfInBounds] at h ⊢;split at h
 ·rename_i hlt
  rw[dif_pos hlt];have h3:(listed.setIfInBounds i true)[j]'(by simpa using hlt)=true:=h;exact (Array.getElem_setIfInBounds_ne hlt (λe=>hij e.symm)).symm.trans h3
 ·cases h
theorem set_mono{listed:Array Bool}{i j:Nat}(h:listed.getD j false=true):(listed.setIfInBounds i true).getD j false=true:=by
 simp only[Array.getD,Array.size_setIfInBounds] at h ⊢;split at h
 ·rename_i hlt
  rw[dif_pos hlt];by_cases hij:i=j
  ·subst hij;exact Array.getElem_setIfInBounds_self (by simpa using hlt)
  ·exact (Array.getElem_setIfInBounds_ne hlt hij).trans h
 ·cases h
end
section
variable {P:Program} {ops:Array Oper} {Q:Exit->Act->World->Prop}
def reach(ops:Array Oper)(i:Nat):Nat->Nat->Bool
 | 0,_=>false
 | f+1,j=>match ops[j]? with
  | none=>false
  | some o=>o.after.toList.any λe=>Region.binds .any e&&(e.on==i || reach ops i f e.on)
theorem reach_listed{listed:Array Bool}{i:Nat}(hcl:∀j o,ops[j]?=some o->listed.getD j false=true->∀e∈o.after,Region.binds .any e=true->listed.getD e.on false=true):
  ∀f j,reach ops i f j=true->listed.getD j false=true->listed.getD i false=true
 | 0,_,h,_=>by simp[reach] at h
 | f+1,j,h,hl=>by
  unfold reach at h;cases ho:ops[j]? with
  | none=>rw[ho] at h;simp at h
  | some o =>
   rw[ho] at h;simp only[List.any_eq_true,Bool.and_eq_true,Bool.or_eq_true,beq_iff_eq] at h;obtain⟨e,he,hb,hor⟩:=h;have hel:=hcl j o ho hl e (by simpa using he) hb;rcases hor with h|h
   ·rw[<-h];exact hel
   ·exact reach_listed hcl f e.on h hel
end
section
variable {P:Program} {C:World->Prop} {Q:Exit->Act->World->Prop}
theorem getD_push_lt{l:Array Bool}{i:Nat}(h:i<l.size)(d:Bool):(l.push false).getD i d=l.getD i d:=by
 simp[Array.getD,h,Nat.lt_succ_of_lt h,Array.getElem_push_lt h]
theorem getD_push_false(l:Array Bool)(i:Nat):(l.push false).getD i false=l.getD i false:=by
 by_cases h:i<l.size
 ·exact getD_push_lt h false
 ·by_cases h2:i=l.size
  ·subst h2;simp[Array.getD]
  ·have h3:¬i<l.size+1:=by omega
   simp[Array.getD,h,h3]
theorem ready_all{ops:Array Oper}(he:earlier ops=true){listed:Array Bool}(hs:listed.size=ops.size)(hr:Region.ready .any ops listed=[]):∀i,i<ops.size->listed.getD i false=true:=by
 intro i;induction i using Nat.strongRecOn with
 | _ i ih =>
  intro hi;have hil:i<listed.size:=by omega
  cases hb:listed[i] with
  | true=>simp[Array.getD,hil,hb]
  | false =>
   have hready:i∈Region.ready .any ops listed:=mem_ready.2 ⟨by simp[Array.getD,hil,hb],ops[i],by simp[hi],λe hem hbd=>by
    obtain⟨h1,h2⟩:=earlier_rank he i ops[i] (by simp[hi]) e hem hbd;exact ih e.on h2 h1⟩
   rw[hr] at hready;cases hready
theorem getD_push_at{l:Array Bool}{i:Nat}(h:i=l.size):(l.push false).getD i true=false:=by
 subst h;simp[Array.getD]
theorem push_set{l:Array Bool}{i:Nat}(h:i<l.size):(l.setIfInBounds i true).push false=(l.push false).setIfInBounds i true:=by
 apply Array.toList_inj.1
 simp only[Array.toList_push,Array.toList_setIfInBounds];rw[List.set_append_left _ _ (by simpa using h)]
def allReach(ops:Array Oper)(n:Nat):Bool:=(List.range n).all λi=>reach ops i (n+1) n
theorem any_last{l:List Oper}{o:Oper}(hel:earlier l.toArray=true)(heo:earlier (l++[o]).toArray=true)(hre:allReach (l++[o]).toArray l.length=true)
  (hg:(l++[o]).all (λx=>x.guard.isNone)=true) {Qa:Act->Prop}
  (hQ:∀a w,C w->Qa a->wpOp P (l++[o]).toArray Q l.length (Q .normal) a w):
  ∀(fuel:Nat) (listed:Array Bool) (a:Act) (w:World),listed.size=l.length->(∀j oj,l[j]?=some oj->listed.getD j false=true->∀e∈oj.after,Region.binds .any e=true->listed.getD e.on false=true)->C w ->
   wpAnyQ P .any l.toArray C Qa fuel listed a->wpAny P .any (l++[o]).toArray Q (fuel+1) (listed.push false) a w:=by
 -- what is ready in the whole
 have hget:∀i,i<l.length->(l++[o]).toArray[i]?=l.toArray[i]?:=λi hi=>by simp[List.getElem?_append_left hi]
 have hlastop:(l++[o]).toArray[l.length]?=some o:=by simp
 have hlt:∀(listed:Array Bool),listed.size=l.length->∀i,i<l.length->(i∈Region.ready .any (l++[o]).toArray (listed.push false) ↔ i∈Region.ready .any l.toArray listed):=by
  intro listed hs i hi;rw[mem_ready,mem_ready,getD_push_lt (by omega),hget i hi];simp only[getD_push_false]
 have hlast:∀(listed:Array Bool),listed.size=l.length->(∀j oj,l[j]?=some oj->listed.getD j false=true->∀e∈oj.after,Region.binds .any e=true->listed.getD e.on false=true) ->
   l.length∈Region.ready .any (l++[o]).toArray (listed.push false)->∀i,i<l.length->listed.getD i false=true:=by
  intro listed hs hcl hr i hi;obtain⟨_,o',ho',hall⟩:=mem_ready.1 hr;rw[hlastop] at ho';injection ho' with ho';subst ho';simp only[getD_push_false] at hall;have h1:=(List.all_eq_true.1 hre) i (List.mem_range.2 hi);unfold reach at h1;rw[hlastop] at h1;simp only[List.any_eq_true,Bool.and_eq_true,Bool.or_eq_true,beq_iff_eq] at h1;obtain⟨e,he,hb,hor⟩:=h1;have hel2:=hall e (by simpa using he) hb;rcases hor with h|h
  ·rw[<-h];exact hel2
  ·refine reach_listed (ops:=(l++[o]).toArray) (λj oj hoj hj e' he' hb'=>?_) _ _ h hel2;by_cases hjl:j<l.length
   ·rw[hget j hjl] at hoj;exact hcl j oj (by simpa using hoj) hj e' he' hb'
   ·simp[Array.getD,hs,hjl] at hj
 have hdone:∀(listed:Array Bool),listed.size=l.length->(∀i,i<l.length->listed.getD i false=true)->Region.ready .any (l++[o]).toArray ((listed.push false).setIfInBounds l.length true)=[]:=by
  intro listed hs hall;cases hr:Region.ready .any (l++[o]).toArray ((listed.push false).setIfInBounds l.length true) with
  | nil=>rfl
  | cons j r =>
   exfalso
   have hj:j∈Region.ready .any (l++[o]).toArray ((listed.push false).setIfInBounds l.length true):=(by rw[hr];simp);obtain⟨h1,o',ho',_⟩:=mem_ready.1 hj;have hjs:=(Array.getElem?_eq_some_iff.1 ho').1;simp at hjs;by_cases e:j=l.length
   ·subst e;simp[Array.getD,hs] at h1
   ·have h2:=hall j (by omega);have hjl:j<listed.size:=(by omega);have h3:(listed.push false).getD j true=true:=by
     rw[getD_push_lt hjl];simp only[Array.getD,hjl,dif_pos] at h2 ⊢;exact h2
    have h4:((listed.push false).setIfInBounds l.length true).getD j true=(listed.push false).getD j true:=by
     have hjp:j<(listed.push false).size:=(by simp;omega);simp only[Array.getD,Array.size_setIfInBounds,hjp,dif_pos];exact Array.getElem_setIfInBounds_ne hjp (λx=>e x.symm)
    rw[h4,h3] at h1;cases h1
 have hempty:∀(listed:Array Bool),listed.size=l.length->Region.ready .any (l++[o]).toArray (listed.push false)=[]->False:=by
  intro listed hs hr;have h1:Region.ready .any l.toArray listed=[]:=by
   cases h:Region.ready .any l.toArray listed with
   | nil=>rfl
   | cons j r =>
    exfalso
    have hj:j∈Region.ready .any l.toArray listed:=(by rw[h];simp);have hjs:j<l.length:=by
     obtain⟨_,o',ho',_⟩:=mem_ready.1 hj;simpa using (Array.getElem?_eq_some_iff.1 ho').1
    have:=(hlt listed hs j hjs).2 hj
    rw[hr] at this;cases this
  have hall:=ready_all hel (by simpa using hs) h1;have h2:l.length∈Region.ready .any (l++[o]).toArray (listed.push false):=mem_ready.2 ⟨getD_push_at hs.symm,o,hlastop,λe he hb=>by
   rw[getD_push_false];obtain⟨_,h3⟩:=earlier_rank heo l.length o hlastop e he hb;exact hall e.on (by simpa using h3)⟩
  rw[hr] at h2;cases h2
 have hno:∀(x:Oper) (y:Nat->Option Bool),x∈l++[o]->Region.wanted x y=true:=by
  intro x y hx;have:=(List.all_eq_true.1 hg) x hx
  unfold Region.wanted;cases hx2:x.guard with
  | none=>rfl
  | some g=>rw[hx2] at this;cases this
 have hqop:∀(i:Nat) (K:Act->Prop) (a:Act),i<l.length->qOp P l.toArray C i K a->qOp P (l++[o]).toArray C i K a:=by
  intro i K a hi h;unfold qOp at *;rw[hget i hi];have hl:l.toArray[i]?=some l[i]:=by simp[hi]
  rw[hl] at h ⊢;have hm:l[i]∈l++[o]:=List.mem_append_left _ (List.getElem_mem hi);simp only[hno _ _ hm] at h ⊢;exact h
 intro fuel;induction fuel with
 | zero =>
  intro listed a w hs hcl hC h;have hall:=ready_all hel (by simpa using hs) h.1;refine⟨λhr=>(hempty listed hs hr).elim,λi hi=>?_⟩;have hil:i=l.length:=by
   by_cases e:i<l.length
   ·have:=(hlt listed hs i e).1 hi
    rw[h.1] at this;cases this
   ·obtain⟨_,o',ho',_⟩:=mem_ready.1 hi;have:=(Array.getElem?_eq_some_iff.1 ho').1
    simp at this;omega
  subst hil;exact wpOp_mono (λa' w' hq=>⟨hdone listed hs hall,hq⟩) (hQ a w hC h.2)
 | succ fuel ih =>
  intro listed a w hs hcl hC h;refine⟨λhr=>(hempty listed hs hr).elim,λi hi=>?_⟩;by_cases e:i<l.length
  ·have hr:=(hlt listed hs i e).1 hi;have hq:=h.2 i hr;refine wpOp_of_qOp hC (λa' w' hC' hK=>?_) (hqop i _ a e hq);have hcl2:∀j oj,l[j]?=some oj->(listed.setIfInBounds i true).getD j false=true->∀e∈oj.after,Region.binds .any e=true->(listed.setIfInBounds i true).getD e.on false=true:=by
    intro j oj hoj hj e' he' hb';by_cases hij:j=i
    ·subst hij;obtain⟨_,o',ho',hall⟩:=mem_ready.1 hr;have e1:o'=oj:=by
      have:l.toArray[j]?=some oj:=by simpa using hoj
      rw[this] at ho';injection ho' with h;exact h.symm
     subst e1;exact set_mono (hall e' he' hb')
    ·exact set_mono (hcl j oj hoj (set_true hj hij) e' he' hb')
   have:=ih (listed.setIfInBounds i true) a' w' (by simpa using hs) hcl2 hC' hK
   have e2:(listed.setIfInBounds i true).push false=(listed.push false).setIfInBounds i true:=push_set (by omega);rw[e2] at this;exact this
  ·have hil:i=l.length:=by
    obtain⟨_,o',ho',_⟩:=mem_ready.1 hi;have:=(Array.getElem?_eq_some_iff.1 ho').1
    simp at this;omega
   subst hil;have hall:=hlast listed hs hcl hi;have hr0:Region.ready .any l.toArray listed=[]:=by
    cases hrr:Region.ready .any l.toArray listed with
    | nil=>rfl
    | cons j r =>
     exfalso
     have hj:j∈Region.ready .any l.toArray listed:=(by rw[hrr];simp);obtain⟨h1,o',ho',_⟩:=mem_ready.1 hj;have hjl:j<l.length:=(by simpa using (Array.getElem?_eq_some_iff.1 ho').1);have h2:=hall j hjl;have hjs:j<listed.size:=(by omega);simp only[Array.getD,hjs,dif_pos] at h1 h2;rw[h2] at h1;cases h1
   exact wpOp_mono (λa' w' hq=>⟨λ_=>hq,λi hi=>by rw[hdone listed hs hall] at hi;cases hi⟩) (hQ a w hC (h.1 hr0))
theorem wp_region_last{id:Nat}{a:Act}{w:World}(ops:List Oper)(l:List Oper)(o:Oper)(hsp:ops=l++[o])(hm:P.follows .mixedOrders=true)(hB:Region.lexB .any l.toArray=true)(hel:earlier l.toArray=true)(heo:earlier ops.toArray=true)
  (hre:allReach ops.toArray l.length=true) (hg:ops.all (λx=>x.guard.isNone)=true)
  (h:wpQuiet P l.toArray (λw'=>∃n,w'=w.drewN n) (λa'=>∀w',(∃n,w'=w.drewN n)->wpOp P ops.toArray Q l.length (Q .normal) a' w') l a):(Code.region id ops.toArray true).wp P Q a w:=by
 subst hsp;simp only[Region.lexB,Bool.and_eq_true] at hB;refine wp_region_any hm ?_;have h1:=wpAnyQ_lex (C:=λw'=>∃n,w'=w.drewN n) (md:=.any) hB.1 l 0 (Array.replicate l.length false) a (by simp) (by simpa using hB.2) h;have h2:=any_last (C:=λw'=>∃n,w'=w.drewN n) (Q:=Q) hel heo hre hg (λa w' hw hq=>hq w' hw) l.length (Array.replicate l.length false) a { w with drawn:=w.drawn+1 } (by simp) (λj oj _ hj=>by simp[Array.getD] at hj) ⟨1,rfl⟩ h1;have e:(Array.replicate l.length false).push false=Array.replicate (l++[o]).toArray.size false:=by
  rw[<-Array.replicate_succ];simp
 rw[e] at h2;simpa using h2
end
end Go.Proofs.YtcfblkkpclfmaaaGreat
