/- Part 1 of the proof of FnRead (Frame, Laws, Base, Flt, Val). No condition is laid on the statement. -/
import Derived.WalkKit
import Derived.Deep.Draws
import Derived.Laws.IdiomCopy
import Derived.Laws.CopyRow
import Derived.Lib.Hide
import Derived.OrdersHeld
import Derived.Deep.RegionHeld
import Derived.KernelRfl
import Derived.Laws.Panics
import Derived.Laws.BytesArg
import Derived.WalkLawsBesides
import Derived.WalkSpells
import GoSem.Op.Equal
set_option linter.unusedVariables false
set_option linter.unusedSimpArgs false
set_option maxRecDepth 100000
set_option maxHeartbeats 16000000
namespace Go.Proofs.YtcfblkkpclfmaaaGreat
open Go.RowKit
theorem zA{α:Type}(l:List α)(i:Nat)(a:α):l.toArray.setIfInBounds i a=(l.set i a).toArray:=List.setIfInBounds_toArray l i a
theorem zB{α:Type}(a:α)(l:List α)(b:α):(a::l).set 0 b=b::l:=rfl
theorem zC{α:Type}(a:α)(l:List α)(i:Nat)(b:α):(a::l).set (i+1) b=a::l.set i b:=rfl
theorem Hd{p:Prop}(h:p):RowKit.Hid p:=h
theorem kr{α:Type}{a b:α}(h:a=b:=by kernel_rfl):a=b:=h
theorem exA{α:Type}(a:α):∃x,x=a:=⟨a,rfl⟩
theorem tk{P:Program}{ops:Array Oper}{Q:Exit->Act->World->Prop}{md:Region.Mode}{S:World->Prop}(i:Nat)(v:Value){oi:Oper}{fuel:Nat}{listed:Array Bool}{a:Act}{w:World}(hi:ops[i]?=some oi)(hy:∀w,S w->(execOp a.eval oi).run P w=.ok (.value v) w)(h:wpAnyH P md ops Q S fuel (listed.setIfInBounds i true) (a.put oi.dst v) w)(hs:Region.noSelect ops=true:=by kernel_rfl)(hf:Region.free md ops listed i=true:=by kernel_rfl)(hr:(Region.ready md ops listed).contains i=true:=by kernel_rfl)(hw:Region.wanted oi (yielded ops a.tmps)=true:=by kernel_rfl)(hQ:∀c a w,Q (.panic c) (a.put oi.dst v) w->Q (.panic c) a w:=by exact λ_ _ _ h=>h)(hS:S w:=by assumption):wpAnyH P md ops Q S (fuel+1) listed a w:=wpAnyH_take hi hs hf hr hQ (Or.inl ⟨hw,hy⟩) hS h
theorem rd{P:Program}{ops:Array Oper}{Q:Exit->Act->World->Prop}{md:Region.Mode}{S:World->Prop}(i:Nat){o:Oper}{fuel:Nat}{listed:Array Bool}{a:Act}{w:World}(ho:ops[i]?=some o)(h:∀K':Act->World->Prop,Shut (∀a w,S w->(S w->wpAnyH P md ops Q S fuel (listed.setIfInBounds i true) a w)->K' a w)->if Region.wanted o (yielded ops a.tmps)=true then Oper.wp P o a w K' Q else K' (a.put o.dst undef) w)(hr:Region.ready md ops listed=[i]:=by kernel_rfl):wpAnyH P md ops Q S (fuel+1) listed a w:=wpAnyH_ready (rs:=[i]) hr (by simp) (AllReadyH.cons ho h AllReadyH.nil)
structure Fr(S:Nat->Prop)(w w':World):Prop where
 os:w'.os=w.os
 tape:w'.tape=w.tape
 output:w'.output=w.output
 size:w.heap.size<=w'.heap.size
 block:∀k,k<w.heap.size->¬S k->w'.heap[k]?=w.heap[k]?
theorem Fr.refl(S:Nat->Prop)(w:World):Fr S w w:=⟨rfl,rfl,rfl,Nat.le_refl _,λ_ _ _=>rfl⟩
theorem Fr.trans{S:Nat->Prop}{a b c:World}(h:Fr S a b)(k:Fr S b c):Fr S a c :=
 ⟨k.os.trans h.os,k.tape.trans h.tape,k.output.trans h.output,Nat.le_trans h.size k.size,
  λi hi hs=>(k.block i (Nat.lt_of_lt_of_le hi h.size) hs).trans (h.block i hi hs)⟩
theorem Fr.trans2{S S':Nat->Prop}{a b c:World}(h:Fr S a b)(k:Fr S' b c)(hs:∀i,i<a.heap.size->S' i->S i):Fr S a c :=
 ⟨k.os.trans h.os,k.tape.trans h.tape,k.output.trans h.output,Nat.le_trans h.size k.size,
  λi hi hn=>(k.block i (Nat.lt_of_lt_of_le hi h.size) (λx=>hn (hs i hi x))).trans (h.block i hi hn)⟩
theorem Fr.mono{S S':Nat->Prop}{a b:World}(h:Fr S a b)(hs:∀i,i<a.heap.size->S i->S' i):Fr S' a b :=
 ⟨h.os,h.tape,h.output,h.size,λi hi hn=>h.block i hi (λx=>hn (hs i hi x))⟩
theorem Fr.drew{S:Nat->Prop}{a b:World}(h:Fr S a b):Fr S a b.drew:=⟨h.os,h.tape,h.output,h.size,h.block⟩
theorem Fr.drewN{S:Nat->Prop}{a b:World}(h:Fr S a b)(n:Nat):Fr S a (b.drewN n):=⟨h.os,h.tape,h.output,h.size,h.block⟩
theorem Fr.fromDrew{S:Nat->Prop}{a b:World}(h:Fr S a.drew b):Fr S a b:=⟨h.os,h.tape,h.output,h.size,h.block⟩
theorem Fr.fromDrewN{S:Nat->Prop}{a b:World}{n:Nat}(h:Fr S (a.drewN n) b):Fr S a b:=⟨h.os,h.tape,h.output,h.size,h.block⟩
theorem Fr.alloc{S:Nat->Prop}{a b:World}(h:Fr S a b)(o:Obj):Fr S a (b.alloc o) :=
 h.trans ⟨rfl,rfl,rfl,by simp,λk hk _=>Below.heap_alloc _ _ _ hk⟩
theorem Fr.setCell{S:Nat->Prop}{a b:World}(h:Fr S a b){p:Addr}(hp:p.block<a.heap.size->S p.block)(u:Value):Fr S a (b.setCell p u):=by
 refine⟨h.os,h.tape,h.output,by simpa [World.setCell] using h.size,λk hk hn=>?_⟩;rw[Below.heap_setCell _ _ _ _ (by intro e;subst e;exact hn (hp hk))];exact h.block k hk hn
theorem Fr.set1(w:World)(b o:Nat)(v:Value):Fr (λx=>x=b) w (w.setCell ⟨b,o,none⟩ v):=Fr.setCell (S:=λx=>x=b) (Fr.refl _ _) (λ_=>rfl) v
theorem Fr.below{S:Nat->Prop}{B:Nat}{a b:World}(h:Fr S a b)(hB:B<=a.heap.size)(hs:∀k,k<B->¬S k):Below B a b :=
 ⟨h.os,h.tape,h.output,h.size,λk hk=>h.block k (Nat.lt_of_lt_of_le hk hB) (hs k hk)⟩
abbrev Fr0(w w':World):Prop:=Fr (λ_=>False) w w'
theorem Fr0.below{a b:World}(h:Fr0 a b):Below a.heap.size a b:=Fr.below h (Nat.le_refl _) (λ_ _ x=>x)
theorem Fr.cell{S:Nat->Prop}{a b:World}(h:Fr S a b){p:Addr}(hp:p.block<a.heap.size)(hs:¬S p.block):b.cell? p=a.cell? p :=
 World.cell?_of_block (w:=a) (h.block p.block hp hs)
theorem Fr.frozen{S:Nat->Prop}{a b:World}(h:Fr S a b){p:Addr}(hp:p.block<a.heap.size)(hs:¬S p.block):b.frozen? p=a.frozen? p :=
 World.frozen?_of_block (w:=a) (h.block p.block hp hs)
theorem cell_of{w:World}{b:Nat}{c:Array Value}{t:TypeId}{fr:Nat × Nat}(h:w.heap[b]?=some (.cells c t fr))(i:Nat):w.cell? ⟨b,i,none⟩=c[i]?:=by
 simp[World.cell?,h]
theorem frozen_of{w:World}{b:Nat}{c:Array Value}{t:TypeId}(h:w.heap[b]?=some (.cells c t (0,0)))(i:Nat):w.frozen? ⟨b,i,none⟩=false:=by
 simp[World.frozen?,h]
theorem lt_of_block{w:World}{b:Nat}{o:Obj}(h:w.heap[b]?=some o):b<w.heap.size:=(Array.getElem?_eq_some_iff.1 h).1
theorem heap_alloc_new(w:World)(o:Obj):(w.alloc o).heap[w.heap.size]?=some o:=by
 show (w.heap.push o)[w.heap.size]?=_;simp
theorem heap_setCell_same{w:World}{b:Nat}{c:Array Value}{t:TypeId}{fr:Nat × Nat}(h:w.heap[b]?=some (.cells c t fr))(i:Nat)(v:Value):
  (w.setCell ⟨b,i,none⟩ v).heap[b]?=some (.cells (c.setIfInBounds i v) t fr):=by
 simp[World.setCell,Array.getElem?_modify,h]
theorem heap_setCell_other(w:World)(a:Addr)(u:Value)(k:Nat)(h:k≠a.block):(w.setCell a u).heap[k]?=w.heap[k]?:=Below.heap_setCell w a u k h
theorem heap_alloc_old(w:World)(o:Obj)(k:Nat)(h:k<w.heap.size):(w.alloc o).heap[k]?=w.heap[k]?:=Below.heap_alloc w o k h
theorem heap_alloc_get(w:World)(o:Obj)(k:Nat):(w.alloc o).heap[k]?=if k=w.heap.size then some o else w.heap[k]?:=by
 show (w.heap.push o)[k]?=_;rw[Array.getElem?_push]
theorem size_alloc(w:World)(o:Obj):(w.alloc o).heap.size=w.heap.size+1:=by simp
theorem setCell_setCell(w:World)(a:Addr)(u v:Value):(w.setCell a u).setCell a v=w.setCell a v:=by
 unfold World.setCell;congr 1
 apply Array.ext
 ·simp
 ·intro i h1 h2;simp only[Array.getElem_modify];split
  ·cases hx:w.heap[i]'(by simpa using h1)<;>simp
   split<;>simp
  ·rfl
def splice(c:Array Value)(o:Nat)(vs:List Value):Array Value:=(c.toList.take o++vs++c.toList.drop (o+vs.length)).toArray
theorem splice_nil(c:Array Value)(o:Nat):splice c o []=c:=by simp[splice]
theorem splice_size(c:Array Value)(o:Nat)(vs:List Value)(h:o+vs.length<=c.size):(splice c o vs).size=c.size:=by
 simp[splice];omega
theorem splice_cons(c:Array Value)(o:Nat)(v:Value)(vs:List Value)(h:o+(vs.length+1)<=c.size):splice (c.setIfInBounds o v) (o+1) vs=splice c o (v::vs):=by
 have e:=list_seg_step c.toList o v vs (by simpa using h);simp only[splice,Array.toList_setIfInBounds,List.length_cons];exact congrArg List.toArray e
theorem heap_setCells_same{b:Nat}{t:TypeId}{fr:Nat × Nat}:∀(vs:List Value) (o:Nat) (c:Array Value) (w:World),w.heap[b]?=some (.cells c t fr)->o+vs.length<=c.size ->
  (w.setCells b o vs).heap[b]?=some (.cells (splice c o vs) t fr)
 | [],o,c,w,h,_=>by rw[splice_nil];exact h
 | v::r,o,c,w,h,hs=>by
  have ih:=heap_setCells_same r (o+1) (c.setIfInBounds o v) (w.setCell ⟨b,o,none⟩ v) (heap_setCell_same h o v) (by simp at hs ⊢;omega);rw[splice_cons _ _ _ _ (by simpa using hs)] at ih;exact ih
theorem heap_setCells_other{b:Nat}(k:Nat)(hk:k≠b):∀(vs:List Value) (o:Nat) (w:World),(w.setCells b o vs).heap[k]?=w.heap[k]?
 | [],_,_=>rfl
 | v::r,o,w=>by
  show ((w.setCell ⟨b,o,none⟩ v).setCells b (o+1) r).heap[k]?=_;rw[heap_setCells_other k hk r,heap_setCell_other _ _ _ _ hk]
theorem setCells_size{b:Nat}:∀(vs:List Value) (o:Nat) (w:World),(w.setCells b o vs).heap.size=w.heap.size
 | [],_,_=>rfl
 | v::r,o,w=>by
  show ((w.setCell ⟨b,o,none⟩ v).setCells b (o+1) r).heap.size=_;rw[setCells_size r];simp[World.setCell]
theorem setCells_rest{b:Nat}:∀(vs:List Value) (o:Nat) (w:World),(w.setCells b o vs).os=w.os/\(w.setCells b o vs).tape=w.tape/\(w.setCells b o vs).output=w.output
 | [],_,_=>⟨rfl,rfl,rfl⟩
 | v::r,o,w=>setCells_rest r (o+1) (w.setCell ⟨b,o,none⟩ v)
theorem Fr.setCells{S:Nat->Prop}{a w:World}(h:Fr S a w){b:Nat}(hb:b<a.heap.size->S b)(o:Nat)(vs:List Value):Fr S a (w.setCells b o vs):=by
 obtain⟨e1,e2,e3⟩:=setCells_rest (b:=b) vs o w;refine⟨e1.trans h.os,e2.trans h.tape,e3.trans h.output,by rw[setCells_size];exact h.size,λk hk hn=>?_⟩;rw[heap_setCells_other k (by intro e;subst e;exact hn (hb hk))];exact h.block k hk hn
def cellsOf(l:List UInt8):List Value:=l.map λb=>.int .u8 b.toNat
theorem cellsOf_length(l:List UInt8):(cellsOf l).length=l.length:=by simp[cellsOf]
theorem cellsOf_one(l:List UInt8):∀v∈cellsOf l,v.oneCell'=true:=by
 intro v hv;simp[cellsOf] at hv;obtain⟨b,_,rfl⟩:=hv;rfl
theorem run_copy_string{P:Program}(w:World)(dT sT ty elem:TypeId)(g o dLen dCap:Nat)(s:ByteArray)(cur:Array Value)(t:TypeId)
  (hu:P.underlying dT=some (.slice elem)) (hs:(P.info? elem).map (·.size)=some 1)
  (hg:w.heap[g]?=some (.cells cur t (0,0))) (hfit:o+min s.size dLen<=cur.size):
  (Builtin.copy_ #[dT,sT] ty #[.slice (some ⟨g,o,none⟩) dLen dCap,.string s]).run P w =
   .ok (goInt (min s.size dLen:Nat)) (w.setRow g (cur.toList.take o++cellsOf (s.data.toList.take (min s.size dLen))++cur.toList.drop (o+min s.size dLen)).toArray):=by
 have hlen:(cellsOf (s.data.toList.take (min s.size dLen))).length=min s.size dLen:=by
  simp[cellsOf]
 have hst:=run_storeCells_at P g o t (cellsOf (s.data.toList.take (min s.size dLen))) 0 cur w hg (by rw[hlen];omega) (cellsOf_one _);rw[hlen] at hst;cases hq:P.info? elem with
 | none=>simp[hq] at hs
 | some i =>
  have hi:i.size=1:=by simpa [hq] using hs
  simp only[Nat.add_zero] at hst;have hmin:Nat.min s.size dLen=min s.size dLen:=rfl;have hst2:=hst;simp only[cellsOf,List.map_take] at hst2;simp[Builtin.copy_,Builtin.lenOf,Builtin.firstCells,sizeOf,typeInfo,run_underlying hu,hq,hmin,hst2,cellsOf,List.map_take]
theorem run_bounds{P:Program}(w:World){α:Type}(k:IntKind)(x y:Int)(code:BoundsCode):
  ∃u v n,(boundsPanic k x y code:Sem α).run P w=.halt (.panic (.iface u v)) (w.drewN n):=by
 unfold boundsPanic;split
 ·refine⟨P.rt.boundsError,?_,1,?_⟩;rotate_left
  ·simp[runtimePanic,goPanic,go_sem,World.drewN];rfl
 ·refine⟨P.rt.boundsError,?_,0,?_⟩;rotate_left
  ·simp[runtimePanic,goPanic,go_sem,World.drewN];rfl
theorem elem_of{P:Program}{t e:TypeId}(h:P.underlying t=some (.slice e)):P.elem t=e:=by simp[Program.elem,h]
theorem run_index_out{P:Program}(w:World)(t:TypeId)(a0:Option Addr)(len cap:Nat)(k:IntKind)(i:Int){e:TypeId}(h0:P.underlying t=some (.slice e))(hnil:a0=none->len=0)(ho:i<0\/(len:Int)<=i):
  ∃u v n,(Instr.indexAt t (.slice a0 len cap) (.int k i)).run P w=.halt (.panic (.iface u v)) (w.drewN n):=by
 have h:P.underlying t=some (.slice (P.elem t)):=by rw[elem_of h0];exact h0
 cases a0 with
 | some a =>
  rw[run_indexAt_slice (h:=h),if_neg (by omega)];exact run_bounds w k i len .index
 | none =>
  obtain rfl:=hnil rfl;have e:(Instr.indexAt t (.slice none 0 cap) (.int k i)).run P w=(boundsPanic k i 0 .index).run P w:=by
   simp[Instr.indexAt,run_underlying h,asIntOf]
  rw[e];exact run_bounds w k i 0 .index
def Mem (w:World)(b off:Nat)(l:List UInt8):Prop:=∀i x,l[i]?=some x->w.cell? ⟨b,off+i,none⟩=some (.int .u8 x.toNat)
theorem Mem.drop{w:World}{b off:Nat}{l:List UInt8}(h:Mem w b off l)(k:Nat):Mem w b (off+k) (l.drop k):=λi x hx=>by
 rw[List.getElem?_drop] at hx;have:=h _ _ hx
 rwa [Nat.add_assoc]
theorem Mem.of_block{w:World}{b:Nat}{l:List UInt8}{t:TypeId}{fr:Nat × Nat}(h:w.heap[b]?=some (.cells (cellsOf l).toArray t fr)):Mem w b 0 l:=λi x hx=>by
 rw[cell_of h,Nat.zero_add];simp[cellsOf,hx]
def strOf(l:List UInt8):ByteArray:=⟨l.toArray⟩
theorem strOf_size(l:List UInt8):(strOf l).size=l.length:=by simp[strOf,ByteArray.size]
theorem run_bytes_string{P:Program}{w:World}{b off len cap:Nat}{l:List UInt8}(hm:Mem w b off l)(hlen:l.length=len){src e dst:TypeId}(hs:P.underlying src=some (.slice e))(he:P.underlying e=some (.int .u8))(hd:P.underlying dst=some .string):
  (convert src dst (.slice (some ⟨b,off,none⟩) len cap)).run P w=.ok (.string (strOf l)) w:=by
 have h:=run_convert_bytes_arg (P:=P) w src e hs he b off len cap (l.map λx=>(x.toNat:Int)) (by simpa using hlen) (λi hi=>by
  have hl:i<l.length:=by omega
  have:=hm i l[i] (by simp[hl])
  rw[this];simp[List.getD,hl]) dst hd
 have e:strOfNums (l.map λx=>(x.toNat:Int))=strOf l:=by
  unfold strOfNums strOf;congr 2
  rw[List.map_map];conv=>rhs;rw[<-List.map_id l]
  apply List.map_congr_left
  intro x _;apply UInt8.toNat_inj.1
  simp
 rw[e] at h;exact h
def le:List UInt8->Nat
 | []=>0
 | x::r=>x.toNat+256*le r
theorem le_lt(l:List UInt8):le l<2^(8*l.length):=by
 induction l with
 | nil=>simp[le]
 | cons x r ih =>
  have:=x.toNat_lt
  have e:2^(8*(x::r).length)=256*2^(8*r.length):=by
   rw[List.length_cons,Nat.mul_add,Nat.pow_add];omega
  rw[e,le];omega
def leB:Nat->Nat->List UInt8
 | 0,_=>[]
 | k+1,n=>UInt8.ofNat n::leB k (n / 256)
theorem leB_length(k n:Nat):(leB k n).length=k:=by
 induction k generalizing n with
 | zero=>rfl
 | succ k ih=>simp[leB,ih]
theorem le_leB(k n:Nat):le (leB k n)=n%2^(8*k):=by
 induction k generalizing n with
 | zero=>simp[leB,le,Nat.mod_one]
 | succ k ih =>
  have e:2^(8*(k+1))=256*2^(8*k):=by rw[Nat.mul_add,Nat.pow_add];omega
  rw[leB,le,ih,e,Nat.mod_mul];simp
theorem leB_le(l:List UInt8):leB l.length (le l)=l:=by
 induction l with
 | nil=>rfl
 | cons x r ih =>
  have h:(x.toNat+256*le r) / 256=le r:=by have:=x.toNat_lt;omega
  rw[List.length_cons,leB,le,h,ih];congr 1
  apply UInt8.toNat_inj.1
  simp
def numSize(k:Int):Nat :=
 if k=0\/k=1\/k=2\/k=32 then 1
 else if k=3\/k=4\/k=35 then 2
 else if k=5\/k=6\/k=9\/k=33\/k=34 then 4
 else if k=7\/k=8\/k=10 then 8
 else 0
theorem numSize_le(k:Int):numSize k<=8:=by
 unfold numSize;split<;>(try split)<;>(try split)<;>(try split)<;>omega
def numB (k:Int)(n:Nat):List UInt8:=leB (numSize k) (if k=0/\n≠0 then 1 else n)
theorem numB_length(k:Int)(n:Nat):(numB k n).length=numSize k:=leB_length _ _
def numVal(k:Int)(n:Nat):Nat:=if k=0 then (if n=1 then 1 else 0) else n
theorem wrap_u64_nat(z:Nat)(h:z<2^64):IntKind.u64.wrap (z:Int)=z:=by
 simp[IntKind.wrap,IntKind.bits,IntKind.signed];omega
def leI:Nat->Int->List UInt8
 | 0,_=>[]
 | k+1,x=>UInt8.ofNat (x%256).toNat::leI k (x / 256)
theorem leI_length(k:Nat)(x:Int):(leI k x).length=k:=by
 induction k generalizing x with
 | zero=>rfl
 | succ k ih=>simp[leI,ih]
theorem leI_nat(k n:Nat):leI k (n:Int)=leB k n:=by
 induction k generalizing n with
 | zero=>rfl
 | succ k ih =>
  have e:(n:Int) / 256=((n / 256:Nat):Int):=by omega
  rw[leI,leB,e,ih];congr 1
  apply UInt8.toNat_inj.1
  simp;omega
theorem leI_congr(k:Nat){x y:Int}(h:x%2^(8*k)=y%2^(8*k)):leI k x=leI k y:=by
 induction k generalizing x y with
 | zero=>rfl
 | succ k ih =>
  have e:(2:Int)^(8*(k+1))=256*2^(8*k):=by rw[Nat.mul_add,Int.pow_add];omega
  rw[e] at h;rw[leI,leI];have hx:x%256=y%256:=by
   have h1:=congrArg (λz:Int=>z%256) h;rw[Int.emod_emod_of_dvd _ (Int.dvd_mul_right _ _),Int.emod_emod_of_dvd _ (Int.dvd_mul_right _ _)] at h1;exact h1
  have hq:(x / 256)%2^(8*k)=(y / 256)%2^(8*k):=by
   have e1:=Int.mul_ediv_add_emod x 256;have e2:=Int.mul_ediv_add_emod y 256;have hd:(256*2^(8*k):Int) ∣ x-y:=Int.dvd_of_emod_eq_zero (by rw[Int.sub_emod,h];simp);have h3:x-y=256*(x / 256-y / 256):=(by rw[Int.mul_sub];omega);rw[h3] at hd;have h4:(2^(8*k):Int) ∣ (x / 256-y / 256):=Int.dvd_of_mul_dvd_mul_left (by decide) hd;have h5:=Int.emod_eq_zero_of_dvd h4;exact Int.emod_eq_emod_iff_emod_sub_eq_zero.2 h5
  rw[hx,ih hq]
theorem byteI(x:Int):((UInt8.ofNat (x%256).toNat).toNat:Int)=x%256:=by
 have:(x%256).toNat<256:=by omega
 rw[UInt8.toNat_ofNat'];omega
/-! How Go's 'or' and conversions put bytes together, at any kind of integers. -/
theorem wrap_emod(k:IntKind)(n:Int):(k.wrap n)%2^k.bits=n%2^k.bits:=by
 unfold IntKind.wrap;simp only;split
 ·rw[Int.sub_emod_right,Int.emod_emod]
 ·rw[Int.emod_emod]
theorem wrap_congr(k:IntKind){m n:Int}(h:m%2^k.bits=n%2^k.bits):k.wrap m=k.wrap n:=by
 unfold IntKind.wrap;rw[h]
theorem ofInt_congr(k:IntKind){m n:Int}(h:m%2^k.bits=n%2^k.bits):BitVec.ofInt k.bits m=BitVec.ofInt k.bits n:=by
 apply BitVec.eq_of_toNat_eq
 simp only[BitVec.toNat_ofInt];have e:((2^k.bits:Nat):Int)=2^k.bits:=by simp
 rw[e,h]
theorem bits_or_nat(k:IntKind)(a b:Nat):bits .or k a b=k.wrap ((a ||| b:Nat):Int):=by
 simp only[bits,BitVec.ofInt_natCast,BitVec.toNat_or,BitVec.toNat_ofNat];apply wrap_congr
 rw[<-Nat.or_mod_two_pow];simp
theorem bits_or_wrap(k:IntKind)(x y:Int):bits .or k x (k.wrap y)=bits .or k x y:=by
 simp only[bits];rw[ofInt_congr k (wrap_emod k y)]
theorem bits_wrap_or(k:IntKind)(x y:Int):bits .or k (k.wrap x) y=bits .or k x y:=by
 simp only[bits];rw[ofInt_congr k (wrap_emod k x)]
theorem or_above(k:IntKind)(a b c j:Nat)(hc:c=2^j)(h:a<c):bits .or k (k.wrap a) ((b:Int)*(c:Int))=k.wrap ((a+b*c:Nat):Int):=by
 subst hc;rw[bits_wrap_or,<-Int.natCast_mul,bits_or_nat];congr 2
 rw[Nat.mul_comm,Nat.or_comm,<-Nat.two_pow_add_eq_or_of_lt h,Nat.add_comm]
theorem or_zero(k:IntKind)(a:Nat):bits .or k 0 a=k.wrap (a:Int):=by
 have:=bits_or_nat k 0 a
 simpa using this
theorem le2(x0 x1:UInt8):le [x0,x1]=x0.toNat+x1.toNat*256:=by simp only[le];omega
theorem le4(x0 x1 x2 x3:UInt8):le [x0,x1,x2,x3]=x0.toNat+x1.toNat*256+x2.toNat*65536+x3.toNat*16777216:=by simp only[le];omega
theorem le8(x0 x1 x2 x3 x4 x5 x6 x7:UInt8):le [x0,x1,x2,x3,x4,x5,x6,x7]=x0.toNat+x1.toNat*256+x2.toNat*65536+x3.toNat*16777216+x4.toNat*4294967296+x5.toNat*1099511627776+x6.toNat*281474976710656+x7.toNat*72057594037927936:=by simp only[le];omega
theorem or2(k:IntKind)(x0 x1:UInt8):bits .or k (k.wrap (x0.toNat:Int)) ((x1.toNat:Int)*256)=k.wrap ((x0.toNat+x1.toNat*256:Nat):Int):=by
 have:=x0.toNat_lt
 exact or_above k x0.toNat x1.toNat 256 8 rfl (by omega)
theorem or4(k:IntKind)(x0 x1 x2 x3:UInt8):bits .or k (bits .or k (bits .or k (k.wrap (x0.toNat:Int)) ((x1.toNat:Int)*256)) ((x2.toNat:Int)*65536)) ((x3.toNat:Int)*16777216)=k.wrap ((le [x0,x1,x2,x3]:Nat):Int):=by
 have:=x0.toNat_lt;have:=x1.toNat_lt;have:=x2.toNat_lt
 have h2:=or_above k (x0.toNat+x1.toNat*256) x2.toNat 65536 16 rfl (by omega);have h3:=or_above k (x0.toNat+x1.toNat*256+x2.toNat*65536) x3.toNat 16777216 24 rfl (by omega);rw[or2];refine (congrArg (λz=>bits .or k z ((x3.toNat:Int)*16777216)) h2).trans ?_;refine h3.trans ?_;rw[le4]
theorem or8(k:IntKind)(x0 x1 x2 x3 x4 x5 x6 x7:UInt8):
  bits .or k (bits .or k (bits .or k (bits .or k (bits .or k (bits .or k (bits .or k (k.wrap (x0.toNat:Int)) ((x1.toNat:Int)*256)) ((x2.toNat:Int)*65536)) ((x3.toNat:Int)*16777216)) ((x4.toNat:Int)*4294967296)) ((x5.toNat:Int)*1099511627776)) ((x6.toNat:Int)*281474976710656)) ((x7.toNat:Int)*72057594037927936)=k.wrap ((le [x0,x1,x2,x3,x4,x5,x6,x7]:Nat):Int):=by
 have:=x0.toNat_lt;have:=x1.toNat_lt;have:=x2.toNat_lt;have:=x3.toNat_lt;have:=x4.toNat_lt;have:=x5.toNat_lt;have:=x6.toNat_lt
 rw[or4,le4];refine (congrArg (λz=>bits .or k (bits .or k (bits .or k z ((x5.toNat:Int)*1099511627776)) ((x6.toNat:Int)*281474976710656)) ((x7.toNat:Int)*72057594037927936)) (or_above k _ x4.toNat 4294967296 32 rfl (by omega))).trans ?_;refine (congrArg (λz=>bits .or k (bits .or k z ((x6.toNat:Int)*281474976710656)) ((x7.toNat:Int)*72057594037927936)) (or_above k _ x5.toNat 1099511627776 40 rfl (by omega))).trans ?_;refine (congrArg (λz=>bits .or k z ((x7.toNat:Int)*72057594037927936)) (or_above k _ x6.toNat 281474976710656 48 rfl (by omega))).trans ?_;refine (or_above k _ x7.toNat 72057594037927936 56 rfl (by omega)).trans ?_;rw[le8]
end Go.Proofs.YtcfblkkpclfmaaaGreat
namespace Go.Proofs.YtcfblkkpclfmaaaGreat
open Ieee
theorem val_inj(B:Nat)(hB:0<B)(r q:Nat)(hr:B<=r)(hq:B<=q)(h:(B+r%B)*2^(r / B-1)=(B+q%B)*2^(q / B-1)):r=q:=by
 have key:∀r q:Nat,B<=r->B<=q->r / B<q / B->(B+r%B)*2^(r / B-1)<(B+q%B)*2^(q / B-1):=by
  intro r q hr hq hlt;have h1:1<=r / B:=(Nat.one_le_div_iff hB).2 hr;have hrm:=Nat.mod_lt r hB;have e1:(B+r%B)*2^(r / B-1)<(2*B)*2^(r / B-1):=(Nat.mul_lt_mul_right (Nat.two_pow_pos _)).2 (by omega);have e2:(2*B)*2^(r / B-1)=B*2^(r / B):=by
   rw[show r / B=(r / B-1)+1 by omega,Nat.pow_succ];simp only[Nat.add_sub_cancel];rw[Nat.mul_comm 2 B,Nat.mul_assoc,Nat.mul_comm 2]
  have e3:B*2^(r / B)<=B*2^(q / B-1):=Nat.mul_le_mul_left _ (Nat.pow_le_pow_right (by omega) (by omega));have e4:B*2^(q / B-1)<=(B+q%B)*2^(q / B-1):=Nat.mul_le_mul_right _ (by omega);omega
 by_cases hlt:r / B<q / B
 ·have:=key r q hr hq hlt;omega
 ·by_cases hgt:q / B<r / B
  ·have:=key q r hq hr hgt;omega
  ·have he:r / B=q / B:=by omega
   rw[he] at h;have:=Nat.eq_of_mul_eq_mul_right (Nat.two_pow_pos _) h
   have h1:=Nat.div_add_mod r B;have h2:=Nat.div_add_mod q B;rw[he] at h1;omega
theorem val_lt(B:Nat)(hB:0<B)(r q:Nat)(hr:r<B)(hq:B<=q):r<(B+q%B)*2^(q / B-1):=by
 have:B*1<=(B+q%B)*2^(q / B-1):=Nat.mul_le_mul (by omega) (Nat.two_pow_pos _)
 omega
def fval (B r:Nat):Nat:=if r<B then r else (B+r%B)*2^(r / B-1)
theorem fval_inj(B:Nat)(hB:0<B)(r q:Nat)(h:fval B r=fval B q):r=q:=by
 unfold fval at h;split at h<;>split at h
 ·exact h
 ·have:=val_lt B hB r q (by omega) (by omega);omega
 ·have:=val_lt B hB q r (by omega) (by omega);omega
 ·exact val_inj B hB r q (by omega) (by omega) h
theorem scale_eq(m n a b:Nat):(m <<< (a-min a b)=n <<< (b-min a b)) ↔ m*2^a=n*2^b:=by
 rw[Nat.shiftLeft_eq,Nat.shiftLeft_eq];have ha:2^a=2^(a-min a b)*2^(min a b):=by rw[<-Nat.pow_add];congr 1;omega
 have hb:2^b=2^(b-min a b)*2^(min a b):=by rw[<-Nat.pow_add];congr 1;omega
 rw[ha,hb,<-Nat.mul_assoc,<-Nat.mul_assoc];exact⟨λh=>by rw[h],λh=>Nat.eq_of_mul_eq_mul_right (Nat.two_pow_pos _) h⟩
theorem signed_eq(s t:Bool)(x y:Nat):((if s then -(x:Int) else (x:Int))=(if t then -(y:Int) else (y:Int))) ↔ (x=y/\(s=t\/x=0)):=by
 cases s<;>cases t<;>simp<;>omega
theorem num_order(s t:Bool)(m n a b:Nat)(lp:Int):((Datum.number s m (lp+a)).order (.number t n (lp+b))==some .eq)=decide (m*2^a=n*2^b/\(s=t\/m=0)):=by
 have e1:(lp+(a:Int)-min (lp+a) (lp+b)).toNat=a-min a b:=by omega
 have e2:(lp+(b:Int)-min (lp+a) (lp+b)).toNat=b-min a b:=by omega
 simp only[Datum.order,signed];rw[e1,e2];have hs:=signed_eq s t (m <<< (a-min a b)) (n <<< (b-min a b));rw[scale_eq] at hs;have hz:(m <<< (a-min a b)=0) ↔ m=0:=by
  rw[Nat.shiftLeft_eq];have:=Nat.two_pow_pos (a-min a b)
  constructor
  ·intro h;rcases Nat.mul_eq_zero.1 h with h|h<;>omega
  ·rintro rfl;simp
 rw[hz] at hs;rw[Bool.eq_iff_iff,beq_iff_eq,decide_eq_true_iff,<-hs,Option.some.injEq,Int.compare_eq_eq]
theorem read_num(f:Format)(x:Nat)(h:x%f.signWeight<f.infRung):∃m a,f.read x=.number (x / f.signWeight%2==1) m (f.leastPlace+(a:Nat))/\m*2^a=fval f.binade (x%f.signWeight)/\(m=0 ↔ x%f.signWeight=0):=by
 unfold Format.read fval;have hB:0<f.binade:=Nat.two_pow_pos _;by_cases h1:x%f.signWeight<f.binade
 ·refine⟨x%f.signWeight,0,?_,by rw[if_pos h1];simp,Iff.rfl⟩;simp[h1]
 ·refine⟨f.binade+x%f.signWeight%f.binade,x%f.signWeight / f.binade-1,?_,by rw[if_neg h1],by omega⟩;simp[h1,h]
theorem read_inf(f:Format)(x:Nat)(hB:f.binade<=f.infRung)(h:x%f.signWeight=f.infRung):f.read x=.infinity (x / f.signWeight%2==1):=by
 unfold Format.read;simp only[h];rw[if_neg (by omega),if_neg (by omega),if_pos trivial]
theorem inf_order(p q:Bool):((Datum.infinity p).order (.infinity q)==some .eq)=decide (p=q):=by
 cases p<;>cases q<;>decide
theorem order_word(f:Format)(hB:f.binade<=f.infRung)(x y:Nat)(hx:x<2*f.signWeight)(hy:y<2*f.signWeight)(nx:x%f.signWeight<=f.infRung)(ny:y%f.signWeight<=f.infRung):
  (f.order x y==some .eq)=decide (x=y\/(x%f.signWeight=0/\y%f.signWeight=0)):=by
 have hb0:0<f.binade:=Nat.two_pow_pos _;have hw:0<f.signWeight:=Nat.two_pow_pos _;have dx:=Nat.div_add_mod x f.signWeight;have dy:=Nat.div_add_mod y f.signWeight;have lx:x / f.signWeight<2:=(Nat.div_lt_iff_lt_mul hw).2 hx;have ly:y / f.signWeight<2:=(Nat.div_lt_iff_lt_mul hw).2 hy;have hq:(x / f.signWeight%2==1)=(y / f.signWeight%2==1) ↔ x / f.signWeight=y / f.signWeight:=by
  have h01:∀n:Nat,n<2->n=0\/n=1:=by intro n;omega
  have h1:=h01 _ lx;have h2:=h01 _ ly;rcases h1 with h1|h1<;>rcases h2 with h2|h2<;>rw[h1,h2]<;>simp
 have hxy:x=y ↔ x / f.signWeight=y / f.signWeight/\x%f.signWeight=y%f.signWeight:=by
  constructor
  ·rintro rfl;exact⟨rfl,rfl⟩
  ·rintro⟨h1,h2⟩;rw[<-dx,<-dy,h1,h2]
 unfold Format.order;by_cases ix:x%f.signWeight<f.infRung
 ·obtain⟨m,a,ex,vx,zx⟩:=read_num f x ix;by_cases iy:y%f.signWeight<f.infRung
  ·obtain⟨n,b,ey,vy,zy⟩:=read_num f y iy;rw[ex,ey,num_order];apply decide_eq_decide.2
   rw[vx,vy,hq,zx];constructor
   ·rintro⟨h1,h2⟩;have:=fval_inj _ hb0 _ _ h1
    rcases h2 with h2|h2
    ·exact .inl (hxy.2 ⟨h2,this⟩)
    ·exact .inr ⟨h2,by omega⟩
   ·rintro (h|⟨h1,h2⟩)
    ·obtain⟨h1,h2⟩:=hxy.1 h;exact⟨by rw[h2],.inl h1⟩
    ·exact⟨by rw[h1,h2],.inr h1⟩
  ·have ey:=read_inf f y hB (by omega);rw[ex,ey];have e0:¬(x=y\/(x%f.signWeight=0/\y%f.signWeight=0)):=by
    rintro (h|h)
    ·have:=(hxy.1 h).2;omega
    ·omega
   rw[decide_eq_false e0];cases hs:(y / f.signWeight%2==1)<;>simp[Datum.order]<;>decide
 ·have ex:=read_inf f x hB (by omega);by_cases iy:y%f.signWeight<f.infRung
  ·obtain⟨n,b,ey,vy,zy⟩:=read_num f y iy;rw[ex,ey];have e0:¬(x=y\/(x%f.signWeight=0/\y%f.signWeight=0)):=by
    rintro (h|h)
    ·have:=(hxy.1 h).2;omega
    ·omega
   rw[decide_eq_false e0];cases hs:(x / f.signWeight%2==1)<;>simp[Datum.order]<;>decide
  ·have ey:=read_inf f y hB (by omega);rw[ex,ey];have e0:(x=y\/(x%f.signWeight=0/\y%f.signWeight=0)) ↔ (x / f.signWeight%2==1)=(y / f.signWeight%2==1):=by
    rw[hq,hxy];constructor
    ·rintro (h|h)
     ·exact h.1
     ·omega
    ·intro h;exact .inl ⟨h,by omega⟩
   rw[inf_order];exact decide_eq_decide.2 e0.symm
theorem eq_f32(x y:Nat)(hx:x<2^32)(hy:y<2^32)(nx:x%2^31<=2139095040)(ny:y%2^31<=2139095040):Op.floatEq .f32 x y=decide (x=y\/(x%2^31=0/\y%2^31=0)) :=
 order_word Ieee.single (by decide) x y hx hy nx ny
theorem eq_f64(x y:Nat)(hx:x<2^64)(hy:y<2^64)(nx:x%2^63<=9218868437227405312)(ny:y%2^63<=9218868437227405312):Op.floatEq .f64 x y=decide (x=y\/(x%2^63=0/\y%2^63=0)) :=
 order_word Ieee.double (by decide) x y hx hy nx ny
end Go.Proofs.YtcfblkkpclfmaaaGreat
namespace Go.Proofs.YtcfblkkpclfmaaaGreat
structure Slt(α:Type) where
 has:Bool
 val:α
 dflt:Nat
inductive Val where
 | mk (kind elem num:Nat) (text:List UInt8) (nums:List Nat) (kids:List Val) (slots:List (Slt Val))
namespace Val
def kind:Val->Nat|.mk k _ _ _ _ _ _=>k
def elem:Val->Nat|.mk _ e _ _ _ _ _=>e
def num:Val->Nat|.mk _ _ n _ _ _ _=>n
def text:Val->List UInt8|.mk _ _ _ t _ _ _=>t
def nums:Val->List Nat|.mk _ _ _ _ ns _ _=>ns
def kids:Val->List Val|.mk _ _ _ _ _ ks _=>ks
def slots:Val->List (Slt Val)|.mk _ _ _ _ _ _ ss=>ss
def absent(v:Val):Val:=.mk v.kind v.elem 0 [] [] [] []
end Val
theorem Val.ind{P:Val->Prop}(h:∀k e n t ns ks ss,(∀v∈ks,P v)->(∀s∈ss,P s.val)->P (.mk k e n t ns ks ss)):∀v,P v:=by
 intro v;refine Val.rec (motive_1:=P) (motive_2:=λl=>∀v∈l,P v) (motive_3:=λl=>∀s∈l,P s.val) (motive_4:=λs=>P s.val) ?_ ?_ ?_ ?_ ?_ ?_ v
 ·intro k e n t ns ks ss h1 h2;exact h k e n t ns ks ss h1 h2
 ·intro v hv;cases hv
 ·intro v r h1 h2 x hx;rcases List.mem_cons.1 hx with rfl|hx
  ·exact h1
  ·exact h2 x hx
 ·intro v hv;cases hv
 ·intro v r h1 h2 x hx;rcases List.mem_cons.1 hx with rfl|hx
  ·exact h1
  ·exact h2 x hx
 ·intro has v d h;exact h
def eqK (k a b:Nat):Bool :=
 if k=9 then decide (a=b\/(a%2^31=0/\b%2^31=0)) else if k=10 then decide (a=b\/(a%2^63=0/\b%2^63=0)) else decide (a=b)
def OkNum(k n:Nat):Prop:=k<=10/\n<2^(8*numSize k)/\(k=0->n<=1)/\(k=9->n%2^31<=2139095040)/\(k=10->n%2^63<=9218868437227405312)
mutual
def read0:Val->Val
 | .mk k e n t ns ks ss=>.mk k e n t ns (read0L ks) (read0S ss)
termination_by structural v=>v
def read0L:List Val->List Val
 | []=>[]
 | v::r=>read0 v::read0L r
termination_by structural v=>v
def read0S:List (Slt Val)->List (Slt Val)
 | []=>[]
 | s::r=>read0T s::read0S r
termination_by structural v=>v
def read0T:Slt Val->Slt Val
 | ⟨h,v,d⟩=>if v.kind<=10/\(h=false\/eqK v.kind v.num d=true) then ⟨false,.mk v.kind 0 d [] [] [] [],d⟩ else if h=true then ⟨true,read0 v,d⟩ else ⟨false,v.absent,d⟩
termination_by structural v=>v
end
theorem read0L_eq:∀l,read0L l=l.map read0
 | []=>rfl
 | v::r=>by rw[read0L,read0L_eq r];rfl
theorem read0S_eq:∀l,read0S l=l.map read0T
 | []=>rfl
 | v::r=>by rw[read0S,read0S_eq r];rfl
mutual
def both:Val->Val->Option Val
 | .mk k e n t ns ks ss,b =>
  if k=b.kind/\e=b.elem/\ss.length=b.slots.length/\(k=17->t.length=b.text.length) then
   (bothS ss b.slots).bind λos=>(bothK ks b.kids).map λkk=>.mk k e 0 t [] kk os
  else none
termination_by structural v=>v
def bothS:List (Slt Val)->List (Slt Val)->Option (List (Slt Val))
 | [],_=>some []
 | s::r,l=>match l with
  | []=>none
  | t::u=>(bothT s t).bind λx=>(bothS r u).map λxs=>x::xs
termination_by structural v=>v
def bothT:Slt Val->Slt Val->Option (Slt Val)
 | ⟨h,v,d⟩,t=>(both v t.val).bind λx=>if d=t.dflt then some ⟨false,x,d⟩ else none
termination_by structural v=>v
def bothK:List Val->List Val->Option (List Val)
 | [],l=>some l
 | a::r,l=>match l with
  | []=>some (a::r)
  | b::_=>(both a b).map λk=>[k]
termination_by structural v=>v
end
def foldBoth:List Val->Option Val
 | []=>some (.mk 0 0 0 [] [] [] [])
 | a::r=>r.foldlM both a
mutual
def shape:Val->Val
 | .mk k e n t ns ks ss=>.mk k e 0 (if k=17 then List.replicate t.length 0 else []) [] (if k=16 then (match ks with | []=>[] | _::_=>(match foldBoth (shapeL ks) with | some m=>[m] | none=>[])) else []) (shapeS ss)
termination_by structural v=>v
def shapeL:List Val->List Val
 | []=>[]
 | v::r=>shape v::shapeL r
termination_by structural v=>v
def shapeS:List (Slt Val)->List (Slt Val)
 | []=>[]
 | s::r=>shapeT s::shapeS r
termination_by structural v=>v
def shapeT:Slt Val->Slt Val
 | ⟨h,v,d⟩=>⟨false,shape v,d⟩
termination_by structural v=>v
end
theorem shapeL_eq:∀l,shapeL l=l.map shape
 | []=>rfl
 | v::r=>by rw[shapeL,shapeL_eq r];rfl
theorem shapeT_eq(s:Slt Val):shapeT s=⟨false,shape s.val,s.dflt⟩:=by cases s;rfl
theorem shapeS_eq:∀l,shapeS l=l.map λs=>⟨false,shape s.val,s.dflt⟩
 | []=>rfl
 | v::r=>by rw[shapeS,shapeS_eq r,shapeT_eq];rfl
def merged(l:List Val):Option Val:=foldBoth (l.map shape)
mutual
def nodes:Val->Nat
 | .mk _ _ _ _ _ ks ss=>1+nodesL ks+nodesS ss
termination_by structural v=>v
def nodesL:List Val->Nat
 | []=>0
 | v::r=>nodes v+nodesL r
termination_by structural v=>v
def nodesS:List (Slt Val)->Nat
 | []=>0
 | s::r=>nodesT s+nodesS r
termination_by structural v=>v
def nodesT:Slt Val->Nat
 | ⟨_,v,_⟩=>nodes v
termination_by structural v=>v
end
theorem nodesS_cons(s:Slt Val)(r:List (Slt Val)):nodesS (s::r)=nodes s.val+nodesS r:=by cases s;rfl
inductive Good:Val->Prop
 | mk (k e n:Nat) (t:List UInt8) (ns:List Nat) (ks:List Val) (ss:List (Slt Val)) (hk:k<=17) (hnum:k > 10->n=0) (htext:k≠11->k≠12->k≠17->t=[]) (hnums:k≠13->ns=[]) (hkids:k≠14->k≠16->ks=[]) (hslots:k≠15->ss=[]) (helem:k≠13->k≠17->e=0)
  (lt:t.length<=1000) (ln:ns.length<=200) (lk:ks.length<=200) (ls:ss.length<=60)
  (h13:k=13->e<=10/\∀x∈ns,OkNum e x) (h17:k=17->(e=1\/e=2\/e=4\/e=8)/\t≠[]/\t.length<=64/\t.length%e=0)
  (hk14:k=14->∀v∈ks,v.kind=11) (hk16:k=16->∀v∈ks,v.kind=15) (hgk:∀v∈ks,Good v) (hmer:k=16->(merged ks).isSome) (hgs:∀s∈ss,Good s.val) (hd1:∀s∈ss,s.val.kind > 10->s.dflt=0) (hd2:∀s∈ss,s.val.kind<=10->OkNum s.val.kind s.dflt)
  (h10:k<=10->OkNum k n):Good (.mk k e n t ns ks ss)
end Go.Proofs.YtcfblkkpclfmaaaGreat
