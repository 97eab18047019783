/- Part 2 of the proof of FnRead (VMem, Slice, RegInv, RegInv2, RegInv3, RegLast). No condition is laid on the statement. -/
import Derived.Test.YtcfblkkpclfmaaaGreatQa01
import Derived.OwnWalk
import Derived.Maps.AppendAt
import Derived.Test.YtcfblkkpclfmaaaGreatProg
import Derived.OrdersHeld
import Derived.RegionTactic
import Derived.WalkKit
import Derived.BigQuiet
set_option linter.unusedVariables false
set_option linter.unusedSimpArgs false
set_option maxRecDepth 100000
set_option maxHeartbeats 16000000
namespace Go.Proofs.YtcfblkkpclfmaaaGreat
open Go.RowKit
def cellsAt(w:World)(g o n:Nat):List Value:=(List.range n).map λj=>(w.cell? ⟨g,o+j,none⟩).getD (.bool false)
theorem cellsAt_length(w:World)(g o n:Nat):(cellsAt w g o n).length=n:=by simp[cellsAt]
theorem cellsAt_get(w:World)(g o n j:Nat)(h:j<n):(cellsAt w g o n)[j]?=some ((w.cell? ⟨g,o+j,none⟩).getD (.bool false)):=by
 unfold cellsAt;rw[List.getElem?_map,List.getElem?_range h];rfl
theorem cellsAt_cell{w:World}{g o n j:Nat}{x:Value}(h:(cellsAt w g o n)[j]?=some x)(hx:x≠.bool false):w.cell? ⟨g,o+j,none⟩=some x:=by
 have hj:j<n:=by have:=(List.getElem?_eq_some_iff.1 h).1;rwa [cellsAt_length] at this
 rw[cellsAt_get _ _ _ _ _ hj,Option.some.injEq] at h;cases hc:w.cell? ⟨g,o+j,none⟩ with
 | none=>rw[hc] at h;exact absurd h.symm hx
 | some y=>rw[hc] at h;rw[<-h];rfl
theorem cellsAt_of{w:World}{g o n:Nat}{cs:List Value}(hl:cs.length=n)(h:∀j u,cs[j]?=some u->w.cell? ⟨g,o+j,none⟩=some u):cellsAt w g o n=cs:=by
 apply List.ext_getElem?
 intro j;by_cases hj:j<n
 ·rw[cellsAt_get _ _ _ _ _ hj];have:cs[j]?=some (cs[j]'(by omega)):=List.getElem?_eq_getElem (by omega)
  rw[this,h j _ this];rfl
 ·rw[List.getElem?_eq_none (by rw[cellsAt_length];omega),List.getElem?_eq_none (by omega)]
structure NumsIs(B:Nat->Prop)(w:World)(nv:Value)(ns:List Nat):Prop where
 ok:∃a cap,nv=.slice a ns.length cap/\ns.length<=cap/\cap<=maxLen/\(ns≠[]->∃g o,a=some ⟨g,o,none⟩/\g<w.heap.size/\B g/\∀i (h:i<ns.length),w.cell? ⟨g,o+i,none⟩=some (.int .u64 ns[i]))/\∀n∈ns,n<2^64
inductive VIs (B:Nat->Prop) (w:World):List Value->Val->Prop
 | mk (k e n:Nat) (t:List UInt8) (ns:List Nat) (ks:List Val) (ss:List (Slt Val)) (nv:Value) (ka:Option Addr) (kc kg ko:Nat) (sa:Option Addr) (sc sg so:Nat)
  (hk:k<256) (he:e<256) (hn:n<2^64) (ht:t.length<=maxLen) (hnv:NumsIs B w nv ns)
  (hka:ks≠[]->ka=some ⟨kg,ko,none⟩/\kg<w.heap.size/\B kg) (hkc:ks.length<=kc/\kc<=maxLen) (hks:∀i (h:i<ks.length),VIs B w (cellsAt w kg (ko+i*7) 7) ks[i])
  (hsa:ss≠[]->sa=some ⟨sg,so,none⟩/\sg<w.heap.size/\B sg) (hsc:ss.length<=sc/\sc<=maxLen) (hsd:∀i (h:i<ss.length),w.cell? ⟨sg,so+i*9,none⟩=some (.bool ss[i].has)/\w.cell? ⟨sg,so+i*9+8,none⟩=some (.int .u64 ss[i].dflt)/\ss[i].dflt<2^64)
  (hss:∀i (h:i<ss.length),VIs B w (cellsAt w sg (so+i*9+1) 7) ss[i].val):
  VIs B w [.int .u8 k,.int .u8 e,.int .u64 n,.string (strOf t),nv,.slice ka ks.length kc,.slice sa ss.length sc] (.mk k e n t ns ks ss)
theorem VIs.length{B:Nat->Prop}{w:World}{cs:List Value}{v:Val}(h:VIs B w cs v):cs.length=7:=by cases h;rfl
theorem NumsIs.mono{B B':Nat->Prop}{w w':World}{nv:Value}{ns:List Nat}(h:NumsIs B w nv ns)(hs:w.heap.size<=w'.heap.size)(hB:∀b,b<w.heap.size->B b->B' b/\w'.heap[b]?=w.heap[b]?):NumsIs B' w' nv ns:=by
 obtain⟨a,cap,h1,h2,h3,h4,h5⟩:=h.ok;refine⟨a,cap,h1,h2,h3,λhne=>?_,h5⟩;obtain⟨g,o,e,hg,hb,hc⟩:=h4 hne;exact⟨g,o,e,by omega,(hB g hg hb).1,λi hi=>by rw[World.cell?_of_block (w:=w) (hB g hg hb).2];exact hc i hi⟩
theorem cellsAt_mono{w w':World}{g:Nat}(h:w'.heap[g]?=w.heap[g]?)(o n:Nat):cellsAt w' g o n=cellsAt w g o n:=by
 unfold cellsAt;congr 1
 funext j
 rw[World.cell?_of_block (w:=w) h]
theorem VIs.mono{B B':Nat->Prop}{w w':World}(hs:w.heap.size<=w'.heap.size)(hB:∀b,b<w.heap.size->B b->B' b/\w'.heap[b]?=w.heap[b]?){cs:List Value}{v:Val}(h:VIs B w cs v):VIs B' w' cs v:=by
 induction h with
 | mk k e n t ns ks ss nv ka kc kg ko sa sc sg so hk he hn ht hnv hka hkc hks hsa hsc hsd hss ihk ihs =>
  refine .mk k e n t ns ks ss nv ka kc kg ko sa sc sg so hk he hn ht (hnv.mono hs hB) (λhne=>?_) hkc (λi hi=>?_) (λhne=>?_) hsc (λi hi=>?_) (λi hi=>?_)
  ·obtain⟨a,b,c⟩:=hka hne;exact⟨a,by omega,(hB kg b c).1⟩
  ·obtain⟨a,b,c⟩:=hka (by intro e;subst e;simp at hi);have:=ihk i hi
   rw[cellsAt_mono (hB kg b c).2];exact this
  ·obtain⟨a,b,c⟩:=hsa hne;exact⟨a,by omega,(hB sg b c).1⟩
  ·obtain⟨a,b,c⟩:=hsa (by intro e;subst e;simp at hi);rw[show w'.cell? ⟨sg,so+i*9,none⟩=w.cell? ⟨sg,so+i*9,none⟩ from World.cell?_of_block (w:=w) (hB sg b c).2,show w'.cell? ⟨sg,so+i*9+8,none⟩=w.cell? ⟨sg,so+i*9+8,none⟩ from World.cell?_of_block (w:=w) (hB sg b c).2];exact hsd i hi
  ·obtain⟨a,b,c⟩:=hsa (by intro e;subst e;simp at hi);have:=ihs i hi
   rw[cellsAt_mono (hB sg b c).2];exact this
theorem VIs.fr{S:Nat->Prop}{B B':Nat->Prop}{w w':World}{cs:List Value}{v:Val}(h:VIs B w cs v)(hf:Fr S w w')(hB:∀b,b<w.heap.size->B b->B' b/\¬S b):VIs B' w' cs v :=
 h.mono hf.size λb hb hbb=>⟨(hB b hb hbb).1,hf.block b hb (hB b hb hbb).2⟩
theorem VIs.fr0{B B':Nat->Prop}{w w':World}{cs:List Value}{v:Val}(h:VIs B w cs v)(hf:Fr0 w w')(hB:∀b,b<w.heap.size->B b->B' b):VIs B' w' cs v:=h.fr hf λb h1 h2=>⟨hB b h1 h2,λx=>x⟩
theorem VIs.lit{B:Nat->Prop}{w:World}{cs:List Value}{v:Val}(h:VIs B w cs v):∃na nl nc ka nk kc sa ns sc,cs=[.int .u8 v.kind,.int .u8 v.elem,.int .u64 v.num,.string (strOf v.text),.slice na nl nc,.slice ka nk kc,.slice sa ns sc]:=by
 cases h with
 | mk k e n t ns ks ss nv ka kc kg ko sa sc sg so hk he hn ht hnv hka hkc hks hsa hsc hsd hss =>
  obtain⟨na,nc,rfl,_⟩:=hnv.ok;exact⟨_,_,_,_,_,_,_,_,_,rfl⟩
theorem VIs.at{B:Nat->Prop}{w:World}{g o:Nat}{v:Val}(h:VIs B w (cellsAt w g o 7) v):∃na nl nc ka nk kc sa ns sc,VIs B w [.int .u8 v.kind,.int .u8 v.elem,.int .u64 v.num,.string (strOf v.text),.slice na nl nc,.slice ka nk kc,.slice sa ns sc] v /\
  w.cell? ⟨g,o,none⟩=some (.int .u8 v.kind)/\w.cell? ⟨g,o+1,none⟩=some (.int .u8 v.elem)/\w.cell? ⟨g,o+2,none⟩=some (.int .u64 v.num)/\w.cell? ⟨g,o+3,none⟩=some (.string (strOf v.text)) /\
  w.cell? ⟨g,o+4,none⟩=some (.slice na nl nc)/\w.cell? ⟨g,o+5,none⟩=some (.slice ka nk kc)/\w.cell? ⟨g,o+6,none⟩=some (.slice sa ns sc):=by
 obtain⟨na,nl,nc,ka,nk,kc,sa,ns,sc,e⟩:=h.lit;have hc:∀j u,(cellsAt w g o 7)[j]?=some u->u≠.bool false->w.cell? ⟨g,o+j,none⟩=some u:=λj u hu hne=>cellsAt_cell hu hne;rw[e] at hc h;exact⟨na,nl,nc,ka,nk,kc,sa,ns,sc,h,hc 0 _ rfl (by simp),hc 1 _ rfl (by simp),hc 2 _ rfl (by simp),hc 3 _ rfl (by simp),hc 4 _ rfl (by simp),hc 5 _ rfl (by simp),hc 6 _ rfl (by simp)⟩
theorem VIs.one{B:Nat->Prop}{w:World}{cs:List Value}{v:Val}(h:VIs B w cs v):∀u∈cs,u.oneCell'=true:=by
 obtain⟨na,nl,nc,ka,nk,kc,sa,ns,sc,rfl⟩:=h.lit;intro u hu;simp only[List.mem_cons,List.not_mem_nil,or_false] at hu;rcases hu with rfl|rfl|rfl|rfl|rfl|rfl|rfl<;>rfl
theorem ownFr{S:Nat->Prop}{w w':World}{base:Nat}{e:TypeId}{size n:Nat}{v:Value}{xs:List Value}(h:w.ownsRow base e size v n xs)(hf:Fr S w w')(hs:∀k,v.ownBlock=some k->¬S k):w'.ownsRow base e size v n xs:=by
 refine⟨h.1,?_⟩;rcases h.2 with hn|⟨g,cap,cur,rfl,hb,hgg,rest⟩
 ·exact .inl hn
 ·refine .inr ⟨g,cap,cur,rfl,hb,?_,rest⟩;rw[hf.block g (lt_of_block hgg) (hs g rfl)];exact hgg
theorem newsL(w:World)(t:TypeId)(xs:List Value)(n:Nat)(hn:w.heap.size=n):∀j u,xs[j]?=some u->(w.alloc (.cells xs.toArray t)).cell? ((⟨n,0,none⟩:Addr).add j)=some u:=by
 intro j u hu;subst hn;have hadd:(⟨w.heap.size,0,none⟩:Addr).add j=⟨w.heap.size,j,none⟩:=by unfold Addr.add;split<;>simp_all
 rw[hadd,cell_of (heap_alloc_new w _)];simpa using hu
theorem keep_alloc{w:World}{k o:Nat}{u:Value}(ob:Obj)(h:w.cell? ⟨k,o,none⟩=some u):(w.alloc ob).cell? ⟨k,o,none⟩=some u:=by
 rw[World.cell?_of_block (w:=w) (heap_alloc_old w ob k (World.block_lt_of_cell? _ _ h))];exact h
theorem keep_allocF{w:World}{k o:Nat}{u:Value}(ob:Obj)(h:w.cell? ⟨k,o,none⟩=some u)(hf:w.frozen? ⟨k,o,none⟩=false):(w.alloc ob).frozen? ⟨k,o,none⟩=false:=by
 rw[World.frozen?_of_block (w:=w) (heap_alloc_old w ob k (World.block_lt_of_cell? _ _ h))];exact hf
theorem keep_fr{S:Nat->Prop}{w w':World}{k o:Nat}{u:Value}(hf:Fr S w w')(h:w.cell? ⟨k,o,none⟩=some u)(hs:¬S k):w'.cell? ⟨k,o,none⟩=some u:=(Fr.cell hf (p:=⟨k,o,none⟩) (World.block_lt_of_cell? _ _ h) hs).trans h
theorem keep_frF{S:Nat->Prop}{w w':World}{k o:Nat}{u:Value}(hf:Fr S w w')(h:w.cell? ⟨k,o,none⟩=some u)(hz:w.frozen? ⟨k,o,none⟩=false)(hs:¬S k):w'.frozen? ⟨k,o,none⟩=false:=(Fr.frozen hf (p:=⟨k,o,none⟩) (World.block_lt_of_cell? _ _ h) hs).trans hz
def slotC(s:Slt Val)(cs:List Value):List Value:=.bool s.has::(cs++[.int .u64 s.dflt])
structure ItRow{ι:Type}(z:Nat)(f:ι->List Value)(P:(Nat->Prop)->World->ι->Prop)(B:Nat->Prop)(base:Nat)(T:TypeId)(w:World)(kv:Value)(its:List ι):Prop where
 own:w.ownsRow base T z kv its.length (its.map f).flatten
 item:∀x∈its,P B w x
def valP (B:Nat->Prop)(w:World)(x:List Value × Val):Prop:=VIs B w x.1 x.2
def sltP (B:Nat->Prop)(w:World)(x:List Value × Slt Val):Prop:=VIs B w x.1 x.2.val/\x.2.dflt<2^64
abbrev VRow:=ItRow 7 (λx:List Value × Val=>x.1) valP
abbrev SRow:=ItRow 9 (λx:List Value × Slt Val=>slotC x.2 x.1) sltP
def PMono{ι:Type}(P:(Nat->Prop)->World->ι->Prop):Prop:=∀(B B':Nat->Prop) (w w':World) (x:ι),w.heap.size<=w'.heap.size->(∀b,b<w.heap.size->B b->B' b/\w'.heap[b]?=w.heap[b]?)->P B w x->P B' w' x
theorem valP_mono:PMono valP:=λB B' w w' x hs hB h=>VIs.mono hs hB h
theorem sltP_mono:PMono sltP:=λB B' w w' x hs hB h=>⟨VIs.mono hs hB h.1,h.2⟩
def BI (B:Nat->Prop)(W c:Nat)(kv:Value)(b:Nat):Prop:=(B b/\b<W)\/(W+c<=b/\some b≠kv.ownBlock)
theorem ownBlock_lt{w:World}{base:Nat}{e:TypeId}{size n:Nat}{v:Value}{xs:List Value}(h:w.ownsRow base e size v n xs):∀k,v.ownBlock=some k->base<=k/\k<w.heap.size:=by
 intro k hk;rcases h.2 with ⟨rfl,_⟩|⟨g,cap,cur,rfl,hb,hg,_⟩
 ·cases hk
 ·injection hk with hk;subst hk;exact⟨hb,lt_of_block hg⟩
theorem ItRow.snoc{ι:Type}{z:Nat}{f:ι->List Value}{P:(Nat->Prop)->World->ι->Prop}(hP:PMono P){B:Nat->Prop}{W c n:Nat}{T:TypeId}{wr w6 w7:World}{kv:Value}{its:List ι}{x:ι}{o:Obj}{g7 cap7 q j:Nat}{u:Value}
  (h:ItRow z f P (BI B W c kv) (W+c) T wr kv its) (hW:W+c<=wr.heap.size) (h56:Fr0 wr w6) (hx:P (λb=>(B b/\b<W)\/wr.heap.size<=b) w6 x) (hgrow:(w6.alloc o).grownBy w7 kv.ownBlock)
  (hown7:w7.ownsRow (W+c) T z (.slice (some ⟨g7,0,none⟩) n cap7) n ((its.map f).flatten++f x)) (hn:n=its.length+1) (hat7:kv.ownBlock=some g7\/g7=w6.heap.size+1) (hq:W<=q/\q<W+c):
  ItRow z f P (BI B W c (.slice (some ⟨g7,0,none⟩) n cap7)) (W+c) T (w7.setCell ⟨q,j,none⟩ u) (.slice (some ⟨g7,0,none⟩) n cap7) (its++[x]):=by
 have hrl:=ownBlock_lt h.own;have hg7:W+c<=g7/\g7<w7.heap.size:=by
  rcases hown7.2 with ⟨h0,_⟩|⟨g,cap,cur,e1,hb,hg,_⟩
  ·cases h0
  ·injection e1 with e1 _ _;injection e1 with e1;injection e1 with e1;subst e1;exact⟨hb,lt_of_block hg⟩
 have hs7:=hgrow.size;rw[size_alloc] at hs7;have hs6:=h56.size;have hset:∀b,b≠q->(w7.setCell ⟨q,j,none⟩ u).heap[b]?=w7.heap[b]?:=λb hb=>heap_setCell_other w7 _ u b hb;have h67:∀b,b<w6.heap.size->some b≠kv.ownBlock->w7.heap[b]?=w6.heap[b]?:=λb hb hne=>(hgrow.block b (by rw[size_alloc];omega) hne).trans (heap_alloc_old w6 o b hb);have hssz:(w7.setCell ⟨q,j,none⟩ u).heap.size=w7.heap.size:=by simp[World.setCell]
 refine⟨?_,λy hy=>?_⟩
 ·have h1:=ownFr (S:=λk=>k=q) hown7 (Fr.set1 w7 q j u) (λk hk e=>by
   have e2:some g7=some k:=hk;injection e2 with e2;omega)
  rw[List.map_append,List.flatten_append,List.length_append,List.length_singleton,<-hn];simpa using h1
 ·rcases List.mem_append.1 hy with hy|hy
  ·refine hP _ _ wr _ y (by rw[hssz];omega) (λb hb hbb=>?_) (h.item y hy);have hne:some b≠kv.ownBlock:=by
    rcases hbb with ⟨_,hbW⟩|⟨_,hne⟩
    ·intro e;have:=(hrl b e.symm).1;omega
    ·exact hne
   refine⟨?_,?_⟩
   ·rcases hbb with hbb|⟨hb1,_⟩
    ·exact .inl hbb
    ·refine .inr ⟨hb1,λe=>?_⟩;have e2:some b=some g7:=e;injection e2 with e2;subst e2;rcases hat7 with h7|h7
     ·exact hne h7.symm
     ·omega
   ·rw[hset b (by rcases hbb with ⟨_,hbW⟩|⟨hb1,_⟩<;>omega),h67 b (by omega) hne];exact h56.block b hb (λx=>x)
  ·obtain rfl:=List.mem_singleton.1 hy;refine hP _ _ w6 _ y (by rw[hssz];omega) (λb hb hbb=>?_) hx;have hne:some b≠kv.ownBlock:=by
    intro e;have:=hrl b e.symm
    rcases hbb with ⟨_,hbW⟩|hbb<;>omega
   refine⟨?_,?_⟩
   ·rcases hbb with hbb|hbb
    ·exact .inl hbb
    ·refine .inr ⟨by omega,λe=>?_⟩;have e2:some b=some g7:=e;injection e2 with e2;subst e2;rcases hat7 with h7|h7
     ·exact hne h7.symm
     ·omega
   ·rw[hset b (by rcases hbb with ⟨_,hbW⟩|hbb<;>omega),h67 b hb hne]
theorem ItRow.fr{ι:Type}{z:Nat}{f:ι->List Value}{P:(Nat->Prop)->World->ι->Prop}(hP:PMono P){B B' S:Nat->Prop}{base:Nat}{T:TypeId}{w w':World}{kv:Value}{its:List ι}(h:ItRow z f P B base T w kv its)(hf:Fr S w w')(hk:∀k,kv.ownBlock=some k->¬S k)(hB:∀b,b<w.heap.size->B b->B' b/\¬S b):ItRow z f P B' base T w' kv its :=
 ⟨ownFr h.own hf hk,λx hx=>hP _ _ w _ x hf.size (λb h1 h2=>⟨(hB b h1 h2).1,hf.block b h1 (hB b h1 h2).2⟩) (h.item x hx)⟩
theorem flat_get{z:Nat}:∀(css:List (List Value)) (hz:∀c∈css,c.length=z) (i j:Nat) (hi:i<css.length) (hj:j<z),css.flatten[i*z+j]?=(css[i])[j]?
 | [],_,_,_,hi,_=>by simp at hi
 | x::r,hz,0,j,_,hj=>by
  rw[List.flatten_cons,Nat.zero_mul,Nat.zero_add,List.getElem?_append_left (by rw[hz x (by simp)];exact hj)];rfl
 | x::r,hz,i+1,j,hi,hj=>by
  have ih:=flat_get r (λc hc=>hz c (by simp[hc])) i j (by simpa using hi) hj;have hx:=hz x (by simp);rw[List.flatten_cons,Nat.add_mul,Nat.one_mul,List.getElem?_append_right (by rw[hx];omega),hx,show i*z+z+j-z=i*z+j by omega,ih];simp
theorem own_flat_cells{w:World}{base z g cap n:Nat}{T:TypeId}{css:List (List Value)}(h:w.ownsRow base T z (.slice (some ⟨g,0,none⟩) n cap) n css.flatten)(hz:∀c∈css,c.length=z)(i:Nat)(hi:i<css.length):cellsAt w g (i*z) z=css[i]:=by
 rcases h.2 with ⟨h0,_⟩|⟨g',cap',cur,e1,hb,hg,h1,h2,h3,h4⟩
 ·cases h0
 ·injection e1 with e1 _ _;injection e1 with e1;injection e1 with e1;subst e1;refine cellsAt_of (hz _ (List.getElem_mem hi)) λj u hu=>?_;have hj:j<z:=by have:=(List.getElem?_eq_some_iff.1 hu).1;rwa [hz _ (List.getElem_mem hi)] at this
  rw[<-flat_get css hz i j hi hj,<-h4,List.getElem?_take] at hu;split at hu
  ·rw[cell_of hg];simpa using hu
  ·cases hu
theorem own_form{w:World}{base z n:Nat}{T:TypeId}{kv:Value}{xs:List Value}(h:w.ownsRow base T z kv n xs):∃a cap g,kv=.slice a n cap/\n<=cap/\cap<=maxLen/\(0<n->a=some ⟨g,0,none⟩/\g<w.heap.size/\base<=g/\kv.ownBlock=some g):=by
 rcases h.2 with ⟨rfl,rfl⟩|⟨g,cap,cur,rfl,hb,hg,h1,h2,h3,h4⟩
 ·exact⟨none,0,0,rfl,by omega,by omega,λh=>by omega⟩
 ·exact⟨_,cap,g,rfl,h1,h2,λ_=>⟨rfl,lt_of_block hg,hb,rfl⟩⟩
theorem VIs.of_rows{B Bk Bs:Nat->Prop}{base base':Nat}{T T':TypeId}{w:World}{k e n:Nat}{t:List UInt8}{ns:List Nat}{nv kv sv:Value}{kits:List (List Value × Val)}{sits:List (List Value × Slt Val)}(hk:k<256)(he:e<256)(hn:n<2^64)(ht:t.length<=maxLen)(hnv:NumsIs B w nv ns)
  (hks:VRow Bk base T w kv kits) (hss:SRow Bs base' T' w sv sits) (hB:∀g,kv.ownBlock=some g\/sv.ownBlock=some g->B g) (hBk:∀b,b<w.heap.size->Bk b->B b) (hBs:∀b,b<w.heap.size->Bs b->B b):
  VIs B w [.int .u8 k,.int .u8 e,.int .u64 n,.string (strOf t),nv,kv,sv] (.mk k e n t ns (kits.map (·.2)) (sits.map (·.2))):=by
 obtain⟨ka,kc,kg,rfl,hk1,hk2,hk3⟩:=own_form hks.own;obtain⟨sa,sc,sg,rfl,hs1,hs2,hs3⟩:=own_form hss.own;have hz7:∀c∈kits.map (λx:List Value × Val=>x.1),c.length=7:=by
  intro c hc;obtain⟨x,hx,rfl⟩:=List.mem_map.1 hc;exact VIs.length (hks.item x hx)
 have hz9:∀c∈sits.map (λx:List Value × Slt Val=>slotC x.2 x.1),c.length=9:=by
  intro c hc;obtain⟨x,hx,rfl⟩:=List.mem_map.1 hc;have:=VIs.length (hss.item x hx).1
  simp[slotC,this]
 have hown7:∀i (h:i<kits.length),cellsAt w kg (i*7) 7=kits[i].1:=by
  intro i h;have hko:=hks.own;rw[(hk3 (by omega)).1] at hko;rw[own_flat_cells hko hz7 i (by rw[List.length_map];exact h),List.getElem_map]
 have hown9:∀i (h:i<sits.length),cellsAt w sg (i*9) 9=slotC sits[i].2 sits[i].1:=by
  intro i h;have hso:=hss.own;rw[(hs3 (by omega)).1] at hso;rw[own_flat_cells hso hz9 i (by rw[List.length_map];exact h),List.getElem_map]
 have hhas:∀i (h:i<sits.length),w.cell? ⟨sg,i*9,none⟩=some (.bool sits[i].2.has):=by
  intro i h;have hso:=hss.own;rw[(hs3 (by omega)).1] at hso;rcases hso.2 with ⟨h0,_⟩|⟨g',cap',cur,e1,hb,hgg,h1,h2,h3,h4⟩
  ·cases h0
  ·injection e1 with e1 _ _;injection e1 with e1;injection e1 with e1;subst e1;have hx:=flat_get _ hz9 i 0 (by rw[List.length_map];exact h) (by omega);rw[List.getElem_map,<-h4,List.getElem?_take] at hx;split at hx
   ·rw[cell_of hgg];simpa [slotC] using hx
   ·simp[slotC] at hx
 have hd:∀i (h:i<sits.length),w.cell? ⟨sg,i*9+8,none⟩=some (.int .u64 sits[i].2.dflt):=by
  intro i h;have hcl:=VIs.length (hss.item sits[i] (List.getElem_mem h)).1;have he8:(slotC sits[i].2 sits[i].1)[8]?=some (.int .u64 sits[i].2.dflt):=by
   unfold slotC;rw[List.getElem?_cons_succ,List.getElem?_append_right (by omega),hcl];rfl
  exact cellsAt_cell (w:=w) (g:=sg) (o:=i*9) (n:=9) (j:=8) (x:=.int .u64 sits[i].2.dflt) (by rw[hown9 i h,he8]) (by simp)
 have hval:∀i (h:i<sits.length),cellsAt w sg (i*9+1) 7=sits[i].1:=by
  intro i h;have hcl:=VIs.length (hss.item sits[i] (List.getElem_mem h)).1;have h9:=hown9 i h;apply List.ext_getElem?
  intro j;by_cases hj:j<7
  ·rw[cellsAt_get _ _ _ _ _ hj];have hx:=cellsAt_get w sg (i*9) 9 (j+1) (by omega);rw[h9] at hx;rw[show i*9+1+j=i*9+(j+1) by omega,<-hx];unfold slotC;rw[List.getElem?_cons_succ,List.getElem?_append_left (by omega)]
  ·rw[List.getElem?_eq_none (by rw[cellsAt_length];omega),List.getElem?_eq_none (by omega)]
 have hlk:(kits.map (·.2)).length=kits.length:=List.length_map _;have hls:(sits.map (·.2)).length=sits.length:=List.length_map _;rw[<-hlk,<-hls];refine .mk k e n t ns _ _ nv ka kc kg 0 sa sc sg 0 hk he hn ht hnv (λhne=>?_) ⟨by rw[hlk];exact hk1,hk2⟩ (λi hi=>?_) (λhne=>?_) ⟨by rw[hls];exact hs1,hs2⟩ (λi hi=>?_) (λi hi=>?_)
 ·have h0:0<kits.length:=by rw[<-hlk];exact List.length_pos_iff.2 hne
  exact⟨(hk3 h0).1,(hk3 h0).2.1,hB kg (.inl (hk3 h0).2.2.2)⟩
 ·have hi':i<kits.length:=by rw[<-hlk];exact hi
  rw[Nat.zero_add,hown7 i hi',List.getElem_map];exact VIs.mono (Nat.le_refl _) (λb h1 h2=>⟨hBk b h1 h2,rfl⟩) (hks.item kits[i] (List.getElem_mem hi'))
 ·have h0:0<sits.length:=by rw[<-hls];exact List.length_pos_iff.2 hne
  exact⟨(hs3 h0).1,(hs3 h0).2.1,hB sg (.inr (hs3 h0).2.2.2)⟩
 ·have hi':i<sits.length:=by rw[<-hls];exact hi
  rw[Nat.zero_add,List.getElem_map];exact⟨hhas i hi',hd i hi',(hss.item sits[i] (List.getElem_mem hi')).2⟩
 ·have hi':i<sits.length:=by rw[<-hls];exact hi
  rw[Nat.zero_add,hval i hi',List.getElem_map];exact VIs.mono (Nat.le_refl _) (λb h1 h2=>⟨hBs b h1 h2,rfl⟩) (hss.item sits[i] (List.getElem_mem hi')).1
theorem ItRow.nil{ι:Type}(z:Nat)(f:ι->List Value)(P:(Nat->Prop)->World->ι->Prop)(B:Nat->Prop)(base:Nat)(T:TypeId)(w:World):ItRow z f P B base T w (.slice none 0 0) []:=⟨World.ownsRow_nil _ _ _ _,λx h=>by simp at h⟩
theorem infoU8:(Tryz.prog.info? 5).map (λi=>(i.zero,i.size,i.bytes))=some (some (.int .u8 0),1,1):=by kernel_rfl
theorem setRow_alloc(w:World)(c c':Array Value)(t:TypeId):(w.alloc (.cells c t)).setRow w.heap.size c'=w.alloc (.cells c' t):=by
 unfold World.setRow;show World.mk _ _ _ _ _=World.mk _ _ _ _ _;congr 1
 show (w.heap.push _).modify w.heap.size _=w.heap.push _;apply Array.ext
 ·simp
 ·intro i h1 h2;simp only[Array.getElem_modify,Array.getElem_push];split
  ·rename_i h;subst h;simp
  ·rename_i h;have:i<w.heap.size:=by simp at h1;omega
   simp[this]
theorem slice_calls(s:ByteArray)(w:World)(hs:s.size<=1000000000):
  Calls Tryz.prog 50 #[.string s] w λe w'=>e=.returned (.slice (some ⟨w.heap.size,0,none⟩) s.size s.size)/\w.alloc (.cells (cellsOf s.data.toList).toArray 5)=w':=by
 obtain⟨i0,hi,hz0,hz1,hz2⟩:=info_parts infoU8;have hmk:=run_make (P:=Tryz.prog) w 81 5 i0 (.int .u8 0) Tryz.underlying81 hi hz0 .i64 .i64 s.size s.size (by omega) (by omega) (by rw[hz2];omega) (by omega);rw[hz1] at hmk;simp only[Int.toNat_natCast,Nat.mul_one] at hmk;have hcp:=run_copy_string (P:=Tryz.prog) (w.alloc (.cells (madeCells (Value.int .u8 0).cells s.size) 5)) 81 9 3 5 w.heap.size 0 s.size s.size s
  (madeCells (Value.int .u8 0).cells s.size) 5 Tryz.underlying81 (by rw[hi];simp[hz1]) (heap_alloc_new w _) (by rw[size_madeCells];omega)
 have e1:(madeCells (Value.int .u8 0).cells s.size).toList.drop (0+min s.size s.size)=[]:=by
  apply List.drop_of_length_le;simp[size_madeCells]
 have e2:s.data.toList.take (min s.size s.size)=s.data.toList:=by
  apply List.take_of_length_le;simp
 rw[e1,e2,setRow_alloc] at hcp;simp only[List.take_zero,List.nil_append,List.append_nil] at hcp;clear e1 e2;simp only[Value.cells] at hmk hcp;go_enter Tryz.func50,Tryz.ntmps50;go_wp2_with fail;go_ret;exact⟨rfl,rfl⟩
section
variable {P:Program} {ops:Array Oper} {Q:Exit->Act->World->Prop}
/-! What the operations yield, as a row of values. -/
def earlier(ops:Array Oper):Bool:=ops.toList.zipIdx.all λx=>x.1.after.all λe=>!Region.binds .any e || decide (e.on<x.2)
theorem earlier_rank(h:earlier ops=true):∀i o,ops[i]?=some o->∀e∈o.after,Region.binds .any e=true->e.on<ops.size/\e.on<i:=by
 intro i o ho e he hb;have hi:=(Array.getElem?_eq_some_iff.1 ho).1;unfold earlier at h;rw[List.all_eq_true] at h;have h1:=h (o,i) (by rw[List.mem_zipIdx_iff_getElem?];simpa using ho);simp only[Array.all_eq_true] at h1;obtain⟨j,hj,rfl⟩:=Array.getElem_of_mem he;have h2:=h1 j hj;simp only[hb,Bool.not_true,Bool.false_or,decide_eq_true_eq] at h2;omega
end
section
variable {P:Program} {ops:Array Oper} {Q:Exit->Act->World->Prop}
theorem set_true{listed:Array Bool}{i j:Nat}(h:(listed.setIfInBounds i true).getD j false=true)(hij:j≠i):listed.getD j false=true:=by
 simp only[Array.getD,Array.size_setIfInBounds] at h ⊢;split at h
 ·rename_i hlt
  rw[dif_pos hlt];have h3:(listed.setIfInBounds i true)[j]'(by simpa using hlt)=true:=h;exact (Array.getElem_setIfInBounds_ne hlt (λe=>hij e.symm)).symm.trans h3
 ·cases h
theorem set_mono{listed:Array Bool}{i j:Nat}(h:listed.getD j false=true):(listed.setIfInBounds i true).getD j false=true:=by
 simp only[Array.getD,Array.size_setIfInBounds] at h ⊢;split at h
 ·rename_i hlt
  rw[dif_pos hlt];by_cases hij:i=j
  ·subst hij;exact Array.getElem_setIfInBounds_self (by simpa using hlt)
  ·exact (Array.getElem_setIfInBounds_ne hlt hij).trans h
 ·cases h
end
section
variable {P:Program} {ops:Array Oper} {Q:Exit->Act->World->Prop}
def reach(ops:Array Oper)(i:Nat):Nat->Nat->Bool
 | 0,_=>false
 | f+1,j=>match ops[j]? with
  | none=>false
  | some o=>o.after.toList.any λe=>Region.binds .any e&&(e.on==i || reach ops i f e.on)
theorem reach_listed{listed:Array Bool}{i:Nat}(hcl:∀j o,ops[j]?=some o->listed.getD j false=true->∀e∈o.after,Region.binds .any e=true->listed.getD e.on false=true):
  ∀f j,reach ops i f j=true->listed.getD j false=true->listed.getD i false=true
 | 0,_,h,_=>by simp[reach] at h
 | f+1,j,h,hl=>by
  unfold reach at h;cases ho:ops[j]? with
  | none=>rw[ho] at h;simp at h
  | some o =>
   rw[ho] at h;simp only[List.any_eq_true,Bool.and_eq_true,Bool.or_eq_true,beq_iff_eq] at h;obtain⟨e,he,hb,hor⟩:=h;have hel:=hcl j o ho hl e (by simpa using he) hb;rcases hor with h|h
   ·rw[<-h];exact hel
   ·exact reach_listed hcl f e.on h hel
end
section
variable {P:Program} {C:World->Prop} {Q:Exit->Act->World->Prop}
theorem getD_push_lt{l:Array Bool}{i:Nat}(h:i<l.size)(d:Bool):(l.push false).getD i d=l.getD i d:=by
 simp[Array.getD,h,Nat.lt_succ_of_lt h,Array.getElem_push_lt h]
theorem getD_push_false(l:Array Bool)(i:Nat):(l.push false).getD i false=l.getD i false:=by
 by_cases h:i<l.size
 ·exact getD_push_lt h false
 ·by_cases h2:i=l.size
  ·subst h2;simp[Array.getD]
  ·have h3:¬i<l.size+1:=by omega
   simp[Array.getD,h,h3]
theorem ready_all{ops:Array Oper}(he:earlier ops=true){listed:Array Bool}(hs:listed.size=ops.size)(hr:Region.ready .any ops listed=[]):∀i,i<ops.size->listed.getD i false=true:=by
 intro i;induction i using Nat.strongRecOn with
 | _ i ih =>
  intro hi;have hil:i<listed.size:=by omega
  cases hb:listed[i] with
  | true=>simp[Array.getD,hil,hb]
  | false =>
   have hready:i∈Region.ready .any ops listed:=mem_ready.2 ⟨by simp[Array.getD,hil,hb],ops[i],by simp[hi],λe hem hbd=>by
    obtain⟨h1,h2⟩:=earlier_rank he i ops[i] (by simp[hi]) e hem hbd;exact ih e.on h2 h1⟩
   rw[hr] at hready;cases hready
theorem getD_push_at{l:Array Bool}{i:Nat}(h:i=l.size):(l.push false).getD i true=false:=by
 subst h;simp[Array.getD]
theorem push_set{l:Array Bool}{i:Nat}(h:i<l.size):(l.setIfInBounds i true).push false=(l.push false).setIfInBounds i true:=by
 apply Array.toList_inj.1
 simp only[Array.toList_push,Array.toList_setIfInBounds];rw[List.set_append_left _ _ (by simpa using h)]
def allReach(ops:Array Oper)(n:Nat):Bool:=(List.range n).all λi=>reach ops i (n+1) n
theorem any_last{l:List Oper}{o:Oper}(hel:earlier l.toArray=true)(heo:earlier (l++[o]).toArray=true)(hre:allReach (l++[o]).toArray l.length=true)
  (hg:(l++[o]).all (λx=>x.guard.isNone)=true) {Qa:Act->Prop}
  (hQ:∀a w,C w->Qa a->wpOp P (l++[o]).toArray Q l.length (Q .normal) a w):
  ∀(fuel:Nat) (listed:Array Bool) (a:Act) (w:World),listed.size=l.length->(∀j oj,l[j]?=some oj->listed.getD j false=true->∀e∈oj.after,Region.binds .any e=true->listed.getD e.on false=true)->C w ->
   wpAnyQ P .any l.toArray C Qa fuel listed a->wpAny P .any (l++[o]).toArray Q (fuel+1) (listed.push false) a w:=by
 -- what is ready in the whole
 have hget:∀i,i<l.length->(l++[o]).toArray[i]?=l.toArray[i]?:=λi hi=>by simp[List.getElem?_append_left hi]
 have hlastop:(l++[o]).toArray[l.length]?=some o:=by simp
 have hlt:∀(listed:Array Bool),listed.size=l.length->∀i,i<l.length->(i∈Region.ready .any (l++[o]).toArray (listed.push false) ↔ i∈Region.ready .any l.toArray listed):=by
  intro listed hs i hi;rw[mem_ready,mem_ready,getD_push_lt (by omega),hget i hi];simp only[getD_push_false]
 have hlast:∀(listed:Array Bool),listed.size=l.length->(∀j oj,l[j]?=some oj->listed.getD j false=true->∀e∈oj.after,Region.binds .any e=true->listed.getD e.on false=true) ->
   l.length∈Region.ready .any (l++[o]).toArray (listed.push false)->∀i,i<l.length->listed.getD i false=true:=by
  intro listed hs hcl hr i hi;obtain⟨_,o',ho',hall⟩:=mem_ready.1 hr;rw[hlastop] at ho';injection ho' with ho';subst ho';simp only[getD_push_false] at hall;have h1:=(List.all_eq_true.1 hre) i (List.mem_range.2 hi);unfold reach at h1;rw[hlastop] at h1;simp only[List.any_eq_true,Bool.and_eq_true,Bool.or_eq_true,beq_iff_eq] at h1;obtain⟨e,he,hb,hor⟩:=h1;have hel2:=hall e (by simpa using he) hb;rcases hor with h|h
  ·rw[<-h];exact hel2
  ·refine reach_listed (ops:=(l++[o]).toArray) (λj oj hoj hj e' he' hb'=>?_) _ _ h hel2;by_cases hjl:j<l.length
   ·rw[hget j hjl] at hoj;exact hcl j oj (by simpa using hoj) hj e' he' hb'
   ·simp[Array.getD,hs,hjl] at hj
 have hdone:∀(listed:Array Bool),listed.size=l.length->(∀i,i<l.length->listed.getD i false=true)->Region.ready .any (l++[o]).toArray ((listed.push false).setIfInBounds l.length true)=[]:=by
  intro listed hs hall;cases hr:Region.ready .any (l++[o]).toArray ((listed.push false).setIfInBounds l.length true) with
  | nil=>rfl
  | cons j r =>
   exfalso
   have hj:j∈Region.ready .any (l++[o]).toArray ((listed.push false).setIfInBounds l.length true):=(by rw[hr];simp);obtain⟨h1,o',ho',_⟩:=mem_ready.1 hj;have hjs:=(Array.getElem?_eq_some_iff.1 ho').1;simp at hjs;by_cases e:j=l.length
   ·subst e;simp[Array.getD,hs] at h1
   ·have h2:=hall j (by omega);have hjl:j<listed.size:=(by omega);have h3:(listed.push false).getD j true=true:=by
     rw[getD_push_lt hjl];simp only[Array.getD,hjl,dif_pos] at h2 ⊢;exact h2
    have h4:((listed.push false).setIfInBounds l.length true).getD j true=(listed.push false).getD j true:=by
     have hjp:j<(listed.push false).size:=(by simp;omega);simp only[Array.getD,Array.size_setIfInBounds,hjp,dif_pos];exact Array.getElem_setIfInBounds_ne hjp (λx=>e x.symm)
    rw[h4,h3] at h1;cases h1
 have hempty:∀(listed:Array Bool),listed.size=l.length->Region.ready .any (l++[o]).toArray (listed.push false)=[]->False:=by
  intro listed hs hr;have h1:Region.ready .any l.toArray listed=[]:=by
   cases h:Region.ready .any l.toArray listed with
   | nil=>rfl
   | cons j r =>
    exfalso
    have hj:j∈Region.ready .any l.toArray listed:=(by rw[h];simp);have hjs:j<l.length:=by
     obtain⟨_,o',ho',_⟩:=mem_ready.1 hj;simpa using (Array.getElem?_eq_some_iff.1 ho').1
    have:=(hlt listed hs j hjs).2 hj
    rw[hr] at this;cases this
  have hall:=ready_all hel (by simpa using hs) h1;have h2:l.length∈Region.ready .any (l++[o]).toArray (listed.push false):=mem_ready.2 ⟨getD_push_at hs.symm,o,hlastop,λe he hb=>by
   rw[getD_push_false];obtain⟨_,h3⟩:=earlier_rank heo l.length o hlastop e he hb;exact hall e.on (by simpa using h3)⟩
  rw[hr] at h2;cases h2
 have hno:∀(x:Oper) (y:Nat->Option Bool),x∈l++[o]->Region.wanted x y=true:=by
  intro x y hx;have:=(List.all_eq_true.1 hg) x hx
  unfold Region.wanted;cases hx2:x.guard with
  | none=>rfl
  | some g=>rw[hx2] at this;cases this
 have hqop:∀(i:Nat) (K:Act->Prop) (a:Act),i<l.length->qOp P l.toArray C i K a->qOp P (l++[o]).toArray C i K a:=by
  intro i K a hi h;unfold qOp at *;rw[hget i hi];have hl:l.toArray[i]?=some l[i]:=by simp[hi]
  rw[hl] at h ⊢;have hm:l[i]∈l++[o]:=List.mem_append_left _ (List.getElem_mem hi);simp only[hno _ _ hm] at h ⊢;exact h
 intro fuel;induction fuel with
 | zero =>
  intro listed a w hs hcl hC h;have hall:=ready_all hel (by simpa using hs) h.1;refine⟨λhr=>(hempty listed hs hr).elim,λi hi=>?_⟩;have hil:i=l.length:=by
   by_cases e:i<l.length
   ·have:=(hlt listed hs i e).1 hi
    rw[h.1] at this;cases this
   ·obtain⟨_,o',ho',_⟩:=mem_ready.1 hi;have:=(Array.getElem?_eq_some_iff.1 ho').1
    simp at this;omega
  subst hil;exact wpOp_mono (λa' w' hq=>⟨hdone listed hs hall,hq⟩) (hQ a w hC h.2)
 | succ fuel ih =>
  intro listed a w hs hcl hC h;refine⟨λhr=>(hempty listed hs hr).elim,λi hi=>?_⟩;by_cases e:i<l.length
  ·have hr:=(hlt listed hs i e).1 hi;have hq:=h.2 i hr;refine wpOp_of_qOp hC (λa' w' hC' hK=>?_) (hqop i _ a e hq);have hcl2:∀j oj,l[j]?=some oj->(listed.setIfInBounds i true).getD j false=true->∀e∈oj.after,Region.binds .any e=true->(listed.setIfInBounds i true).getD e.on false=true:=by
    intro j oj hoj hj e' he' hb';by_cases hij:j=i
    ·subst hij;obtain⟨_,o',ho',hall⟩:=mem_ready.1 hr;have e1:o'=oj:=by
      have:l.toArray[j]?=some oj:=by simpa using hoj
      rw[this] at ho';injection ho' with h;exact h.symm
     subst e1;exact set_mono (hall e' he' hb')
    ·exact set_mono (hcl j oj hoj (set_true hj hij) e' he' hb')
   have:=ih (listed.setIfInBounds i true) a' w' (by simpa using hs) hcl2 hC' hK
   have e2:(listed.setIfInBounds i true).push false=(listed.push false).setIfInBounds i true:=push_set (by omega);rw[e2] at this;exact this
  ·have hil:i=l.length:=by
    obtain⟨_,o',ho',_⟩:=mem_ready.1 hi;have:=(Array.getElem?_eq_some_iff.1 ho').1
    simp at this;omega
   subst hil;have hall:=hlast listed hs hcl hi;have hr0:Region.ready .any l.toArray listed=[]:=by
    cases hrr:Region.ready .any l.toArray listed with
    | nil=>rfl
    | cons j r =>
     exfalso
     have hj:j∈Region.ready .any l.toArray listed:=(by rw[hrr];simp);obtain⟨h1,o',ho',_⟩:=mem_ready.1 hj;have hjl:j<l.length:=(by simpa using (Array.getElem?_eq_some_iff.1 ho').1);have h2:=hall j hjl;have hjs:j<listed.size:=(by omega);simp only[Array.getD,hjs,dif_pos] at h1 h2;rw[h2] at h1;cases h1
   exact wpOp_mono (λa' w' hq=>⟨λ_=>hq,λi hi=>by rw[hdone listed hs hall] at hi;cases hi⟩) (hQ a w hC (h.1 hr0))
theorem wp_region_last{id:Nat}{a:Act}{w:World}(ops:List Oper)(l:List Oper)(o:Oper)(hsp:ops=l++[o])(hm:P.follows .mixedOrders=true)(hB:Region.lexB .any l.toArray=true)(hel:earlier l.toArray=true)(heo:earlier ops.toArray=true)
  (hre:allReach ops.toArray l.length=true) (hg:ops.all (λx=>x.guard.isNone)=true)
  (h:wpQuiet P l.toArray (λw'=>∃n,w'=w.drewN n) (λa'=>∀w',(∃n,w'=w.drewN n)->wpOp P ops.toArray Q l.length (Q .normal) a' w') l a):(Code.region id ops.toArray true).wp P Q a w:=by
 subst hsp;simp only[Region.lexB,Bool.and_eq_true] at hB;refine wp_region_any hm ?_;have h1:=wpAnyQ_lex (C:=λw'=>∃n,w'=w.drewN n) (md:=.any) hB.1 l 0 (Array.replicate l.length false) a (by simp) (by simpa using hB.2) h;have h2:=any_last (C:=λw'=>∃n,w'=w.drewN n) (Q:=Q) hel heo hre hg (λa w' hw hq=>hq w' hw) l.length (Array.replicate l.length false) a { w with drawn:=w.drawn+1 } (by simp) (λj oj _ hj=>by simp[Array.getD] at hj) ⟨1,rfl⟩ h1;have e:(Array.replicate l.length false).push false=Array.replicate (l++[o]).toArray.size false:=by
  rw[<-Array.replicate_succ];simp
 rw[e] at h2;simpa using h2
end
end Go.Proofs.YtcfblkkpclfmaaaGreat
