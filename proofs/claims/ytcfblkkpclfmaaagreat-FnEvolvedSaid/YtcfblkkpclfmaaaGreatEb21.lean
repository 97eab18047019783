/- Part 21 of the proof of FnEvolved; no condition. -/
import Derived.Test.YtcfblkkpclfmaaaGreatEb20
import Derived.Test.YtcfblkkpclfmaaaGreatEb02
import Derived.Test.YtcfblkkpclfmaaaGreatEb12
import Derived.Test.YtcfblkkpclfmaaaGreatEb01
set_option linter.unusedVariables false
set_option linter.unusedSimpArgs false
set_option maxRecDepth 100000
set_option maxHeartbeats 16000000
namespace Go.Proofs.YtcfblkkpclfmaaaGreat
open Go.RowKit
theorem three(w:World)(A B C:Obj):∃x,((w.alloc A).alloc B).alloc C=x/\x.heap.size=w.heap.size+3/\Fr0 w x/\x.heap[w.heap.size]?=some A/\x.heap[w.heap.size+1]?=some B/\x.heap[w.heap.size+1+1]?=some C:=⟨_,rfl,by simp,((Fr.refl _ w).alloc _).alloc _ |>.alloc _,by simp only[heap_alloc_get,size_alloc];rw[if_neg (by omega),if_neg (by omega),if_pos trivial],by simp only[heap_alloc_get,size_alloc];rw[if_neg (by omega),if_pos trivial],by simp only[heap_alloc_get,size_alloc];rw[if_pos trivial]⟩
theorem LTexts_get{al:Bool}{B:List UInt8}:∀(ks:List Val) (a:Nat),LTexts al B ks a->∀j (h:j<ks.length),RefOk al B (a-4*j)/\LText al B ks[j].text (refE B (a-4*j))
 | [],_,_,j,h=>by simp at h
 | v::r,a,hl,j,h=>by
  rw[LTexts_cons] at hl;cases j with
  | zero=>exact⟨hl.1,hl.2.1⟩
  | succ j =>
   have:=LTexts_get r (a-4) hl.2.2 j (by simpa using h)
   rw[show a-4-4*j=a-4*(j+1) by omega] at this;exact this
theorem LKids_get{al:Bool}{B:List UInt8}:∀(ks:List Val) (a:Nat),LKids al B ks a->∀j (h:j<ks.length),RefOk al B (a-4*j)/\LTab al B ks[j] (refE B (a-4*j))
 | [],_,_,j,h=>by simp at h
 | v::r,a,hl,j,h=>by
  rw[LKids] at hl;cases j with
  | zero=>exact⟨hl.1,hl.2.1⟩
  | succ j =>
   have:=LKids_get r (a-4) hl.2.2 j (by simpa using h)
   rw[show a-4-4*j=a-4*(j+1) by omega] at this;exact this
theorem lval_ref{al:Bool}{l:List UInt8}{v:Val}{a:Nat}(h:LVal al l v a)(h1:10<v.kind)(h2:v.kind≠17)(hl:l.length<=1000000000):∃r,mJump l (l.length-a)=some (l.length-r)/\LObj al l v r/\a<=l.length:=by
 rw[LVal_ref (by omega) h2] at h;exact⟨refE l a,mJump_ref h.1 hl,h.2,h.1.len⟩
theorem rd_text{al:Bool}{l:List UInt8}{e n:Nat}{t:List UInt8}{ns:List Nat}{ks:List Val}{ss:List (Slt Val)}{a:Nat}(h:LVal al l (.mk 11 e n t ns ks ss) a)(hl:l.length<=1000000000):mText l (l.length-a)=some t:=by
 obtain⟨r,h1,h2,_⟩:=lval_ref h (show 10<11 by omega) (show 11≠17 by omega) hl;exact mText_text h1 (show LText al l t r by simpa [LObj] using h2) hl
theorem rd_bytes{al:Bool}{l:List UInt8}{e n:Nat}{t:List UInt8}{ns:List Nat}{ks:List Val}{ss:List (Slt Val)}{a:Nat}(h:LVal al l (.mk 12 e n t ns ks ss) a)(hl:l.length<=1000000000):mText l (l.length-a)=some t:=by
 obtain⟨r,h1,h2,_⟩:=lval_ref h (show 10<12 by omega) (show 12≠17 by omega) hl;have h3:LBytes al l t r:=by simpa [LObj] using h2
 exact mText_bytes (al:=al) h1 h3.1 hl
structure RdVec(l:List UInt8)(p n q:Nat):Prop where
 jump:mJump l p=some q
 len:mGet l 34 q=some n
 small:n<=200
 at4:q+4<=l.length
theorem rd_nums{al:Bool}{l:List UInt8}{e n:Nat}{t:List UInt8}{ns:List Nat}{ks:List Val}{ss:List (Slt Val)}{a:Nat}(h:LVal al l (.mk 13 e n t ns ks ss) a)(hl:l.length<=1000000000)(hns:∀x∈ns,OkNum e x)(hn:ns.length<=200):
  ∃q,RdVec l (l.length-a) ns.length q/\∀i (h:i<ns.length),mGet l e (q+4+i*numSize e)=some ns[i]:=by
 obtain⟨r,h1,h2,_⟩:=lval_ref h (show 10<13 by omega) (show 13≠17 by omega) hl;have h3:LNums al l e ns r:=by simpa [LObj] using h2
 have hlow:=h3.1.left.low;have hlen:=h3.1.len;rw[leB_length] at hlow;refine⟨l.length-r,⟨h1,vec_len h3.1 (by omega),hn,by omega⟩,λi hi=>?_⟩;have hr:=h3.1.right;rw[leB_length] at hr;have:=nums_get hr hns i hi
 rw[show l.length-(r-4)+i*numSize e=l.length-r+4+i*numSize e by omega] at this;exact this
theorem rd_texts{al:Bool}{l:List UInt8}{e n:Nat}{t:List UInt8}{ns:List Nat}{ks:List Val}{ss:List (Slt Val)}{a:Nat}(h:LVal al l (.mk 14 e n t ns ks ss) a)(hl:l.length<=1000000000)(hn:ks.length<=200):
  ∃q,RdVec l (l.length-a) ks.length q/\q+4+4*ks.length<=l.length/\∀i (h:i<ks.length),mText l (q+4+i*4)=some ks[i].text:=by
 obtain⟨r,h1,h2,_⟩:=lval_ref h (show 10<14 by omega) (show 14≠17 by omega) hl;have h3:LVec al l ks.length r/\LTexts al l ks (r-4):=by simpa [LObj] using h2
 have hlen:=h3.1.1.len;have hv:=h3.1.2.1;refine⟨l.length-r,⟨h1,?_,hn,by omega⟩,by omega,λi hi=>?_⟩
 ·rw[mGet_at4 hlen (by omega),h3.1.1.at4 (leB_length _ _),le_leB,Nat.mod_eq_of_lt (by omega)]
 ·obtain⟨g1,g2⟩:=LTexts_get ks (r-4) h3.2 i hi;have hj:=mJump_ref g1 hl;rw[show l.length-(r-4-4*i)=l.length-r+4+i*4 by omega] at hj;exact mText_text hj g2 hl
theorem rd_kids{al:Bool}{l:List UInt8}{e n:Nat}{t:List UInt8}{ns:List Nat}{ks:List Val}{ss:List (Slt Val)}{a:Nat}(h:LVal al l (.mk 16 e n t ns ks ss) a)(hl:l.length<=1000000000)(hn:ks.length<=200):
  ∃q,RdVec l (l.length-a) ks.length q/\q+4+4*ks.length<=l.length/\∀i (h:i<ks.length),∃o,mJump l (q+4+i*4)=some (l.length-o)/\LTab al l ks[i] o:=by
 obtain⟨r,h1,h2,_⟩:=lval_ref h (show 10<16 by omega) (show 16≠17 by omega) hl;have h3:LVec al l ks.length r/\LKids al l ks (r-4):=by simpa [LObj] using h2
 have hlen:=h3.1.1.len;have hv:=h3.1.2.1;refine⟨l.length-r,⟨h1,?_,hn,by omega⟩,by omega,λi hi=>?_⟩
 ·rw[mGet_at4 hlen (by omega),h3.1.1.at4 (leB_length _ _),le_leB,Nat.mod_eq_of_lt (by omega)]
 ·obtain⟨g1,g2⟩:=LKids_get ks (r-4) h3.2 i hi;have hj:=mJump_ref g1 hl;rw[show l.length-(r-4-4*i)=l.length-r+4+i*4 by omega] at hj;exact⟨_,hj,g2⟩
theorem rd_tab{al:Bool}{l:List UInt8}{e n:Nat}{t:List UInt8}{ns:List Nat}{ks:List Val}{ss:List (Slt Val)}{a:Nat}(h:LVal al l (.mk 15 e n t ns ks ss) a)(hl:l.length<=1000000000):
  ∃o,mJump l (l.length-a)=some (l.length-o)/\LTab al l (.mk 15 e n t ns ks ss) o:=by
 obtain⟨r,h1,h2,_⟩:=lval_ref h (show 10<15 by omega) (show 15≠17 by omega) hl;exact⟨r,h1,by simpa [LObj,LTab] using h2⟩
theorem rd_struct{al:Bool}{l:List UInt8}{e n:Nat}{t:List UInt8}{ns:List Nat}{ks:List Val}{ss:List (Slt Val)}{a:Nat}(h:LVal al l (.mk 17 e n t ns ks ss) a):a<=l.length/\t.length<=a/\(l.drop (l.length-a)).take t.length=t:=by
 have h3:BytesAt l a t/\(al=true->a%e=0):=by simpa [LVal] using h
 exact⟨h3.1.len,h3.1.low,h3.1.eq⟩
theorem size_setCell(w:World)(p:Addr)(v:Value):(w.setCell p v).heap.size=w.heap.size:=by simp[World.setCell]
def nums64(l:List Nat):List Value:=l.map λ(x:Nat)=>.int .u64 x
theorem nums_row{w:World}{base n:Nat}{T:TypeId}{nv:Value}{ns:List Nat}{B:Nat->Prop}(h:w.ownsRow base T 1 nv n (nums64 ns))(hn:n=ns.length)(h64:∀x∈ns,x<2^64)(hB:∀g,nv.ownBlock=some g->B g):NumsIs B w nv ns:=by
 subst hn;rcases h.2 with ⟨rfl,h0⟩|⟨g,cap,cur,rfl,hb,hg,h1,h2,h3,h4⟩
 ·obtain rfl:=List.eq_nil_of_length_eq_zero h0;exact⟨none,0,rfl,Nat.le_refl _,Nat.zero_le _,λh=>absurd rfl h,λn hn=>by cases hn⟩
 ·refine⟨_,cap,rfl,h1,h2,λ_=>⟨g,0,rfl,lt_of_block hg,hB g rfl,λi hi=>?_⟩,h64⟩;have h5:(cur.toList.take (ns.length*1))[i]?=some (.int .u64 ns[i]):=by rw[h4];simp[nums64,List.getElem?_eq_getElem hi]
  rw[List.getElem?_take,if_pos (by omega)] at h5;rw[Nat.zero_add,cell_of hg];simpa using h5
theorem VIs.textv{B:Nat->Prop}{w:World}{k e:Nat}{t:List UInt8}(hk:k<256)(he:e<256)(ht:t.length<=maxLen):VIs B w [.int .u8 k,.int .u8 e,.int .u64 0,.string (strOf t),.slice none 0 0,.slice none 0 0,.slice none 0 0] (.mk k e 0 t [] [] []) :=
 .mk k e 0 t [] [] [] (.slice none 0 0) none 0 0 0 none 0 0 0 hk he (by omega) ht ⟨none,0,rfl,Nat.le_refl _,Nat.zero_le _,λh=>absurd rfl h,λn hn=>by cases hn⟩ (λh=>absurd rfl h) ⟨Nat.le_refl _,Nat.zero_le _⟩ (λi h=>by simp at h) (λh=>absurd rfl h) ⟨Nat.le_refl _,Nat.zero_le _⟩ (λi h=>by simp at h) (λi h=>by simp at h)
theorem VIs.numv{B:Nat->Prop}{w:World}{k e:Nat}{ns:List Nat}{nv:Value}(hk:k<256)(he:e<256)(hn:NumsIs B w nv ns):VIs B w [.int .u8 k,.int .u8 e,.int .u64 0,.string ⟨#[]⟩,nv,.slice none 0 0,.slice none 0 0] (.mk k e 0 [] ns [] []) :=
 .mk k e 0 [] ns [] [] nv none 0 0 0 none 0 0 0 hk he (by omega) (Nat.zero_le _) hn (λh=>absurd rfl h) ⟨Nat.le_refl _,Nat.zero_le _⟩ (λi h=>by simp at h) (λh=>absurd rfl h) ⟨Nat.le_refl _,Nat.zero_le _⟩ (λi h=>by simp at h) (λi h=>by simp at h)
theorem maker_next{w wr w6 w7:World}{row:Value}{o:Obj}{bx:List Value}{TI TO:TypeId}{c7:Array Value}{j:Nat}{u:Value}(hfr:Fr0 w wr)(hs:w.heap.size+3<=wr.heap.size)(hbox:wr.heap[w.heap.size]?=some (.cells bx.toArray TI))(hout:wr.heap[w.heap.size+1+1]?=some (.cells c7 TO))
  (hres:∃c:Array Value,c.size=7/\wr.heap[w.heap.size+1]?=some (.cells c TO)) (hrl:∀g,row.ownBlock=some g->w.heap.size+3<=g/\g<wr.heap.size) (h56:Fr0 wr w6) (hgrow:(w6.alloc o).grownBy w7 row.ownBlock):
  Fr0 w (w7.setCell ⟨w.heap.size+1+1,j,none⟩ u)/\w.heap.size+3<=(w7.setCell ⟨w.heap.size+1+1,j,none⟩ u).heap.size/\(w7.setCell ⟨w.heap.size+1+1,j,none⟩ u).heap[w.heap.size]?=some (.cells bx.toArray TI) /\
   (w7.setCell ⟨w.heap.size+1+1,j,none⟩ u).heap[w.heap.size+1+1]?=some (.cells (c7.setIfInBounds j u) TO)/\(∃c:Array Value,c.size=7/\(w7.setCell ⟨w.heap.size+1+1,j,none⟩ u).heap[w.heap.size+1]?=some (.cells c TO)):=by
 have hs6:=h56.size;have hs7:=hgrow.size;rw[size_alloc] at hs7;have hfr7:Fr (λb=>some b=row.ownBlock) wr w7:=((h56.mono (S':=λb=>some b=row.ownBlock) (λ_ _ x=>x.elim)).alloc o).trans (grown_fr' hgrow);have hkeep:∀b,b<w.heap.size+3->w7.heap[b]?=wr.heap[b]?:=λb hb=>hfr7.block b (by omega) (λe=>by have:=(hrl b e.symm).1;omega);have hset:∀b,b≠w.heap.size+1+1->(w7.setCell ⟨w.heap.size+1+1,j,none⟩ u).heap[b]?=w7.heap[b]?:=λb hb=>heap_setCell_other w7 _ u b hb;have hssz:(w7.setCell ⟨w.heap.size+1+1,j,none⟩ u).heap.size=w7.heap.size:=by simp[World.setCell]
 refine⟨?_,by rw[hssz];omega,?_,?_,?_⟩
 ·refine (hfr.trans2 hfr7 (λb hb e=>?_)).setCell (λhb=>?_) _
  ·have:=(hrl b e.symm).1;omega
  ·have:w.heap.size+1+1<w.heap.size:=hb
   omega
 ·rw[hset _ (by omega),hkeep _ (by omega)];exact hbox
 ·have h1:w7.heap[w.heap.size+1+1]?=some (.cells c7 TO):=by rw[hkeep _ (by omega)];exact hout
  exact heap_setCell_same h1 j _
 ·obtain⟨c,hc1,hc2⟩:=hres;exact⟨c,hc1,by rw[hset _ (by omega),hkeep _ (by omega)];exact hc2⟩
structure RN1(w:World)(bx:List Value)(k e:Nat)(ns:List Nat)(i:Nat)(nv:Value)(wr:World):Prop where
 fr:Fr0 w wr
 size:w.heap.size+3<=wr.heap.size
 box:wr.heap[w.heap.size]?=some (.cells bx.toArray 46)
 out:wr.heap[w.heap.size+1+1]?=some (.cells #[.int .u8 k,.int .u8 e,.int .u64 0,.string ⟨#[]⟩,nv,.slice none 0 0,.slice none 0 0] 46)
 res:∃c:Array Value,c.size=7/\wr.heap[w.heap.size+1]?=some (.cells c 46)
 row:wr.ownsRow (w.heap.size+3) 22 1 nv i (nums64 (ns.take i))
theorem RN1.next{w wr w6 w7:World}{bx:List Value}{k e i g7 cap7:Nat}{ns:List Nat}{nv:Value}{o:Obj}(h:RN1 w bx k e ns i nv wr)(hi:i<ns.length)(h56:Fr0 wr w6)(hgrow:(w6.alloc o).grownBy w7 nv.ownBlock)
  (hown7:w7.ownsRow (w.heap.size+3) 22 1 (.slice (some ⟨g7,0,none⟩) (i+1) cap7) (i+1) (nums64 (ns.take i)++[.int .u64 ns[i]])) (hat7:nv.ownBlock=some g7\/g7=w6.heap.size+1):
  RN1 w bx k e ns (i+1) (.slice (some ⟨g7,0,none⟩) (i+1) cap7) (w7.setCell ⟨w.heap.size+1+1,4,none⟩ (.slice (some ⟨g7,0,none⟩) (i+1) cap7)):=by
 have hrl:=ownBlock_lt h.row;obtain⟨m1,m2,m3,m4,m5⟩:=maker_next (j:=4) (u:=.slice (some ⟨g7,0,none⟩) (i+1) cap7) h.fr h.size h.box h.out h.res hrl h56 hgrow;have hs:=h.size;have hs6:=h56.size;refine⟨m1,m2,m3,m4,m5,?_⟩;have e1:nums64 (ns.take (i+1))=nums64 (ns.take i)++[.int .u64 ns[i]]:=by rw[List.take_succ_eq_append_getElem hi];unfold nums64;rw[List.map_append];rfl
 rw[e1];refine ownFr (S:=λq=>q=w.heap.size+1+1) hown7 (Fr.set1 w7 _ 4 _) (λg hg e=>?_);have e2:some g7=some g:=hg;injection e2 with e2;subst e2;rcases hat7 with h1|h1
 ·have:=(hrl _ h1).1;omega
 ·omega
theorem TV1.next0{B:Nat->Prop}{w:World}{bx:List Value}{TI TO:TypeId}{k e n n':Nat}{t:ByteArray}{nv:Value}{wr w6 w7:World}{kv:Value}{kits:List (List Value × Val)}{kid:Val}{csr:List Value}{o:Obj}{g7 cap7:Nat}(h:TV1 B w bx TI TO k e n t nv wr kv kits)
  (h56:Fr0 wr w6) (hv6:VIs (λb=>(B b/\b<w.heap.size)\/wr.heap.size<=b) w6 csr kid) (hgrow:(w6.alloc o).grownBy w7 kv.ownBlock) (hn:n'=kits.length+1)
  (hown7:w7.ownsRow (w.heap.size+3) TO 7 (.slice (some ⟨g7,0,none⟩) n' cap7) n' ((kits.map λx=>x.1).flatten++csr)) (hat7:kv.ownBlock=some g7\/g7=w6.heap.size+1):
  TV1 B w bx TI TO k e n t nv (w7.setCell ⟨w.heap.size+1+1,5,none⟩ (.slice (some ⟨g7,0,none⟩) n' cap7)) (.slice (some ⟨g7,0,none⟩) n' cap7) (kits++[(csr,kid)]):=by
 have hs:=h.size;have hrl:=ownBlock_lt h.krow.own;obtain⟨m1,m2,m3,m4,m5⟩:=maker_next (j:=5) (u:=.slice (some ⟨g7,0,none⟩) n' cap7) h.fr h.size h.box h.out h.res hrl h56 hgrow;exact⟨m1,m2,m3,m4,m5,h.krow.snoc valP_mono hs h56 (x:=(csr,kid)) hv6 hgrow hown7 hn hat7 (by omega)⟩
theorem set7_all{α:Type}(a0 a1 a2 a3 a4 a5 a6 x0 x1 x2 x3 x4 x5 x6:α):(((((((#[a0,a1,a2,a3,a4,a5,a6].setIfInBounds 0 x0).setIfInBounds 1 x1).setIfInBounds 2 x2).setIfInBounds 3 x3).setIfInBounds 4 x4).setIfInBounds 5 x5).setIfInBounds 6 x6)=#[x0,x1,x2,x3,x4,x5,x6]:=by simp only[zA,zB,zC]
theorem results_set7{P:Program}{fn:Func}{p:Tmp}{ty:TypeId}(h:fn.results=#[.cell p ty])(tmps:Array Value)(w:World)(g:Nat)(t:TypeId)(c:Array Value)(d:TypeDesc)(x0 x1 x2 x3 x4 x5 x6:Value)
  (hp:tmps.getD p undef=.pointer (some ⟨g,0,none⟩)) (hc:c.size=7) (hg:w.heap[g]?=some (.cells c t)) (hu:P.underlying ty=some d) (hd:(match d with|.struct _|.array _ _=>true|_=>false)=true) (hi:(P.info? ty).map (·.size)=some 7):
  (results fn tmps).run P (((((((w.setCell ⟨g,0,none⟩ x0).setCell ⟨g,1,none⟩ x1).setCell ⟨g,2,none⟩ x2).setCell ⟨g,3,none⟩ x3).setCell ⟨g,4,none⟩ x4).setCell ⟨g,5,none⟩ x5).setCell ⟨g,6,none⟩ x6)=.ok (.agg #[x0,x1,x2,x3,x4,x5,x6]) (((((((w.setCell ⟨g,0,none⟩ x0).setCell ⟨g,1,none⟩ x1).setCell ⟨g,2,none⟩ x2).setCell ⟨g,3,none⟩ x3).setCell ⟨g,4,none⟩ x4).setCell ⟨g,5,none⟩ x5).setCell ⟨g,6,none⟩ x6):=by
 obtain⟨a0,a1,a2,a3,a4,a5,a6,rfl⟩:=arr7 hc;have h7:=heap_setCell_same (heap_setCell_same (heap_setCell_same (heap_setCell_same (heap_setCell_same (heap_setCell_same (heap_setCell_same hg 0 x0) 1 x1) 2 x2) 3 x3) 4 x4) 5 x5) 6 x6;rw[set7_all] at h7;exact results_row h tmps _ g t _ (0,0) d hp h7 hu hd hi
theorem results_drew{P:Program}{fn:Func}{p:Tmp}{ty:TypeId}(h:fn.results=#[.cell p ty])(tmps:Array Value)(w:World)(g:Nat)(t:TypeId)(cs:Array Value)(d:TypeDesc)(hp:tmps.getD p undef=.pointer (some ⟨g,0,none⟩))(hg:w.heap[g]?=some (.cells cs t))(hu:P.underlying ty=some d)(hd:(match d with|.struct _|.array _ _=>true|_=>false)=true)(hi:(P.info? ty).map (·.size)=some cs.size):
  (results fn tmps).run P w.drew=.ok (.agg cs) w.drew:=results_row h tmps w.drew g t cs (0,0) d hp hg hu hd hi
theorem results_set7d{P:Program}{fn:Func}{p:Tmp}{ty:TypeId}(h:fn.results=#[.cell p ty])(tmps:Array Value)(w:World)(g:Nat)(t:TypeId)(c:Array Value)(d:TypeDesc)(x0 x1 x2 x3 x4 x5 x6:Value)
  (hp:tmps.getD p undef=.pointer (some ⟨g,0,none⟩)) (hc:c.size=7) (hg:w.heap[g]?=some (.cells c t)) (hu:P.underlying ty=some d) (hd:(match d with|.struct _|.array _ _=>true|_=>false)=true) (hi:(P.info? ty).map (·.size)=some 7):
  (results fn tmps).run P (((((((w.setCell ⟨g,0,none⟩ x0).setCell ⟨g,1,none⟩ x1).setCell ⟨g,2,none⟩ x2).setCell ⟨g,3,none⟩ x3).setCell ⟨g,4,none⟩ x4).setCell ⟨g,5,none⟩ x5).setCell ⟨g,6,none⟩ x6).drew=.ok (.agg #[x0,x1,x2,x3,x4,x5,x6]) (((((((w.setCell ⟨g,0,none⟩ x0).setCell ⟨g,1,none⟩ x1).setCell ⟨g,2,none⟩ x2).setCell ⟨g,3,none⟩ x3).setCell ⟨g,4,none⟩ x4).setCell ⟨g,5,none⟩ x5).setCell ⟨g,6,none⟩ x6).drew:=by
 obtain⟨a0,a1,a2,a3,a4,a5,a6,rfl⟩:=arr7 hc;have h7:=heap_setCell_same (heap_setCell_same (heap_setCell_same (heap_setCell_same (heap_setCell_same (heap_setCell_same (heap_setCell_same hg 0 x0) 1 x1) 2 x2) 3 x3) 4 x4) 5 x5) 6 x6;rw[set7_all] at h7;exact results_drew h tmps _ g t _ d hp h7 hu hd hi
theorem VRes.of_set7{w wr:World}{v:Val}{x0 x1 x2 x3 x4 x5 x6:Value}(hf:Fr0 w wr)(hs:w.heap.size+3<=wr.heap.size)(hv:VIs (λb=>w.heap.size+3<=b) wr [x0,x1,x2,x3,x4,x5,x6] v):
  VRes (λ_=>False) v w (.returned (.agg #[x0,x1,x2,x3,x4,x5,x6])) (((((((wr.setCell ⟨w.heap.size+1,0,none⟩ x0).setCell ⟨w.heap.size+1,1,none⟩ x1).setCell ⟨w.heap.size+1,2,none⟩ x2).setCell ⟨w.heap.size+1,3,none⟩ x3).setCell ⟨w.heap.size+1,4,none⟩ x4).setCell ⟨w.heap.size+1,5,none⟩ x5).setCell ⟨w.heap.size+1,6,none⟩ x6):=by
 have h7:=fr_set7 wr (w.heap.size+1) x0 x1 x2 x3 x4 x5 x6;exact⟨[x0,x1,x2,x3,x4,x5,x6],rfl,hv.fr h7 (λb hb hbb=>⟨.inr (by omega),λe=>by omega⟩),hf.trans2 h7 (λb hb e=>by omega)⟩
theorem VRes.drew{B:Nat->Prop}{v:Val}{w w':World}{e:Ending}(h:VRes B v w e w'):VRes B v w e w'.drew:=by
 obtain⟨cs,h1,h2,h3⟩:=h;exact⟨cs,h1,h2.fr0 ((Fr.refl _ w').drew) (λ_ _ x=>x),h3.drew⟩
theorem Tab.fresh{w w':World}{T T' B:Nat}{l:List UInt8}{pos q:Nat}{t:TypeId}(h:Tab w T B l pos)(hf:Fr0 w w')(hb:w'.heap[T']?=some (.cells #[.slice (some ⟨B,0,none⟩) l.length l.length,.int .u32 q] t))(hq:q<4294967296):Tab w' T' B l q :=
 ⟨by rw[cell_of hb];rfl,by rw[cell_of hb];rfl,(hf.block B (lt_of_block h.b) (λx=>x)).trans h.b,h.hl,hq⟩
theorem read0_text{v:Val}(h:Pure v)(hk:v.kind=11):read0 v=.mk 11 0 0 v.text [] [] []:=by
 cases h with
 | mk k e n t ns ks ss hkx hnum htext hnums hkids hslots helem =>
  have hk:k=11:=hk;subst hk;obtain rfl:=hnum (by omega);obtain rfl:=hnums (by omega);obtain rfl:=hkids (by omega) (by omega);obtain rfl:=hslots (by omega);obtain rfl:=helem (by omega) (by omega);rfl
theorem Pure.lens{v:Val}(h:Pure v):v.text.length<=1000:=by cases h;assumption
theorem kind11{k:Nat}(hk:k<=10):k=0\/k=1\/k=2\/k=3\/k=4\/k=5\/k=6\/k=7\/k=8\/k=9\/k=10:=by omega
theorem specSize_calls(k:Nat)(hk:k<=10)(w:World):Calls Tryz.prog 24 #[.int .u8 k] w λe w'=>e=.returned (.int .i64 (numSize k))/\w=w':=by
 rcases kind11 hk with rfl|rfl|rfl|rfl|rfl|rfl|rfl|rfl|rfl|rfl|rfl <;>
 ·go_enter Tryz.func24,Tryz.ntmps24;go_wp2
  go_ret;exact⟨rfl,rfl⟩
theorem zzFits8_calls(sz:Int)(id:List UInt8)(sh:Bool)(w:World):Calls Tryz.prog 17 #[.agg #[.int .i64 sz,.string (strOf id),.bool sh]] w λe w'=>e=.returned (.bool (decide (id.length<=2147483647)))/\Fr0 w w':=by
 obtain⟨S,hS⟩:=exA (strOf id);have hsz:S.size=id.length:=by rw[hS,strOf_size]
 rw[<-hS];clear hS;have HF:=Hd (((Fr.refl (λ_=>False) w).alloc (.cells #[.int .i64 sz,.string S,.bool sh] 29)));by_cases h:id.length<=2147483647
 ·rw[decide_eq_true h];have h1:((2147483647:Int)<(S.size:Int))=False:=by rw[hsz];simp;omega
  clear h hsz;go_enter Tryz.func17,Tryz.ntmps17;go_wp2_with fail;go_ret;exact⟨rfl,HF.out⟩
 ·rw[decide_eq_false h];have h1:((2147483647:Int)<(S.size:Int))=True:=by rw[hsz];simp;omega
  clear h hsz;go_enter Tryz.func17,Tryz.ntmps17;go_wp2_with fail;go_ret;exact⟨rfl,HF.out⟩
theorem zzFits7_calls(v:Val)(cs:List Value)(w:World){B:Nat->Prop}(hv:VIs B w cs v):Calls Tryz.prog 16 #[.agg cs.toArray] w λe w'=>(∃r,e=.returned (.bool r))/\Fr0 w w':=by
 obtain⟨na,nl,nc,ka,nk,kc,sa,ns,sc,rfl⟩:=hv.lit;obtain⟨k,hk⟩:=exA (v.kind);obtain⟨e,hee⟩:=exA (v.elem);obtain⟨n,hn⟩:=exA (v.num);obtain⟨tt,htt⟩:=exA (strOf v.text);rw[<-hk,<-hee,<-hn,<-htt];clear hv hk hee hn htt;have HF:=Hd (((Fr.refl (λ_=>False) w).alloc (.cells #[.int .u8 k,.int .u8 e,.int .u64 n,.string tt,.slice na nl nc,.slice ka nk kc,.slice sa ns sc] 27)));go_enter Tryz.func16,Tryz.ntmps16;go_wp2_with fail;all_goals
  go_ret;exact⟨⟨_,rfl⟩,HF.out⟩
theorem absent_calls(v:Val)(cs:List Value)(w:World){B:Nat->Prop}(hv:VIs B w cs v):Calls Tryz.prog 54 #[.agg cs.toArray] w (VRes (λ_=>False) v.absent w):=by
 have hb:=hv.bounds;obtain⟨na,nl,nc,ka,nk,kc,sa,ns,sc,rfl⟩:=hv.lit;obtain⟨k,hk⟩:=exA (v.kind);obtain⟨e,hee⟩:=exA (v.elem);obtain⟨n,hn⟩:=exA (v.num);obtain⟨tt,htt⟩:=exA (strOf v.text);unfold Val.absent;rw[<-hk,<-hee] at hb ⊢;rw[<-hn,<-htt];clear hv hk hee hn htt;have hf:=((Fr.refl (λ_=>False) w).alloc (.cells #[.int .u8 k,.int .u8 e,.int .u64 n,.string tt,.slice na nl nc,.slice ka nk kc,.slice sa ns sc] 27)).alloc (.cells #[.int .u8 k,.int .u8 e,.int .u64 0,.string ⟨#[]⟩,.slice none 0 0,.slice none 0 0,.slice none 0 0] 27);have HF:=Hd hf;clear hf;go_enter Tryz.func54,Tryz.ntmps54;go_wp2_with fail;refine bodyPost_ret (results_row (P:=Tryz.prog) rfl _ _ (w.heap.size+1) 27 #[.int .u8 k,.int .u8 e,.int .u64 0,.string ⟨#[]⟩,.slice none 0 0,.slice none 0 0,.slice none 0 0] (0,0) _ rfl (by simp only[heap_alloc_get,size_alloc];rw[if_pos trivial]) Tryz.underlying27 rfl infoSVs) rfl ?_;exact⟨_,rfl,VIs.plain hb.1 hb.2.1 (Nat.two_pow_pos 64),HF.out⟩
theorem bits_and_u64(a b:Nat)(ha:a<2^64)(hb:b<2^64):bits .and .u64 (a:Int) (b:Int)=((a &&& b:Nat):Int):=by
 have h1:(BitVec.ofInt 64 (a:Int)).toNat=a:=by
  rw[BitVec.ofInt_natCast,BitVec.toNat_ofNat];exact Nat.mod_eq_of_lt ha
 have h2:(BitVec.ofInt 64 (b:Int)).toNat=b:=by
  rw[BitVec.ofInt_natCast,BitVec.toNat_ofNat];exact Nat.mod_eq_of_lt hb
 show IntKind.u64.wrap ((BitVec.ofInt 64 (a:Int) &&& BitVec.ofInt 64 (b:Int)).toNat:Int)=_;rw[BitVec.toNat_and,h1,h2];have:a &&& b<2^64:=Nat.lt_of_le_of_lt Nat.and_le_left ha
 exact wrap_u64_nat _ this
theorem and_low(a j:Nat)(ha:a<18446744073709551616)(hj:j<=60):bits .and .u64 (a:Int) ((2^j-1:Nat):Int)=((a%2^j:Nat):Int):=by
 have hp:2^j<=2^60:=Nat.pow_le_pow_right (by omega) hj;have hq:2^j-1<2^64:=by
  have:(2:Nat)^60<2^64:=by decide
  omega
 rw[bits_and_u64 a (2^j-1) ha hq,Nat.and_two_pow_sub_one_eq_mod]
theorem specRight_calls(k n:Nat)(hk:k<=10)(hn:n<2^64)(w:World):Calls Tryz.prog 46 #[.int .u8 k,.int .u64 n] w λe w'=>(∃r,e=.returned (.bool r)/\(r=true->OkNum k n))/\w=w':=by
 have HS:=Hd (λw=>specSize_calls k hk w);have hn2:n<18446744073709551616:=hn;have hn3:n<2^(8*numSize ((10:Nat):Int)):=hn;clear hn;rcases kind11 hk with rfl|rfl|rfl|rfl|rfl|rfl|rfl|rfl|rfl|rfl|rfl
 ·go_enter Tryz.func46,Tryz.ntmps46;go_wp2_with fail;go_ret;refine⟨⟨_,rfl,λh=>?_⟩,rfl⟩;have h1:(n:Int)<=1:=by simpa using h
  exact⟨by omega,by show n<2^8;omega,λ_=>by omega,λh=>by omega,λh=>by omega⟩
 ·go_enter Tryz.func46,Tryz.ntmps46;go_wp2_with fail;refine (HS.out _).mono ?_;rintro e w' ⟨rfl,rfl⟩;have e1:((numSize ((1:Nat):Int):Nat):Int)=1:=rfl;rw[e1];go_wp2_with fail;refine (HS.out _).mono ?_;rintro e w' ⟨rfl,rfl⟩;rw[e1];go_wp2_with fail;go_ret;refine⟨⟨_,rfl,λh=>?_⟩,rfl⟩;have h1:(n:Int)<256:=by simpa using h
  exact⟨by omega,by show n<2^8;omega,λh=>by omega,λh=>by omega,λh=>by omega⟩
 ·go_enter Tryz.func46,Tryz.ntmps46;go_wp2_with fail;refine (HS.out _).mono ?_;rintro e w' ⟨rfl,rfl⟩;have e1:((numSize ((2:Nat):Int):Nat):Int)=1:=rfl;rw[e1];go_wp2_with fail;refine (HS.out _).mono ?_;rintro e w' ⟨rfl,rfl⟩;rw[e1];go_wp2_with fail;go_ret;refine⟨⟨_,rfl,λh=>?_⟩,rfl⟩;have h1:(n:Int)<256:=by simpa using h
  exact⟨by omega,by show n<2^8;omega,λh=>by omega,λh=>by omega,λh=>by omega⟩
 ·go_enter Tryz.func46,Tryz.ntmps46;go_wp2_with fail;refine (HS.out _).mono ?_;rintro e w' ⟨rfl,rfl⟩;have e1:((numSize ((3:Nat):Int):Nat):Int)=2:=rfl;rw[e1];go_wp2_with fail;refine (HS.out _).mono ?_;rintro e w' ⟨rfl,rfl⟩;rw[e1];go_wp2_with fail;go_ret;refine⟨⟨_,rfl,λh=>?_⟩,rfl⟩;have h1:(n:Int)<65536:=by simpa using h
  exact⟨by omega,by show n<2^16;omega,λh=>by omega,λh=>by omega,λh=>by omega⟩
 ·go_enter Tryz.func46,Tryz.ntmps46;go_wp2_with fail;refine (HS.out _).mono ?_;rintro e w' ⟨rfl,rfl⟩;have e1:((numSize ((4:Nat):Int):Nat):Int)=2:=rfl;rw[e1];go_wp2_with fail;refine (HS.out _).mono ?_;rintro e w' ⟨rfl,rfl⟩;rw[e1];go_wp2_with fail;go_ret;refine⟨⟨_,rfl,λh=>?_⟩,rfl⟩;have h1:(n:Int)<65536:=by simpa using h
  exact⟨by omega,by show n<2^16;omega,λh=>by omega,λh=>by omega,λh=>by omega⟩
 ·go_enter Tryz.func46,Tryz.ntmps46;go_wp2_with fail;refine (HS.out _).mono ?_;rintro e w' ⟨rfl,rfl⟩;have e1:((numSize ((5:Nat):Int):Nat):Int)=4:=rfl;rw[e1];go_wp2_with fail;refine (HS.out _).mono ?_;rintro e w' ⟨rfl,rfl⟩;rw[e1];go_wp2_with fail;go_ret;refine⟨⟨_,rfl,λh=>?_⟩,rfl⟩;have h1:(n:Int)<4294967296:=by simpa using h
  exact⟨by omega,by show n<2^32;omega,λh=>by omega,λh=>by omega,λh=>by omega⟩
 ·go_enter Tryz.func46,Tryz.ntmps46;go_wp2_with fail;refine (HS.out _).mono ?_;rintro e w' ⟨rfl,rfl⟩;have e1:((numSize ((6:Nat):Int):Nat):Int)=4:=rfl;rw[e1];go_wp2_with fail;refine (HS.out _).mono ?_;rintro e w' ⟨rfl,rfl⟩;rw[e1];go_wp2_with fail;go_ret;refine⟨⟨_,rfl,λh=>?_⟩,rfl⟩;have h1:(n:Int)<4294967296:=by simpa using h
  exact⟨by omega,by show n<2^32;omega,λh=>by omega,λh=>by omega,λh=>by omega⟩
 ·go_enter Tryz.func46,Tryz.ntmps46;go_wp2_with fail;refine (HS.out _).mono ?_;rintro e w' ⟨rfl,rfl⟩;have e1:((numSize ((7:Nat):Int):Nat):Int)=8:=rfl;rw[e1];go_wp2_with fail;go_ret;refine⟨⟨_,rfl,λh=>?_⟩,rfl⟩;have h1:n<18446744073709551616:=by exact hn2
  exact⟨by omega,by show n<2^64;omega,λh=>by omega,λh=>by omega,λh=>by omega⟩
 ·go_enter Tryz.func46,Tryz.ntmps46;go_wp2_with fail;refine (HS.out _).mono ?_;rintro e w' ⟨rfl,rfl⟩;have e1:((numSize ((8:Nat):Int):Nat):Int)=8:=rfl;rw[e1];go_wp2_with fail;go_ret;refine⟨⟨_,rfl,λh=>?_⟩,rfl⟩;have h1:n<18446744073709551616:=by exact hn2
  exact⟨by omega,by show n<2^64;omega,λh=>by omega,λh=>by omega,λh=>by omega⟩
 ·have e1:bits .and .u64 ((n:Int) / 8388608) 255=(((n / 8388608)%256:Nat):Int):=by
   have:=and_low (n / 8388608) 8 (by omega) (by omega)
   simpa using this
  have e2:bits .and .u64 (n:Int) 8388607=((n%8388608:Nat):Int):=by
   have:=and_low n 23 (by omega) (by omega)
   simpa using this
  have HE1:=Hd e1;have HE2:=Hd e2;clear e1 e2;go_enter Tryz.func46,Tryz.ntmps46;go_upto_region 5 with fail;generalize hM:(4294967296:Int)=M;have HM:=Hd hM;clear hM;by_cases h32:(n:Int)<M
  ·go_wp2_with fail;all_goals
    go_ret;refine⟨⟨_,rfl,λh=>?_⟩,rfl⟩;have hM:=HM.out;have e1:=HE1.out;have e2:=HE2.out;have key:n<4294967296/\(n / 8388608%256=255->n%8388608=0):=by
     refine⟨by omega,λh255=>?_⟩;rename_i hc
     first
      | (exfalso;rw[e1] at hc;omega)
      | (rw[e2] at h;simp at h;omega)
    exact⟨by omega,by show n<2^32;omega,λh=>by omega,λ_=>by show n%2147483648<=2139095040;omega,λh=>by omega⟩
  ·go_wp2_with fail;go_ret;exact⟨.inl rfl,rfl⟩
 ·have e1:bits .and .u64 ((n:Int) / 4503599627370496) 2047=(((n / 4503599627370496)%2048:Nat):Int):=by
   have:=and_low (n / 4503599627370496) 11 (by omega) (by omega)
   simpa using this
  have e2:bits .and .u64 (n:Int) 4503599627370495=((n%4503599627370496:Nat):Int):=by
   have:=and_low n 52 (by omega) (by omega)
   simpa using this
  have HE1:=Hd e1;have HE2:=Hd e2;clear e1 e2;go_enter Tryz.func46,Tryz.ntmps46;go_wp2_with fail;all_goals
   go_ret;refine⟨⟨_,rfl,λh=>?_⟩,rfl⟩;have e1:=HE1.out;have e2:=HE2.out;have key:n / 4503599627370496%2048=2047->n%4503599627370496=0:=by
    intro h255;rename_i hc
    first
     | (exfalso;rw[e1] at hc;omega)
     | (rw[e2] at h;simp at h;omega)
   exact⟨by omega,hn3,λh=>by omega,λh=>by omega,λ_=>by show n%9223372036854775808<=9218868437227405312;omega⟩
end Go.Proofs.YtcfblkkpclfmaaaGreat
