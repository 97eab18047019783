/- Part 43 of the proof of FnEvolved; no condition. -/
import Derived.Test.YtcfblkkpclfmaaaGreatEb42
set_option linter.unusedVariables false
set_option linter.unusedSimpArgs false
set_option maxRecDepth 100000
set_option maxHeartbeats 16000000
namespace Go.Proofs.YtcfblkkpclfmaaaGreat
open Go.RowKit
theorem own_le{w:World}{T:TypeId}{base base' z n:Nat}{v:Value}{xs:List Value}(h:w.ownsRow base' T z v n xs)(hb:base<=base'):w.ownsRow base T z v n xs:=by
 obtain⟨h1,h2⟩:=h;refine⟨h1,?_⟩;rcases h2 with h2|⟨g,cap,cur,e,hg,r⟩
 ·exact .inl h2
 ·exact .inr ⟨g,cap,cur,e,by omega,r⟩
structure E1(wb:World)(b:Nat)(pre:List Value)(wx:World)(s:Value)(its:List (List Value × Slt Val)):Prop where
 fr:Fr0 wb wx
 low:wb.heap.size<=b
 box:wx.heap[b]?=some (.cells (pre++[s]).toArray 27)
 row:SRow (λk=>k<wb.heap.size) wb.heap.size 54 wx s its
 own:s.ownBlock≠some b
theorem E1.move{wb:World}{b:Nat}{pre:List Value}{wx wy:World}{s:Value}{its:List (List Value × Slt Val)}{S:Nat->Prop}(h:E1 wb b pre wx s its)(hf:Fr S wx wy)(hS:∀k,S k->wb.heap.size<=k/\k≠b/\s.ownBlock≠some k):E1 wb b pre wy s its :=
 ⟨h.fr.trans2 hf (λk hk hs=>by have:=(hS k hs).1;omega),h.low,(hf.block b (lt_of_block h.box) (λhs=>(hS b hs).2.1 rfl)).trans h.box,
  h.row.fr sltP_mono hf (λk hk hs=>(hS k hs).2.2 hk) (λk _ hk=>⟨hk,λhs=>by have:=(hS k hs).1;omega⟩),h.own⟩
theorem E1.old{wb:World}{b:Nat}{pre:List Value}{wx wy:World}{s:Value}{its:List (List Value × Slt Val)}(h:E1 wb b pre wx s its)(hf:Fr0 wx wy):E1 wb b pre wy s its:=h.move hf (λ_ hs=>hs.elim)
theorem E1.lt{wb:World}{b:Nat}{pre:List Value}{wx:World}{s:Value}{its:List (List Value × Slt Val)}(h:E1 wb b pre wx s its):b<wx.heap.size/\∀k,s.ownBlock=some k->wb.heap.size<=k/\k<wx.heap.size:=⟨lt_of_block h.box,ownBlock_lt h.row.own⟩
theorem E1.first{wb w7 w9:World}{b n:Nat}{p0 p1 p2 p3 p4 p5 s0 s:Value}{its:List (List Value × Slt Val)}(h7:Fr0 wb w7)(hlow:wb.heap.size<=b)(hb:w7.heap[b]?=some (.cells ([p0,p1,p2,p3,p4,p5]++[s0]).toArray 27))(hfr:Fr0 w7 w9)
  (hown:w9.ownsRow w7.heap.size 54 9 s n ((its.map λx=>slotC x.2 x.1).flatten)) (hn:n=its.length) (hit:∀x∈its,sltP (λk=>k<wb.heap.size) w7 x):E1 wb b [p0,p1,p2,p3,p4,p5] (w9.setCell ⟨b,6,none⟩ s) s its:=by
 have hbl:=lt_of_block hb;have hs9:=hfr.size;have hset:∀k,k≠b->(w9.setCell ⟨b,6,none⟩ s).heap[k]?=w9.heap[k]?:=λk hk=>heap_setCell_other w9 _ _ k hk;have hssz:(w9.setCell ⟨b,6,none⟩ s).heap.size=w9.heap.size:=by simp[World.setCell]
 have hol:=ownBlock_lt hown;refine⟨(h7.trans hfr).trans2 (Fr.set1 w9 b 6 s) (λk hk e=>by have e:k=b:=e;omega),hlow,?_,⟨?_,λx hx=>?_⟩,λe=>by have:=(hol b e).1;omega⟩
 ·exact heap_setCell_same ((hfr.block b hbl (λx=>x)).trans hb) 6 _
 ·rw[<-hn];exact ownFr (S:=λk=>k=b) (own_le hown h7.size) (Fr.set1 w9 b 6 _) (λk hk e=>by have e:k=b:=e;have:=(hol k hk).1;omega)
 ·exact sltP_mono _ _ w7 _ x (by rw[hssz];omega) (λk hk hkk=>⟨hkk,(hset k (by omega)).trans (hfr.block k hk (λx=>x))⟩) (hit x hx)
theorem E1.grow{wb wx w7:World}{b n cap7 g7:Nat}{p0 p1 p2 p3 p4 p5 s:Value}{its:List (List Value × Slt Val)}{x:List Value × Slt Val}{o:Obj}(h:E1 wb b [p0,p1,p2,p3,p4,p5] wx s its)(hx:sltP (λ_=>False) wx x)(hgrow:(wx.alloc o).grownBy w7 s.ownBlock)
  (hown:w7.ownsRow wb.heap.size 54 9 (.slice (some ⟨g7,0,none⟩) n cap7) n ((its.map λx=>slotC x.2 x.1).flatten++slotC x.2 x.1)) (hn:n=its.length+1) (hat:s.ownBlock=some g7\/g7=wx.heap.size+1):E1 wb b [p0,p1,p2,p3,p4,p5] (w7.setCell ⟨b,6,none⟩ (.slice (some ⟨g7,0,none⟩) n cap7)) (.slice (some ⟨g7,0,none⟩) n cap7) (its++[x]):=by
 obtain⟨hbl,hol⟩:=h.lt;have hlow:=h.low;have hs7:=hgrow.size;rw[size_alloc] at hs7;have hfr:Fr (λk=>some k=s.ownBlock) wx w7:=((Fr.refl _ wx).alloc o).trans (grown_fr' hgrow);have hg:g7≠b:=by
  rcases hat with e|e
  ·intro e2;subst e2;exact h.own e
  ·omega
 have hset:∀k,k≠b->∀u,(w7.setCell ⟨b,6,none⟩ u).heap[k]?=w7.heap[k]?:=λk hk u=>heap_setCell_other w7 _ u k hk;have hssz:∀u,(w7.setCell ⟨b,6,none⟩ u).heap.size=w7.heap.size:=λu=>by simp[World.setCell]
 have hok:∀k,k<wb.heap.size->¬some k=s.ownBlock:=λk hk e=>by have:=(hol k e.symm).1;omega
 refine⟨(h.fr.trans2 hfr (λk hk e=>hok k hk e)).trans2 (Fr.set1 w7 b 6 _) (λk hk e=>by have e:k=b:=e;omega),hlow,?_,⟨?_,λy hy=>?_⟩,λe=>?_⟩
 ·have h1:w7.heap[b]?=some (.cells ([p0,p1,p2,p3,p4,p5]++[s]).toArray 27):=(hfr.block b hbl (λe=>h.own e.symm)).trans h.box;exact heap_setCell_same h1 6 _
 ·have h1:=ownFr (S:=λk=>k=b) hown (Fr.set1 w7 b 6 (.slice (some ⟨g7,0,none⟩) n cap7)) (λk hk e=>by
   have e2:some g7=some k:=hk;injection e2 with e2;have e:k=b:=e;omega)
  rw[List.map_append,List.flatten_append,List.length_append,List.length_singleton,<-hn];simpa using h1
 ·rcases List.mem_append.1 hy with hy|hy
  ·exact sltP_mono _ _ wx _ y (by rw[hssz];omega) (λk hk hkk=>⟨hkk,(hset k (by omega) _).trans (hfr.block k hk (hok k hkk))⟩) (h.row.item y hy)
  ·obtain rfl:=List.mem_singleton.1 hy;exact sltP_mono _ _ wx _ y (by rw[hssz];omega) (λk hk hkk=>hkk.elim) hx
 ·have e2:some g7=some b:=e;injection e2 with e2;exact hg e2
structure EV(wb:World)(b1 b2:Nat)(pre1 pre2:List Value)(wx:World)(s1 s2:Value)(i1 i2:List (List Value × Slt Val)):Prop where
 e1:E1 wb b1 pre1 wx s1 i1
 e2:E1 wb b2 pre2 wx s2 i2
 ne:b1≠b2
 x1:s1.ownBlock≠some b2
 x2:s2.ownBlock≠some b1
 oo:∀k,s1.ownBlock=some k->s2.ownBlock≠some k
theorem EV.swap{wb:World}{b1 b2:Nat}{pre1 pre2:List Value}{wx:World}{s1 s2:Value}{i1 i2:List (List Value × Slt Val)}(h:EV wb b1 b2 pre1 pre2 wx s1 s2 i1 i2):EV wb b2 b1 pre2 pre1 wx s2 s1 i2 i1:=⟨h.e2,h.e1,h.ne.symm,h.x2,h.x1,λk hk e=>h.oo k e hk⟩
theorem EV.old{wb:World}{b1 b2:Nat}{pre1 pre2:List Value}{wx wy:World}{s1 s2:Value}{i1 i2:List (List Value × Slt Val)}(h:EV wb b1 b2 pre1 pre2 wx s1 s2 i1 i2)(hf:Fr0 wx wy):EV wb b1 b2 pre1 pre2 wy s1 s2 i1 i2:=⟨h.e1.old hf,h.e2.old hf,h.ne,h.x1,h.x2,h.oo⟩
theorem EV.set{wb:World}{b1 b2 q j:Nat}{pre1 pre2:List Value}{wx:World}{s1 s2 u:Value}{i1 i2:List (List Value × Slt Val)}(h:EV wb b1 b2 pre1 pre2 wx s1 s2 i1 i2)(hq:wb.heap.size<=q)(h1:q≠b1)(h2:q≠b2)(g1:s1.ownBlock≠some q)(g2:s2.ownBlock≠some q):EV wb b1 b2 pre1 pre2 (wx.setCell ⟨q,j,none⟩ u) s1 s2 i1 i2 :=
 ⟨h.e1.move (Fr.set1 wx q j u) (λk e=>by have e:k=q:=e;subst e;exact⟨hq,h1,g1⟩),h.e2.move (Fr.set1 wx q j u) (λk e=>by have e:k=q:=e;subst e;exact⟨hq,h2,g2⟩),h.ne,h.x1,h.x2,h.oo⟩
theorem EV.grow{wb wx w7:World}{b1 b2 n cap7 g7:Nat}{p0 p1 p2 p3 p4 p5 s1 s2:Value}{pre2:List Value}{i1 i2:List (List Value × Slt Val)}{x:List Value × Slt Val}{o:Obj}(h:EV wb b1 b2 [p0,p1,p2,p3,p4,p5] pre2 wx s1 s2 i1 i2)(hx:sltP (λ_=>False) wx x)(hgrow:(wx.alloc o).grownBy w7 s1.ownBlock)
  (hown:w7.ownsRow wb.heap.size 54 9 (.slice (some ⟨g7,0,none⟩) n cap7) n ((i1.map λx=>slotC x.2 x.1).flatten++slotC x.2 x.1)) (hn:n=i1.length+1) (hat:s1.ownBlock=some g7\/g7=wx.heap.size+1):EV wb b1 b2 [p0,p1,p2,p3,p4,p5] pre2 (w7.setCell ⟨b1,6,none⟩ (.slice (some ⟨g7,0,none⟩) n cap7)) (.slice (some ⟨g7,0,none⟩) n cap7) s2 (i1++[x]) i2:=by
 obtain⟨hb1,ho1⟩:=h.e1.lt;obtain⟨hb2,ho2⟩:=h.e2.lt;have hl1:=h.e1.low;have hfr:Fr (λk=>some k=s1.ownBlock\/k=b1) wx (w7.setCell ⟨b1,6,none⟩ (.slice (some ⟨g7,0,none⟩) n cap7)) :=
  ((((Fr.refl (λk=>some k=s1.ownBlock\/k=b1) wx).alloc o).trans ((grown_fr' hgrow).mono (λk _ e=>.inl e))).trans ((Fr.set1 w7 b1 6 _).mono (λk _ e=>.inr e)))
 refine⟨h.e1.grow hx hgrow hown hn hat,h.e2.move hfr (λk hk=>?_),h.ne,λe=>?_,h.x2,λk hk e=>?_⟩
 ·rcases hk with hk|rfl
  ·exact⟨(ho1 k hk.symm).1,λe=>h.x1 (e▸hk.symm),λe=>h.oo k hk.symm e⟩
  ·exact⟨hl1,h.ne,h.x2⟩
 ·have e2:some g7=some b2:=e;injection e2 with e2;rcases hat with e3|e3
  ·exact h.x1 (e2▸e3)
  ·omega
 ·have e2:some g7=some k:=hk;injection e2 with e2;rcases hat with e3|e3
  ·exact h.oo k (e2▸e3) e
  ·have:=(ho2 k e).2;omega
theorem EV.first{wb wx w7 w9:World}{b1 b2 n:Nat}{pre1:List Value}{p0 p1 p2 p3 p4 p5 s0 s1 s:Value}{i1 its:List (List Value × Slt Val)}(h:E1 wb b1 pre1 wx s1 i1)(h7:Fr0 wx w7)(hlow:wx.heap.size<=b2)(hb:w7.heap[b2]?=some (.cells ([p0,p1,p2,p3,p4,p5]++[s0]).toArray 27))(hfr:Fr0 w7 w9)
  (hown:w9.ownsRow w7.heap.size 54 9 s n ((its.map λx=>slotC x.2 x.1).flatten)) (hn:n=its.length) (hit:∀x∈its,sltP (λk=>k<wb.heap.size) w7 x):EV wb b1 b2 pre1 [p0,p1,p2,p3,p4,p5] (w9.setCell ⟨b2,6,none⟩ s) s1 s i1 its:=by
 obtain⟨hb1,ho1⟩:=h.lt;have hwb:=h.fr.size;have hs7:=h7.size;have hb2:=lt_of_block hb;have hol:=ownBlock_lt hown;refine⟨(h.old (h7.trans hfr)).move (Fr.set1 w9 b2 6 s) (λk e=>?_),E1.first (h.fr.trans h7) (by omega) hb hfr hown hn hit,by omega,λe=>by have:=(ho1 b2 e).2;omega,λe=>by have:=(hol b1 e).1;omega,λk hk e=>by have:=(ho1 k hk).2;have:=(hol k e).1;omega⟩;have e:k=b2:=e;subst e;exact⟨by omega,by omega,λe=>by have:=(ho1 k e).2;omega⟩
def e3 (i:Nat):Slt Val:=⟨false,.mk 3 0 0 [] [] [] [],i⟩
def e3' (i:Nat):Slt Val:=⟨false,.mk 3 0 i [] [] [] [],i⟩
def e3c (n:Nat):List Value:=[.int .u8 3,.int .u8 0,.int .u64 n,.string ⟨#[]⟩,.slice none 0 0,.slice none 0 0,.slice none 0 0]
theorem e3_is(B:Nat->Prop)(w:World){i:Nat}(h:i<2^64):sltP B w (e3c 0,e3 i):=⟨vis_num (k:=3) (n:=0) (by omega) (by omega),h⟩
theorem e3'_is(B:Nat->Prop)(w:World){i:Nat}(h:i<2^64):sltP B w (e3c i,e3' i):=⟨vis_num (k:=3) (n:=i) (by omega) h,h⟩
/-! The values. -/
def shortV(v:Val)(k:Nat):Val:=.mk v.kind v.elem v.num v.text v.nums v.kids (v.slots.take k)
def longV(v:Val)(l:List (Slt Val)):Val:=.mk v.kind v.elem v.num v.text v.nums v.kids (v.slots++l)
theorem lslots_take{al:Bool}{B:List UInt8}:∀(ss:List (Slt Val)) (k i o:Nat),LSlots al B ss i o->LSlots al B (ss.take k) i o
 | [],k,i,o,_=>by rw[List.take_nil];trivial
 | s::r,0,i,o,_=>trivial
 | s::r,k+1,i,o,h=>by
  rw[LSlots] at h;rw[List.take_succ_cons,LSlots];exact⟨h.1,lslots_take r k (i+1) o h.2⟩
theorem short_laid{al:Bool}{B:List UInt8}{v:Val}{k o:Nat}(h:LTab al B v o):LTab al B (shortV v k) o:=by
 rw[LTab_def] at h ⊢;exact⟨h.1,lslots_take _ _ _ _ h.2⟩
theorem lslots_app{al:Bool}{B:List UInt8}{more:List (Slt Val)}{o:Nat}(hm:∀s∈more,s.has=false):∀(ss:List (Slt Val)) (i:Nat),LSlots al B ss i o->(∀j,i+ss.length<=j->fldOf B o j=0)->LSlots al B (ss++more) i o
 | [],i,_,hf=>by
  rw[List.nil_append];have key:∀(l:List (Slt Val)) (i:Nat),(∀s∈l,s.has=false)->(∀j,i<=j->fldOf B o j=0)->LSlots al B l i o:=by
   intro l;induction l with
   | nil=>intro i _ _;trivial
   | cons s r ih =>
    intro i hl hz;rw[LSlots,LSlot_def];have hp:present s=false:=(by unfold present;rw[hl s (by simp)];rfl);rw[if_neg (by rw[hp];simp)];exact⟨hz i (Nat.le_refl _),ih (i+1) (λs hs=>hl s (by simp[hs])) (λj hj=>hz j (by omega))⟩
  exact key more i hm (λj hj=>hf j (by simpa using hj))
 | s::r,i,h,hf=>by
  rw[LSlots] at h;rw[List.cons_append,LSlots];exact⟨h.1,lslots_app hm r (i+1) h.2 (λj hj=>hf j (by rw[List.length_cons];omega))⟩
theorem long_laid{al:Bool}{B:List UInt8}{v:Val}{more:List (Slt Val)}{o:Nat}(h:LTab al B v o)(hf:∀j,v.slots.length<=j->fldOf B o j=0)(hm:∀s∈more,s.has=false):LTab al B (longV v more) o:=by
 rw[LTab_def] at h ⊢;exact⟨h.1,lslots_app hm _ 0 h.2 (λj hj=>hf j (by omega))⟩
theorem pure_short{v:Val}(h:Pure v)(k:Nat):Pure (shortV v k):=by
 cases h with
 | mk kd e n t ns ks ss hk hnum htext hnums hkids hslots helem lt ln lk ls h13 hk14 hk16 hgk hgs hkk hd2 h10 =>
  refine .mk kd e n t ns ks (ss.take k) hk hnum htext hnums hkids (λh=>by rw[hslots h];simp) helem lt ln lk (by rw[List.length_take];omega) h13 hk14 hk16 hgk (λs hs=>hgs s (List.mem_of_mem_take hs)) (λs hs=>hkk s (List.mem_of_mem_take hs)) (λs hs=>hd2 s (List.mem_of_mem_take hs)) h10
theorem pure_long{v:Val}{m:Nat}(h:Pure v)(hk15:v.kind=15)(hl:v.slots.length<=60)(hm:m<=20):Pure (longV v ((List.range m).map e3)):=by
 have hmem:∀s∈(List.range m).map e3,∃i,i<20/\s=e3 i:=λs hs=>by
  obtain⟨i,hi,rfl⟩:=List.mem_map.1 hs;exact⟨i,by have:=List.mem_range.1 hi;omega,rfl⟩
 cases h with
 | mk kd e n t ns ks ss hk hnum htext hnums hkids hslots helem lt ln lk ls h13 hk14 hk16 hgk hgs hkk hd2 h10 =>
  have hkd:kd=15:=hk15;refine .mk kd e n t ns ks (ss++(List.range m).map e3) hk hnum htext hnums hkids (λh=>absurd hkd h) helem lt ln lk (by rw[List.length_append,List.length_map,List.length_range];have:ss.length<=60:=hl;omega) h13 hk14 hk16 hgk (λs hs hp=>?_) (λs hs=>?_) (λs hs h1=>?_) h10
  ·rcases List.mem_append.1 hs with hs|hs
   ·exact hgs s hs hp
   ·obtain⟨i,_,rfl⟩:=hmem s hs;exact absurd hp (by unfold present e3;simp)
  ·rcases List.mem_append.1 hs with hs|hs
   ·exact hkk s hs
   ·obtain⟨i,_,rfl⟩:=hmem s hs;show 3<=17;omega
  ·rcases List.mem_append.1 hs with hs|hs
   ·exact hd2 s hs h1
   ·obtain⟨i,hi,rfl⟩:=hmem s hs;have h20:20<2^(8*numSize 3):=(by decide);have hlt:i<2^(8*numSize 3):=(by omega);exact⟨⟨by show 3<=10;omega,hlt,λh=>absurd h (by show ¬(3:Nat)=0;omega),λh=>absurd h (by show ¬(3:Nat)=9;omega),λh=>absurd h (by show ¬(3:Nat)=10;omega)⟩,rfl⟩
theorem sh_slots{v sv:Val}(h:ShOk v sv):sv.slots.length=v.slots.length:=by cases h;assumption
theorem sh_short{v sv:Val}(h:ShOk v sv)(k:Nat):ShOk (shortV v k) (shortV sv k):=by
 cases h with
 | mk kd e n t ns ks ss _ hk he h17 h16 h16b hl hd hs =>
  refine .mk kd e n t ns ks (ss.take k) (shortV sv k) hk he h17 h16 h16b ?_ (λi h h2=>?_) (λi h h2=>?_)
  ·show (sv.slots.take k).length=_;rw[List.length_take,List.length_take,hl]
  ·have h':i<(sv.slots.take k).length:=h2;show ((sv.slots.take k)[i]'h').dflt=((ss.take k)[i]'h).dflt;rw[List.getElem_take,List.getElem_take];rw[List.length_take] at h h';exact hd i (by omega) (by omega)
  ·have h':i<(sv.slots.take k).length:=h2;show ShOk ((ss.take k)[i]'h).val ((sv.slots.take k)[i]'h').val;rw[List.getElem_take,List.getElem_take];rw[List.length_take] at h h';exact hs i (by omega) (by omega)
theorem sh_e3(i:Nat):ShOk (e3 i).val (e3 i).val:=.mk 3 0 0 [] [] [] [] _ rfl rfl (λh=>by omega) (λh=>by omega) (λ_ _ h=>by omega) rfl (λi h h2=>by simp at h) (λi h h2=>by simp at h)
theorem sh_long{v sv:Val}(h:ShOk v sv)(m:Nat):ShOk (longV v ((List.range m).map e3)) (longV sv ((List.range m).map e3)):=by
 cases h with
 | mk kd e n t ns ks ss _ hk he h17 h16 h16b hl hd hs =>
  refine .mk kd e n t ns ks (ss++(List.range m).map e3) (longV sv ((List.range m).map e3)) hk he h17 h16 h16b ?_ (λi h h2=>?_) (λi h h2=>?_)
  ·show (sv.slots++_).length=_;rw[List.length_append,List.length_append,hl]
  ·have h':i<(sv.slots++(List.range m).map e3).length:=h2;show ((sv.slots++(List.range m).map e3)[i]'h').dflt=((ss++(List.range m).map e3)[i]'h).dflt;by_cases hi:i<ss.length
   ·rw[List.getElem_append_left (by omega),List.getElem_append_left hi];exact hd i hi (by omega)
   ·rw[List.getElem_append_right (by omega),List.getElem_append_right (by omega)];simp[hl]
  ·have h':i<(sv.slots++(List.range m).map e3).length:=h2;show ShOk ((ss++(List.range m).map e3)[i]'h).val ((sv.slots++(List.range m).map e3)[i]'h').val;by_cases hi:i<ss.length
   ·rw[List.getElem_append_left hi,List.getElem_append_left (by omega)];exact hs i hi (by omega)
   ·rw[List.getElem_append_right (by omega),List.getElem_append_right (by omega)];simp only[List.getElem_map,hl];exact sh_e3 _
theorem read_short(v:Val)(k:Nat):read0 (shortV v k)=shortV (read0 v) k:=by
 cases v with
 | mk kd e n t ns ks ss =>
  show Val.mk kd e n t ns (read0L ks) (read0S (ss.take k))=.mk kd e n t ns (read0L ks) ((read0S ss).take k);rw[read0S_eq,read0S_eq,List.map_take]
theorem read_long(v:Val)(m:Nat):read0 (longV v ((List.range m).map e3))=longV (read0 v) ((List.range m).map e3'):=by
 cases v with
 | mk kd e n t ns ks ss =>
  show Val.mk kd e n t ns (read0L ks) (read0S (ss++(List.range m).map e3))=.mk kd e n t ns (read0L ks) (read0S ss++(List.range m).map e3');rw[read0S_eq,read0S_eq,List.map_append,List.map_map];congr 2
theorem vis_short{B:Nat->Prop}{w:World}{v:Val}{na ka sa:Option Addr}{nl nc nk kc ns sc k:Nat}(h:VIs B w [.int .u8 v.kind,.int .u8 v.elem,.int .u64 v.num,.string (strOf v.text),.slice na nl nc,.slice ka nk kc,.slice sa ns sc] v)(hk:k<=ns):
  VIs B w [.int .u8 v.kind,.int .u8 v.elem,.int .u64 v.num,.string (strOf v.text),.slice na nl nc,.slice ka nk kc,.slice sa k sc] (shortV v k):=by
 obtain⟨kd,e,n,t,nss,ks,ss⟩:=v;simp only[Val.kind,Val.elem,Val.num,Val.text,shortV,Val.nums,Val.kids,Val.slots] at h ⊢;cases h with
 | mk _ _ _ _ _ _ _ nv _ _ kg ko _ _ sg so hk1 he hn ht hnv hka hkc hks hsa hsc hsd hss =>
  have hl:(ss.take k).length=k:=by rw[List.length_take];omega
  have h0:=VIs.mk (B:=B) (w:=w) kd e n t nss ks (ss.take k) (.slice na nl nc) ka kc kg ko sa sc sg so hk1 he hn ht hnv hka hkc hks (λh=>hsa (λe=>h (by rw[e];exact List.take_nil))) ⟨by rw[hl];have:=hsc.1;omega,hsc.2⟩
   (λi hi=>by rw[hl] at hi;simp only[List.getElem_take];exact hsd i (by omega)) (λi hi=>by rw[hl] at hi;simp only[List.getElem_take];exact hss i (by omega))
  rw[hl] at h0;exact h0
/-! Two boxes that are made within a drawn region, between two calls. -/
abbrev ZV:Obj:=.cells #[.int .u8 0,.int .u8 0,.int .u64 0,.string ⟨#[]⟩,.slice none 0 0,.slice none 0 0,.slice none 0 0] 27
structure Al(w8 cur X wz:World)(q:Nat):Prop where
 eq:X=wz
 at_:cur.heap.size=q
 low:w8.heap.size<=q
 fr:Fr0 w8 wz
 cell:wz.heap[q]?=some ZV
 step:Fr0 cur wz
theorem al{w8 cur:World}(h:Fr0 w8 cur):∃wz q,Al w8 cur (cur.alloc ZV) wz q:=⟨_,_,rfl,rfl,h.size,h.alloc _,heap_alloc_new _ _,(Fr.refl _ _).alloc _⟩
theorem alD(w8:World):∃wz q,Al w8 w8 (w8.alloc ZV).drew wz q:=⟨_,_,rfl,rfl,Nat.le_refl _,((Fr.refl _ _).alloc _).drew,heap_alloc_new w8 _,((Fr.refl _ _).alloc _).drew⟩
theorem Al.keep{w8 cur X wz:World}{q p:Nat}{o:Obj}(hA:Al w8 cur X wz q)(h:cur.heap[p]?=some o):wz.heap[p]?=some o:=(hA.step.block p (lt_of_block h) (λx=>x)).trans h
theorem Al.ne{w8 cur X wz:World}{q p:Nat}{o:Obj}(hA:Al w8 cur X wz q)(h:cur.heap[p]?=some o):p≠q:=by
 have:=lt_of_block h
 have:=hA.at_
 omega
theorem Al.val{w8 cur X wz:World}{q:Nat}{B B':Nat->Prop}{cs:List Value}{v:Val}(hA:Al w8 cur X wz q)(h:VIs B cur cs v)(hB:∀b,B b->b≠q->B' b):VIs B' wz cs v:=h.fr0 hA.step (λb hb h1=>hB b h1 (by have:=hA.at_;omega))
theorem fr7{w8 w:World}{q:Nat}{x0 x1 x2 x3 x4 x5 x6:Value}(h:Fr0 w8 w)(hq:w8.heap.size<=q):Fr0 w8 ((((((((w).setCell ⟨q,0,none⟩ x0).setCell ⟨q,1,none⟩ x1).setCell ⟨q,2,none⟩ x2).setCell ⟨q,3,none⟩ x3).setCell ⟨q,4,none⟩ x4).setCell ⟨q,5,none⟩ x5).setCell ⟨q,6,none⟩ x6):=h.trans2 store7_fr (λb hb e=>by have e:b=q:=e;omega)
theorem fr8{w8 w wx:World}{q:Nat}(h:Fr0 w8 w)(hq:w8.heap.size<=q)(f:Fr (λb=>b=q) w wx):Fr0 w8 wx:=h.trans2 f (λb hb e=>by have e:b=q:=e;omega)
theorem st2{P:Program}{ops:Array Oper}{Q:Exit->Act->World->Prop}{md:Region.Mode}{S:World->Prop}{fuel:Nat}{listed:Array Bool}{a:Act}{w:World}{q:Nat}{a0 a1 a2 a3 a4 a5 a6 x0 x1 x2 x3 x4 x5 x6:Value}{T:TypeId}(h:w.heap[q]?=some (.cells #[a0,a1,a2,a3,a4,a5,a6] T))
  (k:∀wx,Fr (λb=>b=q) w wx->wx.heap[q]?=some (.cells #[x0,x1,x2,x3,x4,x5,x6] T)->wpAnyH P md ops Q S fuel listed a wx):wpAnyH P md ops Q S fuel listed a ((((((((w).setCell ⟨q,0,none⟩ x0).setCell ⟨q,1,none⟩ x1).setCell ⟨q,2,none⟩ x2).setCell ⟨q,3,none⟩ x3).setCell ⟨q,4,none⟩ x4).setCell ⟨q,5,none⟩ x5).setCell ⟨q,6,none⟩ x6):=k _ store7_fr (store7 h)
def EvP (w8:World)(sv r0:Val)(p q:Value)(wx:World):Prop:=∃q4 q5 cs1 cs2,p=.pointer (some ⟨q4,0,none⟩)/\q=.pointer (some ⟨q5,0,none⟩)/\Fr0 w8 wx/\wx.heap[q4]?=some (.cells (List.toArray cs1) 27)/\wx.heap[q5]?=some (.cells (List.toArray cs2) 27)/\VIs (λb=>b≠q4/\b≠q5) wx cs1 sv/\VIs (λb=>b≠q4/\b≠q5) wx cs2 r0/\w8.heap.size<=q4/\w8.heap.size<=q5/\q4≠q5
theorem ev_end{w8 wz wS wU:World}{q4 q5:Nat}{cs1 cs2:List Value}{sv r0:Val}(hS:Fr0 w8 wS)(f4:Fr (λb=>b=q4) wz wS)(f5:Fr (λb=>b=q5) wS wU)(c4:wS.heap[q4]?=some (.cells (List.toArray cs1) 27))(d5:wU.heap[q5]?=some (.cells (List.toArray cs2) 27))(l4:w8.heap.size<=q4)(l5:w8.heap.size<=q5)(ne:q4≠q5)(v1:VIs (λb=>b≠q4/\b≠q5) wz cs1 sv)(v2:VIs (λb=>b≠q4/\b≠q5) wz cs2 r0):
  EvP w8 sv r0 (.pointer (some ⟨q4,0,none⟩)) (.pointer (some ⟨q5,0,none⟩)) wU :=
 ⟨q4,q5,cs1,cs2,rfl,rfl,fr8 hS l5 f5,(f5.block q4 (lt_of_block c4) ne).trans c4,d5,(v1.fr f4 (λb _ h=>⟨h,h.1⟩)).fr f5 (λb _ h=>⟨h,h.2⟩),(v2.fr f4 (λb _ h=>⟨h,h.1⟩)).fr f5 (λb _ h=>⟨h,h.2⟩),l4,l5,ne⟩
theorem run_slice_k{P:Program}{t elem:TypeId}{z:Nat}(hu:P.underlying t=some (.slice elem))(hs:(P.info? elem).map (·.size)=some z)(a:Option Addr)(len cap k:Nat)(h:k<=cap)(w:World):(Instr.slice t (.slice a len cap) none (some (.int .i64 (k:Int))) none).run P w=.ok (.slice a k cap) w:=by
 cases hq:P.info? elem with
 | none=>simp[hq] at hs
 | some i =>
  have hi:i.size=z:=by simpa [hq] using hs
  simp[Instr.slice,run_underlying hu,Instr.sliceBounds,Instr.sliceBound,asIntOf,sizeOf,typeInfo,hq,hi,h]
  cases a<;>simp[Addr.add]
theorem SlotsAt.keep{B B':Nat->Prop}{w w':World}{sg o:Nat}{ss:List (Slt Val)}(h:SlotsAt B w sg o ss)(hf:Fr0 w w')(hB:∀b,b<w.heap.size->B b->B' b):SlotsAt B' w' sg o ss:=by
 intro i hi;obtain⟨h1,h2,h3,h4⟩:=h i hi;have hl:sg<w.heap.size:=World.block_lt_of_cell? w ⟨sg,o+i*9,none⟩ h1;have hk:∀q,w'.cell? ⟨sg,q,none⟩=w.cell? ⟨sg,q,none⟩:=λq=>Fr.cell hf (p:=⟨sg,q,none⟩) hl (λx=>x);refine⟨by rw[hk];exact h1,by rw[hk];exact h2,h3,?_⟩;rw[cellsAt_mono (hf.block sg hl (λx=>x))];exact h4.fr0 hf hB
theorem small_short{v:Val}(h:Small v)(k:Nat):Small (shortV v k):=by
 cases h with
 | mk kd e n t ns ks ss hk hs hgk hgs=>exact .mk kd e n t ns ks (ss.take k) hk (by rw[List.length_take];omega) hgk (λs hs=>hgs s (List.mem_of_mem_take hs))
theorem small_long{v:Val}(h:Small v)(l:List (Slt Val))(hl:v.slots.length<=60)(hm:l.length<=20)(hs:∀s∈l,Small s.val):Small (longV v l):=by
 cases h with
 | mk kd e n t ns ks ss hk hss hgk hgs =>
  refine .mk kd e n t ns ks (ss++l) hk (by rw[List.length_append];have:ss.length<=60:=hl;omega) hgk (λs h=>?_);rcases List.mem_append.1 h with h|h
  ·exact hgs s h
  ·exact hs s h
theorem small_e3(m:Nat):(∀s∈(List.range m).map e3,Small s.val)/\∀s∈(List.range m).map e3',Small s.val:=by
 refine⟨λs hs=>?_,λs hs=>?_⟩
 ·obtain⟨i,_,rfl⟩:=List.mem_map.1 hs;exact small_nil _ _ _ _ _
 ·obtain⟨i,_,rfl⟩:=List.mem_map.1 hs;exact small_nil _ _ _ _ _
theorem vis_row{w:World}{v:Val}{na ka:Option Addr}{nl nc nk kc:Nat}{s0 sv:Value}{base:Nat}{Bs:Nat->Prop}{T:TypeId}{its:List (List Value × Slt Val)}{l:List (Slt Val)}{n:Nat}{f:Nat->List Value × Slt Val}
  (h:VIs (λ_=>True) w [.int .u8 v.kind,.int .u8 v.elem,.int .u64 v.num,.string (strOf v.text),.slice na nl nc,.slice ka nk kc,s0] v) (hr:SRow Bs base T w sv (its++(List.range n).map f)) (hi:its.map (·.2)=v.slots) (hl:(List.range n).map (λi=>(f i).2)=l):
  VIs (λ_=>True) w [.int .u8 v.kind,.int .u8 v.elem,.int .u64 v.num,.string (strOf v.text),.slice na nl nc,.slice ka nk kc,sv] (longV v l):=by
 have h2:=vis_long (w:=w) h hr;have e:(its++(List.range n).map f).map (·.2)=v.slots++l:=by rw[List.map_append,hi,List.map_map,<-hl];rfl
 rw[e] at h2;exact h2
theorem sizeSSlt:(Tryz.prog.info? 54).map (·.size)=some 9:=by kernel_rfl
theorem zc{w:World}{q:Nat}{a0 a1 a2 a3 a4 a5 a6:Value}{t:TypeId}(h:w.heap[q]?=some (.cells #[a0,a1,a2,a3,a4,a5,a6] t)):(w.cell? ⟨q,0,none⟩=some a0/\w.cell? ⟨q,1,none⟩=some a1/\w.cell? ⟨q,2,none⟩=some a2/\w.cell? ⟨q,3,none⟩=some a3/\w.cell? ⟨q,4,none⟩=some a4/\w.cell? ⟨q,5,none⟩=some a5/\w.cell? ⟨q,6,none⟩=some a6)/\w.frozen? ⟨q,0,none⟩=false/\w.frozen? ⟨q,1,none⟩=false/\w.frozen? ⟨q,2,none⟩=false/\w.frozen? ⟨q,3,none⟩=false/\w.frozen? ⟨q,4,none⟩=false/\w.frozen? ⟨q,5,none⟩=false/\w.frozen? ⟨q,6,none⟩=false :=
 ⟨⟨by rw[cell_of h];rfl,by rw[cell_of h];rfl,by rw[cell_of h];rfl,by rw[cell_of h];rfl,by rw[cell_of h];rfl,by rw[cell_of h];rfl,by rw[cell_of h];rfl⟩,frozen_of h 0,frozen_of h 1,frozen_of h 2,frozen_of h 3,frozen_of h 4,frozen_of h 5,frozen_of h 6⟩
theorem read_len(v:Val):(read0 v).slots.length=v.slots.length:=by
 cases v with
 | mk k e n t ns ks ss=>show (read0S ss).length=ss.length;rw[read0S_eq,List.length_map]
theorem VIs.down{w wx:World}{cs:List Value}{v:Val}(h:VIs (λ_=>True) w cs v)(hf:Fr0 w wx)(n:Nat)(hn:w.heap.size<=n):VIs (λb=>b<n) wx cs v:=h.fr0 hf (λb hb _=>by omega)
end Go.Proofs.YtcfblkkpclfmaaaGreat
