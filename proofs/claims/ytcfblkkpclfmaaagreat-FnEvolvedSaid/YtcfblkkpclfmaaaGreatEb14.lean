/- Part 14 of the proof of FnEvolved; no condition. -/
import Derived.Test.YtcfblkkpclfmaaaGreatEb13
import Derived.Laws.IdiomStrings
import Derived.Test.YtcfblkkpclfmaaaGreatEb01
import Derived.Test.YtcfblkkpclfmaaaGreatProg
import Derived.Test.YtcfblkkpclfmaaaGreatEb02
import Derived.KernelRfl
import Derived.RegionTactic
import Derived.Lib.Hide
import Derived.IntWalk
import Derived.Deep.CutRange
import Derived.Deep.CutBlock
import Derived.Deep.DeepCutAuto
set_option linter.unusedVariables false
set_option linter.unusedSimpArgs false
set_option maxRecDepth 100000
set_option maxHeartbeats 16000000
namespace Go.Proofs.YtcfblkkpclfmaaaGreat
open Go.RowKit
theorem bElse_text(sh:Bool)(v:Val)(st:BSt)(h:v.kind=11):bElse sh v st=bText sh v.text st:=by
 cases v with
 | mk k e n t ns ks ss =>
  have h':k=11:=h;subst h';rw[bElse];rfl
theorem nodesL_snoc(l:List Val)(v:Val):nodesL (l++[v])=nodesL l+nodes v:=by
 induction l with
 | nil=>simp[nodesL]
 | cons a r ih=>rw[List.cons_append,nodesL,nodesL,ih];omega
theorem nodesL_take(l:List Val)(i:Nat):nodesL (l.take i)<=nodesL l:=by
 induction l generalizing i with
 | nil=>simp
 | cons a r ih =>
  cases i with
  | zero=>rw[List.take_zero];simp[nodesL]
  | succ i=>rw[List.take_succ_cons,nodesL,nodesL];have:=ih i;omega
theorem Bld.lens{v:Val}(h:Bld v):v.text.length<=1000/\v.nums.length<=200/\v.kids.length<=200/\v.slots.length<=60:=by cases h;exact⟨by assumption,by assumption,by assumption,by assumption⟩
theorem Bld.kid{v:Val}(h:Bld v):∀c∈v.kids,Bld c:=by cases h;assumption
theorem Bld.k14{v:Val}(h:Bld v)(hk:v.kind=14):∀c∈v.kids,c.kind=11:=by
 cases h with
 | mk k e n t ns ks ss hk' lt ln lk ls h13 h17 hk14=>exact hk14 hk
theorem Bld.k16{v:Val}(h:Bld v)(hk:v.kind=16):∀c∈v.kids,c.kind=15:=by
 cases h with
 | mk k e n t ns ks ss hk' lt ln lk ls h13 h17 hk14 hk16=>exact hk16 hk
theorem Bld.k13{v:Val}(h:Bld v)(hk:v.kind=13):v.elem<=10/\∀x∈v.nums,OkNum v.elem x:=by
 cases h with
 | mk k e n t ns ks ss hk' lt ln lk ls h13=>exact h13 hk
def bItems(sh:Bool)(k:Nat)(ks:List Val)(st:BSt):Option (List Nat × BSt):=if k=14 then bTexts sh ks st else bKids sh ks st
def bItem(sh:Bool)(k:Nat)(v:Val)(st:BSt):Option (Nat × BSt):=if k=14 then bText sh v.text st else bTab sh v st
theorem bItems_snoc(sh:Bool)(k:Nat)(l:List Val)(s:Val)(st:BSt):bItems sh k (l++[s]) st=(bItems sh k l st).bind λp=>(bItem sh k s p.2).map λq=>(p.1++[q.1],q.2):=by
 unfold bItems bItem;split
 ·exact bTexts_snoc sh l s st
 ·exact bKids_snoc sh l s st
theorem items_laid(sh:Bool)(k:Nat)(ks:List Val)(st:BSt)(i:Nat)(hg:∀v∈ks,Bld v)(hk:k≠14->∀v∈ks,v.kind=15)(hok:BOk st i)(hb:i+2*nodesL ks<=300):
  ∃os st',bItems sh k ks st=some (os,st')/\Out st st' (i+2*nodesL ks)/\os.length=ks.length/\∀o∈os,0<o/\o<=st'.m.bytes.length:=by
 unfold bItems;by_cases h14:k=14
 ·rw[if_pos h14];obtain⟨os,st',h1,h2,h3,h4⟩:=texts_laid sh ks st i (λv hv=>(hg v hv).lens.1) hok.nested hok.pi hok.inv;refine⟨os,st',h1,h2,h3,λo ho=>?_⟩;obtain⟨j,hj,rfl⟩:=List.getElem_of_mem ho;have:=h4 j (by omega) hj
  exact⟨this.1,this.2.1⟩
 ·rw[if_neg h14];obtain⟨os,st',h1,h2,h3,h4⟩:=kids_laid sh ks st i (λv hv=>⟨else_laid sh v,hg v hv,hk h14 v hv⟩) hok.nested hok.pi hok.inv hb;refine⟨os,st',h1,h2,h3,λo ho=>?_⟩;obtain⟨j,hj,rfl⟩:=List.getElem_of_mem ho;have:=h4 j (by omega) hj
  exact⟨this.1,this.2.1⟩
structure BI1(sh:Bool)(k b:Nat)(F:List Nat)(st0:BSt)(i0:Nat)(w:World)(bx:List Value)(ks:List Val)(i:Nat)(ov:Value)(wr:World)(F':List Nat)(st:BSt)(os:List Nat):Prop where
 adv:Adv w wr F F'
 rep:BRep wr b F' st
 run:bItems sh k (ks.take i) st0=some (os,st)
 out:Out st0 st (i0+2*nodesL (ks.take i))
 size:w.heap.size+1<=wr.heap.size
 box:wr.heap[w.heap.size]?=some (.cells bx.toArray 46)
 row:wr.ownsRow (w.heap.size+1) 98 1 ov i (u32s os)
 rowF:∀g,ov.ownBlock=some g->g ∉ F'
 len:os.length=i
 new:w.heap.size ∉ F'
def BIR1 (sh:Bool)(k b:Nat)(F:List Nat)(st0:BSt)(i0:Nat)(w:World)(bx:List Value)(ks:List Val)(i:Nat)(ov:Value)(wr:World):Prop:=∃F' st os,BI1 sh k b F st0 i0 w bx ks i ov wr F' st os
theorem BI1.more{sh:Bool}{k b:Nat}{F:List Nat}{st0:BSt}{i0:Nat}{w:World}{bx:List Value}{ks:List Val}{i:Nat}{ov:Value}{wr:World}{F':List Nat}{st:BSt}{os:List Nat}(h:BI1 sh k b F st0 i0 w bx ks i ov wr F' st os)
  (hok:BOk st0 i0) (hb:i0+2*nodesL ks<=300) (hg:∀v∈ks,Bld v) (hk:k≠14->∀v∈ks,v.kind=15) (hi:i<ks.length):
  ∃o st2,bItem sh k ks[i] st=some (o,st2)/\bItems sh k (ks.take (i+1)) st0=some (os++[o],st2)/\Out st0 st2 (i0+2*nodesL (ks.take (i+1))):=by
 have hn:=nodesL_take ks (i+1);obtain⟨os2,st2,hr2,ho2,hl2,_⟩:=items_laid sh k (ks.take (i+1)) st0 i0 (λs hs=>hg s (List.mem_of_mem_take hs)) (λh14 s hs=>hk h14 s (List.mem_of_mem_take hs)) hok (by omega);have hr3:=hr2;rw[List.take_succ_eq_append_getElem hi,bItems_snoc,h.run,Option.bind_some] at hr3;cases hs:bItem sh k ks[i] st with
 | none=>rw[hs] at hr3;cases hr3
 | some q =>
  rw[hs] at hr3;have e:(os++[q.1],q.2)=(os2,st2):=by injection hr3
  injection e with e1 e2;subst e1 e2;exact⟨q.1,q.2,rfl,hr2,ho2⟩
theorem BI1.next{sh:Bool}{k b:Nat}{F:List Nat}{st0:BSt}{i0:Nat}{w:World}{bx:List Value}{ks:List Val}{i:Nat}{ov:Value}{wr w2 w7:World}{F' F2:List Nat}{st st2:BSt}{os:List Nat}{o g7 cap7:Nat}{ob:Obj}(h:BI1 sh k b F st0 i0 w bx ks i ov wr F' st os)
  (ha:Adv wr w2 F' F2) (hb:BRep w2 b F2 st2) (hr:bItems sh k (ks.take (i+1)) st0=some (os++[o],st2)) (ho:Out st0 st2 (i0+2*nodesL (ks.take (i+1)))) (hgrow:(w2.alloc ob).grownBy w7 ov.ownBlock)
  (hown:w7.ownsRow (w.heap.size+1) 98 1 (.slice (some ⟨g7,0,none⟩) (i+1) cap7) (i+1) (u32s os++[.int .u32 o])) (hat:ov.ownBlock=some g7\/g7=w2.heap.size+1):
  BI1 sh k b F st0 i0 w bx ks (i+1) (.slice (some ⟨g7,0,none⟩) (i+1) cap7) w7 F2 st2 (os++[o]):=by
 have hs:=h.size;have hs2:=ha.1.size;have hs7:=hgrow.size;rw[size_alloc] at hs7;have hrl:=ownBlock_lt h.row;have hF2:∀q∈F2,some q≠ov.ownBlock:=by
  intro q hq e;have h1:=hrl q e.symm;rcases ha.2 q hq with h2|h2
  ·exact h.rowF q e.symm h2
  ·omega
 have hfr7:Fr (λq=>some q=ov.ownBlock) w2 w7:=((Fr.refl _ w2).alloc ob).trans (grown_fr' hgrow);have ha2:=h.adv.trans ha;obtain⟨hn0,hh0⟩:=ha.out (k:=w.heap.size) (by omega) h.new;refine⟨⟨ha2.1.trans2 hfr7 (λq hq e=>?_),ha2.2⟩,hb.keep hfr7 (λq hq e=>hF2 q hq e),hr,ho,by omega,?_,?_,?_,by rw[List.length_append,h.len];rfl,hn0⟩
 ·have:=(hrl q e.symm).1;omega
 ·rw[hfr7.block _ (by omega) (λe=>by have:=(hrl _ e.symm).1;omega),hh0];exact h.box
 ·have e:u32s (os++[o])=u32s os++[.int .u32 o]:=by simp[u32s]
  rw[e];exact hown
 ·intro g hg hm;have e:g7=g:=by have hg:some g7=some g:=hg;injection hg
  subst e;rcases hat with h1|h1
  ·exact hF2 _ hm h1.symm
  ·have:=hb.below _ hm;omega
theorem row_cell{w:World}{base i q:Nat}{T:TypeId}{ov:Value}{os:List Nat}(h:w.ownsRow base T 1 ov i (u32s os))(hq:q<os.length):∃g cap,ov=.slice (some ⟨g,0,none⟩) i cap/\base<=g/\g<w.heap.size/\i<=cap/\cap<=maxLen/\w.cell? ⟨g,q,none⟩=some (.int .u32 os[q]):=by
 obtain⟨h0,h1⟩:=h;rw[u32s_length,Nat.mul_one] at h0;rcases h1 with ⟨_,rfl⟩|⟨g,cap,cur,rfl,hb,hg,hc,hm,hcs,ht⟩
 ·omega
 ·refine⟨g,cap,rfl,hb,lt_of_block hg,hc,hm,?_⟩;rw[cell_of hg];have h2:(cur.toList.take (i*1))[q]?=some (.int .u32 os[q]):=by rw[ht];simp[u32s,List.getElem?_eq_getElem hq]
  rw[List.getElem?_take,if_pos (by omega)] at h2;simpa using h2
theorem row_form{w:World}{base i:Nat}{T:TypeId}{ov:Value}{xs:List Value}(h:w.ownsRow base T 1 ov i xs):∃a cap,ov=.slice a i cap/\i<=cap/\cap<=maxLen:=by
 rcases h.2 with ⟨rfl,rfl⟩|⟨g,cap,cur,rfl,hb,hg,hc,hm,hcs,ht⟩
 ·exact⟨none,0,rfl,Nat.le_refl _,Nat.zero_le _⟩
 ·exact⟨_,cap,rfl,hc,hm⟩
def BIR2 (b:Nat)(F3:List Nat)(w3:World)(st1:BSt)(os:List Nat)(q:Int)(wr:World):Prop:=∃F' stq,BRep wr b F' stq/\bOffs (os.drop (q+1).toNat) st1=some stq/\Adv w3 wr F3 F'
theorem offs_some{os:List Nat}{st1:BSt}(h4:st1.m.bytes.length%4=0)(ho:∀o∈os,0<o/\o<=st1.m.bytes.length)(hl:st1.m.bytes.length+4*os.length<1800000)(q:Nat):∃s,bOffs (os.drop q) st1=some s/\s.m.bytes.length<=1900000/\s.nested=st1.nested:=by
 obtain⟨m,h1,_,h2,_⟩:=offs_laid (os.drop q) st1 h4 (λo hm=>ho o (List.mem_of_mem_drop hm)) (by rw[List.length_drop];omega);exact⟨_,h1,by show m.bytes.length<=_;rw[h2,List.length_drop];omega,rfl⟩
def BNR (b:Nat)(F:List Nat)(w:World)(bx:List Value)(st1:BSt)(e:Nat)(ns:List Nat)(q:Int)(wr:World):Prop:=∃F',BRep wr b F' { st1 with m:=bNums e (ns.drop (q+1).toNat) st1.m }/\Adv w wr F F'/\wr.heap[w.heap.size]?=some (.cells bx.toArray 46)/\w.heap.size ∉ F'/\w.heap.size<wr.heap.size
theorem BNR.next{b:Nat}{F:List Nat}{w:World}{bx:List Value}{st1:BSt}{e p:Nat}{ns:List Nat}{wr w6:World}{F5 F6:List Nat}(hp:p<ns.length)(h:Adv w wr F F5/\wr.heap[w.heap.size]?=some (.cells bx.toArray 46)/\w.heap.size ∉ F5/\w.heap.size<wr.heap.size)(ha:Adv wr w6 F5 F6)
  (hb:BRep w6 b F6 { st1 with m:=((bNums e (ns.drop (p+1)) st1.m).prep (numSize e) 0).put (numB e ns[p]) }):BNR b F w bx st1 e ns ((p:Int)-1) w6:=by
 obtain⟨h1,h2,h3,h4⟩:=h;obtain⟨o1,o2⟩:=ha.out h4 h3;refine⟨F6,?_,h1.trans ha,o2.trans h2,o1,by have:=ha.1.size;omega⟩;rw[show ((p:Int)-1+1).toNat=p by omega,List.drop_eq_getElem_cons hp];exact hb
theorem bNums_len{e:Nat}(he:e<=10)(m:BM)(ns:List Nat)(hn:ns.length<=200)(q:Nat):(bNums e (ns.drop q) m).bytes.length<=m.bytes.length+8000:=by
 have:=(bNums_grow e he m (ns.drop q)).len
 rw[List.length_drop] at this;omega
theorem scalarSize_calls(k:Nat)(hk:k<=10)(w:World):Calls Tryz.prog 214 #[.int .u8 k] w λe w'=>e=.returned (.int .i64 (numSize k))/\w=w':=by
 have:k=0\/k=1\/k=2\/k=3\/k=4\/k=5\/k=6\/k=7\/k=8\/k=9\/k=10:=by omega
 rcases this with rfl|rfl|rfl|rfl|rfl|rfl|rfl|rfl|rfl|rfl|rfl <;>
 ·go_enter Tryz.func214,Tryz.ntmps214;go_wp2
  go_ret;exact⟨rfl,rfl⟩
theorem conv_bytesV(W:World)(text:List UInt8):∃cap W2,(convert 9 81 (.string (strOf text))).run Tryz.prog W=.ok (.slice (some ⟨W.heap.size,0,none⟩) text.length cap) W2/\Fr0 W W2/\Mem W2 W.heap.size 0 text/\W.heap.size<W2.heap.size:=by
 have h:=run_bytes_of_string (P:=Tryz.prog) W 9 81 5 (strOf text) Tryz.underlying9 Tryz.underlying81 Tryz.underlying5;rw[strOf_size] at h;refine⟨_,_,h,((Fr.refl _ W).drew).alloc _,λi x hx=>?_,by simp⟩;rw[Nat.zero_add,cell_of (show (World.alloc W.drew _).heap[W.heap.size]?=_ from heap_alloc_new W.drew _)];have hi:i<text.length:=(List.getElem?_eq_some_iff.1 hx).1;unfold bytesRow;rw[Array.getElem?_append_left (by simp[strOf];exact hi)];simp[strOf,hx]
def CleanRes(v:Val)(L:Nat)(left:Int)(w:World)(e:Ending)(w':World):Prop:=∃r:Bool,e=.returned (.bool r)/\Fr (λb=>b=L) w w'/\∃left':Int,w'.heap[L]?=some (.cells #[.int .i64 left'] 3)/\(r=true->Good v/\left'+nodes v<=left/\0<=left')
def CleanC(v:Val):Prop:=∀(B:Nat->Prop) (cs:List Value) (L:Nat) (left deep:Int) (w:World),VIs B w cs v->¬B L->w.heap[L]?=some (.cells #[.int .i64 left] 3)->0<=left->left<=1000->-1<=deep->deep<=1000 ->
 Calls Tryz.prog 25 #[.agg cs.toArray,.pointer (some ⟨L,0,none⟩),.int .i64 deep] w (CleanRes v L left w)
theorem strE{l:List UInt8}:(strOf l).toList.isEmpty=decide (l.length=0):=by
 have e:(strOf l).toList=l:=by
  have h0:(strOf l).toList=(strOf l).data.toList:=by simp[ByteArray.toList_eq]
  rw[h0];rfl
 rw[e];cases l with
 | nil=>rfl
 | cons a r=>rfl
theorem clean_false{v:Val}{L:Nat}{left:Int}{w w':World}(hf:Fr (λb=>b=L) w w'){x:Int}(hL:w'.heap[L]?=some (.cells #[.int .i64 x] 3)):CleanRes v L left w (.returned (.bool false)) w' :=
 ⟨false,rfl,hf,x,hL,λh=>by cases h⟩
structure CF(w:World)(bx:List Value)(L:Nat)(x:Int)(wx:World):Prop where
 fr:Fr (λb=>b=L) w wx
 size:w.heap.size+1<=wx.heap.size
 box:wx.heap[w.heap.size]?=some (.cells bx.toArray 27)
 cell:wx.heap[L]?=some (.cells #[.int .i64 x] 3)
theorem CF.start{w:World}{bx:List Value}{L:Nat}{x y:Int}(hL:w.heap[L]?=some (.cells #[.int .i64 y] 3)):CF w bx L x ((w.setCell ⟨L,0,none⟩ (.int .i64 x)).alloc (.cells bx.toArray 27)):=by
 have hs:(w.setCell ⟨L,0,none⟩ (.int .i64 x)).heap.size=w.heap.size:=by simp[World.setCell]
 have hL1:(w.setCell ⟨L,0,none⟩ (.int .i64 x)).heap[L]?=some (.cells #[.int .i64 x] 3):=heap_setCell_same hL 0 _;refine⟨((Fr.refl (λb=>b=L) w).setCell (p:=⟨L,0,none⟩) (λ_=>rfl) _).alloc _,by rw[size_alloc,hs];omega,?_,(heap_alloc_old _ _ _ (lt_of_block hL1)).trans hL1⟩;have:=heap_alloc_new (w.setCell ⟨L,0,none⟩ (.int .i64 x)) (.cells bx.toArray 27)
 rwa [hs] at this
theorem CF.bad{w:World}{bx:List Value}{L:Nat}{x left:Int}{wx:World}{v:Val}(h:CF w bx L x wx):CleanRes v L left w (.returned (.bool false)) wx:=clean_false h.fr h.cell
theorem CF.good{w:World}{bx:List Value}{L:Nat}{x left:Int}{wx:World}{v:Val}(h:CF w bx L x wx)(hg:Good v)(hn:x+nodes v<=left)(hx:0<=x):CleanRes v L left w (.returned (.bool true)) wx:=⟨true,rfl,h.fr,x,h.cell,λ_=>⟨hg,hn,hx⟩⟩
theorem CF.bx7{w:World}{b0 b1 b2 b3 b4 b5 b6:Value}{L:Nat}{x:Int}{wx:World}(h:CF w [b0,b1,b2,b3,b4,b5,b6] L x wx):wx.cell? ⟨w.heap.size,0,none⟩=some b0/\wx.cell? ⟨w.heap.size,1,none⟩=some b1/\wx.cell? ⟨w.heap.size,2,none⟩=some b2/\wx.cell? ⟨w.heap.size,3,none⟩=some b3/\wx.cell? ⟨w.heap.size,4,none⟩=some b4/\wx.cell? ⟨w.heap.size,5,none⟩=some b5/\wx.cell? ⟨w.heap.size,6,none⟩=some b6:=by
 have hb:=h.box;exact⟨by rw[cell_of hb];rfl,by rw[cell_of hb];rfl,by rw[cell_of hb];rfl,by rw[cell_of hb];rfl,by rw[cell_of hb];rfl,by rw[cell_of hb];rfl,by rw[cell_of hb];rfl⟩
theorem CF.gives{w:World}{bx:List Value}{L:Nat}{x left:Int}{wx:World}{v:Val}(h:CF w bx L x wx)(r:Bool)(hr:r=true->Good v/\x+nodes v<=left/\0<=x):CleanRes v L left w (.returned (.bool r)) wx:=⟨r,rfl,h.fr,x,h.cell,hr⟩
theorem CF.next{w:World}{bx:List Value}{L:Nat}{x y:Int}{wx w6:World}(h:CF w bx L x wx)(hL:L<w.heap.size)(hf:Fr (λb=>b=L) wx w6)(hc:w6.heap[L]?=some (.cells #[.int .i64 y] 3)):CF w bx L y w6:=by
 have hs:=h.size;refine⟨h.fr.trans hf,Nat.le_trans hs hf.size,?_,hc⟩;rw[hf.block _ (by omega) (λe=>by omega)];exact h.box
theorem CF.alloc{w:World}{bx:List Value}{L:Nat}{x:Int}{wx:World}(h:CF w bx L x wx)(hL:L<w.heap.size)(o:Obj):CF w bx L x (wx.alloc o) :=
 h.next hL ((Fr.refl _ wx).alloc o) ((heap_alloc_old _ _ _ (lt_of_block h.cell)).trans h.cell)
theorem good_num{k n:Nat}(h:OkNum k n):Good (.mk k 0 n [] [] [] []) :=
 .mk k 0 n [] [] [] [] (by have:=h.1;omega) (λh'=>by have:=h.1;omega) (λ_ _ _=>rfl) (λ_=>rfl) (λ_ _=>rfl) (λ_=>rfl) (λ_ _=>rfl) (by simp) (by simp) (by simp) (by simp) (λh'=>by have:=h.1;omega) (λh'=>by have:=h.1;omega) (λ_ v hv=>by cases hv) (λ_ v hv=>by cases hv) (λv hv=>by cases hv) (λh'=>by have:=h.1;omega) (λv hv=>by cases hv) (λv hv=>by cases hv) (λv hv=>by cases hv) (λ_=>h)
theorem good_text{k:Nat}{t:List UInt8}(hk:k=11\/k=12)(ht:t.length<=1000):Good (.mk k 0 0 t [] [] []) :=
 .mk k 0 0 t [] [] [] (by omega) (λ_=>rfl) (λ_ _ _=>by omega) (λ_=>rfl) (λ_ _=>rfl) (λ_=>rfl) (λ_ _=>rfl) ht (by simp) (by simp) (by simp) (λh'=>by omega) (λh'=>by omega) (λ_ v hv=>by cases hv) (λ_ v hv=>by cases hv) (λv hv=>by cases hv) (λh'=>by omega) (λv hv=>by cases hv) (λv hv=>by cases hv) (λv hv=>by cases hv) (λh'=>by omega)
theorem good_nums{e:Nat}{ns:List Nat}(he:e<=10)(h:∀x∈ns,OkNum e x)(ln:ns.length<=200):Good (.mk 13 e 0 [] ns [] []) :=
 .mk 13 e 0 [] ns [] [] (by omega) (λ_=>rfl) (λ_ _ _=>rfl) (λh=>absurd rfl h) (λ_ _=>rfl) (λ_=>rfl) (λh=>absurd rfl h) (by simp) ln (by simp) (by simp) (λ_=>⟨he,h⟩) (λh'=>by omega) (λ_ v hv=>by cases hv) (λ_ v hv=>by cases hv) (λv hv=>by cases hv) (λh'=>by omega) (λv hv=>by cases hv) (λv hv=>by cases hv) (λv hv=>by cases hv) (λh'=>by omega)
theorem good_struct{e:Nat}{t:List UInt8}(he:e=1\/e=2\/e=4\/e=8)(h0:t.length≠0)(h1:t.length<=64)(h2:t.length%e=0):Good (.mk 17 e 0 t [] [] []) :=
 .mk 17 e 0 t [] [] [] (by omega) (λ_=>rfl) (λ_ _ h=>absurd rfl h) (λ_=>rfl) (λ_ _=>rfl) (λ_=>rfl) (λ_ h=>absurd rfl h) (by omega) (by simp) (by simp) (by simp) (λh'=>by omega) (λ_=>⟨he,λh=>h0 (by rw[h];rfl),h1,h2⟩) (λ_ v hv=>by cases hv) (λ_ v hv=>by cases hv) (λv hv=>by cases hv) (λh'=>by omega) (λv hv=>by cases hv) (λv hv=>by cases hv) (λv hv=>by cases hv) (λh'=>by omega)
theorem good_kids14{ks:List Val}(h:∀v∈ks,v.kind=11/\Good v)(lk:ks.length<=200):Good (.mk 14 0 0 [] [] ks []) :=
 .mk 14 0 0 [] [] ks [] (by omega) (λ_=>rfl) (λ_ _ _=>rfl) (λ_=>rfl) (λh=>absurd rfl h) (λ_=>rfl) (λ_ _=>rfl) (by simp) (by simp) lk (by simp) (λh'=>by omega) (λh'=>by omega) (λ_ v hv=>(h v hv).1) (λh'=>by omega) (λv hv=>(h v hv).2) (λh'=>by omega) (λv hv=>by cases hv) (λv hv=>by cases hv) (λv hv=>by cases hv) (λh'=>by omega)
theorem good_kids16{ks:List Val}(h:∀v∈ks,v.kind=15/\Good v)(hm:(merged ks).isSome)(lk:ks.length<=200):Good (.mk 16 0 0 [] [] ks []) :=
 .mk 16 0 0 [] [] ks [] (by omega) (λ_=>rfl) (λ_ _ _=>rfl) (λ_=>rfl) (λ_ h=>absurd rfl h) (λ_=>rfl) (λ_ _=>rfl) (by simp) (by simp) lk (by simp) (λh'=>by omega) (λh'=>by omega) (λh'=>by omega) (λ_ v hv=>(h v hv).1) (λv hv=>(h v hv).2) (λ_=>hm) (λv hv=>by cases hv) (λv hv=>by cases hv) (λv hv=>by cases hv) (λh'=>by omega)
theorem good_tab{ss:List (Slt Val)}(h:∀s∈ss,Good s.val/\(s.val.kind > 10->s.dflt=0)/\(s.val.kind<=10->OkNum s.val.kind s.dflt))(ls:ss.length<=60):Good (.mk 15 0 0 [] [] [] ss) :=
 .mk 15 0 0 [] [] [] ss (by omega) (λ_=>rfl) (λ_ _ _=>rfl) (λ_=>rfl) (λ_ _=>rfl) (λh=>absurd rfl h) (λ_ _=>rfl) (by simp) (by simp) (by simp) ls (λh'=>by omega) (λh'=>by omega) (λ_ v hv=>by cases hv) (λ_ v hv=>by cases hv) (λv hv=>by cases hv) (λh'=>by omega) (λs hs=>(h s hs).1) (λs hs=>(h s hs).2.1) (λs hs=>(h s hs).2.2) (λh'=>by omega)
end Go.Proofs.YtcfblkkpclfmaaaGreat
