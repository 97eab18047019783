/- Part 28 of the proof of FnEvolved; no condition. -/
import Derived.Test.YtcfblkkpclfmaaaGreatEb27
import Derived.Laws.BytesString
import Derived.Laws.MakeOwn
set_option linter.unusedVariables false
set_option linter.unusedSimpArgs false
set_option maxRecDepth 100000
set_option maxHeartbeats 16000000
namespace Go.Proofs.YtcfblkkpclfmaaaGreat
open Go.RowKit
def shS (s:Slt Val):Slt Val:=⟨false,shape s.val,s.dflt⟩
theorem TV2.start0{B:Nat->Prop}{w w4:World}{bx:List Value}{TI TO TS:TypeId}{k e n:Nat}{t:ByteArray}{nv:Value}(hf:Fr0 w w4)(hs:w.heap.size+3<=w4.heap.size)(box:w4.heap[w.heap.size]?=some (.cells bx.toArray TI))
  (out:w4.heap[w.heap.size+1+1]?=some (.cells #[.int .u8 k,.int .u8 e,.int .u64 n,.string t,nv,.slice none 0 0,.slice none 0 0] TO)) (res:∃c:Array Value,c.size=7/\w4.heap[w.heap.size+1]?=some (.cells c TO)):
  ∃c,TV2 B w bx TI TO TS k e n t nv c (.slice none 0 0) [] w4 (.slice none 0 0) [] :=
 ⟨w4.heap.size-w.heap.size,hf,by omega,by omega,box,out,res,ItRow.nil _ _ _ _ _ _ _,(λg hg=>by cases hg),ItRow.nil _ _ _ _ _ _ _⟩
theorem TV2.start1{B:Nat->Prop}{w w4:World}{bx csk:List Value}{TI TO TS:TypeId}{k e n g:Nat}{t:ByteArray}{nv:Value}{m:Val}(hf:Fr0 w w4)(hs:w.heap.size+3<=w4.heap.size)(box:w4.heap[w.heap.size]?=some (.cells bx.toArray TI))
  (out:w4.heap[w.heap.size+1+1]?=some (.cells #[.int .u8 k,.int .u8 e,.int .u64 n,.string t,nv,.slice (some ⟨g,0,none⟩) 1 1,.slice none 0 0] TO)) (res:∃c:Array Value,c.size=7/\w4.heap[w.heap.size+1]?=some (.cells c TO))
  (hg:w.heap.size+3<=g) (hgl:w4.heap[g]?=some (.cells csk.toArray TO)) (hv:VIs (λb=>(B b/\b<w.heap.size)\/(w.heap.size+3<=b/\b≠g)) w4 csk m):
  ∃c,TV2 B w bx TI TO TS k e n t nv c (.slice (some ⟨g,0,none⟩) 1 1) [(csk,m)] w4 (.slice none 0 0) []:=by
 have hgs:=lt_of_block hgl;have hlen:csk.length=7:=hv.length;refine⟨w4.heap.size-w.heap.size,hf,by omega,by omega,box,out,res,⟨⟨by simp[hlen],.inr ⟨g,1,csk.toArray,rfl,hg,hgl,Nat.le_refl _,by unfold maxLen;omega,by simp[hlen],by simp[<-hlen]⟩⟩,λx hx=>?_⟩,λg' hg'=>?_,ItRow.nil _ _ _ _ _ _ _⟩
 ·rw[List.mem_singleton.1 hx];exact hv.fr0 (Fr.refl _ _) (λb hb hbb=>⟨hbb.imp id (λh=>⟨h.1,λe=>by injection e with e;exact h.2 e⟩),by omega⟩)
 ·have e:g=g':=by injection hg'
  omega
end Go.Proofs.YtcfblkkpclfmaaaGreat
