/- Part 1 of the proof of FnBuiltShared (SharedK). No condition is laid on the statement. -/
import Derived.Test.YtcfblkkpclfmaaaGreatQa44
set_option linter.unusedVariables false
set_option linter.unusedSimpArgs false
set_option maxRecDepth 100000
set_option maxHeartbeats 16000000
namespace Go.Proofs.YtcfblkkpclfmaaaGreat
open Go.RowKit
theorem LF.putS{w:World}{bv:List Value}{b0 b1 b2 x:Value}{wx:World}(h:LF w bv [b0,b1,b2] wx):LF w bv [b0,b1,x] (wx.setCell ⟨w.heap.size+1,2,none⟩ x):=by
 have hs:=h.size;refine⟨h.fr.setCell (p:=⟨w.heap.size+1,2,none⟩) (λhb=>(by have hb:w.heap.size+1<w.heap.size:=hb;omega)) x,by rw[size_setCell];exact hs,?_,?_⟩
 ·rw[heap_setCell_other _ _ _ _ (show w.heap.size≠w.heap.size+1 by omega)];exact h.hv
 ·rw[heap_setCell_same h.ho];rfl
end Go.Proofs.YtcfblkkpclfmaaaGreat
