/- Part 32 of the proof of FnEvolved; no condition. -/
import Derived.Test.YtcfblkkpclfmaaaGreatEb29
import Derived.Test.YtcfblkkpclfmaaaGreatEb30
import Derived.Test.YtcfblkkpclfmaaaGreatEb31
set_option linter.unusedVariables false
set_option linter.unusedSimpArgs false
set_option maxRecDepth 100000
set_option maxHeartbeats 16000000
namespace Go.Proofs.YtcfblkkpclfmaaaGreat
open Go.RowKit
theorem good_shape_merged{v:Val}(h:Good v):ShapeC v/\MergedC v.kids:=by
 induction h with
 | mk k e n t ns ks ss hk hnum htext hnums hkids hslots helem lt ln lk ls h13 h17 hk14 hk16 hgk hmer hgs hd1 hd2 h10 ihk ihs =>
  have hM:MergedC ks:=merged_of ks (λv hv=>(ihk v hv).1) (λv hv=>good_small_shape (hgk v hv));refine⟨?_,hM⟩;have hI:∀s∈ss,ShapeC s.val:=λs hs=>(ihs s hs).1;have hl:ss.length<=1000:=by omega
  by_cases h17:k=17
  ·exact shape_struct k e n t ns ks ss h17 (by omega) hl hI
  ·by_cases h16:k=16
   ·by_cases hk0:ks=[]
    ·exact shape_nokids k e n t ns ks ss h16 hk0 hl hI
    ·cases hm:merged ks with
     | none=>exact shape_none k e n t ns ks ss h16 hk0 hm hM hl hI
     | some m=>exact shape_some k e n t ns ks ss m h16 hk0 hm hM hl hI
   ·exact shape_plain k e n t ns ks ss h16 h17 hl hI
theorem Shape_calls{v:Val}(h:Good v):ShapeC v:=(good_shape_merged h).1
theorem merged_calls{ks:List Val}(h:∀v∈ks,Good v):MergedC ks:=merged_of ks (λv hv=>Shape_calls (h v hv)) (λv hv=>good_small_shape (h v hv))
end Go.Proofs.YtcfblkkpclfmaaaGreat
