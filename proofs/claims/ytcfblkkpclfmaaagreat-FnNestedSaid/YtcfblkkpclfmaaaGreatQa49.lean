/- Part 49 of the proof of FnRead (ReadK). No condition is laid on the statement. -/
import Derived.Test.YtcfblkkpclfmaaaGreatQa32
set_option linter.unusedVariables false
set_option linter.unusedSimpArgs false
set_option maxRecDepth 100000
set_option maxHeartbeats 16000000
namespace Go.Proofs.YtcfblkkpclfmaaaGreat
theorem small_nil(k e n:Nat)(t:List UInt8)(ns:List Nat):Small (.mk k e n t ns [] []):=.mk _ _ _ _ _ _ _ (by simp) (by simp) (λv hv=>by cases hv) (λs hs=>by cases hs)
theorem small_read0:∀v,Small v->Small (read0 v):=by
 intro v;induction v using Val.ind with
 | h k e n t ns ks ss ihk ihs =>
  intro h;cases h with
  | mk _ _ _ _ _ _ _ hk hs hgk hgs =>
   show Small (.mk k e n t ns (read0L ks) (read0S ss));rw[read0L_eq,read0S_eq];refine .mk _ _ _ _ _ _ _ (by rw[List.length_map];exact hk) (by rw[List.length_map];exact hs) (λx hx=>?_) (λs hs=>?_)
   ·obtain⟨y,hy,rfl⟩:=List.mem_map.1 hx;exact ihk y hy (hgk y hy)
   ·obtain⟨⟨b,x,d⟩,hy,rfl⟩:=List.mem_map.1 hs;rw[read0T];split
    ·exact small_nil _ _ _ _ _
    ·split
     ·exact ihs _ hy (hgs _ hy)
     ·exact small_nil _ _ _ _ _
end Go.Proofs.YtcfblkkpclfmaaaGreat
