/- Part 1 of the proof of FnNested (NestK). No condition is laid on the statement. -/
import Derived.Test.YtcfblkkpclfmaaaGreatQa20
import Derived.Test.YtcfblkkpclfmaaaGreatQa25
import Derived.Test.YtcfblkkpclfmaaaGreatQa27
set_option linter.unusedVariables false
set_option linter.unusedSimpArgs false
set_option maxRecDepth 100000
set_option maxHeartbeats 16000000
namespace Go.Proofs.YtcfblkkpclfmaaaGreat
open Go.RowKit
def vT:Val:=.mk 15 0 0 [] [] [] []
def vO (b:List UInt8):Val:=.mk 15 0 0 [] [] [] [⟨true,.mk 12 0 0 b [] [] [],0⟩]
def vOs:Val:=.mk 15 0 0 [] [] [] [⟨false,.mk 12 0 0 [] [] [] [],0⟩]
theorem vO_good{b:List UInt8}(hb:b.length<=1000):Good (vO b):=by
 refine good_tab (λs hs=>?_) (by simp);simp only[List.mem_cons,List.not_mem_nil,or_false] at hs;subst hs;refine⟨?_,λ_=>rfl,λh=>?_⟩
 ·exact .mk 12 0 0 b [] [] [] (by omega) (λ_=>rfl) (λ_ h=>absurd rfl h) (λ_=>rfl) (λ_ _=>rfl) (λ_=>rfl) (λ_ _=>rfl) hb (by simp) (by simp) (by simp) (λh=>by omega) (λh=>by omega) (λh=>by omega) (λh=>by omega) (λv hv=>by cases hv) (λh=>by omega) (λs hs=>by cases hs) (λs hs=>by cases hs) (λs hs=>by cases hs) (λh=>by omega)
 ·exact absurd h (by show ¬(12:Nat)<=10;omega)
theorem vO_sh(b:List UInt8):ShOk (vO b) vOs:=by
 refine .mk 15 0 0 [] [] [] _ vOs rfl rfl (λh=>by omega) (λh=>by omega) (λ_ _ h=>by omega) rfl (λi h h2=>?_) (λi h h2=>?_)
 ·have hi:i=0:=by simp at h;omega
  subst hi;rfl
 ·have hi:i=0:=by simp at h;omega
  subst hi;exact .mk 12 0 0 b [] [] [] _ rfl rfl (λh=>by omega) (λh=>by omega) (λ_ _ h=>by omega) rfl (λi h h2=>by simp at h) (λi h h2=>by simp at h)
theorem vO_read(b:List UInt8):read0 (vO b)=vO b:=by simp[vO,read0,read0L,read0S,read0T,Val.kind,Val.num,eqK]
theorem vO_nodes(b:List UInt8):nodes (vO b)<=150:=by simp[vO,nodes,nodesL,nodesS,nodesT]
theorem vT_is{w:World}:VIs (λ_=>True) w [.int .u8 15,.int .u8 0,.int .u64 0,.string ⟨#[]⟩,.slice none 0 0,.slice none 0 0,.slice none 0 0] vT:=VIs.textv (k:=15) (e:=0) (t:=[]) (by omega) (by omega) (by simp)
theorem one_is{w:World}{g:Nat}{T:TypeId}{has:Bool}{S:ByteArray}{b:List UInt8}(hS:S=strOf b)(hb:b.length<=maxLen)(hg:w.heap[g]?=some (.cells #[.bool has,.int .u8 12,.int .u8 0,.int .u64 0,.string S,.slice none 0 0,.slice none 0 0,.slice none 0 0,.int .u64 0] T)):VIs (λ_=>True) w [.int .u8 15,.int .u8 0,.int .u64 0,.string ⟨#[]⟩,.slice none 0 0,.slice none 0 0,.slice (some ⟨g,0,none⟩) 1 1] (.mk 15 0 0 [] [] [] [⟨has,.mk 12 0 0 b [] [] [],0⟩]):=by
 subst hS;have hc:∀j u,[.bool has,.int .u8 12,.int .u8 0,.int .u64 0,.string (strOf b),.slice none 0 0,.slice none 0 0,.slice none 0 0,.int .u64 0][j]?=some u->w.cell? ⟨g,j,none⟩=some u:=λj u hu=>(cell_of hg j).trans (by simpa using hu);have hs:=lt_of_block hg;refine .mk 15 0 0 [] [] [] [⟨has,.mk 12 0 0 b [] [] [],0⟩] (.slice none 0 0) none 0 0 0 (some ⟨g,0,none⟩) 1 g 0 (by omega) (by omega) (by omega) (by simp) ⟨⟨none,0,rfl,Nat.le_refl _,Nat.zero_le _,λh=>absurd rfl h,λx hx=>by cases hx⟩⟩ (λh=>absurd rfl h) ⟨Nat.le_refl _,Nat.zero_le _⟩ (λi h=>by simp at h) (λ_=>⟨rfl,hs,trivial⟩) ⟨Nat.le_refl _,by unfold maxLen;omega⟩ (λi h=>?_) (λi h=>?_)
 ·have hi:i=0:=by simp at h;omega
  subst hi;exact⟨hc 0 _ rfl,hc 8 _ rfl,show (0:Nat)<2^64 by decide⟩
 ·have hi:i=0:=by simp at h;omega
  subst hi;have e:cellsAt w g (0+0*9+1) 7=[.int .u8 12,.int .u8 0,.int .u64 0,.string (strOf b),.slice none 0 0,.slice none 0 0,.slice none 0 0]:=cellsAt_of rfl (λj u hu=>by
    have hj:j<7:=(by have:=(List.getElem?_eq_some_iff.1 hu).1;simpa using this);refine hc (0+0*9+1+j) u ?_;rw[<-hu];have:j=0\/j=1\/j=2\/j=3\/j=4\/j=5\/j=6:=by omega
    rcases this with rfl|rfl|rfl|rfl|rfl|rfl|rfl<;>rfl)
  rw[e];exact VIs.textv (k:=12) (e:=0) (by omega) (by omega) hb
theorem store7{w:World}{b:Nat}{t:TypeId}{a0 a1 a2 a3 a4 a5 a6 x0 x1 x2 x3 x4 x5 x6:Value}(hb:w.heap[b]?=some (.cells #[a0,a1,a2,a3,a4,a5,a6] t)):((((((((w.setCell ⟨b,0,none⟩ x0).setCell ⟨b,1,none⟩ x1).setCell ⟨b,2,none⟩ x2).setCell ⟨b,3,none⟩ x3).setCell ⟨b,4,none⟩ x4).setCell ⟨b,5,none⟩ x5).setCell ⟨b,6,none⟩ x6)).heap[b]?=some (.cells #[x0,x1,x2,x3,x4,x5,x6] t):=by
 rw[heap_setCell_same (heap_setCell_same (heap_setCell_same (heap_setCell_same (heap_setCell_same (heap_setCell_same (heap_setCell_same hb 0 _) 1 _) 2 _) 3 _) 4 _) 5 _) 6 _];rfl
theorem store7_fr{w:World}{b:Nat}{x0 x1 x2 x3 x4 x5 x6:Value}:Fr (λk=>k=b) w (((((((w.setCell ⟨b,0,none⟩ x0).setCell ⟨b,1,none⟩ x1).setCell ⟨b,2,none⟩ x2).setCell ⟨b,3,none⟩ x3).setCell ⟨b,4,none⟩ x4).setCell ⟨b,5,none⟩ x5).setCell ⟨b,6,none⟩ x6) :=
 (((((((Fr.set1 w b 0 x0).trans (Fr.set1 _ b 1 x1)).trans (Fr.set1 _ b 2 x2)).trans (Fr.set1 _ b 3 x3)).trans (Fr.set1 _ b 4 x4)).trans (Fr.set1 _ b 5 x5)).trans (Fr.set1 _ b 6 x6))
theorem VIs.beside{B:Nat->Prop}{w:World}{cs:List Value}{v:Val}{p:Nat}(h:VIs B w cs v)(hp:w.heap.size=p)(o:Obj):VIs (λb=>b≠p) (w.alloc o) cs v :=
 h.fr0 ((Fr.refl (λ_=>False) w).alloc o) (λb hb _=>by omega)
end Go.Proofs.YtcfblkkpclfmaaaGreat
