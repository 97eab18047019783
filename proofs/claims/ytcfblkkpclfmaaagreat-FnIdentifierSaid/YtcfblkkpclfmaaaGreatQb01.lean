/- Part 1 of the proof of FnIdentifier (IdentK). No condition is laid on the statement. -/
import Derived.Test.YtcfblkkpclfmaaaGreatQa44
import Derived.Test.YtcfblkkpclfmaaaGreatQa51
set_option linter.unusedVariables false
set_option linter.unusedSimpArgs false
set_option maxRecDepth 100000
set_option maxHeartbeats 16000000
namespace Go.Proofs.YtcfblkkpclfmaaaGreat
open Go.RowKit Go.ChangeShapes Go.WideShapes Go.Deep
theorem cells4B:Tryz.prog.cellsOf 80=4:=by kernel_rfl
theorem cellsU8b:Tryz.prog.cellsOf 5=1:=by kernel_rfl
theorem list4{α:Type}:∀{l:List α},l.length=4->∃a b c d,l=[a,b,c,d]
 | [a,b,c,d],_=>⟨a,b,c,d,rfl⟩
theorem okWide_arr{P:Program}{w:World}{r:Reach}{base:Nat}{t:TypeId}{v:Value}{n:Nat}{e:TypeId}(ht:P.underlying t=some (.array n e))(h:Value.okWide P w r base t v):∃cs,v=.agg cs:=by
 simp only[Value.okWide,ht] at h;obtain⟨cs,h1,h2,_⟩:=h;exact⟨cs,h1⟩
theorem arr4_of{H:Type}{enc:TypeId × Value->H}{W:World}{base:Nat}{spare:Nat->Bool}{held:Bool}{fuel:Nat}{cs:List Value}{x:DataW H × List MemPlace}(h:DataW.trod enc Tryz.prog W base spare held fuel 80 cs=some x):∃l:List UInt8,l.length=4/\cs=cellsOf l:=by
 obtain⟨xs,n,rfl,_,hcl,hxl,hf⟩:=DataW.trod_array Tryz.underlying80 h;rw[cells4B] at hcl;obtain⟨c0,c1,c2,c3,rfl⟩:=list4 hcl;have key:∀i,i<4->∃y:UInt8,([c0,c1,c2,c3].drop i).take 1=[.int .u8 y.toNat]:=by
  intro i hi;have f:=hf i hi;rw[cellsU8b,Nat.mul_one] at f;obtain⟨y,t⟩:=some_of f hxl hi;rw[t] at f;obtain⟨n0,e0,_,hw⟩:=DataW.trod_int Tryz.underlying5 t;have hb:=bounds_u8 hw;obtain⟨m,rfl⟩:=Int.eq_ofNat_of_zero_le hb.1;refine⟨UInt8.ofNat m,?_⟩;rw[e0];have:(UInt8.ofNat m).toNat=m:=by simp;omega
  rw[this]
 obtain⟨y0,e0⟩:=key 0 (by omega);obtain⟨y1,e1⟩:=key 1 (by omega);obtain⟨y2,e2⟩:=key 2 (by omega);obtain⟨y3,e3⟩:=key 3 (by omega);simp at e0 e1 e2 e3;subst e0 e1 e2 e3;exact⟨[y0,y1,y2,y3],rfl,rfl⟩
theorem LF.putO{w:World}{bv:List Value}{b0 b1 b2 x:Value}{wx:World}(h:LF w bv [b0,b1,b2] wx):LF w bv [b0,x,b2] (wx.setCell ⟨w.heap.size+1,1,none⟩ x):=by
 have hs:=h.size;refine⟨h.fr.setCell (p:=⟨w.heap.size+1,1,none⟩) (λhb=>(by have hb:w.heap.size+1<w.heap.size:=hb;omega)) x,by rw[size_setCell];exact hs,?_,?_⟩
 ·rw[heap_setCell_other _ _ _ _ (show w.heap.size≠w.heap.size+1 by omega)];exact h.hv
 ·rw[heap_setCell_same h.ho];rfl
theorem ident_at{l id:List UInt8}(h:BytesAt l (l.length-4) id)(hi:id.length=4):8<=l.length/\(strOf l).extract 4 8=strOf id:=by
 have h1:=h.low;have h2:=h.len;have h3:=h.eq;unfold fromEnd at h3;rw[show l.length-(l.length-4)=4 by omega,hi] at h3;refine⟨by omega,?_⟩;apply ByteArray.ext
 apply Array.toList_inj.1
 rw[Go.Lib.extract_data];show List.take _ (List.drop 4 l)=id;exact h3
end Go.Proofs.YtcfblkkpclfmaaaGreat
