/- Part 7 of the proof of FnEvolved; no condition. -/
import Derived.Test.YtcfblkkpclfmaaaGreatEb06
set_option linter.unusedVariables false
set_option linter.unusedSimpArgs false
set_option maxRecDepth 100000
set_option maxHeartbeats 16000000
namespace Go.Proofs.YtcfblkkpclfmaaaGreat
open Go.RowKit
theorem BRep.lift{f:FuncId}{args:Array Value}{w:World}{b:Nat}{F:List Nat}{st:BSt}{v:Value}{m':BM}(h:BRep w b F st)
  (hc:∀Y r c,BBm w b Y r st.m c->Calls Tryz.prog f args w λe w'=>e=.returned v/\BBy w w' b Y r m'):Calls Tryz.prog f args w (BRes w b F (some (v,{ st with m:=m' }))):=by
 obtain⟨Y,V,G,M,r,c,rfl,hb,ho⟩:=h;refine (hc Y r c hb).mono ?_;rintro e w' ⟨rfl,hy⟩;obtain⟨F',h1,h2⟩:=BRep.bytes hb ho hy;exact⟨rfl,F',h1,h2⟩
theorem BRep.liftO{f:FuncId}{args:Array Value}{w:World}{b:Nat}{F:List Nat}{st:BSt}{o:Option BM}(h:BRep w b F st)
  (hc:∀Y r c,BBm w b Y r st.m c->Calls Tryz.prog f args w (BOut w b Y r o)):Calls Tryz.prog f args w (BRes w b F (o.map λm'=>(.tuple #[],{ st with m:=m' }))):=by
 obtain⟨Y,V,G,M,r,c,rfl,hb,ho⟩:=h;refine (hc Y r c hb).mono ?_;cases o with
 | none =>
  rintro e w' ⟨h1,h2⟩;exact⟨h1,h2.mono (λi _ hi=>by rcases hi with rfl|rfl<;>simp)⟩
 | some m =>
  rintro e w' ⟨rfl,hy⟩;obtain⟨F',h1,h2⟩:=BRep.bytes hb ho hy;exact⟨rfl,F',h1,h2⟩
theorem BRep.set6{w:World}{b:Nat}{F:List Nat}{st:BSt}(h:BRep w b F st)(x:Bool):BRep (w.setCell ⟨b,6,none⟩ (.bool x)) b F { st with nested:=x }/\Adv w (w.setCell ⟨b,6,none⟩ (.bool x)) F F:=by
 have hm:=h.mem;obtain⟨Y,V,G,M,r,c,rfl,hb,ho⟩:=h;have hf:Fr (λk=>k=b) w (w.setCell ⟨b,6,none⟩ (.bool x)):=(Fr.refl (λk=>k=b) w).setCell (λ_=>rfl) _;have hvt:=ho.vt;have hsh:=ho.sh;have ho2:=ho.fr hf (λhv=>by
  cases hc:st.vtab with
  | none=>exact absurd hc hv
  | some l=>rw[hc] at hvt;exact OffRow.ne_of hvt hb.hb (by decide)) (ho.vs.ne_of hb.hb (by decide)) (λhs=>by
  cases hc:st.shared with
  | none=>exact absurd hc hs
  | some D=>rw[hc] at hsh;exact ShRep.ne_of hsh hb.hb)
 refine⟨⟨Y,V,G,M,{ r with v6:=.bool x },c,rfl,⟨heap_setCell_same hb.hb 6 (.bool x),?_,hb.fit,hb.eq,hb.lim,hb.ne,hb.cap,hb.one,hb.zero⟩,⟨ho2.vt,ho2.oe,ho2.vs,rfl,ho2.fi,ho2.sh,ho2.vg⟩⟩,hf.mono (λi _ hi=>by subst hi;exact hm),λk hk=>.inl hk⟩;rw[heap_setCell_other _ _ _ _ (show Y≠b from λe=>hb.ne e.symm)];exact hb.hy
theorem BRep.set7{w:World}{b:Nat}{F:List Nat}{st:BSt}(h:BRep w b F st)(x:Bool):BRep (w.setCell ⟨b,7,none⟩ (.bool x)) b F { st with fin:=x }/\Adv w (w.setCell ⟨b,7,none⟩ (.bool x)) F F:=by
 have hm:=h.mem;obtain⟨Y,V,G,M,r,c,rfl,hb,ho⟩:=h;have hf:Fr (λk=>k=b) w (w.setCell ⟨b,7,none⟩ (.bool x)):=(Fr.refl (λk=>k=b) w).setCell (λ_=>rfl) _;have hvt:=ho.vt;have hsh:=ho.sh;have ho2:=ho.fr hf (λhv=>by
  cases hc:st.vtab with
  | none=>exact absurd hc hv
  | some l=>rw[hc] at hvt;exact OffRow.ne_of hvt hb.hb (by decide)) (ho.vs.ne_of hb.hb (by decide)) (λhs=>by
  cases hc:st.shared with
  | none=>exact absurd hc hs
  | some D=>rw[hc] at hsh;exact ShRep.ne_of hsh hb.hb)
 refine⟨⟨Y,V,G,M,{ r with v7:=.bool x },c,rfl,⟨heap_setCell_same hb.hb 7 (.bool x),?_,hb.fit,hb.eq,hb.lim,hb.ne,hb.cap,hb.one,hb.zero⟩,⟨ho2.vt,ho2.oe,ho2.vs,ho2.ne,rfl,ho2.sh,ho2.vg⟩⟩,hf.mono (λi _ hi=>by subst hi;exact hm),λk hk=>.inl hk⟩;rw[heap_setCell_other _ _ _ _ (show Y≠b from λe=>hb.ne e.symm)];exact hb.hy
theorem Prep_b(b:Nat)(F:List Nat)(st:BSt)(size add:Nat)(w:World)(h:BRep w b F st)(hs:algn size)(hadd:st.m.bytes.length+add<=1900000):
  Calls Tryz.prog 85 #[.pointer (some ⟨b,0,none⟩),.int .i64 size,.int .i64 add] w (BRes w b F (some (.tuple #[],{ st with m:=st.m.prep size add }))) :=
 h.lift λY r c hb=>Prep_m b Y r st.m size add c w hb hs hadd
theorem Offset_b(b:Nat)(F:List Nat)(st:BSt)(w:World)(h:BRep w b F st):
  Calls Tryz.prog 44 #[.pointer (some ⟨b,0,none⟩)] w λe w'=>e=.returned (.int .u32 st.m.bytes.length)/\∃n,w'=w.drewN n:=by
 obtain⟨Y,V,G,M,r,c,rfl,hb,ho⟩:=h;exact Offset_calls b Y r st.m.room st.m.least st.m.bytes c w hb
def BSt.startVec(st:BSt)(size n by_:Nat):Option (Nat × BSt) :=
 if st.nested then none else some (((st.m.prep 4 (size*n)).prep by_ (size*n)).bytes.length,{ st with m:=(st.m.prep 4 (size*n)).prep by_ (size*n),nested:=true })
def numRes(o:Option (Nat × BSt)):Option (Value × BSt):=o.map λx=>(.int .u32 x.1,x.2)
theorem StartVector_calls(b:Nat)(F:List Nat)(st:BSt)(size n by_:Nat)(w:World)(h:BRep w b F st)(hs:algn by_)(hsz:size<=100)(hn:n<=1000)(hu:st.m.bytes.length<=1700000):
  Calls Tryz.prog 79 #[.pointer (some ⟨b,0,none⟩),.int .i64 size,.int .i64 n,.int .i64 by_] w (BRes w b F (numRes (st.startVec size n by_))):=by
 have HA:=Hd (assertNotNested_calls b F st w h);have f6:=h.frozen 6;have hm:size*n<=100000:=Nat.mul_le_mul hsz hn;obtain⟨k,hk⟩:=exA (size*n);have hki:(size:Int)*(n:Int)=(k:Int):=by rw[hk];simp
 cases hne:st.nested with
 | true =>
  have e:numRes (st.startVec size n by_)=none:=by unfold BSt.startVec numRes;rw[hne];rfl
  rw[e];rw[hne] at HA;have HH:=Hd h;clear h f6;go_enter Tryz.func79,Tryz.ntmps79;go_wp2_with fail;refine HA.out.mono ?_;rintro e w' ⟨⟨u,v,rfl⟩,rfl⟩;exact⟨rfl,⟨u,v,rfl⟩,Fr.refl _ _⟩
 | false =>
  have e:numRes (st.startVec size n by_)=some (.int .u32 ((st.m.prep 4 k).prep by_ k).bytes.length,{ st with m:=(st.m.prep 4 k).prep by_ k,nested:=true }):=by unfold BSt.startVec numRes;rw[hne,hk];rfl
  rw[e];rw[hne] at HA;obtain⟨c6,_⟩:=h.cells;rw[hne] at c6;have hl4:=st.m.prep_le 4 k (by unfold algn;omega);have HH:=Hd (h.set6 true);have HK:=Hd hk;have hk2:k<=100000:=by omega
  clear h e hk hm;go_enter Tryz.func79,Tryz.ntmps79;go_wp2_with fail;refine HA.out.mono ?_;rintro e w' ⟨rfl,rfl⟩;go_wp2_with fail;refine (Prep_b b F _ 4 k _ HH.out.1 (by unfold algn;omega) (by show st.m.bytes.length+k<=_;omega)).mono ?_;rintro e w1 ⟨rfl,F1,hb1,ha1⟩;have HB1:=Hd hb1;have HA1:=Hd (HH.out.2.trans ha1);clear hb1 ha1;go_wp2_with fail;refine (Prep_b b F1 _ by_ k _ HB1.out hs (by show (st.m.prep 4 k).bytes.length+k<=_;omega)).mono ?_;rintro e w2 ⟨rfl,F2,hb2,ha2⟩;have HB2:=Hd hb2;have HA2:=Hd (HA1.out.trans ha2);clear hb2 ha2;go_wp2_with fail;refine (Offset_b b F2 _ _ HB2.out).mono ?_;rintro e w3 ⟨rfl,n3,rfl⟩;go_wp2_with fail;go_ret;exact⟨rfl,F2,HB2.out.drewN _,HA2.out.drewN _⟩
theorem run_slice_from_out'{P:Program}(t:TypeId)(a0:Option Addr)(len cap:Nat)(k:IntKind)(i:Int){e:TypeId}(h0:P.underlying t=some (.slice e))(ho:i<0\/(len:Int)<i):
  ∃(fu:World->TypeId) (fv:World->Value) (fn:World->Nat),∀w,(Instr.slice t (.slice a0 len cap) (some (.int k i)) none none).run P w=.halt (.panic (.iface (fu w) (fv w))) (w.drewN (fn w)):=by
 have h:=λw=>run_slice_from_out (P:=P) h0 a0 len cap k i ho w;exact⟨λw=>(h w).choose,λw=>(h w).choose_spec.choose,λw=>(h w).choose_spec.choose_spec.choose,λw=>(h w).choose_spec.choose_spec.choose_spec⟩
end Go.Proofs.YtcfblkkpclfmaaaGreat
