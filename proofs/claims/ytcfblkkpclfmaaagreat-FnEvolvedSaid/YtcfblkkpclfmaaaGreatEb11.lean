/- Part 11 of the proof of FnEvolved; no condition. -/
import Derived.Test.YtcfblkkpclfmaaaGreatEb10
import Derived.Maps.OwnSet
import Derived.IntWalk
import Derived.Test.YtcfblkkpclfmaaaGreatEb06
import Derived.OpenShut
set_option linter.unusedVariables false
set_option linter.unusedSimpArgs false
set_option maxRecDepth 100000
set_option maxHeartbeats 16000000
namespace Go.Proofs.YtcfblkkpclfmaaaGreat
open Go.RowKit
theorem EndObject_calls(b:Nat)(F:List Nat)(st:BSt)(w:World)(h:BRep w b F st)(hi:BInv st)(hv:st.nested=true->∃l0,st.vtab=some l0)(hu:st.m.bytes.length<=1700000):
  Calls Tryz.prog 70 #[.pointer (some ⟨b,0,none⟩)] w (BRes w b F (numRes st.endObj)):=by
 have HN:=Hd (assertNested_calls b F st w h);cases hn:st.nested with
 | false =>
  have e:numRes st.endObj=none:=by unfold BSt.endObj numRes;rw[hn];rfl
  rw[e];rw[hn] at HN;clear h hi hv hu hn;go_enter Tryz.func70,Tryz.ntmps70;go_wp2_with fail;refine HN.out.mono ?_;rintro e w' ⟨⟨u,v,rfl⟩,rfl⟩;exact⟨rfl,⟨u,v,rfl⟩,Fr.refl _ _⟩
 | true =>
  have e:numRes st.endObj=some (.int .u32 st.vt1.bytes.length,{ st.writeVt with nested:=false }):=by unfold BSt.endObj numRes;rw[hn];rfl
  rw[e];rw[hn] at HN;obtain⟨l0,hl0⟩:=hv hn;have HW:=Hd (WriteVtable_calls b F st l0 w h hi hl0 hu);obtain⟨o,ho⟩:=exA (st.vt1.bytes.length);rw[<-ho] at HW ⊢;clear h hi hv hu hn hl0 e ho;go_enter Tryz.func70,Tryz.ntmps70;go_wp2_with fail;refine HN.out.mono ?_;rintro e w' ⟨rfl,rfl⟩;go_wp2_with fail;refine HW.out.mono ?_;rintro e w1 ⟨rfl,F1,hb1,ha1⟩;have c6:=hb1.cells.1;have f6:=hb1.frozen 6;have h6:=hb1.set6 false;have HB:=Hd h6.1;have HA:=Hd (ha1.trans h6.2);clear hb1 ha1 h6;go_wp2_with fail;go_ret;exact⟨rfl,F1,HB.out,HA.out⟩
def BSt.finish(st:BSt)(off:Nat):Option BSt :=
 if st.nested then none else (BSt.refer { st with m:=st.m.prep st.m.least 4 } off).map λs=>{ s with fin:=true }
theorem Finish_calls(b:Nat)(F:List Nat)(st:BSt)(off:Nat)(w:World)(h:BRep w b F st)(hl:algn st.m.least)(hu:st.m.bytes.length<=1700000)(ho:off<4294967296):
  Calls Tryz.prog 66 #[.pointer (some ⟨b,0,none⟩),.int .u32 off] w (BRes w b F (unitRes (st.finish off))):=by
 have HN:=Hd (assertNotNested_calls b F st w h);cases hn:st.nested with
 | true =>
  have e:st.finish off=none:=by unfold BSt.finish;rw[hn];rfl
  rw[e];rw[hn] at HN;clear h hl hu hn;go_enter Tryz.func66,Tryz.ntmps66;go_wp2_with fail;refine HN.out.mono ?_;rintro e w' ⟨⟨u,v,rfl⟩,rfl⟩;exact⟨rfl,⟨u,v,rfl⟩,Fr.refl _ _⟩
 | false =>
  have e:st.finish off=(BSt.refer { st with m:=st.m.prep st.m.least 4 } off).map λs=>{ s with fin:=true }:=by unfold BSt.finish;rw[hn];rfl
  rw[e];rw[hn] at HN;have c1:=h.cells.2.2.2.2;have hle:=st.m.prep_le st.m.least 4 hl;have hl16:=algn_le hl;have HP:=Hd (Prep_b b F st st.m.least 4 w h hl (by omega));obtain⟨L,hL⟩:=exA (st.m.least);rw[<-hL] at c1 hle HP hl16 ⊢;clear h hl hn e hL;have hs:BSt.refer { st with m:=st.m.prep L 4 } off=none\/∃s,BSt.refer { st with m:=st.m.prep L 4 } off=some s:=by
   cases BSt.refer { st with m:=st.m.prep L 4 } off with
   | none=>exact .inl rfl
   | some s=>exact .inr ⟨s,rfl⟩
  rcases hs with hs|⟨s,hs⟩
  all_goals
   rw[hs];have HS:=Hd hs;clear hs;go_enter Tryz.func66,Tryz.ntmps66;go_wp2_with fail;refine HN.out.mono ?_;rintro e w' ⟨rfl,rfl⟩;go_wp2_with fail;refine HP.out.mono ?_;rintro e w1 ⟨rfl,F1,hb1,ha1⟩;have HC:=Hd (PrependUOffsetT_b b F1 _ off w1 hb1 (by show (st.m.prep L 4).bytes.length<=_;omega) ho);rw[HS.out] at HC;have HA:=Hd ha1;clear hb1 ha1;go_wp2_with fail;refine HC.out.mono ?_
  ·rintro e w2 ⟨⟨u,v,rfl⟩,hf⟩;exact⟨rfl,HA.out.falls ⟨⟨u,v,rfl⟩,hf⟩⟩
  ·rintro e w2 ⟨rfl,F2,hb2,ha2⟩;have c7:=hb2.cells.2.1;have f7:=hb2.frozen 7;have h7:=hb2.set7 true;have HB2:=Hd h7.1;have HA2:=Hd (HA.out.trans (ha2.trans h7.2));clear hb2 ha2 h7;go_wp2_with fail;go_end0
   exact⟨rfl,F2,HB2.out,HA2.out⟩
def BSt.finishId(st:BSt)(off:Nat)(xs:List UInt8):Option BSt :=
 if xs.length=4 then BSt.finish { st with m:=(st.m.prep st.m.least 8).put xs } off else none
theorem leI_byte(x:UInt8):leI 1 (x.toNat:Int)=[x]:=by
 rw[leI_nat];have:=leB_le [x]
 simp only[List.length_singleton,le,Nat.mul_zero,Nat.add_zero] at this;exact this
theorem BM.put_put(m:BM)(xs ys:List UInt8):(m.put ys).put xs=m.put (xs++ys):=by
 unfold BM.put;simp only[List.length_append,List.append_assoc,BM.mk.injEq,and_true,true_and];omega
def IdR (b:Nat)(F:List Nat)(w:World)(st:BSt)(m:BM)(xs:List UInt8)(sv:Value)(i:Nat)(wr:World):Prop :=
 ∃F',BRep wr b F' { st with m:=m.put (xs.drop i) }/\Adv w wr F F'/\Src wr F' sv xs
theorem FinishId_calls(b:Nat)(F:List Nat)(st:BSt)(off:Nat)(xs:List UInt8)(sv:Value)(w:World)(h:BRep w b F st)(hsv:Src w F sv xs)(hl:algn st.m.least)(hu:st.m.bytes.length<=1600000)(ho:off<4294967296)(hx:xs.length<=100000):
  Calls Tryz.prog 67 #[.pointer (some ⟨b,0,none⟩),.int .u32 off,sv] w (BRes w b F (unitRes (st.finishId off xs))):=by
 obtain⟨B,o,cap,hv,hB1,hB2,hB3⟩:=hsv;have hsv:Src w F sv xs:=⟨B,o,cap,hv,hB1,hB2,hB3⟩;obtain⟨n,hn⟩:=exA (xs.length);rw[<-hn] at hv;have hnil:=λw=>Go.run_eql_slice_nil (P:=Tryz.prog) w 81 5 (some ⟨B,o,none⟩) n cap Tryz.underlying81;by_cases h4:n=4
 ·have e:st.finishId off xs=BSt.finish { st with m:=(st.m.prep st.m.least 8).put xs } off:=by unfold BSt.finishId;rw[if_pos (by omega)]
  rw[e];have c1:=h.cells.2.2.2.2;have hle:=st.m.prep_le st.m.least 8 hl;have hl16:=algn_le hl;have hroom:=st.m.prep_room st.m.least 8;have HP:=Hd (Prep_b b F st st.m.least 8 w h hl (by omega));have HL:=Hd hl;obtain⟨L,hL⟩:=exA (st.m.least);have hmax:((st.m.prep L 8).put xs).least=L:=by show max st.m.least L=L;omega
  rw[<-hL] at c1 hle HP hl16 hroom HL;have hst:BSt.finish { st with m:=(st.m.prep st.m.least 8).put xs } off=BSt.finish { st with m:=(st.m.prep L 8).put xs } off:=by rw[hL]
  rw[hst];have HN:=Hd hn;have HSV:=Hd hsv;have HV:=Hd hv;rw[hv];have HM:=Hd hmax;have HR:=Hd hroom;obtain⟨res,hres⟩:=exA (BSt.finish { st with m:=(st.m.prep L 8).put xs } off);rw[<-hres];have HRES:=Hd hres;subst h4;clear h hl e hL hst hn hsv hv hmax hroom hres;have hcases:res=none\/∃s,res=some s:=by
   cases res with
   | none=>exact .inl rfl
   | some s=>exact .inr ⟨s,rfl⟩
  have HCS:=Hd hcases;clear hcases;go_enter Tryz.func67,Tryz.ntmps67;go_wp2_with fail;refine HP.out.mono ?_;rintro e w1 ⟨rfl,F1,hb1,ha1⟩;have hI:IdR b F w st (st.m.prep L 8) xs sv 4 w1:=⟨F1,by rw[List.drop_of_length_le (by rw[<-HN.out];exact Nat.le_refl _)];exact hb1,ha1,HSV.out.adv ha1⟩;have HI:=Hd hI;clear hI hb1 ha1;go_wp2_with fail;go_loopw [6] (λv wr=>∃q:Int,-1<=q/\q<4/\v=.int .i64 q/\IdR b F w st (st.m.prep L 8) xs sv (q+1).toNat wr) (λv _=>(intOf v+1).toNat)
  case atStart=>exact⟨3,by omega,by omega,rfl,HI.out⟩
  case round =>
   obtain⟨q,hq0,hq1,rfl,hR⟩:=hrel;obtain⟨F2,hb2,ha2,hs2⟩:=hR;by_cases hneg:q<0
   ·obtain rfl:q=-1:=(by omega);have hb2':BRep wr b F2 { st with m:=(st.m.prep L 8).put xs }:=hb2;have HC:=Hd (Finish_calls b F2 _ off wr hb2' (by show algn ((st.m.prep L 8).put xs).least;rw[HM.out];exact HL.out) (by show (xs++(st.m.prep L 8).bytes).length<=_;rw[List.length_append,<-HN.out];omega) ho);rw[<-HRES.out] at HC;have HA:=Hd ha2;clear hb2 hb2' ha2 hs2;rcases HCS.out with hs|⟨s,hs⟩
    all_goals
     rw[hs] at HC;have HS:=Hd hs;clear hs;go_wp2_with fail;refine HC.out.mono ?_
    ·rintro e w2 ⟨⟨u,v,rfl⟩,hf⟩;rw[HS.out];exact⟨rfl,HA.out.falls ⟨⟨u,v,rfl⟩,hf⟩⟩
    ·rintro e w2 ⟨rfl,F3,hb3,ha3⟩;have HB3:=Hd hb3;have HA3:=Hd (HA.out.trans ha3);clear hb3 ha3;go_wp2_with fail;go_end0
     rw[HS.out];exact⟨rfl,F3,HB3.out,HA3.out⟩
   ·obtain⟨j,rfl⟩:∃j:Nat,q=j:=⟨q.toNat,by omega⟩;have hj:j<xs.length:=(by have:=HN.out;omega);obtain⟨x,hx⟩:=exA (xs[j]);have hcons:xs.drop j=x::xs.drop (j+1):=(by rw[hx];exact List.drop_eq_getElem_cons hj);rw[show ((j:Int)+1).toNat=j+1 by omega] at hb2;obtain⟨B',o',cap',hv',_,_,hm'⟩:=hs2;have hv2:=HV.out;rw[hv'] at hv2;have hBo:B'=B/\o'=o:=by
     simp only[Value.slice.injEq,Option.some.injEq,Addr.mk.injEq] at hv2;exact⟨hv2.1.1,hv2.1.2.1⟩
    obtain⟨rfl,rfl⟩:=hBo;have cj:wr.cell? ⟨B',o'+j,none⟩=some (.int .u8 x.toNat):=hm' j x (by rw[hx];exact List.getElem?_eq_getElem hj);have hx0:=x.toNat_lt;have hrm:1<=((st.m.prep L 8).put (xs.drop (j+1))).room:=by
     show 1<=(st.m.prep L 8).room-(xs.drop (j+1)).length;have:=HR.out
     rw[List.length_drop,<-HN.out];omega
    have HC:=Hd (BRep.liftP (xs:=leI 1 (x.toNat:Int)) (z:=1) hb2 (by rw[leI_length]) (λY r c hb=>PlaceByte_ok b Y r _ _ _ c (x.toNat:Int) (by omega) (by omega) wr hb hrm));have HA:=Hd ha2;have HSS:=Hd (show Src wr F2 sv xs from ⟨B',o',cap',hv',‹_›,‹_›,hm'⟩);have HCN:=Hd hcons;clear hb2 ha2 hm' hx hcons hrm hv' hv2 hj;go_wp2_with fail;refine HC.out.mono ?_;rintro e w2 ⟨rfl,F3,hb3,ha3⟩;have hb4:BRep w2 b F3 { st with m:=(st.m.prep L 8).put (xs.drop j) }:=by
     rw[HCN.out,<-List.singleton_append,<-BM.put_put,<-leI_byte];exact hb3
    have hR:IdR b F w st (st.m.prep L 8) xs sv j w2:=⟨F3,hb4,HA.out.trans ha3,HSS.out.adv ha3⟩;have HRR:=Hd hR;clear hb3 hb4 ha3 hR;go_wp2_with fail;go_roundw
    case rel=>exact⟨(j:Int)-1,by omega,by omega,rfl,by rw[show ((j:Int)-1+1).toNat=j by omega];exact HRR.out⟩
    case measure=>simp[intOf]
 ·have e:st.finishId off xs=none:=by unfold BSt.finishId;rw[if_neg (by omega)]
  rw[e,hv];have hq1:((n:Int)==4)=false:=by rw[beq_eq_false_iff_ne];omega
  have hq2:((n:Int) != 4)=true:=by simp only[bne,hq1];rfl
  have hq3:(n==4)=false:=by rw[beq_eq_false_iff_ne];omega
  have hq4:(n != 4)=true:=by simp only[bne,hq3];rfl
  clear h hl e hn hv hB3 h4 hsv;go_enter Tryz.func67,Tryz.ntmps67;go_wp2_with fail;exact⟨rfl,⟨_,_,rfl⟩,Fr.refl _ _⟩
theorem FinishedBytes_ok(b:Nat)(F:List Nat)(st:BSt)(w:World)(h:BRep w b F st)(hf:st.fin=true):
  Calls Tryz.prog 68 #[.pointer (some ⟨b,0,none⟩)] w λe w'=>∃Y o cap n,e=.returned (.slice (some ⟨Y,o,none⟩) st.m.bytes.length cap)/\Mem w' Y o st.m.bytes/\w'=w.drewN n:=by
 have HA:=Hd (assertFinished_calls b F st w h);rw[hf] at HA;obtain⟨Y,V,G,M,r,c,rfl,hb,ho⟩:=h;have c0:w.cell? ⟨b,0,none⟩=some (.slice (some ⟨Y,0,none⟩) (st.m.room+st.m.bytes.length) c.size):=by rw[cell_of hb.hb];rfl
 have hfit:=hb.fit;have hlim:=hb.lim;have hsl:=λw'=>run_slice_from (P:=Tryz.prog) Tryz.underlying81 sizeU8b Y 0 (st.m.room+st.m.bytes.length) c.size .u32 (st.m.room:Int) st.m.room rfl (by omega) w';rw[show st.m.room+st.m.bytes.length-st.m.room=st.m.bytes.length by omega] at hsl;have hmem:Mem w Y (sOff 0 st.m.room c.size) st.m.bytes:=by
  by_cases hc:st.m.room<c.size
  ·rw[sOff_lt hc,Nat.zero_add];exact hb.mem
  ·intro i x hx;have:=(List.getElem?_eq_some_iff.1 hx).1
   omega
 obtain⟨o,hoo⟩:=exA (sOff 0 st.m.room c.size);rw[<-hoo] at hsl hmem;obtain⟨rm,hrm⟩:=exA (st.m.room);obtain⟨len,hlen⟩:=exA (st.m.bytes.length);have HH:=Hd (λnq=>Head_calls b Y r st.m.room st.m.least st.m.bytes c (w.drewN nq) (hb.drewN nq));rw[<-hrm] at HH;rw[<-hrm,<-hlen] at c0 hsl hfit hlim;rw[<-hlen];have HM:=Hd hmem;clear hb ho hf hmem hoo hrm hlen;go_enter Tryz.func68,Tryz.ntmps68;go_wp2_with fail;refine HA.out.mono ?_;rintro e w' ⟨rfl,rfl⟩;go_wp2_with fail;go_quiet ((go_at_call 45;exact quiet_same2 (HH.out _)))
 go_wp2_with fail;go_ret;exact⟨Y,o,_,_,rfl,HM.out,rfl⟩
theorem strLaw:Maps.Keyed Tryz.prog 9:=Maps.string_keyed Tryz.underlying9
theorem zeroOff(w:World):(zeroValue 98).run Tryz.prog w=.ok (.int .u32 0) w:=by kernel_rfl
theorem ownsMap_exact{w:World}{P:Program}{k:TypeId}{R:Value->Option (DataW Unit × List MemPlace)}{b n:Nat}{D:DataW Unit}(h:w.ownsMap P k R b n D):w.ownsMap P k R b (Maps.size D) D:=by
 obtain⟨es,clock,hb,F,hs,rfl⟩:=h;refine⟨es,clock,hb,F,?_,rfl⟩;simp[Maps.size,length_sorted]
theorem BRep.shAt{w:World}{b:Nat}{F:List Nat}{st:BSt}{D:DataW Unit}(h:BRep w b F st)(hD:st.shared=some D):
  ∃M,w.cell? ⟨b,8,none⟩=some (.map (some M))/\w.ownsMap Tryz.prog 9 (plainElem Tryz.prog 98) M (Maps.size D) D /\
   ∀w' D' n,n<=1000000->w'.ownsMap Tryz.prog 9 (plainElem Tryz.prog 98) M n D'->Fr (λk=>k=M) w w'->BRep w' b F { st with shared:=some D' }/\Adv w w' F F:=by
 obtain⟨Y,V,G,M,r,c,rfl,hb,ho⟩:=h;have hsh:=ho.sh;rw[hD] at hsh;have hMb:M≠b:=ShRep.ne_of hsh hb.hb;have hMY:M≠Y:=ShRep.ne_of hsh hb.hy;have hMG:M≠G:=by obtain⟨cv,_,h2,_⟩:=ho.vs;exact ShRep.ne_of hsh h2
 have hMV:st.vtab≠none->M≠V:=by
  intro hv;have hvt:=ho.vt;cases hc:st.vtab with
  | none=>exact absurd hc hv
  | some l=>rw[hc] at hvt;obtain⟨cv,_,h2,_⟩:=hvt;exact ShRep.ne_of hsh h2
 obtain⟨hv8,n0,hn0,hown⟩:=hsh;refine⟨M,by rw[cell_of hb.hb,<-hv8];rfl,ownsMap_exact hown,λw' D' n hn hown' hf=>?_⟩;refine⟨⟨Y,V,G,M,r,c,rfl,hb.fr hf (λe=>hMb e.symm) (λe=>hMY e.symm),⟨?_,ho.oe,ho.vs.fr hf (λe=>hMG e.symm),ho.ne,ho.fi,⟨hv8,n,hn,hown'⟩,ho.vg⟩⟩,hf.mono (λi _ hi=>by subst hi;simp),λk hk=>.inl hk⟩;have hvt:=ho.vt;cases hc:st.vtab with
 | none=>rw[hc] at hvt;exact hvt
 | some l=>rw[hc] at hvt;exact OffRow.fr hvt hf (λe=>hMV (by rw[hc];simp) e.symm)
theorem BRep.shNew{w:World}{b:Nat}{F:List Nat}{st:BSt}(h:BRep w b F st):
  ∃F',BRep ((w.setCell ⟨b,8,none⟩ (.map (some w.heap.size))).alloc (.map #[] 0)) b F' { st with shared:=some (.map []) }/\Adv w ((w.setCell ⟨b,8,none⟩ (.map (some w.heap.size))).alloc (.map #[] 0)) F F':=by
 obtain⟨Y,V,G,M,r,c,rfl,hb,ho⟩:=h;have hf:Fr (λk=>k=b) w ((w.setCell ⟨b,8,none⟩ (.map (some w.heap.size))).alloc (.map #[] 0)):=((Fr.refl (λk=>k=b) w).setCell (λ_=>rfl) _).alloc _;have hsz:(w.setCell ⟨b,8,none⟩ (.map (some w.heap.size))).heap.size=w.heap.size:=by simp[World.setCell]
 have hown:=World.ownsMap_made (H:=Unit) (w.setCell ⟨b,8,none⟩ (.map (some w.heap.size))) Tryz.prog 9 (plainElem Tryz.prog 98);rw[hsz] at hown;have hbl:=lt_of_block hb.hb;have ho2:=ho.kept hb hf (λk h=>.inl h);refine⟨[b,Y,V,G,w.heap.size],⟨Y,V,G,w.heap.size,{ r with v8:=.map (some w.heap.size) },c,rfl,⟨?_,?_,hb.fit,hb.eq,hb.lim,hb.ne,hb.cap,hb.one,hb.zero⟩,⟨ho2.vt,ho2.oe,ho2.vs,ho2.ne,ho2.fi,⟨rfl,0,by omega,hown⟩,ho2.vg⟩⟩,hf.mono (λi _ hi=>by subst hi;simp),λk hk=>?_⟩
 ·exact (heap_alloc_old _ _ _ (by rw[hsz];exact hbl)).trans (heap_setCell_same hb.hb 8 _)
 ·rw[heap_alloc_old _ _ _ (by rw[hsz];exact lt_of_block hb.hy),heap_setCell_other _ _ _ _ (show Y≠b from λe=>hb.ne e.symm)];exact hb.hy
 ·simp only[List.mem_cons,List.not_mem_nil,or_false] at hk ⊢;rcases hk with rfl|rfl|rfl|rfl|rfl
  ·simp
  ·simp
  ·simp
  ·simp
  ·right;exact Nat.le_refl _
def numOf:DataW Unit->Nat
 | .lit (.int _ a)=>a.toNat
 | _=>0
def BSt.sharedStr(st:BSt)(xs:List UInt8):Option (Nat × BSt) :=
 if Maps.has (st.shared.getD (.map [])) (.string xs) then some (numOf ((st.shared.getD (.map [])).atKey (.string xs) (.lit (.int .u32 0))),{ st with shared:=some (st.shared.getD (.map [])) })
 else (BSt.created { st with shared:=some (st.shared.getD (.map [])) } xs true).map λp=>(p.1,{ p.2 with shared:=some ((st.shared.getD (.map [])).put (.string xs) (.lit (.int .u32 p.1))) })
def BM.text(m:BM)(xs:List UInt8):Bool->BM
 | true=>(((m.prep 4 (xs.length+1)).put [0]).put xs).put (leB 4 xs.length)
 | false=>((m.prep 4 xs.length).put xs).put (leB 4 xs.length)
theorem created_eq(st:BSt)(xs:List UInt8)(z:Bool)(hn:st.nested=false):st.created xs z=some ((st.m.text xs z).bytes.length,{ st with m:=st.m.text xs z,nested:=false }):=by
 unfold BSt.created BSt.create BSt.endVec;rw[hn,if_neg (by simp)];cases z with
 | true =>
  have:=st.m.prep_room 4 (xs.length+1)
  rw[if_pos rfl,if_neg (by show ¬(st.m.prep 4 (xs.length+1)).room-1-xs.length<4;omega)];have e:(st.m.text xs true).bytes.length=4+(((st.m.prep 4 (xs.length+1)).put [0]).put xs).bytes.length:=by
   show (leB 4 _++_).length=_;rw[List.length_append,leB_length]
  rw[e];rfl
 | false =>
  have:=st.m.prep_room 4 xs.length
  rw[if_pos rfl,if_neg (by show ¬(st.m.prep 4 xs.length).room-xs.length<4;omega)];have e:(st.m.text xs false).bytes.length=4+((st.m.prep 4 xs.length).put xs).bytes.length:=by
   show (leB 4 _++_).length=_;rw[List.length_append,leB_length]
  rw[e];rfl
theorem created_none(st:BSt)(xs:List UInt8)(z:Bool)(hn:st.nested=true):st.created xs z=none:=by unfold BSt.created;rw[hn];rfl
theorem BM.text_len(m:BM)(xs:List UInt8)(z:Bool):(m.text xs z).bytes.length<=m.bytes.length+xs.length+9:=by
 cases z with
 | true =>
  have:=m.prep_le 4 (xs.length+1) (by unfold algn;omega)
  show (leB 4 _++(xs++([0]++(m.prep 4 (xs.length+1)).bytes))).length<=_;simp only[List.length_append,leB_length,List.length_singleton];omega
 | false =>
  have:=m.prep_le 4 xs.length (by unfold algn;omega)
  show (leB 4 _++(xs++(m.prep 4 xs.length).bytes)).length<=_;simp only[List.length_append,leB_length];omega
theorem CreateSharedString_calls(b:Nat)(F:List Nat)(st:BSt)(xs:List UInt8)(w:World)(h:BRep w b F st)(hx:xs.length<=100000)(hu:st.m.bytes.length<=1700000)(hsz:Maps.size (st.shared.getD (.map []))<=900000):
  Calls Tryz.prog 84 #[.pointer (some ⟨b,0,none⟩),.string (strOf xs)] w (BRes w b F (numRes (st.sharedStr xs))):=by
 have hmm:=@run_makeMap Tryz.prog;obtain⟨D,hD⟩:=exA (st.shared.getD (.map []));have hss:st.sharedStr xs=if Maps.has D (.string xs) then some (numOf (D.atKey (.string xs) (.lit (.int .u32 0))),{ st with shared:=some D })
   else (BSt.created { st with shared:=some D } xs true).map λp=>(p.1,{ p.2 with shared:=some (D.put (.string xs) (.lit (.int .u32 p.1))) }):=by
  unfold BSt.sharedStr;rw[<-hD]
 obtain⟨res,hres⟩:=exA (st.sharedStr xs);rw[<-hres];rw[<-hres] at hss;rw[<-hD] at hsz;have HSS:=Hd hss;have HSZ:=Hd hsz;obtain⟨S,hS⟩:=exA (strOf xs);rw[<-hS];have hSl:S.data.toList=xs:=by rw[hS];simp[strOf]
 have hkey:keyOf Tryz.prog 9 (.string S)=some (.string xs):=by
  rw[<-hSl];refine WideMaps.keyOf_string_mk Tryz.underlying9 ?_;have hsl:S.size=xs.length:=by rw[hS,strOf_size]
  rw[hsl];unfold maxLen;omega
 have HKEY:=Hd hkey;have HS:=Hd hS;have f8:=h.frozen 8;have hbl:=h.lt
 -- the map is there
 have hthere:(st.shared=none/\D=.map [])\/st.shared=some D:=by
  cases hc:st.shared with
  | none=>left;exact⟨rfl,by rw[hD,hc];rfl⟩
  | some D'=>right;rw[hD,hc];rfl
 clear hss hsz hres hS hSl hkey hD;rcases hthere with ⟨hno,hD0⟩|hso
 ·have hnew:=h.shNew;have c8:w.cell? ⟨b,8,none⟩=some (.map none):=by
   obtain⟨Y,V,G,M,r,c,rfl,hb,ho⟩:=h;have hsh:=ho.sh;rw[hno] at hsh;rw[cell_of hb.hb,<-hsh.1];rfl
  rw[<-hD0] at hnew;have HNEW:=Hd hnew;have heq:=λw=>run_eql_map_nil (P:=Tryz.prog) w 101 9 98 none Tryz.underlying101;clear h hno hD0 hnew;go_enter Tryz.func84,Tryz.ntmps84;go_upto_region 3 with fail;obtain⟨F1,hb1,ha1⟩:=HNEW.out;generalize (w.setCell ⟨b,8,none⟩ (.map (some w.heap.size))).alloc (.map #[] 0)=w1 at *;have HB1:=Hd hb1;have HA1:=Hd ha1;clear hb1 ha1 HNEW heq c8 f8 hmm;obtain⟨M,m8,hown,hturn⟩:=HB1.out.shAt (D:=D) rfl;have hw0:(Lit.int IntKind.u32 0).wf=true:=by decide
  obtain⟨v,ps,hrun,hv⟩:=hown.look_ok strLaw Tryz.underlying101 (zeroOff w1) (plainElem_int (H:=Unit) Tryz.underlying98 hw0) HKEY.out;obtain⟨c,rfl,hc,hwf⟩:=plainElem_int_inv Tryz.underlying98 hv;have hc2:D.atKey (.string xs) (.lit (.int .u32 0))=.lit (.int .u32 c):=congrArg Prod.fst hc;have HSS2:=HSS.out;rw[hc2] at HSS2;have HRES:=Hd HSS2;have hc0:0<=c:=by
   have h:=hwf;simp only[Lit.wf,Bool.and_eq_true,decide_eq_true_eq] at h;exact h.1
  clear hc hc2 hv hwf HSS2 hw0;obtain⟨k,rfl⟩:∃k:Nat,c=k:=⟨c.toNat,by omega⟩;clear hc0;cases hhas:Maps.has D (.string xs) with
  | true =>
   rw[hhas] at hrun HRES;clear hown hturn hhas;go_wp2_with fail;go_ret;rw[HRES.out];exact⟨rfl,F1,HB1.out,HA1.out⟩
  | false =>
   rw[hhas] at hrun HRES;clear hown hturn hhas;have HC:=Hd (CreateString_calls b F1 { st with shared:=some D } xs w1 HB1.out hx hu);rw[<-HS.out] at HC;cases hcr:BSt.created { st with shared:=some D } xs true with
   | none =>
    rw[hcr] at HC HRES;clear hcr;go_wp2_with fail;refine HC.out.mono ?_;rintro e w2 ⟨⟨u,v,rfl⟩,hf⟩;rw[HRES.out];exact⟨rfl,HA1.out.falls ⟨⟨u,v,rfl⟩,hf⟩⟩
   | some p =>
    obtain⟨n,s⟩:=p;rw[hcr] at HC HRES;have hnn:=(created_eq { st with shared:=some D } xs true (by
     cases hne:st.nested with
     | false=>rfl
     | true=>rw[created_none _ _ _ (show ({ st with shared:=some D }:BSt).nested=true from hne)] at hcr;cases hcr)).symm.trans hcr
    have hsh:s.shared=some D:=(by injection hnn with h;injection h with _ h;rw[<-h]);have hnl:n<=4000000:=by
     have:=BM.text_len st.m xs true
     injection hnn with h;injection h with h _;rw[<-h];show (st.m.text xs true).bytes.length<=_;omega
    clear hcr hnn;have HSH:=Hd hsh;clear hsh;go_wp2_with fail;refine HC.out.mono ?_;rintro e w2 ⟨rfl,F2,hb2,ha2⟩;obtain⟨M2,m82,hown2,hturn2⟩:=hb2.shAt HSH.out;have HA2:=Hd (HA1.out.trans ha2);have HT2:=Hd hturn2;have hsz2:=HSZ.out;have hwn:(Lit.int IntKind.u32 (n:Int)).wf=true:=WalkArith.wf_u32 ⟨by omega,by omega⟩;have HWN:=Hd hwn;have HOWN:=Hd hown2;clear hb2 ha2 hturn2 hwn hown2 hrun m8;go_wp2_with (at_mapUpdate;refine wpList_mapUpdate_own _ rfl _ _ _ 101 rfl 9 98 strLaw Tryz.underlying101 _ M2 (Maps.size D) D rfl HOWN.out (by unfold maxLen;omega) _ _ _ rfl rfl HKEY.out _ [] (plainElem_int (H:=Unit) Tryz.underlying98 HWN.out) ?_;intro w3 hown3 hgrow3);obtain⟨hb3,ha3⟩:=HT2.out w3 _ _ (by omega) hown3 ((grown_fr hgrow3).mono (λ_ _ h=>by injection h));have HB3:=Hd hb3;have HA3:=Hd (HA2.out.trans ha3);clear hb3 ha3 hown3 hgrow3;go_wp2_with fail;go_ret;rw[HRES.out];exact⟨rfl,F2,HB3.out,HA3.out⟩
 ·have c8:∃M,w.cell? ⟨b,8,none⟩=some (.map (some M)):=by
   obtain⟨M,h8,_⟩:=h.shAt hso;exact⟨M,h8⟩
  obtain⟨M0,c8⟩:=c8;have heq:=λw=>run_eql_map_nil (P:=Tryz.prog) w 101 9 98 (some M0) Tryz.underlying101;have hb0:BRep w b F { st with shared:=some D }:=by rw[<-hso];exact h
  have HB0:=Hd hb0;clear h hso hb0;go_enter Tryz.func84,Tryz.ntmps84;go_upto_region 3 with fail;have hb1:=HB0.out;have ha1:Adv w w F F:=Adv.refl _ _;have HB1:=Hd hb1;have HA1:=Hd ha1;clear hb1 ha1 heq c8 f8 hmm;obtain⟨M,m8,hown,hturn⟩:=HB1.out.shAt (D:=D) rfl;have hw0:(Lit.int IntKind.u32 0).wf=true:=by decide
  obtain⟨v,ps,hrun,hv⟩:=hown.look_ok strLaw Tryz.underlying101 (zeroOff w) (plainElem_int (H:=Unit) Tryz.underlying98 hw0) HKEY.out;obtain⟨c,rfl,hc,hwf⟩:=plainElem_int_inv Tryz.underlying98 hv;have hc2:D.atKey (.string xs) (.lit (.int .u32 0))=.lit (.int .u32 c):=congrArg Prod.fst hc;have HSS2:=HSS.out;rw[hc2] at HSS2;have HRES:=Hd HSS2;have hc0:0<=c:=by
   have h:=hwf;simp only[Lit.wf,Bool.and_eq_true,decide_eq_true_eq] at h;exact h.1
  clear hc hc2 hv hwf HSS2 hw0;obtain⟨k,rfl⟩:∃k:Nat,c=k:=⟨c.toNat,by omega⟩;clear hc0;cases hhas:Maps.has D (.string xs) with
  | true =>
   rw[hhas] at hrun HRES;clear hown hturn hhas;go_wp2_with fail;go_ret;rw[HRES.out];exact⟨rfl,F,HB1.out,HA1.out⟩
  | false =>
   rw[hhas] at hrun HRES;clear hown hturn hhas;have HC:=Hd (CreateString_calls b F { st with shared:=some D } xs w HB1.out hx hu);rw[<-HS.out] at HC;cases hcr:BSt.created { st with shared:=some D } xs true with
   | none =>
    rw[hcr] at HC HRES;clear hcr;go_wp2_with fail;refine HC.out.mono ?_;rintro e w2 ⟨⟨u,v,rfl⟩,hf⟩;rw[HRES.out];exact⟨rfl,HA1.out.falls ⟨⟨u,v,rfl⟩,hf⟩⟩
   | some p =>
    obtain⟨n,s⟩:=p;rw[hcr] at HC HRES;have hnn:=(created_eq { st with shared:=some D } xs true (by
     cases hne:st.nested with
     | false=>rfl
     | true=>rw[created_none _ _ _ (show ({ st with shared:=some D }:BSt).nested=true from hne)] at hcr;cases hcr)).symm.trans hcr
    have hsh:s.shared=some D:=(by injection hnn with h;injection h with _ h;rw[<-h]);have hnl:n<=4000000:=by
     have:=BM.text_len st.m xs true
     injection hnn with h;injection h with h _;rw[<-h];show (st.m.text xs true).bytes.length<=_;omega
    clear hcr hnn;have HSH:=Hd hsh;clear hsh;go_wp2_with fail;refine HC.out.mono ?_;rintro e w2 ⟨rfl,F2,hb2,ha2⟩;obtain⟨M2,m82,hown2,hturn2⟩:=hb2.shAt HSH.out;have HA2:=Hd (HA1.out.trans ha2);have HT2:=Hd hturn2;have hsz2:=HSZ.out;have hwn:(Lit.int IntKind.u32 (n:Int)).wf=true:=WalkArith.wf_u32 ⟨by omega,by omega⟩;have HWN:=Hd hwn;have HOWN:=Hd hown2;clear hb2 ha2 hturn2 hwn hown2 hrun m8;go_wp2_with (at_mapUpdate;refine wpList_mapUpdate_own _ rfl _ _ _ 101 rfl 9 98 strLaw Tryz.underlying101 _ M2 (Maps.size D) D rfl HOWN.out (by unfold maxLen;omega) _ _ _ rfl rfl HKEY.out _ [] (plainElem_int (H:=Unit) Tryz.underlying98 HWN.out) ?_;intro w3 hown3 hgrow3);obtain⟨hb3,ha3⟩:=HT2.out w3 _ _ (by omega) hown3 ((grown_fr hgrow3).mono (λ_ _ h=>by injection h));have HB3:=Hd hb3;have HA3:=Hd (HA2.out.trans ha3);clear hb3 ha3 hown3 hgrow3;go_wp2_with fail;go_ret;rw[HRES.out];exact⟨rfl,F2,HB3.out,HA3.out⟩
theorem run_f32frm(n:Int)(w:World):(callFunc 125 #[.int .u32 n]).run Tryz.prog w=.ok (.value (.float .f32 n.toNat)) w:=by kernel_rfl
theorem run_f64frm(n:Int)(w:World):(callFunc 127 #[.int .u64 n]).run Tryz.prog w=.ok (.value (.float .f64 n.toNat)) w:=by kernel_rfl
theorem wc_mod(s n:Nat)(m:Int)(h:m=2^(8*s)):leI s ((n:Int)%m)=leB s n:=by
 rw[<-leI_nat];exact leI_congr s (by rw[h,Int.emod_emod])
theorem wc_wrap(k:IntKind)(s n:Nat)(h:k.bits=8*s):leI s (k.wrap (n:Int))=leB s n:=by
 rw[<-leI_nat];exact leI_congr s (by rw[<-h,wrap_emod])
theorem wc_32(n:Nat):leI 4 (wrap32 (n:Int))=leB 4 n:=by rw[<-IntWalk.i32_left];exact wc_wrap .i32 4 n rfl
theorem wc_64(n:Nat):leI 8 (wrap64 (n:Int))=leB 8 n:=by rw[<-IntWalk.i64_left];exact wc_wrap .i64 8 n rfl
theorem wc_lit(k:Int)(s n:Nat)(hk:k≠0)(hs:numSize k=s):numB k n=leB s n:=by simp[numB,hk,hs]
theorem wi_wrap(k:IntKind)(a b:Nat)(ha:a<2^k.bits)(hb:b<2^k.bits)(h:a≠b):(k.wrap (a:Int)==k.wrap (b:Int))=false:=by
 rw[beq_eq_false_iff_ne];intro e;have h1:=wrap_emod k (a:Int);rw[e,wrap_emod k (b:Int)] at h1;have ea:((a:Nat):Int)%2^k.bits=a:=Int.emod_eq_of_lt (by omega) (by exact_mod_cast ha);have eb:((b:Nat):Int)%2^k.bits=b:=Int.emod_eq_of_lt (by omega) (by exact_mod_cast hb);rw[ea,eb] at h1;omega
theorem wi_32(a b:Nat)(ha:a<2^32)(hb:b<2^32)(h:a≠b):(wrap32 (a:Int)==wrap32 (b:Int))=false:=by
 rw[<-IntWalk.i32_left,<-IntWalk.i32_left];exact wi_wrap .i32 a b ha hb h
theorem wi_64(a b:Nat)(ha:a<2^64)(hb:b<2^64)(h:a≠b):(wrap64 (a:Int)==wrap64 (b:Int))=false:=by
 rw[<-IntWalk.i64_left,<-IntWalk.i64_left];exact wi_wrap .i64 a b ha hb h
def Right(k:Int)(n:Nat):Prop:=0<=k/\k<=10/\(k=0->n<=1)/\n<2^(8*numSize k)
def sameNum(k:Int)(a b:Nat):Bool:=if k=9 then Op.floatEq .f32 a b else if k=10 then Op.floatEq .f64 a b else decide (a=b)
theorem prepend_0(b:Nat)(F:List Nat)(st:BSt)(num:Nat)(w:World)(h:BRep w b F st)(hu:st.m.bytes.length<=1900000)(hn:num<2^8)(hn1:num<=1):
  Calls Tryz.prog 71 #[.pointer (some ⟨b,0,none⟩),.int .u8 0,.int .u64 num] w (BRes w b F (some (.tuple #[],{ st with m:=(st.m.prep 1 0).put (numB 0 num) }))):=by
 have hc:=λx:Bool=>h.lift (v:=.tuple #[]) (m':=(st.m.prep 1 0).put (leI 1 (b01 x))) (λY r c hb=>PrependBool_calls b Y r st.m c x w hb hu);have HC:=Hd hc;clear hc h hn;rcases (show num=0\/num=1 by omega) with rfl|rfl
 all_goals
  go_enter Tryz.func71,Tryz.ntmps71;go_wp2_with (first|(go_at_call 115;go_in));refine (HC.out _).mono ?_;rintro e w1 ⟨rfl,F1,hb1,ha1⟩;have HB:=Hd hb1;have HA:=Hd ha1;clear hb1 ha1;go_wp2_with fail;go_end0
  exact⟨rfl,F1,HB.out,HA.out⟩
theorem prependSlot_0(b:Nat)(F:List Nat)(st:BSt)(i:Int)(num els:Nat)(w:World)(h:BRep w b F st)(hu:st.m.bytes.length<=1900000)(hn1:num<=1)(hn2:els<=1):
  Calls Tryz.prog 72 #[.pointer (some ⟨b,0,none⟩),.int .u8 0,.int .i64 i,.int .u64 num,.int .u64 els] w (BRes w b F (unitRes (st.prepSlot 1 (numB 0 num) i (sameNum 0 num els)))):=by
 have hc:=λx d:Bool=>PrependBoolSlot_calls b F st i x d w h hu;have HC:=Hd hc;obtain⟨res,hres⟩:=exA (st.prepSlot 1 (numB 0 num) i (sameNum 0 num els));have hcs:res=none\/∃s,res=some s:=by cases res<;>simp
 rw[<-hres];have HR:=Hd hres;clear hc h hres;rcases (show num=0\/num=1 by omega) with rfl|rfl<;>rcases (show els=0\/els=1 by omega) with rfl|rfl
 all_goals
  rcases hcs with rfl|⟨s,rfl⟩
  all_goals
   go_enter Tryz.func72,Tryz.ntmps72;go_wp2_with (first|(go_at_call 115;go_in));refine (HC.out _ _).mono ?_;intro e w1 hbr;have hr2:=HR.out;first
    | (have hbr:BRes w b F (unitRes none) e w1:=by rw[hr2];exact hbr
       obtain⟨⟨u,v,rfl⟩,hf⟩:=hbr;exact⟨rfl,⟨u,v,rfl⟩,hf⟩)
    | (have hbr:BRes w b F (unitRes (some s)) e w1:=by rw[hr2];exact hbr
       obtain⟨rfl,F1,hb1,ha1⟩:=hbr;have HB:=Hd hb1;have HA:=Hd ha1;clear hb1 ha1 hr2;go_wp2_with fail;go_end0
       exact⟨rfl,F1,HB.out,HA.out⟩)
theorem prepend_1(b:Nat)(F:List Nat)(st:BSt)(num:Nat)(w:World)(h:BRep w b F st)(hu:st.m.bytes.length<=1900000)(hn:num<2^8):
  Calls Tryz.prog 71 #[.pointer (some ⟨b,0,none⟩),.int .u8 1,.int .u64 num] w (BRes w b F (some (.tuple #[],{ st with m:=(st.m.prep 1 0).put (numB 1 num) }))):=by
 have hc:=λx h0 h1=>h.lift (v:=.tuple #[]) (m':=(st.m.prep 1 0).put (leI 1 x)) (λY r c hb=>PrependUint8_calls b Y r st.m c x h0 h1 w hb hu);have HC:=Hd hc;clear hc h;go_enter Tryz.func71,Tryz.ntmps71;go_wp2_with fail
 ·refine (HC.out _ (by omega) (by omega)).mono ?_;rintro e w1 ⟨rfl,F1,hb1,ha1⟩;first|rw[wc_mod _ _ _ (by rfl)] at hb1|rw[wc_wrap _ _ _ (by rfl)] at hb1|rw[wc_32] at hb1|rw[wc_64] at hb1|rw[leI_nat] at hb1
  rw[<-wc_lit 1 1 num (by decide) (by decide)] at hb1;have HB:=Hd hb1;have HA:=Hd ha1;clear hb1 ha1;go_wp2_with fail;go_end0
  exact⟨rfl,F1,HB.out,HA.out⟩
theorem prependSlot_1(b:Nat)(F:List Nat)(st:BSt)(i:Int)(num els:Nat)(w:World)(h:BRep w b F st)(hu:st.m.bytes.length<=1900000)(hn1:num<2^8)(hn2:els<2^8):
  Calls Tryz.prog 72 #[.pointer (some ⟨b,0,none⟩),.int .u8 1,.int .i64 i,.int .u64 num,.int .u64 els] w (BRes w b F (unitRes (st.prepSlot 1 (numB 1 num) i (sameNum 1 num els)))):=by
 have hc:=λ(x d:Int) (h0:0<=x) (h1:x<256) (q:Bool) (hq:(x==d)=q)=>PrependUint8Slot_calls b F st i x d h0 h1 q hq w h hu;have HC:=Hd hc;obtain⟨q,hqd⟩:=exA (sameNum 1 num els);have hq1:num=els->q=true:=by rintro rfl;rw[hqd];simp[sameNum]
 have hq2:num≠els->q=false:=by intro hne;rw[hqd];simp[sameNum,hne]
 rw[<-hqd];obtain⟨res,hres⟩:=exA (st.prepSlot 1 (numB 1 num) i q);have hcs:res=none\/∃s,res=some s:=by cases res<;>simp
 rw[<-hres];have HR:=Hd hres;have HQ:=Hd (And.intro hq1 hq2);clear hc h hres hq1 hq2 hqd;rcases hcs with rfl|⟨s,rfl⟩
 all_goals
  go_enter Tryz.func72,Tryz.ntmps72;go_wp2_with fail;refine (HC.out _ _ (by omega) (by omega) q ?hq).mono ?_
  case hq =>
   by_cases he:num=els
   ·rw[HQ.out.1 he,he];simp
   ·rw[HQ.out.2 he];first|exact wi_wrap _ _ _ (by assumption) (by assumption) he|exact wi_32 _ _ (by assumption) (by assumption) he|exact wi_64 _ _ (by assumption) (by assumption) he|(rw[beq_eq_false_iff_ne];omega)
  first|rw[wc_mod _ _ _ (by rfl)]|rw[wc_wrap _ _ _ (by rfl)]|rw[wc_32]|rw[wc_64]|rw[leI_nat]
  rw[<-wc_lit 1 1 num (by decide) (by decide),<-HR.out]
 ·rintro e w1 ⟨⟨u,v,rfl⟩,hf⟩;exact⟨rfl,⟨u,v,rfl⟩,hf⟩
 ·rintro e w1 ⟨rfl,F1,hb1,ha1⟩;have HB:=Hd hb1;have HA:=Hd ha1;clear hb1 ha1;go_wp2_with fail;go_end0
  exact⟨rfl,F1,HB.out,HA.out⟩
theorem prepend_2(b:Nat)(F:List Nat)(st:BSt)(num:Nat)(w:World)(h:BRep w b F st)(hu:st.m.bytes.length<=1900000)(hn:num<2^8):
  Calls Tryz.prog 71 #[.pointer (some ⟨b,0,none⟩),.int .u8 2,.int .u64 num] w (BRes w b F (some (.tuple #[],{ st with m:=(st.m.prep 1 0).put (numB 2 num) }))):=by
 have hc:=λx=>h.lift (v:=.tuple #[]) (m':=(st.m.prep 1 0).put (leI 1 x)) (λY r c hb=>PrependInt8_calls b Y r st.m c x w hb hu);have HC:=Hd hc;clear hc h;go_enter Tryz.func71,Tryz.ntmps71;go_wp2_with fail
 ·refine (HC.out _).mono ?_;rintro e w1 ⟨rfl,F1,hb1,ha1⟩;first|rw[wc_mod _ _ _ (by rfl)] at hb1|rw[wc_wrap _ _ _ (by rfl)] at hb1|rw[wc_32] at hb1|rw[wc_64] at hb1|rw[leI_nat] at hb1
  rw[<-wc_lit 2 1 num (by decide) (by decide)] at hb1;have HB:=Hd hb1;have HA:=Hd ha1;clear hb1 ha1;go_wp2_with fail;go_end0
  exact⟨rfl,F1,HB.out,HA.out⟩
theorem prependSlot_2(b:Nat)(F:List Nat)(st:BSt)(i:Int)(num els:Nat)(w:World)(h:BRep w b F st)(hu:st.m.bytes.length<=1900000)(hn1:num<2^8)(hn2:els<2^8):
  Calls Tryz.prog 72 #[.pointer (some ⟨b,0,none⟩),.int .u8 2,.int .i64 i,.int .u64 num,.int .u64 els] w (BRes w b F (unitRes (st.prepSlot 1 (numB 2 num) i (sameNum 2 num els)))):=by
 have hc:=λ(x d:Int) (q:Bool) (hq:(x==d)=q)=>PrependInt8Slot_calls b F st i x d q hq w h hu;have HC:=Hd hc;obtain⟨q,hqd⟩:=exA (sameNum 2 num els);have hq1:num=els->q=true:=by rintro rfl;rw[hqd];simp[sameNum]
 have hq2:num≠els->q=false:=by intro hne;rw[hqd];simp[sameNum,hne]
 rw[<-hqd];obtain⟨res,hres⟩:=exA (st.prepSlot 1 (numB 2 num) i q);have hcs:res=none\/∃s,res=some s:=by cases res<;>simp
 rw[<-hres];have HR:=Hd hres;have HQ:=Hd (And.intro hq1 hq2);clear hc h hres hq1 hq2 hqd;rcases hcs with rfl|⟨s,rfl⟩
 all_goals
  go_enter Tryz.func72,Tryz.ntmps72;go_wp2_with fail;refine (HC.out _ _ q ?hq).mono ?_
  case hq =>
   by_cases he:num=els
   ·rw[HQ.out.1 he,he];simp
   ·rw[HQ.out.2 he];first|exact wi_wrap _ _ _ (by assumption) (by assumption) he|exact wi_32 _ _ (by assumption) (by assumption) he|exact wi_64 _ _ (by assumption) (by assumption) he|(rw[beq_eq_false_iff_ne];omega)
  first|rw[wc_mod _ _ _ (by rfl)]|rw[wc_wrap _ _ _ (by rfl)]|rw[wc_32]|rw[wc_64]|rw[leI_nat]
  rw[<-wc_lit 2 1 num (by decide) (by decide),<-HR.out]
 ·rintro e w1 ⟨⟨u,v,rfl⟩,hf⟩;exact⟨rfl,⟨u,v,rfl⟩,hf⟩
 ·rintro e w1 ⟨rfl,F1,hb1,ha1⟩;have HB:=Hd hb1;have HA:=Hd ha1;clear hb1 ha1;go_wp2_with fail;go_end0
  exact⟨rfl,F1,HB.out,HA.out⟩
theorem prepend_3(b:Nat)(F:List Nat)(st:BSt)(num:Nat)(w:World)(h:BRep w b F st)(hu:st.m.bytes.length<=1900000)(hn:num<2^16):
  Calls Tryz.prog 71 #[.pointer (some ⟨b,0,none⟩),.int .u8 3,.int .u64 num] w (BRes w b F (some (.tuple #[],{ st with m:=(st.m.prep 2 0).put (numB 3 num) }))):=by
 have hc:=λx=>h.lift (v:=.tuple #[]) (m':=(st.m.prep 2 0).put (leI 2 x)) (λY r c hb=>PrependUint16_calls b Y r st.m c x w hb hu);have HC:=Hd hc;clear hc h;go_enter Tryz.func71,Tryz.ntmps71;go_wp2_with fail
 ·refine (HC.out _).mono ?_;rintro e w1 ⟨rfl,F1,hb1,ha1⟩;first|rw[wc_mod _ _ _ (by rfl)] at hb1|rw[wc_wrap _ _ _ (by rfl)] at hb1|rw[wc_32] at hb1|rw[wc_64] at hb1|rw[leI_nat] at hb1
  rw[<-wc_lit 3 2 num (by decide) (by decide)] at hb1;have HB:=Hd hb1;have HA:=Hd ha1;clear hb1 ha1;go_wp2_with fail;go_end0
  exact⟨rfl,F1,HB.out,HA.out⟩
theorem prependSlot_3(b:Nat)(F:List Nat)(st:BSt)(i:Int)(num els:Nat)(w:World)(h:BRep w b F st)(hu:st.m.bytes.length<=1900000)(hn1:num<2^16)(hn2:els<2^16):
  Calls Tryz.prog 72 #[.pointer (some ⟨b,0,none⟩),.int .u8 3,.int .i64 i,.int .u64 num,.int .u64 els] w (BRes w b F (unitRes (st.prepSlot 2 (numB 3 num) i (sameNum 3 num els)))):=by
 have hc:=λ(x d:Int) (q:Bool) (hq:(x==d)=q)=>PrependUint16Slot_calls b F st i x d q hq w h hu;have HC:=Hd hc;obtain⟨q,hqd⟩:=exA (sameNum 3 num els);have hq1:num=els->q=true:=by rintro rfl;rw[hqd];simp[sameNum]
 have hq2:num≠els->q=false:=by intro hne;rw[hqd];simp[sameNum,hne]
 rw[<-hqd];obtain⟨res,hres⟩:=exA (st.prepSlot 2 (numB 3 num) i q);have hcs:res=none\/∃s,res=some s:=by cases res<;>simp
 rw[<-hres];have HR:=Hd hres;have HQ:=Hd (And.intro hq1 hq2);clear hc h hres hq1 hq2 hqd;rcases hcs with rfl|⟨s,rfl⟩
 all_goals
  go_enter Tryz.func72,Tryz.ntmps72;go_wp2_with fail;refine (HC.out _ _ q ?hq).mono ?_
  case hq =>
   by_cases he:num=els
   ·rw[HQ.out.1 he,he];simp
   ·rw[HQ.out.2 he];first|exact wi_wrap _ _ _ (by assumption) (by assumption) he|exact wi_32 _ _ (by assumption) (by assumption) he|exact wi_64 _ _ (by assumption) (by assumption) he|(rw[beq_eq_false_iff_ne];omega)
  first|rw[wc_mod _ _ _ (by rfl)]|rw[wc_wrap _ _ _ (by rfl)]|rw[wc_32]|rw[wc_64]|rw[leI_nat]
  rw[<-wc_lit 3 2 num (by decide) (by decide),<-HR.out]
 ·rintro e w1 ⟨⟨u,v,rfl⟩,hf⟩;exact⟨rfl,⟨u,v,rfl⟩,hf⟩
 ·rintro e w1 ⟨rfl,F1,hb1,ha1⟩;have HB:=Hd hb1;have HA:=Hd ha1;clear hb1 ha1;go_wp2_with fail;go_end0
  exact⟨rfl,F1,HB.out,HA.out⟩
theorem prepend_4(b:Nat)(F:List Nat)(st:BSt)(num:Nat)(w:World)(h:BRep w b F st)(hu:st.m.bytes.length<=1900000)(hn:num<2^16):
  Calls Tryz.prog 71 #[.pointer (some ⟨b,0,none⟩),.int .u8 4,.int .u64 num] w (BRes w b F (some (.tuple #[],{ st with m:=(st.m.prep 2 0).put (numB 4 num) }))):=by
 have hc:=λx=>h.lift (v:=.tuple #[]) (m':=(st.m.prep 2 0).put (leI 2 x)) (λY r c hb=>PrependInt16_calls b Y r st.m c x w hb hu);have HC:=Hd hc;clear hc h;go_enter Tryz.func71,Tryz.ntmps71;go_wp2_with fail
 ·refine (HC.out _).mono ?_;rintro e w1 ⟨rfl,F1,hb1,ha1⟩;first|rw[wc_mod _ _ _ (by rfl)] at hb1|rw[wc_wrap _ _ _ (by rfl)] at hb1|rw[wc_32] at hb1|rw[wc_64] at hb1|rw[leI_nat] at hb1
  rw[<-wc_lit 4 2 num (by decide) (by decide)] at hb1;have HB:=Hd hb1;have HA:=Hd ha1;clear hb1 ha1;go_wp2_with fail;go_end0
  exact⟨rfl,F1,HB.out,HA.out⟩
theorem prependSlot_4(b:Nat)(F:List Nat)(st:BSt)(i:Int)(num els:Nat)(w:World)(h:BRep w b F st)(hu:st.m.bytes.length<=1900000)(hn1:num<2^16)(hn2:els<2^16):
  Calls Tryz.prog 72 #[.pointer (some ⟨b,0,none⟩),.int .u8 4,.int .i64 i,.int .u64 num,.int .u64 els] w (BRes w b F (unitRes (st.prepSlot 2 (numB 4 num) i (sameNum 4 num els)))):=by
 have hc:=λ(x d:Int) (q:Bool) (hq:(x==d)=q)=>PrependInt16Slot_calls b F st i x d q hq w h hu;have HC:=Hd hc;obtain⟨q,hqd⟩:=exA (sameNum 4 num els);have hq1:num=els->q=true:=by rintro rfl;rw[hqd];simp[sameNum]
 have hq2:num≠els->q=false:=by intro hne;rw[hqd];simp[sameNum,hne]
 rw[<-hqd];obtain⟨res,hres⟩:=exA (st.prepSlot 2 (numB 4 num) i q);have hcs:res=none\/∃s,res=some s:=by cases res<;>simp
 rw[<-hres];have HR:=Hd hres;have HQ:=Hd (And.intro hq1 hq2);clear hc h hres hq1 hq2 hqd;rcases hcs with rfl|⟨s,rfl⟩
 all_goals
  go_enter Tryz.func72,Tryz.ntmps72;go_wp2_with fail;refine (HC.out _ _ q ?hq).mono ?_
  case hq =>
   by_cases he:num=els
   ·rw[HQ.out.1 he,he];simp
   ·rw[HQ.out.2 he];first|exact wi_wrap _ _ _ (by assumption) (by assumption) he|exact wi_32 _ _ (by assumption) (by assumption) he|exact wi_64 _ _ (by assumption) (by assumption) he|(rw[beq_eq_false_iff_ne];omega)
  first|rw[wc_mod _ _ _ (by rfl)]|rw[wc_wrap _ _ _ (by rfl)]|rw[wc_32]|rw[wc_64]|rw[leI_nat]
  rw[<-wc_lit 4 2 num (by decide) (by decide),<-HR.out]
 ·rintro e w1 ⟨⟨u,v,rfl⟩,hf⟩;exact⟨rfl,⟨u,v,rfl⟩,hf⟩
 ·rintro e w1 ⟨rfl,F1,hb1,ha1⟩;have HB:=Hd hb1;have HA:=Hd ha1;clear hb1 ha1;go_wp2_with fail;go_end0
  exact⟨rfl,F1,HB.out,HA.out⟩
theorem prepend_5(b:Nat)(F:List Nat)(st:BSt)(num:Nat)(w:World)(h:BRep w b F st)(hu:st.m.bytes.length<=1900000)(hn:num<2^32):
  Calls Tryz.prog 71 #[.pointer (some ⟨b,0,none⟩),.int .u8 5,.int .u64 num] w (BRes w b F (some (.tuple #[],{ st with m:=(st.m.prep 4 0).put (numB 5 num) }))):=by
 have hc:=λx=>h.lift (v:=.tuple #[]) (m':=(st.m.prep 4 0).put (leI 4 x)) (λY r c hb=>PrependUint32_calls b Y r st.m c x w hb hu);have HC:=Hd hc;clear hc h;go_enter Tryz.func71,Tryz.ntmps71;go_wp2_with fail
 ·refine (HC.out _).mono ?_;rintro e w1 ⟨rfl,F1,hb1,ha1⟩;first|rw[wc_mod _ _ _ (by rfl)] at hb1|rw[wc_wrap _ _ _ (by rfl)] at hb1|rw[wc_32] at hb1|rw[wc_64] at hb1|rw[leI_nat] at hb1
  rw[<-wc_lit 5 4 num (by decide) (by decide)] at hb1;have HB:=Hd hb1;have HA:=Hd ha1;clear hb1 ha1;go_wp2_with fail;go_end0
  exact⟨rfl,F1,HB.out,HA.out⟩
theorem prependSlot_5(b:Nat)(F:List Nat)(st:BSt)(i:Int)(num els:Nat)(w:World)(h:BRep w b F st)(hu:st.m.bytes.length<=1900000)(hn1:num<2^32)(hn2:els<2^32):
  Calls Tryz.prog 72 #[.pointer (some ⟨b,0,none⟩),.int .u8 5,.int .i64 i,.int .u64 num,.int .u64 els] w (BRes w b F (unitRes (st.prepSlot 4 (numB 5 num) i (sameNum 5 num els)))):=by
 have hc:=λ(x d:Int) (q:Bool) (hq:(x==d)=q)=>PrependUint32Slot_calls b F st i x d q hq w h hu;have HC:=Hd hc;obtain⟨q,hqd⟩:=exA (sameNum 5 num els);have hq1:num=els->q=true:=by rintro rfl;rw[hqd];simp[sameNum]
 have hq2:num≠els->q=false:=by intro hne;rw[hqd];simp[sameNum,hne]
 rw[<-hqd];obtain⟨res,hres⟩:=exA (st.prepSlot 4 (numB 5 num) i q);have hcs:res=none\/∃s,res=some s:=by cases res<;>simp
 rw[<-hres];have HR:=Hd hres;have HQ:=Hd (And.intro hq1 hq2);clear hc h hres hq1 hq2 hqd;rcases hcs with rfl|⟨s,rfl⟩
 all_goals
  go_enter Tryz.func72,Tryz.ntmps72;go_wp2_with fail;refine (HC.out _ _ q ?hq).mono ?_
  case hq =>
   by_cases he:num=els
   ·rw[HQ.out.1 he,he];simp
   ·rw[HQ.out.2 he];first|exact wi_wrap _ _ _ (by assumption) (by assumption) he|exact wi_32 _ _ (by assumption) (by assumption) he|exact wi_64 _ _ (by assumption) (by assumption) he|(rw[beq_eq_false_iff_ne];omega)
  first|rw[wc_mod _ _ _ (by rfl)]|rw[wc_wrap _ _ _ (by rfl)]|rw[wc_32]|rw[wc_64]|rw[leI_nat]
  rw[<-wc_lit 5 4 num (by decide) (by decide),<-HR.out]
 ·rintro e w1 ⟨⟨u,v,rfl⟩,hf⟩;exact⟨rfl,⟨u,v,rfl⟩,hf⟩
 ·rintro e w1 ⟨rfl,F1,hb1,ha1⟩;have HB:=Hd hb1;have HA:=Hd ha1;clear hb1 ha1;go_wp2_with fail;go_end0
  exact⟨rfl,F1,HB.out,HA.out⟩
theorem prepend_6(b:Nat)(F:List Nat)(st:BSt)(num:Nat)(w:World)(h:BRep w b F st)(hu:st.m.bytes.length<=1900000)(hn:num<2^32):
  Calls Tryz.prog 71 #[.pointer (some ⟨b,0,none⟩),.int .u8 6,.int .u64 num] w (BRes w b F (some (.tuple #[],{ st with m:=(st.m.prep 4 0).put (numB 6 num) }))):=by
 have hc:=λx=>h.lift (v:=.tuple #[]) (m':=(st.m.prep 4 0).put (leI 4 x)) (λY r c hb=>PrependInt32_calls b Y r st.m c x w hb hu);have HC:=Hd hc;clear hc h;go_enter Tryz.func71,Tryz.ntmps71;go_wp2_with fail
 ·refine (HC.out _).mono ?_;rintro e w1 ⟨rfl,F1,hb1,ha1⟩;first|rw[wc_mod _ _ _ (by rfl)] at hb1|rw[wc_wrap _ _ _ (by rfl)] at hb1|rw[wc_32] at hb1|rw[wc_64] at hb1|rw[leI_nat] at hb1
  rw[<-wc_lit 6 4 num (by decide) (by decide)] at hb1;have HB:=Hd hb1;have HA:=Hd ha1;clear hb1 ha1;go_wp2_with fail;go_end0
  exact⟨rfl,F1,HB.out,HA.out⟩
theorem prependSlot_6(b:Nat)(F:List Nat)(st:BSt)(i:Int)(num els:Nat)(w:World)(h:BRep w b F st)(hu:st.m.bytes.length<=1900000)(hn1:num<2^32)(hn2:els<2^32):
  Calls Tryz.prog 72 #[.pointer (some ⟨b,0,none⟩),.int .u8 6,.int .i64 i,.int .u64 num,.int .u64 els] w (BRes w b F (unitRes (st.prepSlot 4 (numB 6 num) i (sameNum 6 num els)))):=by
 have hc:=λ(x d:Int) (q:Bool) (hq:(x==d)=q)=>PrependInt32Slot_calls b F st i x d q hq w h hu;have HC:=Hd hc;obtain⟨q,hqd⟩:=exA (sameNum 6 num els);have hq1:num=els->q=true:=by rintro rfl;rw[hqd];simp[sameNum]
 have hq2:num≠els->q=false:=by intro hne;rw[hqd];simp[sameNum,hne]
 rw[<-hqd];obtain⟨res,hres⟩:=exA (st.prepSlot 4 (numB 6 num) i q);have hcs:res=none\/∃s,res=some s:=by cases res<;>simp
 rw[<-hres];have HR:=Hd hres;have HQ:=Hd (And.intro hq1 hq2);clear hc h hres hq1 hq2 hqd;rcases hcs with rfl|⟨s,rfl⟩
 all_goals
  go_enter Tryz.func72,Tryz.ntmps72;go_wp2_with fail;refine (HC.out _ _ q ?hq).mono ?_
  case hq =>
   by_cases he:num=els
   ·rw[HQ.out.1 he,he];simp
   ·rw[HQ.out.2 he];first|exact wi_wrap _ _ _ (by assumption) (by assumption) he|exact wi_32 _ _ (by assumption) (by assumption) he|exact wi_64 _ _ (by assumption) (by assumption) he|(rw[beq_eq_false_iff_ne];omega)
  first|rw[wc_mod _ _ _ (by rfl)]|rw[wc_wrap _ _ _ (by rfl)]|rw[wc_32]|rw[wc_64]|rw[leI_nat]
  rw[<-wc_lit 6 4 num (by decide) (by decide),<-HR.out]
 ·rintro e w1 ⟨⟨u,v,rfl⟩,hf⟩;exact⟨rfl,⟨u,v,rfl⟩,hf⟩
 ·rintro e w1 ⟨rfl,F1,hb1,ha1⟩;have HB:=Hd hb1;have HA:=Hd ha1;clear hb1 ha1;go_wp2_with fail;go_end0
  exact⟨rfl,F1,HB.out,HA.out⟩
theorem prepend_7(b:Nat)(F:List Nat)(st:BSt)(num:Nat)(w:World)(h:BRep w b F st)(hu:st.m.bytes.length<=1900000)(hn:num<2^64):
  Calls Tryz.prog 71 #[.pointer (some ⟨b,0,none⟩),.int .u8 7,.int .u64 num] w (BRes w b F (some (.tuple #[],{ st with m:=(st.m.prep 8 0).put (numB 7 num) }))):=by
 have hc:=λx=>h.lift (v:=.tuple #[]) (m':=(st.m.prep 8 0).put (leI 8 x)) (λY r c hb=>PrependUint64_calls b Y r st.m c x w hb hu);have HC:=Hd hc;clear hc h;go_enter Tryz.func71,Tryz.ntmps71;go_wp2_with fail
 ·refine (HC.out _).mono ?_;rintro e w1 ⟨rfl,F1,hb1,ha1⟩;first|rw[wc_mod _ _ _ (by rfl)] at hb1|rw[wc_wrap _ _ _ (by rfl)] at hb1|rw[wc_32] at hb1|rw[wc_64] at hb1|rw[leI_nat] at hb1
  rw[<-wc_lit 7 8 num (by decide) (by decide)] at hb1;have HB:=Hd hb1;have HA:=Hd ha1;clear hb1 ha1;go_wp2_with fail;go_end0
  exact⟨rfl,F1,HB.out,HA.out⟩
theorem prependSlot_7(b:Nat)(F:List Nat)(st:BSt)(i:Int)(num els:Nat)(w:World)(h:BRep w b F st)(hu:st.m.bytes.length<=1900000)(hn1:num<2^64)(hn2:els<2^64):
  Calls Tryz.prog 72 #[.pointer (some ⟨b,0,none⟩),.int .u8 7,.int .i64 i,.int .u64 num,.int .u64 els] w (BRes w b F (unitRes (st.prepSlot 8 (numB 7 num) i (sameNum 7 num els)))):=by
 have hc:=λ(x d:Int) (q:Bool) (hq:(x==d)=q)=>PrependUint64Slot_calls b F st i x d q hq w h hu;have HC:=Hd hc;obtain⟨q,hqd⟩:=exA (sameNum 7 num els);have hq1:num=els->q=true:=by rintro rfl;rw[hqd];simp[sameNum]
 have hq2:num≠els->q=false:=by intro hne;rw[hqd];simp[sameNum,hne]
 rw[<-hqd];obtain⟨res,hres⟩:=exA (st.prepSlot 8 (numB 7 num) i q);have hcs:res=none\/∃s,res=some s:=by cases res<;>simp
 rw[<-hres];have HR:=Hd hres;have HQ:=Hd (And.intro hq1 hq2);clear hc h hres hq1 hq2 hqd;rcases hcs with rfl|⟨s,rfl⟩
 all_goals
  go_enter Tryz.func72,Tryz.ntmps72;go_wp2_with fail;refine (HC.out _ _ q ?hq).mono ?_
  case hq =>
   by_cases he:num=els
   ·rw[HQ.out.1 he,he];simp
   ·rw[HQ.out.2 he];first|exact wi_wrap _ _ _ (by assumption) (by assumption) he|exact wi_32 _ _ (by assumption) (by assumption) he|exact wi_64 _ _ (by assumption) (by assumption) he|(rw[beq_eq_false_iff_ne];omega)
  first|rw[wc_mod _ _ _ (by rfl)]|rw[wc_wrap _ _ _ (by rfl)]|rw[wc_32]|rw[wc_64]|rw[leI_nat]
  rw[<-wc_lit 7 8 num (by decide) (by decide),<-HR.out]
 ·rintro e w1 ⟨⟨u,v,rfl⟩,hf⟩;exact⟨rfl,⟨u,v,rfl⟩,hf⟩
 ·rintro e w1 ⟨rfl,F1,hb1,ha1⟩;have HB:=Hd hb1;have HA:=Hd ha1;clear hb1 ha1;go_wp2_with fail;go_end0
  exact⟨rfl,F1,HB.out,HA.out⟩
theorem prepend_8(b:Nat)(F:List Nat)(st:BSt)(num:Nat)(w:World)(h:BRep w b F st)(hu:st.m.bytes.length<=1900000)(hn:num<2^64):
  Calls Tryz.prog 71 #[.pointer (some ⟨b,0,none⟩),.int .u8 8,.int .u64 num] w (BRes w b F (some (.tuple #[],{ st with m:=(st.m.prep 8 0).put (numB 8 num) }))):=by
 have hc:=λx=>h.lift (v:=.tuple #[]) (m':=(st.m.prep 8 0).put (leI 8 x)) (λY r c hb=>PrependInt64_calls b Y r st.m c x w hb hu);have HC:=Hd hc;clear hc h;go_enter Tryz.func71,Tryz.ntmps71;go_wp2_with fail
 ·refine (HC.out _).mono ?_;rintro e w1 ⟨rfl,F1,hb1,ha1⟩;first|rw[wc_mod _ _ _ (by rfl)] at hb1|rw[wc_wrap _ _ _ (by rfl)] at hb1|rw[wc_32] at hb1|rw[wc_64] at hb1|rw[leI_nat] at hb1
  rw[<-wc_lit 8 8 num (by decide) (by decide)] at hb1;have HB:=Hd hb1;have HA:=Hd ha1;clear hb1 ha1;go_wp2_with fail;go_end0
  exact⟨rfl,F1,HB.out,HA.out⟩
theorem prependSlot_8(b:Nat)(F:List Nat)(st:BSt)(i:Int)(num els:Nat)(w:World)(h:BRep w b F st)(hu:st.m.bytes.length<=1900000)(hn1:num<2^64)(hn2:els<2^64):
  Calls Tryz.prog 72 #[.pointer (some ⟨b,0,none⟩),.int .u8 8,.int .i64 i,.int .u64 num,.int .u64 els] w (BRes w b F (unitRes (st.prepSlot 8 (numB 8 num) i (sameNum 8 num els)))):=by
 have hc:=λ(x d:Int) (q:Bool) (hq:(x==d)=q)=>PrependInt64Slot_calls b F st i x d q hq w h hu;have HC:=Hd hc;obtain⟨q,hqd⟩:=exA (sameNum 8 num els);have hq1:num=els->q=true:=by rintro rfl;rw[hqd];simp[sameNum]
 have hq2:num≠els->q=false:=by intro hne;rw[hqd];simp[sameNum,hne]
 rw[<-hqd];obtain⟨res,hres⟩:=exA (st.prepSlot 8 (numB 8 num) i q);have hcs:res=none\/∃s,res=some s:=by cases res<;>simp
 rw[<-hres];have HR:=Hd hres;have HQ:=Hd (And.intro hq1 hq2);clear hc h hres hq1 hq2 hqd;rcases hcs with rfl|⟨s,rfl⟩
 all_goals
  go_enter Tryz.func72,Tryz.ntmps72;go_wp2_with fail;refine (HC.out _ _ q ?hq).mono ?_
  case hq =>
   by_cases he:num=els
   ·rw[HQ.out.1 he,he];simp
   ·rw[HQ.out.2 he];first|exact wi_wrap _ _ _ (by assumption) (by assumption) he|exact wi_32 _ _ (by assumption) (by assumption) he|exact wi_64 _ _ (by assumption) (by assumption) he|(rw[beq_eq_false_iff_ne];omega)
  first|rw[wc_mod _ _ _ (by rfl)]|rw[wc_wrap _ _ _ (by rfl)]|rw[wc_32]|rw[wc_64]|rw[leI_nat]
  rw[<-wc_lit 8 8 num (by decide) (by decide),<-HR.out]
 ·rintro e w1 ⟨⟨u,v,rfl⟩,hf⟩;exact⟨rfl,⟨u,v,rfl⟩,hf⟩
 ·rintro e w1 ⟨rfl,F1,hb1,ha1⟩;have HB:=Hd hb1;have HA:=Hd ha1;clear hb1 ha1;go_wp2_with fail;go_end0
  exact⟨rfl,F1,HB.out,HA.out⟩
theorem prepend_9(b:Nat)(F:List Nat)(st:BSt)(num:Nat)(w:World)(h:BRep w b F st)(hu:st.m.bytes.length<=1900000)(hn:num<2^32):
  Calls Tryz.prog 71 #[.pointer (some ⟨b,0,none⟩),.int .u8 9,.int .u64 num] w (BRes w b F (some (.tuple #[],{ st with m:=(st.m.prep 4 0).put (numB 9 num) }))):=by
 have hc:=λ(x:Nat)=>h.lift (v:=.tuple #[]) (m':=(st.m.prep 4 0).put (leI 4 x)) (λY r c hb=>PrependFloat32_calls b Y r st.m c x w hb hu);have HC:=Hd hc;have hf32:=run_f32frm;have hf64:=run_f64frm;clear hc h;go_enter Tryz.func71,Tryz.ntmps71;go_wp2_with fail
 ·refine (HC.out _).mono ?_;rintro e w1 ⟨rfl,F1,hb1,ha1⟩;first|rw[wc_mod _ _ _ (by rfl)] at hb1|rw[wc_wrap _ _ _ (by rfl)] at hb1|rw[wc_32] at hb1|rw[wc_64] at hb1|rw[leI_nat] at hb1
  rw[<-wc_lit 9 4 num (by decide) (by decide)] at hb1;have HB:=Hd hb1;have HA:=Hd ha1;clear hb1 ha1;go_wp2_with fail;go_end0
  exact⟨rfl,F1,HB.out,HA.out⟩
theorem prependSlot_9(b:Nat)(F:List Nat)(st:BSt)(i:Int)(num els:Nat)(w:World)(h:BRep w b F st)(hu:st.m.bytes.length<=1900000)(hn1:num<2^32)(hn2:els<2^32):
  Calls Tryz.prog 72 #[.pointer (some ⟨b,0,none⟩),.int .u8 9,.int .i64 i,.int .u64 num,.int .u64 els] w (BRes w b F (unitRes (st.prepSlot 4 (numB 9 num) i (sameNum 9 num els)))):=by
 have hc:=PrependFloat32Slot_calls b F st i num els _ (rfl:Op.floatEq .f32 num els=_) w h hu;rw[leI_nat,<-wc_lit 9 4 num (by decide) (by decide)] at hc;have e:Op.floatEq .f32 num els=sameNum 9 num els:=by simp[sameNum]
 rw[e] at hc;have HC:=Hd hc;have hf32:=run_f32frm;have hf64:=run_f64frm;obtain⟨res,hres⟩:=exA (st.prepSlot 4 (numB 9 num) i (sameNum 9 num els));have hcs:res=none\/∃s,res=some s:=by cases res<;>simp
 rw[<-hres] at HC ⊢;clear hc h hres e;rcases hcs with rfl|⟨s,rfl⟩
 all_goals
  go_enter Tryz.func72,Tryz.ntmps72;go_wp2_with fail;refine HC.out.mono ?_
 ·rintro e w1 ⟨⟨u,v,rfl⟩,hf⟩;exact⟨rfl,⟨u,v,rfl⟩,hf⟩
 ·rintro e w1 ⟨rfl,F1,hb1,ha1⟩;have HB:=Hd hb1;have HA:=Hd ha1;clear hb1 ha1;go_wp2_with fail;go_end0
  exact⟨rfl,F1,HB.out,HA.out⟩
theorem prepend_10(b:Nat)(F:List Nat)(st:BSt)(num:Nat)(w:World)(h:BRep w b F st)(hu:st.m.bytes.length<=1900000)(hn:num<2^64):
  Calls Tryz.prog 71 #[.pointer (some ⟨b,0,none⟩),.int .u8 10,.int .u64 num] w (BRes w b F (some (.tuple #[],{ st with m:=(st.m.prep 8 0).put (numB 10 num) }))):=by
 have hc:=λ(x:Nat)=>h.lift (v:=.tuple #[]) (m':=(st.m.prep 8 0).put (leI 8 x)) (λY r c hb=>PrependFloat64_calls b Y r st.m c x w hb hu);have HC:=Hd hc;have hf32:=run_f32frm;have hf64:=run_f64frm;clear hc h;go_enter Tryz.func71,Tryz.ntmps71;go_wp2_with fail
 ·refine (HC.out _).mono ?_;rintro e w1 ⟨rfl,F1,hb1,ha1⟩;first|rw[wc_mod _ _ _ (by rfl)] at hb1|rw[wc_wrap _ _ _ (by rfl)] at hb1|rw[wc_32] at hb1|rw[wc_64] at hb1|rw[leI_nat] at hb1
  rw[<-wc_lit 10 8 num (by decide) (by decide)] at hb1;have HB:=Hd hb1;have HA:=Hd ha1;clear hb1 ha1;go_wp2_with fail;go_end0
  exact⟨rfl,F1,HB.out,HA.out⟩
theorem prependSlot_10(b:Nat)(F:List Nat)(st:BSt)(i:Int)(num els:Nat)(w:World)(h:BRep w b F st)(hu:st.m.bytes.length<=1900000)(hn1:num<2^64)(hn2:els<2^64):
  Calls Tryz.prog 72 #[.pointer (some ⟨b,0,none⟩),.int .u8 10,.int .i64 i,.int .u64 num,.int .u64 els] w (BRes w b F (unitRes (st.prepSlot 8 (numB 10 num) i (sameNum 10 num els)))):=by
 have hc:=PrependFloat64Slot_calls b F st i num els _ (rfl:Op.floatEq .f64 num els=_) w h hu;rw[leI_nat,<-wc_lit 10 8 num (by decide) (by decide)] at hc;have e:Op.floatEq .f64 num els=sameNum 10 num els:=by simp[sameNum]
 rw[e] at hc;have HC:=Hd hc;have hf32:=run_f32frm;have hf64:=run_f64frm;obtain⟨res,hres⟩:=exA (st.prepSlot 8 (numB 10 num) i (sameNum 10 num els));have hcs:res=none\/∃s,res=some s:=by cases res<;>simp
 rw[<-hres] at HC ⊢;clear hc h hres e;rcases hcs with rfl|⟨s,rfl⟩
 all_goals
  go_enter Tryz.func72,Tryz.ntmps72;go_wp2_with fail;refine HC.out.mono ?_
 ·rintro e w1 ⟨⟨u,v,rfl⟩,hf⟩;exact⟨rfl,⟨u,v,rfl⟩,hf⟩
 ·rintro e w1 ⟨rfl,F1,hb1,ha1⟩;have HB:=Hd hb1;have HA:=Hd ha1;clear hb1 ha1;go_wp2_with fail;go_end0
  exact⟨rfl,F1,HB.out,HA.out⟩
theorem prepend_b(b:Nat)(F:List Nat)(st:BSt)(k:Int)(num:Nat)(w:World)(h:BRep w b F st)(hr:Right k num)(hu:st.m.bytes.length<=1900000):
  Calls Tryz.prog 71 #[.pointer (some ⟨b,0,none⟩),.int .u8 k,.int .u64 num] w (BRes w b F (unitRes (some { st with m:=(st.m.prep (numSize k) 0).put (numB k num) }))):=by
 obtain⟨h0,h1,h2,h3⟩:=hr;have:k=0\/k=1\/k=2\/k=3\/k=4\/k=5\/k=6\/k=7\/k=8\/k=9\/k=10:=by omega
 rcases this with rfl|rfl|rfl|rfl|rfl|rfl|rfl|rfl|rfl|rfl|rfl
 ·exact prepend_0 b F st num w h hu h3 (h2 rfl)
 ·exact prepend_1 b F st num w h hu h3
 ·exact prepend_2 b F st num w h hu h3
 ·exact prepend_3 b F st num w h hu h3
 ·exact prepend_4 b F st num w h hu h3
 ·exact prepend_5 b F st num w h hu h3
 ·exact prepend_6 b F st num w h hu h3
 ·exact prepend_7 b F st num w h hu h3
 ·exact prepend_8 b F st num w h hu h3
 ·exact prepend_9 b F st num w h hu h3
 ·exact prepend_10 b F st num w h hu h3
theorem prependSlot_b(b:Nat)(F:List Nat)(st:BSt)(k i:Int)(num els:Nat)(w:World)(h:BRep w b F st)(hr:Right k num)(hr2:Right k els)(hu:st.m.bytes.length<=1900000):
  Calls Tryz.prog 72 #[.pointer (some ⟨b,0,none⟩),.int .u8 k,.int .i64 i,.int .u64 num,.int .u64 els] w (BRes w b F (unitRes (st.prepSlot (numSize k) (numB k num) i (sameNum k num els)))):=by
 obtain⟨h0,h1,h2,h3⟩:=hr;obtain⟨_,_,g2,g3⟩:=hr2;have:k=0\/k=1\/k=2\/k=3\/k=4\/k=5\/k=6\/k=7\/k=8\/k=9\/k=10:=by omega
 rcases this with rfl|rfl|rfl|rfl|rfl|rfl|rfl|rfl|rfl|rfl|rfl
 ·exact prependSlot_0 b F st i num els w h hu (h2 rfl) (g2 rfl)
 ·exact prependSlot_1 b F st i num els w h hu h3 g3
 ·exact prependSlot_2 b F st i num els w h hu h3 g3
 ·exact prependSlot_3 b F st i num els w h hu h3 g3
 ·exact prependSlot_4 b F st i num els w h hu h3 g3
 ·exact prependSlot_5 b F st i num els w h hu h3 g3
 ·exact prependSlot_6 b F st i num els w h hu h3 g3
 ·exact prependSlot_7 b F st i num els w h hu h3 g3
 ·exact prependSlot_8 b F st i num els w h hu h3 g3
 ·exact prependSlot_9 b F st i num els w h hu h3 g3
 ·exact prependSlot_10 b F st i num els w h hu h3 g3
theorem BRep.below{w:World}{b:Nat}{F:List Nat}{st:BSt}(h:BRep w b F st):∀k∈F,k<w.heap.size:=by
 obtain⟨Y,V,G,M,r,c,rfl,hb,ho⟩:=h;have hbl:=lt_of_block hb.hb;have hYl:=lt_of_block hb.hy;have hG:G<w.heap.size:=by obtain⟨cv,_,h2,_⟩:=ho.vs;exact lt_of_block h2
 have hV:V<w.heap.size:=by
  have hvt:=ho.vt;cases hc:st.vtab with
  | none=>rw[hc] at hvt;rw[hvt.2];exact hbl
  | some l=>rw[hc] at hvt;obtain⟨cv,_,h2,_⟩:=hvt;exact lt_of_block h2
 have hM:M<w.heap.size:=by
  have hsh:=ho.sh;cases hc:st.shared with
  | none=>rw[hc] at hsh;rw[hsh.2];exact hbl
  | some D=>rw[hc] at hsh;exact hsh.lt
 intro k hk;simp only[List.mem_cons,List.not_mem_nil,or_false] at hk;rcases hk with rfl|rfl|rfl|rfl|rfl<;>assumption
theorem BRep.keep{w w':World}{S:Nat->Prop}{b:Nat}{F:List Nat}{st:BSt}(h:BRep w b F st)(hf:Fr S w w')(hS:∀k∈F,¬S k):BRep w' b F st:=by
 obtain⟨Y,V,G,M,r,c,rfl,hb,ho⟩:=h;exact⟨Y,V,G,M,r,c,rfl,hb.fr hf (hS b (by simp)) (hS Y (by simp)),ho.fr hf (λ_=>hS V (by simp)) (hS G (by simp)) (λ_=>hS M (by simp))⟩
structure Grow(m m':BM)(k:Nat):Prop where
 bytes:∃xs,m'.bytes=xs++m.bytes/\xs.length<=k
 least:algn m.least->algn m'.least
theorem Grow.refl(m:BM):Grow m m 0:=⟨⟨[],rfl,Nat.le_refl _⟩,id⟩
theorem Grow.trans{a b c:BM}{k j:Nat}(h:Grow a b k)(g:Grow b c j):Grow a c (k+j):=by
 obtain⟨⟨xs,h1,h2⟩,h3⟩:=h;obtain⟨⟨ys,g1,g2⟩,g3⟩:=g;exact⟨⟨ys++xs,by rw[g1,h1,List.append_assoc],by rw[List.length_append];omega⟩,λx=>g3 (h3 x)⟩
theorem Grow.mono{a b:BM}{k j:Nat}(h:Grow a b k)(hj:k<=j):Grow a b j:=by
 obtain⟨⟨xs,h1,h2⟩,h3⟩:=h;exact⟨⟨xs,h1,by omega⟩,h3⟩
theorem Grow.prep(m:BM)(size add:Nat)(hs:algn size):Grow m (m.prep size add) 16:=by
 refine⟨⟨List.replicate (m.pad size add) 0,rfl,?_⟩,λh=>?_⟩
 ·have:=m.pad_lt size add hs
  have:=algn_le hs
  simp;omega
 ·show algn (max m.least size);rcases Nat.le_total m.least size with h1|h1
  ·rw[Nat.max_eq_right h1];exact hs
  ·rw[Nat.max_eq_left h1];exact h
theorem Grow.put(m:BM)(xs:List UInt8):Grow m (m.put xs) xs.length:=⟨⟨xs,rfl,Nat.le_refl _⟩,id⟩
theorem Grow.len{m m':BM}{k:Nat}(h:Grow m m' k):m.bytes.length<=m'.bytes.length/\m'.bytes.length<=m.bytes.length+k:=by
 obtain⟨⟨xs,h1,h2⟩,_⟩:=h;rw[h1,List.length_append];omega
theorem Grow.prepPut(m:BM)(size:Nat)(xs:List UInt8)(hs:algn size)(hx:xs.length<=16):Grow m ((m.prep size 0).put xs) 40:=((Grow.prep m size 0 hs).trans (Grow.put _ xs)).mono (by omega)
theorem Grow.text(m:BM)(xs:List UInt8)(z:Bool):Grow m (m.text xs z) (xs.length+21):=by
 cases z with
 | true =>
  exact ((((Grow.prep m 4 (xs.length+1) (by unfold algn;omega)).trans (Grow.put _ [0])).trans (Grow.put _ xs)).trans (Grow.put _ (leB 4 xs.length))).mono (by simp[leB_length];omega)
 | false =>
  exact (((Grow.prep m 4 xs.length (by unfold algn;omega)).trans (Grow.put _ xs)).trans (Grow.put _ (leB 4 xs.length))).mono (by simp[leB_length];omega)
theorem Grow.refer{m m':BM}{off:Nat}(h:m.refer off=some m'):Grow m m' 40:=by
 unfold BM.refer at h;split at h
 ·injection h with h;rw[<-h];exact Grow.prepPut m 4 _ (by unfold algn;omega) (by rw[leB_length];omega)
 ·cases h
theorem Grow.vtPut(o:Nat):∀(l:List Nat) (m:BM),Grow m (vtPut o l m) (4*l.length)
 | [],m=>Grow.refl m
 | f::l,m=>by
  rw[vtPut_cons];have h1:=Grow.vtPut o l m;have h2:Grow (Proofs.YtcfblkkpclfmaaaGreat.vtPut o l m) (((Proofs.YtcfblkkpclfmaaaGreat.vtPut o l m).prep 2 0).put (leI 2 (if f=0 then 0 else (o:Int)-(f:Int)))) 4:=by
   refine⟨⟨leI 2 (if f=0 then 0 else (o:Int)-(f:Int))++List.replicate ((Proofs.YtcfblkkpclfmaaaGreat.vtPut o l m).pad 2 0) 0,?_,?_⟩,(Grow.prep _ 2 0 (by unfold algn;omega)).least⟩
   ·show _++(_++_)=_;rw[List.append_assoc]
   ·have:=(Proofs.YtcfblkkpclfmaaaGreat.vtPut o l m).pad_lt 2 0 (by unfold algn;omega)
    simp[leI_length];omega
  exact (h1.trans h2).mono (by simp;omega)
theorem over_app(m:BM)(ys a rest xs:List UInt8)(o:Nat)(h:m.bytes=ys++(a++rest))(ho:o=a.length+rest.length)(hx:xs.length=a.length):(m.over o xs).bytes=ys++(xs++rest):=by
 show m.bytes.take (m.bytes.length-o)++xs++m.bytes.drop (m.bytes.length-o+xs.length)=_;have hl:m.bytes.length-o=ys.length:=by rw[h];simp only[List.length_append];omega
 rw[hl,h,List.take_left,hx,List.append_assoc,<-List.append_assoc ys a rest,show ys.length+a.length=(ys++a).length by simp,List.drop_left]
theorem BSt.vt1_split(st:BSt):∃a zs,st.vt1.bytes=a++(zs++st.m.bytes)/\a.length=4/\zs.length<=3:=by
 refine⟨leB 4 ((st.m.prep 4 0).bytes.length+4),List.replicate (st.m.pad 4 0) 0,rfl,leB_length _ _,?_⟩;have:=st.m.pad_lt 4 0 (by unfold algn;omega)
 simp;omega
theorem Grow.vt1(st:BSt):Grow st.m st.vt1 20:=((Grow.prep st.m 4 0 (by unfold algn;omega)).trans (Grow.put _ _)).mono (by rw[leB_length];omega)
theorem Grow.over{m0 m1 m:BM}{ys a zs xs:List UInt8}{k:Nat}(h1:m1.bytes=a++(zs++m0.bytes))(h:m.bytes=ys++m1.bytes)(hx:xs.length=a.length)(hk:ys.length+a.length+zs.length<=k)(hl:algn m0.least->algn m.least):Grow m0 (m.over m1.bytes.length xs) k:=by
 refine⟨⟨ys++(xs++zs),?_,by simp only[List.length_append];omega⟩,hl⟩;rw[over_app m ys a (zs++m0.bytes) xs _ (by rw[h,h1]) (by rw[h1];simp) hx];simp[List.append_assoc]
theorem Grow.vt4(st:BSt)(l:List Nat):Grow st.vt1 (st.vt4 l) (4*l.length+80):=by
 unfold BSt.vt4;exact (((Grow.vtPut _ l st.vt1).trans (Grow.prepPut _ 2 _ (by unfold algn;omega) (by rw[leI_length];omega))).trans (Grow.prepPut _ 2 _ (by unfold algn;omega) (by rw[leI_length];omega))).mono (by omega)
structure StInv(st:BSt)(i:Nat):Prop where
 inv:BInv st
 least:algn st.m.least
 many:st.vts.length<=i
 sh:Maps.size (st.shared.getD (.map []))<=i
 len:st.m.bytes.length<=5000*i
theorem StInv.start(n:Nat):StInv (st0 n) 0:=⟨⟨λv hv=>by simp[st0] at hv,λl hl=>by simp[st0] at hl,by simp[st0],by simp[st0]⟩,by unfold algn;simp[st0],by simp[st0],by simp[st0,Maps.size],by simp[st0]⟩
theorem StInv.grow{st st':BSt}{i k:Nat}(h:StInv st i)(g:Grow st.m st'.m k)(hk:k<=5000)(hv:∀l,st'.vtab=some l->l.length<=1000/\∀x∈l,x<=st'.m.bytes.length)(hvs:st'.vts=st.vts)(hoe:st'.oend<=st'.m.bytes.length)(hsh:Maps.size (st'.shared.getD (.map []))<=i+1):StInv st' (i+1):=by
 obtain⟨xs,hx,hxl⟩:=g.bytes;have hl:=g.len;refine⟨⟨λv hvm=>?_,hv,hoe,by rw[hvs];exact h.inv.many⟩,g.least h.least,by rw[hvs];have:=h.many;omega,hsh,by have:=h.len;omega⟩;rw[hvs] at hvm;have:=h.inv.vts v hvm
 rw[vtLen_app hx v this.1];omega
theorem StInv.bytes{st:BSt}{m':BM}{i k:Nat}(h:StInv st i)(g:Grow st.m m' k)(hk:k<=5000):StInv { st with m:=m' } (i+1):=by
 have hl:=g.len;refine h.grow (st':={ st with m:=m' }) g hk (λl hl'=>?_) rfl (by have:=h.inv.oend;show st.oend<=m'.bytes.length;omega) (by have:=h.sh;show Maps.size (st.shared.getD _)<=_;omega);have:=h.inv.vtab l hl'
 exact⟨this.1,λx hx=>by have:=this.2 x hx;show x<=m'.bytes.length;omega⟩
theorem StInv.up{st:BSt}{i:Nat}(h:StInv st i):StInv st (i+1):=h.bytes (m':=st.m) (Grow.refl _) (by omega)
theorem numSize_algn{k:Int}(h0:0<=k)(h1:k<=10):algn (numSize k):=by
 have:k=0\/k=1\/k=2\/k=3\/k=4\/k=5\/k=6\/k=7\/k=8\/k=9\/k=10:=by omega
 unfold algn;rcases this with rfl|rfl|rfl|rfl|rfl|rfl|rfl|rfl|rfl|rfl|rfl<;>simp[numSize]
theorem Grow.scalar(m:BM){k:Int}(n:Nat)(h0:0<=k)(h1:k<=10):Grow m ((m.prep (numSize k) 0).put (numB k n)) 40 :=
 Grow.prepPut m _ _ (numSize_algn h0 h1) (by rw[numB_length];have:=numSize_le k;omega)
theorem StInv.same{st st':BSt}{i:Nat}(h:StInv st i)(hm:st'.m=st.m)(hv:st'.vtab=st.vtab)(ho:st'.oend=st.oend)(hvs:st'.vts=st.vts)(hs:st'.shared=st.shared):StInv st' i:=by
 obtain⟨⟨a,b,c,d⟩,e,f,g,l⟩:=h;exact⟨⟨by rw[hvs,hm];exact a,by rw[hv,hm];exact b,by rw[ho,hm];exact c,by rw[hvs];exact d⟩,by rw[hm];exact e,by rw[hvs];exact f,by rw[hs];exact g,by rw[hm];exact l⟩
theorem StInv.created{st st':BSt}{xs:List UInt8}{z:Bool}{n i:Nat}(h:StInv st i)(hx:xs.length<=1000)(e:st.created xs z=some (n,st')):StInv st' (i+1):=by
 cases hn:st.nested with
 | true=>rw[created_none _ _ _ hn] at e;cases e
 | false =>
  rw[created_eq _ _ _ hn] at e;injection e with e;injection e with _ e;subst e;exact (h.bytes (Grow.text st.m xs z) (by omega)).same rfl rfl rfl rfl rfl
theorem trimZ_le(l:List Nat):(trimZ l).length<=l.length:=by
 unfold trimZ;rw[List.length_reverse];have:=List.length_filter_le (λ_:Nat=>true) l.reverse
 have h:=List.dropWhile_suffix (p:=λx:Nat=>x==0) (l:=l.reverse);have:=h.length_le
 simpa using this
theorem BSt.vt4_front(st:BSt)(l:List Nat):∃ys,(st.vt4 l).bytes=leI 2 (((l.length+2)*2:Nat):Int)++ys:=⟨_,rfl⟩
theorem vt4_len(st:BSt)(l:List Nat):st.vt1.bytes.length+4<=(st.vt4 l).bytes.length/\st.vt1.bytes.length+2*l.length+4<=(st.vt4 l).bytes.length:=by
 have h3:∀(l:List Nat) (m:BM),m.bytes.length+2*l.length<=(vtPut st.vt1.bytes.length l m).bytes.length:=by
  intro l;induction l with
  | nil=>intro m;simp[vtPut]
  | cons f l ih =>
   intro m;rw[vtPut_cons,List.length_cons];have:=ih m
   have:=BM.step2_len (vtPut st.vt1.bytes.length l m) (leI 2 (if f=0 then 0 else (st.vt1.bytes.length:Int)-(f:Int))) (leI_length _ _)
   omega
 have h0:=h3 l st.vt1;have h1:=BM.step2_len (vtPut st.vt1.bytes.length l st.vt1) (leI 2 ((st.vt1.bytes.length:Int)-st.oend)) (leI_length _ _);have h2:=BM.step2_len (((vtPut st.vt1.bytes.length l st.vt1).prep 2 0).put (leI 2 ((st.vt1.bytes.length:Int)-st.oend))) (leI 2 (((l.length+2)*2:Nat):Int)) (leI_length _ _);unfold BSt.vt4;omega
theorem writeVt_grow(st:BSt)(l0:List Nat)(hl:st.vtab.getD []=l0)(hl2:l0.length<=1000):Grow st.m st.writeVt.m 4200:=by
 have ht:=trimZ_le l0;obtain⟨a,zs,h1,h2,h3⟩:=st.vt1_split;have g1:=Grow.vt1 st;unfold BSt.writeVt;rw[hl];cases vtFind st.vt1 st.vt1.bytes.length (trimZ l0) st.vts with
 | some v=>exact Grow.over (ys:=[]) h1 (by simp) (by rw[leI_length,h2]) (by simp;omega) g1.least
 | none =>
  have g4:=Grow.vt4 st (trimZ l0);obtain⟨ys,h5,h6⟩:=g4.bytes;exact Grow.over (ys:=ys) h1 h5 (by rw[leI_length,h2]) (by omega) (λx=>g4.least (g1.least x))
theorem leI2_front(n:Nat)(ys:List UInt8)(h:n<65536):le ((leI 2 (n:Int)++ys).take 2)=n:=by
 rw[leI_nat];have:(leB 2 n++ys).take 2=leB 2 n:=by
  have h2:(leB 2 n).length=2:=leB_length 2 n;rw[List.take_append_of_le_length (by omega),List.take_of_length_le (by omega)]
 rw[this,le_leB];exact Nat.mod_eq_of_lt (by omega)
theorem StInv.writeVt{st:BSt}{i:Nat}(h:StInv st i)(hi:i<=300):StInv { st.writeVt with nested:=false } (i+1):=by
 obtain⟨l0,hl0⟩:=exA (st.vtab.getD []);have hl2:l0.length<=1000:=by
  rw[hl0];cases hv:st.vtab with
  | none=>simp
  | some l=>exact (h.inv.vtab l hv).1
 have g:=writeVt_grow st l0 hl0.symm hl2;have ht:=trimZ_le l0;have hvt:∀l,(st.vtab.map λ_=>([]:List Nat))=some l->l=[]:=by
  intro l e;cases hv:st.vtab with
  | none=>rw[hv] at e;cases e
  | some l'=>rw[hv] at e;injection e with e;exact e.symm
 have hgl:=g.len;have hoe:=h.inv.oend;have hsh:st.writeVt.shared=st.shared:=by unfold BSt.writeVt;split<;>rfl
 have hoo:st.writeVt.oend=st.oend:=by unfold BSt.writeVt;split<;>rfl
 have hvv:st.writeVt.vtab=st.vtab.map λ_=>[]:=by unfold BSt.writeVt;split<;>rfl
 cases hf:vtFind st.vt1 st.vt1.bytes.length (trimZ (st.vtab.getD [])) st.vts with
 | some v =>
  have hvs:st.writeVt.vts=st.vts:=by unfold BSt.writeVt;rw[hf]
  exact h.grow (st':={ st.writeVt with nested:=false }) g (by omega) (λl hl=>by
   have hl:st.writeVt.vtab=some l:=hl;rw[hvv] at hl;rw[hvt l hl];simp) hvs (by show st.writeVt.oend<=_;rw[hoo];show _<=st.writeVt.m.bytes.length;omega) (by show Maps.size (st.writeVt.shared.getD _)<=_;rw[hsh];have:=h.sh;omega)
 | none =>
  rw[<-hl0] at hf;obtain⟨m4,hm4⟩:=exA (st.vt4 (trimZ l0));have hw:st.writeVt={ st with m:=m4.over st.vt1.bytes.length (leI 4 ((m4.bytes.length:Int)-st.vt1.bytes.length)),vtab:=st.vtab.map (λ_=>[]),vts:=st.vts++[m4.bytes.length] }:=by
   unfold BSt.writeVt;rw[<-hl0,hf,hm4]
  have h4:=vt4_len st (trimZ l0);rw[<-hm4] at h4;have hol:=BM.over_len m4 st.vt1.bytes.length (leI 4 ((m4.bytes.length:Int)-st.vt1.bytes.length)) (by rw[leI_length];obtain⟨a,zs,h1,h2,h3⟩:=st.vt1_split;rw[h1];simp only[List.length_append];omega) (by omega);have hfr:∃ys,(m4.over st.vt1.bytes.length (leI 4 ((m4.bytes.length:Int)-st.vt1.bytes.length))).bytes=leI 2 ((((trimZ l0).length+2)*2:Nat):Int)++ys:=by
   obtain⟨ys,hys⟩:=BSt.vt4_front st (trimZ l0);rw[<-hm4] at hys;have hyl:2<=m4.bytes.length-st.vt1.bytes.length:=(by omega);refine⟨ys.take (m4.bytes.length-st.vt1.bytes.length-2)++leI 4 ((m4.bytes.length:Int)-st.vt1.bytes.length)++m4.bytes.drop (m4.bytes.length-st.vt1.bytes.length+(leI 4 ((m4.bytes.length:Int)-st.vt1.bytes.length)).length),?_⟩;show m4.bytes.take (m4.bytes.length-st.vt1.bytes.length)++_++_=_;have e:m4.bytes.take (m4.bytes.length-st.vt1.bytes.length)=leI 2 ((((trimZ l0).length+2)*2:Nat):Int)++ys.take (m4.bytes.length-st.vt1.bytes.length-2):=by
    conv=>lhs;arg 2;rw[hys]
    rw[List.take_append,leI_length,List.take_of_length_le (by rw[leI_length];omega)]
   rw[e];simp only[List.append_assoc]
  rw[hw] at g hgl ⊢;obtain⟨xs,hx,hxl⟩:=g.bytes;dsimp only at hx hgl;refine⟨⟨λv hvm=>?_,λl hl=>?_,?_,?_⟩,g.least h.least,?_,?_,?_⟩
  ·dsimp only at hvm ⊢;rcases List.mem_append.1 hvm with hvm|hvm
   ·have:=h.inv.vts v hvm
    rw[vtLen_app hx v this.1];omega
   ·simp only[List.mem_singleton] at hvm;subst hvm;have hlen:vtLen (m4.over st.vt1.bytes.length (leI 4 ((m4.bytes.length:Int)-st.vt1.bytes.length))) m4.bytes.length=((trimZ l0).length+2)*2:=by
     unfold vtLen fromEnd;rw[hol,Nat.sub_self,List.drop_zero];obtain⟨ys,hys⟩:=hfr;rw[hys];exact leI2_front _ ys (by omega)
    rw[hlen,hol];omega
  ·dsimp only at hl ⊢;rw[hvt l hl];simp
  ·dsimp only;omega
  ·dsimp only;rw[List.length_append,List.length_singleton];have:=h.many;omega
  ·dsimp only;rw[List.length_append,List.length_singleton];have:=h.many;omega
  ·dsimp only;have:=h.sh;omega
  ·dsimp only;have:=h.len;omega
theorem put_size(D:DataW Unit)(k:Lit)(d:DataW Unit):Maps.size (D.put k d)<=Maps.size D+1:=by
 cases D with
 | map es =>
  rw[DataW.put_eq];unfold ChangeMaps.putKey;simp only[Maps.size];rw[length_insert];have:=List.length_filter_le (ChangeMaps.notKey k) es
  omega
 | _=>simp[DataW.put,Maps.size]
theorem padB_mod(u s:Nat)(hs:algn s):(padB u s+u)%s=0:=by
 unfold padB;unfold algn at hs;rcases hs with rfl|rfl|rfl|rfl|rfl<;>omega
theorem prep_mod(m:BM)(size add:Nat)(hs:algn size):((m.prep size add).bytes.length+add)%size=0:=by
 rw[m.prep_len size add hs];have:=padB_mod (m.bytes.length+add) size hs
 unfold BM.pad;rw[Nat.add_assoc];exact this
theorem prep_bytes(m:BM)(size add:Nat):(m.prep size add).bytes=List.replicate (m.pad size add) 0++m.bytes:=rfl
theorem prep_id(m:BM)(size add:Nat)(hs:algn size)(h:(m.bytes.length+add)%size=0):(m.prep size add).bytes=m.bytes:=by
 have e:m.pad size add=0:=by
  unfold BM.pad padB;rw[h];unfold algn at hs;rw[Nat.sub_zero,Nat.mod_self]
 rw[prep_bytes,e];rfl
theorem text_true(m:BM)(xs:List UInt8):∃k,k<4/\(m.text xs true).bytes=leB 4 xs.length++(xs++(0::(List.replicate k 0++m.bytes)))/\(m.text xs true).bytes.length%4=0:=by
 have ha:algn 4:=by unfold algn;omega
 refine⟨m.pad 4 (xs.length+1),m.pad_lt 4 _ ha,rfl,?_⟩;have h:=prep_mod m 4 (xs.length+1) ha;have e:(m.text xs true).bytes=leB 4 xs.length++(xs++([0]++(m.prep 4 (xs.length+1)).bytes)):=rfl;rw[e];simp only[List.length_append,leB_length,List.length_singleton];omega
theorem text_false(m:BM)(xs:List UInt8):∃k,k<4/\(m.text xs false).bytes=leB 4 xs.length++(xs++(List.replicate k 0++m.bytes))/\(m.text xs false).bytes.length%4=0:=by
 have ha:algn 4:=by unfold algn;omega
 refine⟨m.pad 4 xs.length,m.pad_lt 4 _ ha,rfl,?_⟩;have h:=prep_mod m 4 xs.length ha;have e:(m.text xs false).bytes=leB 4 xs.length++(xs++(m.prep 4 xs.length).bytes):=rfl;rw[e];simp only[List.length_append,leB_length];omega
theorem run_str_at{D:ByteArray}{l:List UInt8}(hD:D=strOf l)(i:Nat){x:UInt8}(h:l[i]?=some x)(w:World):(Instr.index 9 (.string D) (.int .i64 i)).run Tryz.prog w=.ok (.int .u8 (x.toNat:Int)) w:=by
 subst hD;obtain⟨hlt,hx⟩:=List.getElem?_eq_some_iff.1 h;rw[run_index_string w 9 _ .i64 i Tryz.underlying9,dif_pos ⟨by omega,by rw[strOf_size];omega⟩,<-hx];rfl
def vtFlds(o:Nat)(l:List Nat):List UInt8:=l.flatMap λf:Nat=>leI 2 (if f=0 then 0 else (o:Int)-(f:Int))
theorem vtFlds_length(o:Nat)(l:List Nat):(vtFlds o l).length=2*l.length:=by
 unfold vtFlds;induction l with
 | nil=>rfl
 | cons f l ih=>rw[List.flatMap_cons,List.length_append,ih,leI_length,List.length_cons];omega
theorem prep_even(m:BM)(h:m.bytes.length%2=0):(m.prep 2 0).bytes=m.bytes:=prep_id m 2 0 (by unfold algn;omega) (by omega)
theorem vtPut_bytes(o:Nat)(m:BM)(h:m.bytes.length%2=0):∀l:List Nat,(vtPut o l m).bytes=vtFlds o l++m.bytes
 | []=>rfl
 | f::l=>by
  have ih:=vtPut_bytes o m h l;rw[vtPut_cons];show leI 2 _++((vtPut o l m).prep 2 0).bytes=_;rw[prep_even _ (by rw[ih,List.length_append,vtFlds_length];omega),ih];show _=(leI 2 _++vtFlds o l)++m.bytes;rw[List.append_assoc]
theorem vtPut_least(o:Nat)(m:BM)(h:2<=m.least):∀(l:List Nat),(vtPut o l m).least=m.least
 | []=>rfl
 | f::l=>by
  rw[vtPut_cons];show max (vtPut o l m).least 2=_;rw[vtPut_least o m h l];omega
theorem vt1_len(st:BSt):st.vt1.bytes.length=4+(padB st.m.bytes.length 4+st.m.bytes.length)/\st.vt1.bytes.length%4=0:=by
 have ha:algn 4:=by unfold algn;omega
 have e:st.vt1.bytes.length=4+(st.m.prep 4 0).bytes.length:=by
  show (leB 4 _++_).length=_;rw[List.length_append,leB_length]
 have h:=prep_mod st.m 4 0 ha;have e2:(st.m.prep 4 0).bytes.length=padB st.m.bytes.length 4+st.m.bytes.length:=st.m.prep_len 4 0 ha;omega
theorem vt4_bytes(st:BSt)(t:List Nat):(st.vt4 t).bytes=leI 2 (((t.length+2)*2:Nat):Int)++(leI 2 ((st.vt1.bytes.length:Int)-st.oend)++(vtFlds st.vt1.bytes.length t++st.vt1.bytes)):=by
 obtain⟨h1,h2⟩:=vt1_len st;have hp:=vtPut_bytes st.vt1.bytes.length st.vt1 (by omega) t;have hl:=vtFlds_length st.vt1.bytes.length t;unfold BSt.vt4;show leI 2 _++(((vtPut st.vt1.bytes.length t st.vt1).prep 2 0).put (leI 2 ((st.vt1.bytes.length:Int)-st.oend)) |>.prep 2 0).bytes=_;have e1:((vtPut st.vt1.bytes.length t st.vt1).prep 2 0).bytes=vtFlds st.vt1.bytes.length t++st.vt1.bytes:=by
  rw[prep_even _ (by rw[hp,List.length_append,hl];omega),hp]
 have e2:(((vtPut st.vt1.bytes.length t st.vt1).prep 2 0).put (leI 2 ((st.vt1.bytes.length:Int)-st.oend))).bytes=leI 2 ((st.vt1.bytes.length:Int)-st.oend)++(vtFlds st.vt1.bytes.length t++st.vt1.bytes):=by
  show leI 2 _++((vtPut st.vt1.bytes.length t st.vt1).prep 2 0).bytes=_;rw[e1]
 rw[prep_even _ (by rw[e2];simp only[List.length_append,leI_length,hl];omega),e2]
def objBytes(st:BSt)(soff:Int):List UInt8:=leI 4 soff++(List.replicate (padB st.m.bytes.length 4) 0++st.m.bytes)
theorem objBytes_length(st:BSt)(soff:Int):(objBytes st soff).length=st.vt1.bytes.length:=by
 rw[(vt1_len st).1];unfold objBytes;simp only[List.length_append,leI_length,List.length_replicate]
theorem vt1_bytes_eq(st:BSt):st.vt1.bytes=leB 4 ((st.m.prep 4 0).bytes.length+4)++(List.replicate (padB st.m.bytes.length 4) 0++st.m.bytes):=rfl
theorem endObj_fresh(st:BSt)(hn:st.nested=true)(hf:vtFind st.vt1 st.vt1.bytes.length (trimZ (st.vtab.getD [])) st.vts=none):
  ∃st' o,o=st.vt1.bytes.length/\st.endObj=some (o,st')/\st'.nested=false/\st'.fin=st.fin/\st'.m.least=max st.m.least 4/\st'.shared=st.shared/\st'.vts=st.vts++[2*(trimZ (st.vtab.getD [])).length+4+o] /\
   st'.m.bytes=leI 2 (((2*(trimZ (st.vtab.getD [])).length+4:Nat):Int))++(leI 2 ((o:Int)-st.oend)++(vtFlds o (trimZ (st.vtab.getD []))++objBytes st ((2*(trimZ (st.vtab.getD [])).length+4:Nat):Int))) /\
   st'.m.bytes.length=2*(trimZ (st.vtab.getD [])).length+4+o/\st'.vtab=st.vtab.map (λ_=>[]):=by
 obtain⟨t,ht⟩:=exA (trimZ (st.vtab.getD []));rw[<-ht] at hf ⊢;have hb:=vt4_bytes st t;have hfl:=vtFlds_length st.vt1.bytes.length t;have hl4:(st.vt4 t).bytes.length=2*t.length+4+st.vt1.bytes.length:=by
  rw[hb];simp only[List.length_append,leI_length,hfl];omega
 have hw:st.writeVt={ st with m:=(st.vt4 t).over st.vt1.bytes.length (leI 4 (((st.vt4 t).bytes.length:Int)-st.vt1.bytes.length)),vtab:=st.vtab.map (λ_=>[]),vts:=st.vts++[(st.vt4 t).bytes.length] }:=by
  unfold BSt.writeVt;rw[<-ht,hf]
 have hov:((st.vt4 t).over st.vt1.bytes.length (leI 4 (((st.vt4 t).bytes.length:Int)-st.vt1.bytes.length))).bytes=leI 2 (((2*t.length+4:Nat):Int))++(leI 2 ((st.vt1.bytes.length:Int)-st.oend)++(vtFlds st.vt1.bytes.length t++objBytes st ((2*t.length+4:Nat):Int))):=by
  have e:=over_app (st.vt4 t) (leI 2 (((t.length+2)*2:Nat):Int)++(leI 2 ((st.vt1.bytes.length:Int)-st.oend)++vtFlds st.vt1.bytes.length t)) (leB 4 ((st.m.prep 4 0).bytes.length+4)) (List.replicate (padB st.m.bytes.length 4) 0++st.m.bytes) (leI 4 (((st.vt4 t).bytes.length:Int)-st.vt1.bytes.length)) st.vt1.bytes.length
   (by rw[hb,vt1_bytes_eq];simp only[List.append_assoc]) (by rw[vt1_bytes_eq,List.length_append]) (by rw[leI_length,leB_length])
  rw[e,hl4,show (((2*t.length+4+st.vt1.bytes.length:Nat):Int)-st.vt1.bytes.length)=((2*t.length+4:Nat):Int) by omega,show (t.length+2)*2=2*t.length+4 by omega];unfold objBytes;simp only[List.append_assoc]
 refine⟨{ st.writeVt with nested:=false },_,rfl,?_,rfl,?_,?_,?_,?_,?_,?_,?_⟩
 ·unfold BSt.endObj;rw[if_pos hn]
 ·rw[hw]
 ·rw[hw];show (st.vt4 t).least=_;have h1:st.vt1.least=max st.m.least 4:=rfl;show max (max (vtPut st.vt1.bytes.length t st.vt1).least 2) 2=_;rw[vtPut_least _ _ (by omega),h1];omega
 ·rw[hw]
 ·rw[hw];show st.vts++[(st.vt4 t).bytes.length]=_;rw[hl4]
 ·rw[hw];exact hov
 ·rw[hw];show ((st.vt4 t).over _ _).bytes.length=_;rw[BM.over_len _ _ _ (by rw[leI_length];have:=vt1_len st;omega) (by omega),hl4]
 ·rw[hw]
theorem endObj_found(st:BSt)(v:Nat)(hn:st.nested=true)(hf:vtFind st.vt1 st.vt1.bytes.length (trimZ (st.vtab.getD [])) st.vts=some v):
  ∃st' o,o=st.vt1.bytes.length/\st.endObj=some (o,st')/\st'.nested=false/\st'.fin=st.fin/\st'.m.least=max st.m.least 4/\st'.shared=st.shared/\st'.vts=st.vts /\
   st'.m.bytes=objBytes st ((v:Int)-o)/\st'.m.bytes.length=o/\st'.vtab=st.vtab.map (λ_=>[]):=by
 have hw:st.writeVt={ st with m:=st.vt1.over st.vt1.bytes.length (leI 4 ((v:Int)-st.vt1.bytes.length)),vtab:=st.vtab.map (λ_=>[]) }:=by
  unfold BSt.writeVt;rw[hf]
 have hov:(st.vt1.over st.vt1.bytes.length (leI 4 ((v:Int)-st.vt1.bytes.length))).bytes=objBytes st ((v:Int)-st.vt1.bytes.length):=by
  have e:=over_app st.vt1 [] (leB 4 ((st.m.prep 4 0).bytes.length+4)) (List.replicate (padB st.m.bytes.length 4) 0++st.m.bytes) (leI 4 ((v:Int)-st.vt1.bytes.length)) st.vt1.bytes.length
   (by rw[vt1_bytes_eq];rfl) (by rw[vt1_bytes_eq,List.length_append]) (by rw[leI_length,leB_length])
  rw[e];rfl
 refine⟨{ st.writeVt with nested:=false },_,rfl,?_,rfl,?_,?_,?_,?_,?_,?_,?_⟩
 ·unfold BSt.endObj;rw[if_pos hn]
 ·rw[hw]
 ·rw[hw];rfl
 ·rw[hw]
 ·rw[hw]
 ·rw[hw];exact hov
 ·rw[hw];show (st.vt1.over _ _).bytes.length=_;rw[hov,objBytes_length]
 ·rw[hw]
end Go.Proofs.YtcfblkkpclfmaaaGreat
